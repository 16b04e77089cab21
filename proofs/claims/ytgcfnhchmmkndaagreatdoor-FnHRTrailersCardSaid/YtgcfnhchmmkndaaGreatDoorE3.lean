/- laws.hrAwake, over the reading of its one request. -/
import Derived.Test.YtgcfnhchmmkndaaGreatDoorE1
namespace Go.Proofs.YtgcfnhchmmkndaaGreatDoor
open Go.RowKit Go.Maps
set_option linter.unusedVariables false
set_option maxRecDepth 100000

def awL : List (BS × BS) := [(kMethod, [71, 69, 84]), (kScheme, [104, 116, 116, 112, 115]), (kAuth, [104]), (kPath, [47]), ([120, 45, 97], [98])]
def awQ : RQ := ⟨[71, 69, 84], [], [47], kProto3, [104], [47], -1, [([88, 45, 65], [[98]])]⟩
theorem awQ_heads : headsOf awQ.H = [([88, 45, 65], [[98]])] := by
  unfold headsOf awQ sortK
  simp [getH]
theorem awQ_b : RQB awQ := ⟨by decide, by decide, by decide⟩

set_option maxHeartbeats 4000000 in
theorem awake_at (p : Addr) (m : Nat) (w : World) (hE : Env w p) (hm : m ≤ 900000) (hK : ReqOk p awL m (some awQ)) : Calls Tryz.prog 11 #[] w fun e w' => e = .returned (.bool true) ∧ Below w.heap.size w w' := by
  have hc := cells_new w (fc awL) 42
  have hb := below_new w (.cells (fc awL).toArray 42)
  have KH := hr_at (some ⟨w.heap.size, 0, none⟩) 5 m awL p (some awQ) (w.alloc (.cells (fc awL).toArray 42)) ⟨rfl, fun _ => ⟨_, rfl, by simp, hc⟩⟩ (by decide) (hE.cut hb hE.ge) hm hK (fun q hq => by injection hq with hq; rw [← hq]; exact awQ_b)
  have HB := Lib.hid hb
  clear hc hb hE hK
  go_enter Tryz.func11, Tryz.ntmps11
  go_wp2_with fail
  refine KH.mono ?_
  rintro e w1 ⟨hv, es, tA, tc, rfl, hb1, hL, hA⟩
  have HB1 := Lib.hid (Below.next HB.out HB.out.size hb1)
  have hlen : es.length = 1 := by have h := absE_len hA; simp only at h; rw [h, awQ_heads]; rfl
  obtain ⟨x, rfl⟩ := List.length_eq_one_iff.1 hlen
  have hk : x.key = [88, 45, 65] := by
    simp only at hA
    rw [awQ_heads] at hA
    simp [absE] at hA
    exact hA.1
  obtain ⟨A3, k3, rfl⟩ := row_form hL.row
  obtain ⟨ad, rfl, hbk, hcell⟩ := (Reads.of_own hL.row).2 (by simp)
  have n0 := hcell 0 (str x.key) rfl
  obtain ⟨bk3, o3, spot⟩ := ad
  have hspot : spot = none := by simpa [Addr.add] using World.cell?_spot n0
  subst hspot
  rw [Addr.add_lit, hk, Nat.add_zero] at n0
  have hr : reqV (some awQ) (.slice (some ⟨bk3, o3, none⟩) [x].length k3) tA tc = .agg #[str [71, 69, 84], str [47], str kProto3, str [104], str [47], .int .i64 (-1), .slice (some ⟨bk3, o3, none⟩) 1 k3, .slice tA 0 tc] := by
    simp [reqV, awQ, urlOf]
  rw [hr]
  have n1 := bka (o := .cells #[str [71, 69, 84], str [47], str kProto3, str [104], str [47], .int .i64 (-1), .slice (some ⟨bk3, o3, none⟩) 1 k3, .slice tA 0 tc] 31) n0
  clear hr hk hcell hbk hlen hL hA hb1 KH n0 HB
  go_wp2_with fail
  go_ret
  exact ⟨rfl, HB1.out.alloc HB1.out.size _⟩
end Go.Proofs.YtgcfnhchmmkndaaGreatDoor
