/- WriteControl. -/
import Derived.Test.YtpegafbcfpedoaaH11
namespace Go.Proofs.Ytpegafbcfpedoaa
open Go.RowKit Go.Maps
set_option linter.unusedVariables false
set_option maxRecDepth 100000

def outBytes (mx : Int) (dat ext : Bool) (ps : List (Nat × Nat)) : List UInt8 := [0] ++ vnEnc 4 ++ vnEnc (setBody mx dat ext ps).length ++ setBody mx dat ext ps
def WcPost (w : World) (S : Nat) (bs : List UInt8) (e : Ending) (w' : World) : Prop :=
  ∃ v', e = .returned .nilIface ∧ w'.cell? ⟨S, 4, none⟩ = some v' ∧ w'.ownsRow w.heap.size 5 1 v' bs.length (bcells bs) ∧ w.grownBy w' (some S)

theorem own_base' {w : World} {base base' : Nat} {e : TypeId} {size : Nat} {v : Value} {n : Nat} {xs : List Value} (h : w.ownsRow base e size v n xs) (hb : base' ≤ base) : w.ownsRow base' e size v n xs := by
  refine ⟨h.1, h.2.imp id ?_⟩
  rintro ⟨g, cap, cur, h1, h2, h3⟩
  exact ⟨g, cap, cur, h1, by omega, h3⟩
set_option maxHeartbeats 4000000 in
theorem control_at (mx : Int) (dat ext : Bool) (mo : Option Nat) (ps : List (Nat × Nat)) (S : Nat) (w : World) (hm : MapIs w (.map mo) ps)
    (h8 : w.cell? ⟨S, 8, none⟩ = some (.bool false)) (h5 : w.cell? ⟨S, 5, none⟩ = some (.bool false)) (h4 : w.cell? ⟨S, 4, none⟩ = some (.slice none 0 0)) (z4 : w.frozen? ⟨S, 4, none⟩ = false) (hS : S < w.heap.size)
    (hmx : mx < 4611686018427387904) (hmn : -1 ≤ mx) (ha : Asc ps) (hl : ps.length ≤ 5) (hv : ∀ p ∈ ps, p.1 < 4611686018427387904 ∧ p.2 < 4611686018427387904) (hlen : (outBytes mx dat ext ps).length ≤ 4096) (hpos : 0 < (outBytes mx dat ext ps).length) :
    Calls Try.prog 12 #[.pointer (some ⟨S, 0, none⟩), hframeV mx dat ext (.map mo)] w (WcPost w S (outBytes mx dat ext ps)) := by
  have hbel : Below w.heap.size w ((w.alloc (.cells (hcells mx dat ext (.map mo)).toArray 58)).alloc (.cells #[.int .u8 0] 5)) := ((Below.refl w.heap.size w).alloc (Nat.le_refl _) _).alloc (by simp) _
  have hrow : ((w.alloc (.cells (hcells mx dat ext (.map mo)).toArray 58)).alloc (.cells #[.int .u8 0] 5)).ownsRow (w.heap.size + 1) 5 1 (.slice (some ⟨w.heap.size + 1, 0, none⟩) 1 1) 1 (bcells [0]) := by
    refine ⟨rfl, .inr ⟨w.heap.size + 1, 1, #[.int .u8 0], rfl, Nat.le_refl _, ?_, Nat.le_refl _, by unfold maxLen; omega, rfl, rfl⟩⟩
    have := heap_alloc_new (w.alloc (.cells (hcells mx dat ext (.map mo)).toArray 58)) (.cells #[.int .u8 0] 5)
    rwa [show (w.alloc (.cells (hcells mx dat ext (.map mo)).toArray 58)).heap.size = w.heap.size + 1 by simp] at this
  have hK := frame_append mx dat ext mo (.slice (some ⟨w.heap.size + 1, 0, none⟩) 1 1) ps [0] (w.heap.size + 1) _ ((hm.below (below_new _ _)).below (below_new _ _)) hrow (by simp)
    (fun b e e' => by have := hm.lt b (by rw [e]); injection e' with e'; simp at e'; omega) hmx hmn ha hl hv (by simp)
  change Calls _ _ _ _ (FAppPost _ _ (outBytes mx dat ext ps)) at hK
  obtain ⟨T, hT⟩ : ∃ T, outBytes mx dat ext ps = T := ⟨_, rfl⟩
  rw [hT] at hK hlen hpos ⊢
  clear hT ha hv hm hrow
  unfold hcells at hK hbel
  go_enter Try.func12, Try.ntmps12
  unfold hframeV hcells
  go_wp2_with (go_at_call 17; refine hK.mono ?_; rintro e w9 ⟨v9, rfl, hr9, hb9⟩; obtain ⟨A9, c9, rfl⟩ := row_form hr9; have hb0 := hbel.trans (hb9.mono (by omega)); have KW := write_at S w9.heap.size A9 c9 T w9 ((hb0.cell (p := ⟨S, 8, none⟩) hS).trans h8) ((hb0.cell (p := ⟨S, 5, none⟩) hS).trans h5) ((hb0.cell (p := ⟨S, 4, none⟩) hS).trans h4) ((hb0.frozen (p := ⟨S, 4, none⟩) hS).trans z4) (Nat.lt_of_lt_of_le hS hb0.size) (Reads.of_own hr9) hlen hpos)
  refine KW.mono ?_
  rintro e w10 ⟨v10, rfl, h10, hr10, hg10⟩
  go_wp2_with fail
  go_ret
  refine ⟨v10, rfl, h10, own_base' hr10 hb0.size, ?_⟩
  exact ⟨hg10.os.trans hb0.os, hg10.tape.trans hb0.tape, hg10.output.trans hb0.output, Nat.le_trans hb0.size hg10.size, fun k hk hne => (hg10.block k (Nat.lt_of_lt_of_le hk hb0.size) hne).trans (hb0.block k hk)⟩
end Go.Proofs.Ytpegafbcfpedoaa
