/- spec.HRNumber. -/
import Derived.Test.YtgcfnhchmmkndaaGreatDoorZ1
namespace Go.Proofs.YtgcfnhchmmkndaaGreatDoor
open Go.RowKit Go.Maps
set_option linter.unusedVariables false
set_option maxRecDepth 100000

def digC (d : Nat) : UInt8 := UInt8.ofNat (48 + d)
theorem digC_nat {d : Nat} (h : d < 10) : (digC d).toNat = 48 + d := by
  unfold digC
  rw [UInt8.toNat_ofNat']
  omega
theorem digC_back (W : World) (b d : Nat) (hd : d < 10) (h : W.cell? ⟨b, 0, none⟩ = some (.int .u8 (48 + (d : Int)))) :
    (convert 22 9 (.slice (some ⟨b, 0, none⟩) 1 1)).run Tryz.prog W = .ok (str [digC d]) W := by
  exact run_convert_bytes_back W 22 9 5 ⟨b, 0, none⟩ 1 [digC d] Tryz.underlying22 Tryz.underlying5 Tryz.underlying9 (fun k hk => by
    have hk0 : k = 0 := by simpa using hk
    subst hk0
    simp only [List.getElem_cons_zero, digC_nat hd]
    simpa [Addr.add] using h)
theorem number1 (n : Nat) (hn : n < 10) (w : World) : Calls Tryz.prog 22 #[.int .i64 (n : Int)] w fun e w' => e = .returned (str [digC n]) ∧ Below w.heap.size w w' := by
  have h1 : (n : Int) < 10 := by omega
  have wr1 : IntKind.i64.wrap (48 + (n : Int)) = 48 + (n : Int) := IntWalk.i64_in _ (by omega)
  have wr2 : IntKind.u8.wrap (48 + (n : Int)) = 48 + (n : Int) := IntWalk.u8_in _ (by omega)
  have hbk := digC_back (w.alloc (.cells #[.int .u8 (48 + (n : Int))] 5)) w.heap.size n hn (by simp)
  have HB := Lib.hid (below_new w (.cells #[.int .u8 (48 + (n : Int))] 5))
  go_enter Tryz.func22, Tryz.ntmps22
  go_wp2_with fail
  go_ret
  exact ⟨rfl, HB.out⟩
theorem tdiv_nat (c m : Nat) : ((c : Int)).tdiv (m : Int) = ((c / m : Nat) : Int) := by
  rw [Int.tdiv_eq_ediv_of_nonneg (Int.natCast_nonneg c)]
  simp
abbrev digO (r : Nat) : Obj := .cells #[.int .u8 (48 + (r : Int))] 5
set_option maxHeartbeats 4000000 in
theorem number2 (n q r : Nat) (h10 : 10 ≤ n) (hn : n ≤ 100000) (hq : n / 10 = q) (hr : n % 10 = r) (S : BS) (hS : S.length ≤ 100) (hK : ∀ W, Calls Tryz.prog 22 #[.int .i64 (q : Int)] W fun e w' => e = .returned (str S) ∧ Below W.heap.size W w') (w : World) :
    Calls Tryz.prog 22 #[.int .i64 (n : Int)] w fun e w' => e = .returned (str (S ++ [digC r])) ∧ Below w.heap.size w w' := by
  have hr10 : r < 10 := by omega
  have h1 : ¬ (n : Int) < 10 := by omega
  have t1 : ((n : Int)).tdiv 10 = (q : Int) := by have h := tdiv_nat n 10; rw [hq] at h; exact h
  have t2 : ((n : Int)).tmod 10 = (r : Int) := by have h := tmod_nat n 10; rw [hr] at h; exact h
  have wr0 : IntKind.i64.wrap (q : Int) = (q : Int) := IntWalk.i64_in _ (by omega)
  have wr3 : IntKind.i64.wrap (r : Int) = (r : Int) := IntWalk.i64_in _ (by omega)
  have wr1 : IntKind.i64.wrap (48 + (r : Int)) = 48 + (r : Int) := IntWalk.i64_in _ (by omega)
  have wr2 : IntKind.u8.wrap (48 + (r : Int)) = 48 + (r : Int) := IntWalk.u8_in _ (by omega)
  have b1 : ¬ (9223372036854775807 < S.length + 1) := by omega
  have HK := Lib.hid hK
  have cN := fun (W : World) => one_new W (.int .u8 (48 + (r : Int))) 5
  have cB := fun (W : World) (b : Nat) (h : W.cell? ⟨b, 0, none⟩ = some (.int .u8 (48 + (r : Int)))) => digC_back W b r hr10 h
  have k1 := cB _ _ (cN w)
  have k2 : (convert 22 9 (.slice (some ⟨w.heap.size, 0, none⟩) 1 1)).run Tryz.prog (w.alloc (digO r)).drew = .ok (str [digC r]) (w.alloc (digO r)).drew := cB _ _ (cN w)
  have HCN := Lib.hid cN
  have HCB := Lib.hid cB
  have HB := Lib.hid (below_new w (digO r))
  have hu : Value.string ({ data := S.toArray } ++ { data := #[digC r] }) = str (S ++ [digC r]) := by
    rw [show ({ data := #[digC r] } : ByteArray) = ⟨[digC r].toArray⟩ from rfl, ba_app]
  have HU := Lib.hid hu
  clear hK cN cB hu hq hr hn h10
  go_enter Tryz.func22, Tryz.ntmps22
  go_wp2_with fail
  go_region_law (go_simp; go_at_call 22; refine (HK.out _).mono ?_
                 rintro e w2 ⟨rfl, hb2⟩
                 have HB2 := Lib.hid hb2
                 (try have q2 := HCB.out _ _ (bk (w := (w.alloc (digO r)).drew) hb2 (HCN.out w)))
                 (try have q2 := HCB.out _ _ (bk (w := w.alloc (digO r)) hb2 (HCN.out w)))
                 have q3 := HCB.out _ _ (HCN.out w2)
                 clear hb2)
  all_goals go_wp2_with fail
  all_goals go_ret
  all_goals refine ⟨congrArg Ending.returned HU.out, ?_⟩
  all_goals first
    | exact Below.nextD HB.out HB.out.size HB2.out
    | exact Below.next HB.out HB.out.size HB2.out
    | exact (Below.nextD (Below.refl _ w) (Nat.le_refl _) HB2.out).alloc HB2.out.size _
    | exact ((Below.nextD (Below.refl _ w) (Nat.le_refl _) HB2.out).alloc HB2.out.size _).drew
theorem number_at {v : BS} (h : v ∈ stR) (hs : stOk v = true) (w : World) : Calls Tryz.prog 22 #[.int .i64 (decN v : Int)] w fun e w' => e = .returned (str v) ∧ Below w.heap.size w w' := by
  have two : ∀ a b : Nat, a < 10 → b < 10 → 0 < a → ∀ W, Calls Tryz.prog 22 #[.int .i64 ((a * 10 + b : Nat) : Int)] W fun e w' => e = .returned (str [digC a, digC b]) ∧ Below W.heap.size W w' := fun a b ha hb h0 W =>
    number2 (a * 10 + b) a b (by omega) (by omega) (by omega) (by omega) [digC a] (by simp) (fun W => number1 a ha W) W
  have three : ∀ a b c : Nat, a < 10 → b < 10 → c < 10 → 0 < a → ∀ W, Calls Tryz.prog 22 #[.int .i64 (((a * 10 + b) * 10 + c : Nat) : Int)] W fun e w' => e = .returned (str [digC a, digC b, digC c]) ∧ Below W.heap.size W w' := fun a b c ha hb hc h0 W =>
    number2 ((a * 10 + b) * 10 + c) (a * 10 + b) c (by omega) (by omega) (by omega) (by omega) [digC a, digC b] (by simp) (fun W => two a b ha hb h0 W) W
  rcases stR_at h with rfl | rfl | rfl | rfl | rfl | rfl | rfl
  · exact three 2 0 0 (by decide) (by decide) (by decide) (by decide) w
  · exact three 4 0 4 (by decide) (by decide) (by decide) (by decide) w
  · exact three 1 0 3 (by decide) (by decide) (by decide) (by decide) w
  · exact three 5 9 9 (by decide) (by decide) (by decide) (by decide) w
  · exact three 2 0 4 (by decide) (by decide) (by decide) (by decide) w
  · exact absurd hs (by decide)
  · exact absurd hs (by decide)
end Go.Proofs.YtgcfnhchmmkndaaGreatDoor
