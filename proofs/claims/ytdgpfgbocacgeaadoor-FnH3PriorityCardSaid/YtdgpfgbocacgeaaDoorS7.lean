/- laws.qpSame, laws.qpAwake and the law's walk. -/
import Derived.Test.YtdgpfgbocacgeaaDoorS6
namespace Go.Proofs.YtdgpfgbocacgeaaDoor
open Go.RowKit
set_option linter.unusedVariables false

def RelS (w : World) (g h : Nat) (i : Value) (wr : World) : Prop :=
  (i = .int .i64 0 ∨ i = .int .i64 1) ∧ Below w.heap.size w wr ∧ wr.cell? ⟨g, 0, none⟩ = some M ∧ wr.cell? ⟨g, 1, none⟩ = some G ∧ wr.cell? ⟨h, 0, none⟩ = some M ∧ wr.cell? ⟨h, 1, none⟩ = some G

set_option maxRecDepth 100000 in
theorem same_awake (g h c c' : Nat) (w : World) (a0 : w.cell? ⟨g, 0, none⟩ = some M) (a1 : w.cell? ⟨g, 1, none⟩ = some G) (b0 : w.cell? ⟨h, 0, none⟩ = some M) (b1 : w.cell? ⟨h, 1, none⟩ = some G) :
    Calls Tryd.prog 13 #[.slice (some ⟨g, 0, none⟩) 1 c, .slice (some ⟨h, 0, none⟩) 1 c'] w fun e w' => e = .returned (.bool true) ∧ Below w.heap.size w w' := by
  have hne : ∀ w, (binOp .neq 45 (.agg #[M, G]) (.agg #[M, G])).run Tryd.prog w = .ok (.bool false) w := fun w => by kernel_rfl
  go_enter Tryd.func13, Tryd.ntmps13
  go_wp2_with fail
  go_loopw [13] (fun i wr => RelS w g h i wr) (fun i _ => 1 - (intOf i).toNat)
  case atStart => exact ⟨.inl rfl, Below.refl _ _, a0, a1, b0, b1⟩
  case round =>
    obtain ⟨rfl | rfl, hb, r0, r1, r2, r3⟩ := hrel
    · clear a0 a1 b0 b1
      go_wp2_with fail
      go_quiet (fail)
      go_wp2_with fail
      exact ⟨⟨.inr rfl, ⟨hb.os, hb.tape, hb.output, hb.size, hb.block⟩, r0, r1, r2, r3⟩, by simp [intOf]⟩
    · go_wp2_with fail
      go_ret
      exact ⟨rfl, hb⟩
set_option maxRecDepth 100000 in
theorem awake (w : World) (p0 : Addr) (hg : w.cell? ⟨0, 0, none⟩ = some (.iface 75 (.pointer (some p0)))) :
    Calls Tryd.prog 5 #[] w fun e w' => e = .returned (.bool true) ∧ Below w.heap.size w w' := by
  have HG := Lib.hid hg
  clear hg
  go_enter Tryd.func5, Tryd.ntmps5
  go_wp2_with fail
  refine (qpread_awake w.heap.size _ (by simp) (by simp) (by simp) (by simp) p0 (cell?_alloc_old _ HG.out)).mono ?_
  rintro e w1 ⟨⟨g, c', rfl, hg1, m0, m1⟩, hb⟩
  have HB := Lib.hid hb
  have H0 := Lib.hid m0
  have H1 := Lib.hid m1
  clear hb m0 m1 HG
  go_wp2_with fail
  refine (same_awake g w1.heap.size c' 1 _ (cell?_alloc_old _ H0.out) (cell?_alloc_old _ H1.out) (by simp) (by simp)).mono ?_
  rintro e w2 ⟨rfl, hb2⟩
  go_wp2_with fail
  go_ret
  refine ⟨rfl, ?_⟩
  have h1 := below_step (below_new w _) HB.out
  exact below_step h1 (below_step (below_new w1 _) hb2)

end Go.Proofs.YtdgpfgbocacgeaaDoor
