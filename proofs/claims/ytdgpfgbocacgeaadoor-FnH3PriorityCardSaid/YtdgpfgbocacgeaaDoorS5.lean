/- impl.QPRead on the one block of the awakening. -/
import Derived.Test.YtdgpfgbocacgeaaDoorS4
import Derived.LaidEql
import Derived.Handy
namespace Go.Proofs.YtdgpfgbocacgeaaDoor
open Go.RowKit
set_option linter.unusedVariables false

theorem caught_idle (p : Addr) (w : World) :
    CallsD Tryd.prog 19 #[.pointer (some p)] .returning w fun e u' w' => e = .returned (.tuple #[]) ∧ u' = .returning ∧ w' = w := by
  refine callsD_of_wpS Tryd.func19 rfl fun c₀ cs hu => ?_
  apply wpS_seq
  apply wpS_region
  simp [wpOpsS, go_sem, recoverD, hu, Tryd.ntmps19, Exit.thenS]
  refine wpS_cond (t := false) (by simp [Act.eval, Array.replicate]) ?_
  simp only [Bool.false_eq_true, if_false]
  refine wpS_of_wp (wp_skip ?_)
  cases c₀
  simp_all [bodyPostS, results, Tryd.results19]

theorem info5 : (Tryd.prog.info? 5).map (fun i => (i.zero, i.size, i.bytes)) = some (some (.int .u8 0), 1, 1) := by kernel_rfl
theorem underlying29 : Tryd.prog.underlying 43 = some (.slice 5) := by kernel_rfl
theorem info31 : (Tryd.prog.info? 45).map (fun i => (i.zero, i.size, i.bytes)) = some (some (.agg #[.string ⟨#[]⟩, .string ⟨#[]⟩]), 2, 32) := by kernel_rfl
theorem underlying26 : Tryd.prog.underlying 40 = some (.slice 45) := by kernel_rfl

def Opened (w : World) (b cap : Nat) (dv : Value) (e : Ending) (w' : World) : Prop :=
  ∃ p1 p2 q d, e = .returned (.func (.func 25) #[] #[.pointer (some ⟨p1, 0, none⟩), .pointer (some ⟨q, 0, none⟩), .pointer (some ⟨p2, 0, none⟩), .pointer (some ⟨d, 0, none⟩)]) ∧
    St w' p1 p2 q d b 0 dv false false (.slice (some ⟨b, 0, none⟩) 3 cap) ∧ Apart p1 p2 q d b ∧ w.heap.size ≤ p1 ∧ w.heap.size ≤ p2 ∧ w.heap.size ≤ q ∧ Below w.heap.size w w'

set_option maxRecDepth 100000 in
theorem decode_awake (b cap : Nat) (pd : Addr) (w : World) (hlt : b < w.heap.size) (x0 : w.cell? ⟨b, 0, none⟩ = some (.int .u8 0)) (x1 : w.cell? ⟨b, 1, none⟩ = some (.int .u8 0)) (x2 : w.cell? ⟨b, 2, none⟩ = some (.int .u8 209)) :
    Calls Tryd.prog 21 #[.pointer (some pd), .slice (some ⟨b, 0, none⟩) 3 cap] w (Opened w b cap (.pointer (some pd))) := by
  have hmf : ∀ fn first cap w, (Instr.makeFunc fn first cap).run Tryd.prog w = .ok (.func fn first cap) w := fun _ _ _ _ => rfl
  go_enter Tryd.func21, Tryd.ntmps21
  go_wp2_with fail
  go_ret
  refine ⟨w.heap.size + 1 + 1, w.heap.size + 1 + 1 + 1, w.heap.size + 1, w.heap.size, rfl, ?_, ?_, by omega, by omega, by omega, ?_⟩
  · have B := ((((Below.refl w.heap.size w).alloc (Nat.le_refl _) (.cells #[.pointer (some pd)] 55)).alloc (by simp) (.cells #[.slice (some ⟨b, 0, none⟩) 3 cap] 43)).alloc (by simp; omega) (.cells #[.bool false] 4)).alloc (by simp; omega) (.cells #[.bool false] 4)
    constructor
    case g1 => simp [go_sem]
    case g2 => simp [go_sem]
    case g3 => simp [go_sem]
    case g4 => simp [go_sem]
    case x0 => exact (B.cell hlt).trans x0
    case x1 => exact (B.cell hlt).trans x1
    case x2 => exact (B.cell hlt).trans x2
    case i1 => simp [go_sem]
    case i2 => simp [go_sem]
    case i3 => simp [go_sem]
    all_goals (simp; try omega)
  · constructor <;> omega
  · exact ((((Below.refl w.heap.size w).alloc (Nat.le_refl _) (.cells #[.pointer (some pd)] 55)).alloc (by simp) (.cells #[.slice (some ⟨b, 0, none⟩) 3 cap] 43)).alloc (by simp; omega) (.cells #[.bool false] 4)).alloc (by simp; omega) (.cells #[.bool false] 4)
end Go.Proofs.YtdgpfgbocacgeaaDoor
