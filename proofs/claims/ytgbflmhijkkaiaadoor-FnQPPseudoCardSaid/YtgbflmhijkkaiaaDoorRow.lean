/- What the row's listed variables give the walk: io.EOF is a pointer's error; the row's witness. -/
import Derived.Test.YtgbflmhijkkaiaaDoorRows
import Derived.Test.YtgbflmhijkkaiaaDoorS7
import Derived.ProofKit
import Derived.LaidMore
import Derived.Lay
import Derived.OpenShut
import Derived.OpenVars
import Derived.ChangeOld
import Derived.ChangeMaps5
import Derived.Stop.Joined
import Derived.Stop.LaidErr
namespace Go.Proofs.YtgbflmhijkkaiaaDoor
open Go.ChangeShapes Go.WideShapes Go.ChangeAt Go.RowKit
open Go.ChangeMaps (open_string shut_string)

theorem own : ownKnob Tryd.prog.godebug = none := by kernel_rfl
theorem laidOut : laidOutB Tryd.prog = true := by kernel_rfl
theorem gEOF : Tryd.prog.globalNamed "io.EOF" = some 0 := by kernel_rfl
theorem tEOF : (Tryd.prog.globals[0]?).map (·.type) = some 40 := by kernel_rfl
theorem u51 : Tryd.prog.underlying 51 = some (.pointer 53) := by kernel_rfl
theorem cells53 : Tryd.prog.cellsOf 53 = 1 := by kernel_rfl
theorem cells9 : Tryd.prog.cellsOf 9 = 1 := by kernel_rfl
theorem star : "*" ++ "errors.errorString" = "*errors.errorString" := by decide
theorem row51 (u : TypeId) (h : Tryd.prog.typeName? 3 u = some "*errors.errorString") : u = 51 :=
  typeName_ptr_named (nm := "errors.errorString") (by rw [star]; kernel_rfl) (by kernel_rfl) (by decide) u (by rw [star]; exact h)

def laid9 : List (String × DataW Unit) := Rows.fnQPPseudoRow.laid

theorem of_laid {W : World} (h : laidMetH Tryd.prog laid9 W) : ∃ a, W.cell? ⟨0, 0, none⟩ = some (.iface 51 (.pointer (some a))) := by
  rw [MakeChecks.laidMetH_plain _ _ _ (by kernel_rfl)] at h
  obtain ⟨a, s, hv, _⟩ := laid_sentinel (r := _) h gEOF tEOF under40 row51 u51 Tryd.underlying53 rfl rfl Tryd.underlying9 cells53 cells9
  exact ⟨_, by simpa using World.var?_cell gEOF hv 0⟩

noncomputable def startW (os : Os) : World := World.laidAll Tryd.prog os laid9
noncomputable abbrev callW (os : Os) : World := (startW os).forCall (fun _ _ => 0) ⟨#[], #[.string ⟨#[]⟩], []⟩

set_option maxRecDepth 100000
theorem w_shaped (os : Os) : (callW os).Shaped Tryd.prog := World.shaped_of_ZipB (by kernel_rfl) (by kernel_rfl)
theorem w_ok (os : Os) : Input.okWideB Tryd.prog (callW os) 3 ⟨#[], #[.string ⟨#[]⟩], []⟩ = true := by kernel_rfl
theorem w_met (os : Os) : laidMetH Tryd.prog laid9 (callW os).memory := by
  rw [MakeChecks.laidMetH_plain _ _ _ (by kernel_rfl)]
  exact laidMet_laidAll _ (by kernel_rfl) (by kernel_rfl)
theorem w_pre (H : Type) (enc : TypeId × Value → H) (os : Os) : Rows.fnQPPseudoSpec.preB enc Tryd.prog Tryd.f3 [] false (callW os).memory #[.string ⟨#[]⟩] 8 = true := by kernel_rfl
theorem w_size (H : Type) (enc : TypeId × Value → H) (os : Os) : Rows.fnQPPseudoSpec.sizedB enc Tryd.prog Tryd.f3 false (callW os).memory #[.string ⟨#[]⟩] 8 = true := by kernel_rfl
end Go.Proofs.YtgbflmhijkkaiaaDoor
