/- What the row's listed variables give the walk: io.EOF is a pointer's error, strings.asciiSpace is the table; the row's witness. -/
import Derived.Test.YtdgpfgbocacgeaaDoorRows
import Derived.Test.YtdgpfgbocacgeaaDoorP14
import Derived.ProofKit
import Derived.LaidMore
import Derived.Lay
import Derived.OpenShut
import Derived.OpenVars
import Derived.ChangeOld
import Derived.ChangeMaps5
import Derived.Stop.Joined
import Derived.Stop.LaidErr
import Derived.Lib.LaidTab
namespace Go.Proofs.YtdgpfgbocacgeaaDoor
open Go.ChangeShapes Go.WideShapes Go.ChangeAt Go.RowKit
open Go.ChangeMaps (open_string shut_string)

theorem own : ownKnob Tryd.prog.godebug = none := by kernel_rfl
theorem laidOut : laidOutB Tryd.prog = true := by kernel_rfl
theorem gEOF : Tryd.prog.globalNamed "io.EOF" = some 0 := by kernel_rfl
theorem tEOF : (Tryd.prog.globals[0]?).map (·.type) = some 61 := by kernel_rfl
theorem tAscii : (Tryd.prog.globals[4]?).map (·.type) = some 86 := by kernel_rfl
theorem u86 : Tryd.prog.underlying 86 = some (.array 256 5) := by kernel_rfl
theorem cells86 : Tryd.prog.cellsOf 86 = 256 := by kernel_rfl
theorem cells5 : Tryd.prog.cellsOf 5 = 1 := by kernel_rfl
theorem cells77 : Tryd.prog.cellsOf 77 = 1 := by kernel_rfl
theorem cells9 : Tryd.prog.cellsOf 9 = 1 := by kernel_rfl
theorem star : "*" ++ "errors.errorString" = "*errors.errorString" := by decide
theorem row75 (u : TypeId) (h : Tryd.prog.typeName? 3 u = some "*errors.errorString") : u = 75 :=
  typeName_ptr_named (nm := "errors.errorString") (by rw [star]; kernel_rfl) (by kernel_rfl) (by decide) u (by rw [star]; exact h)

def laid9 : List (String × DataW Unit) := Rows.fnH3PriorityRow.laid

theorem of_laid {W : World} (h : laidMetH Tryd.prog laid9 W) : (∃ a, W.cell? ⟨0, 0, none⟩ = some (.iface 75 (.pointer (some a)))) ∧ Tab W := by
  rw [MakeChecks.laidMetH_plain _ _ _ (by kernel_rfl)] at h
  refine ⟨?_, ?_⟩
  · obtain ⟨a, s, hv, _⟩ := laid_sentinel (r := _) h gEOF tEOF under40 row75 Tryd.underlying75 Tryd.underlying77 rfl rfl Tryd.underlying9 cells77 cells9
    exact ⟨_, by simpa using World.var?_cell gEOF hv 0⟩
  · have h2 := laidMet.tail h
    have e : (Rows.laid_strings_asciiSpace : DataW Unit) = Lib.tabData .u8 Lib.asciiSpaceTab := by kernel_rfl
    exact Lib.tabIs_of_head (rest := []) gAscii tAscii u86 Tryd.underlying5 cells5 cells86 (by rw [← e]; exact h2)

noncomputable def startW (os : Os) : World := World.laidAll Tryd.prog os laid9
noncomputable abbrev callW (os : Os) : World := (startW os).forCall (fun _ _ => 0) ⟨#[], #[.string ⟨#[]⟩], []⟩

set_option maxRecDepth 100000
theorem w_shaped (os : Os) : (callW os).Shaped Tryd.prog := World.shaped_of_ZipB (by kernel_rfl) (by kernel_rfl)
theorem w_ok (os : Os) : Input.okWideB Tryd.prog (callW os) 3 ⟨#[], #[.string ⟨#[]⟩], []⟩ = true := by kernel_rfl
theorem w_met (os : Os) : laidMetH Tryd.prog laid9 (callW os).memory := by
  rw [MakeChecks.laidMetH_plain _ _ _ (by kernel_rfl)]
  exact laidMet_laidAll _ (by kernel_rfl) (by kernel_rfl)
theorem w_pre (H : Type) (enc : TypeId × Value → H) (os : Os) : Rows.fnH3PrioritySpec.preB enc Tryd.prog Tryd.f3 [] false (callW os).memory #[.string ⟨#[]⟩] 8 = true := by kernel_rfl
theorem w_size (H : Type) (enc : TypeId × Value → H) (os : Os) : Rows.fnH3PrioritySpec.sizedB enc Tryd.prog Tryd.f3 false (callW os).memory #[.string ⟨#[]⟩] 8 = true := by kernel_rfl
end Go.Proofs.YtdgpfgbocacgeaaDoor
