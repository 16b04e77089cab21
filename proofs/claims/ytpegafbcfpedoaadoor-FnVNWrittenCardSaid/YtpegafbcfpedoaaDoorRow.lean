/- What the rows' arguments and listed variables give a walk: a slice of bytes that came in reads as a list of bytes; the two listed errors are no nil. -/
import Derived.Test.YtpegafbcfpedoaaDoorRows
import Derived.Test.YtpegafbcfpedoaaDoorMem
import Derived.ProofKit
import Derived.LaidMore
import Derived.OpenShut
import Derived.ChangeOld
import Derived.Stop.Joined
import Derived.Stop.LaidErr
namespace Go.Proofs.YtpegafbcfpedoaaDoor
open Go.ChangeShapes Go.WideShapes Go.ChangeAt Go.RowKit

theorem own : ownKnob Tryd.prog.godebug = none := by kernel_rfl
theorem laidOut : laidOutB Tryd.prog = true := by kernel_rfl

theorem gEOF : Tryd.prog.globalNamed "io.EOF" = some 0 := by kernel_rfl
theorem gUEOF : Tryd.prog.globalNamed "io.ErrUnexpectedEOF" = some 1 := by kernel_rfl
theorem tEOF : (Tryd.prog.globals[0]?).map (·.type) = some 44 := by kernel_rfl
theorem tUEOF : (Tryd.prog.globals[1]?).map (·.type) = some 44 := by kernel_rfl
theorem cells84 : Tryd.prog.cellsOf 84 = 1 := by kernel_rfl
theorem cells9 : Tryd.prog.cellsOf 9 = 1 := by kernel_rfl
theorem star : "*" ++ "errors.errorString" = "*errors.errorString" := by decide
theorem row67 (u : TypeId) (h : Tryd.prog.typeName? 3 u = some "*errors.errorString") : u = 67 :=
  typeName_ptr_named (nm := "errors.errorString") (by rw [star]; kernel_rfl) (by kernel_rfl) (by decide) u (by rw [star]; exact h)

def laid2 : List (String × DataW Unit) := [("io.EOF", Rows.laid_io_EOF), ("io.ErrUnexpectedEOF", Rows.laid_io_ErrUnexpectedEOF)]

theorem of_laid {W : World} (h : laidMetH Tryd.prog laid2 W) :
    (∃ t v, W.cell? ⟨0, 0, none⟩ = some (.iface t v)) ∧ ∃ t v, W.cell? ⟨1, 0, none⟩ = some (.iface t v) := by
  rw [MakeChecks.laidMetH_plain _ _ _ (by kernel_rfl)] at h
  refine ⟨?_, ?_⟩
  · obtain ⟨a, s, hv, _⟩ := laid_sentinel (r := _) h gEOF tEOF Tryd.underlying44 row67 Tryd.underlying67 Tryd.underlying84 rfl rfl Tryd.underlying9 cells84 cells9
    exact ⟨_, _, by simpa using World.var?_cell gEOF hv 0⟩
  · obtain ⟨a, s, hv, _⟩ := laid_sentinel (r := _) h.tail gUEOF tUEOF Tryd.underlying44 row67 Tryd.underlying67 Tryd.underlying84 rfl rfl Tryd.underlying9 cells84 cells9
    exact ⟨_, _, by simpa using World.var?_cell gUEOF hv 0⟩

theorem door_met (os : Os) (args : Array Value) : laidMetH Tryd.prog laid2 ((World.doorLaid Tryd.prog 47 os).forCall (fun _ _ => 0) ⟨#[], args, []⟩).memory :=
  laidMetH_of_parts3 (fuel := 8) (laidMet_of_run' 8 (by kernel_rfl) (by kernel_rfl)) (by kernel_rfl) (by kernel_rfl)

/-- the bytes that a list of numbers is -/
def bytesOf (zs : List Int) : List UInt8 := zs.map fun z => UInt8.ofNat z.toNat
theorem bcells_bytesOf (zs : List Int) (h : ∀ z ∈ zs, (Lit.int .u8 z).wf = true) : bcells (bytesOf zs) = zs.map (Value.int .u8) := by
  unfold bcells bytesOf
  rw [List.map_map]
  refine List.map_congr_left fun z hz => ?_
  have hb := h z hz
  have h0 : 0 ≤ z ∧ z ≤ 255 := by simpa [Lit.wf, IntKind.min, IntKind.max, IntKind.bits, IntKind.signed] using hb
  simp [UInt8.toNat_ofNat']
  omega

theorem reads_of_open {W : World} {x : Addr} {l : Nat} {zs : List Int} (hl : l ≤ zs.length) (hcell : ∀ i, i < zs.length → W.cell? (x.add i) = some (.int .u8 (zs.getD i 0))) (hw : ∀ n ∈ zs, (Lit.int .u8 n).wf = true) :
    Reads W W.heap.size 1 (some x) l (bcells (bytesOf (zs.take l))) := by
  rw [bcells_bytesOf _ (fun z hz => hw z (List.mem_of_mem_take hz))]
  refine ⟨by simp; omega, fun h0 => ⟨x, rfl, ?_, fun j u hj => ?_⟩⟩
  · have := World.block_lt_of_cell? W _ (hcell 0 (by omega))
    rwa [block_of_add] at this
  · have hjl : j < l := by
      have := (List.getElem?_eq_some_iff.1 hj).1
      simp at this; omega
    rw [hcell j (by omega)]
    rw [List.getElem?_map, List.getElem?_take_of_lt hjl] at hj
    simp [List.getD, List.getElem?_eq_getElem (show j < zs.length by omega)] at hj ⊢
    exact hj
end Go.Proofs.YtpegafbcfpedoaaDoor
