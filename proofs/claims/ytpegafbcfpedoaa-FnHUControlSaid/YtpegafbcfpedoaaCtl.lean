/- laws.FnHUControl returns true for every input, and its argument reads as it did: the row. No condition beyond the given row's own. -/
import Derived.Test.YtpegafbcfpedoaaRows
import Derived.Test.YtpegafbcfpedoaaH18
import Derived.ProofKit
import Derived.OpenShut
import Derived.ChangeOld
namespace Go.Proofs.Ytpegafbcfpedoaa
open Go.ChangeShapes Go.WideShapes Go.ChangeAt Go.RowKit

theorem own : ownKnob Try.prog.godebug = none := by kernel_rfl
theorem laidOut : laidOutB Try.prog = true := by kernel_rfl

/-- the bytes that a list of numbers is -/
def bytesOf (zs : List Int) : List UInt8 := zs.map fun z => UInt8.ofNat z.toNat
theorem bcells_bytesOf (zs : List Int) (h : ∀ z ∈ zs, (Lit.int .u8 z).wf = true) : bcells (bytesOf zs) = zs.map (Value.int .u8) := by
  unfold bcells bytesOf
  rw [List.map_map]
  refine List.map_congr_left fun z hz => ?_
  have hb := h z hz
  have h0 : 0 ≤ z ∧ z ≤ 255 := by simpa [Lit.wf, IntKind.min, IntKind.max, IntKind.bits, IntKind.signed] using hb
  simp [UInt8.toNat_ofNat']
  omega

theorem reads_of_open {W : World} {x : Addr} {l : Nat} {zs : List Int} (hl : l ≤ zs.length) (hcell : ∀ i, i < zs.length → W.cell? (x.add i) = some (.int .u8 (zs.getD i 0))) (hw : ∀ n ∈ zs, (Lit.int .u8 n).wf = true) :
    Reads W W.heap.size 1 (some x) l (bcells (bytesOf (zs.take l))) := by
  rw [bcells_bytesOf _ (fun z hz => hw z (List.mem_of_mem_take hz))]
  refine ⟨by simp; omega, fun h0 => ⟨x, rfl, ?_, fun j u hj => ?_⟩⟩
  · have := World.block_lt_of_cell? W _ (hcell 0 (by omega))
    rwa [block_of_add] at this
  · have hjl : j < l := by
      have := (List.getElem?_eq_some_iff.1 hj).1
      simp at this; omega
    rw [hcell j (by omega)]
    rw [List.getElem?_map, List.getElem?_take_of_lt hjl] at hj
    simp [List.getD, List.getElem?_eq_getElem (show j < zs.length by omega)] at hj ⊢
    exact hj

set_option maxRecDepth 100000 in
theorem ctl_lifted (os : Os) (started : os.Started) (H : Type) (enc : TypeId × Value → H) :
    ReturnsInHanded {} Try.checked os 3 .any (Rows.fnHUControlSpec.pre6 enc Try.prog Try.f3 Rows.fnHUControlRow.domain false) (Rows.fnHUControlSpec.post enc Try.prog Try.f3 false true false false) := by
  refine returnsInHanded_of_change (C := Try.checked) own started (by kernel_rfl) Try.func3
    (ChangeSpec.witness6 (enc := enc) (C := Try.checked) false ⟨#[], #[.slice none 0 0], []⟩ 8 (by kernel_rfl) (by kernel_rfl) (by kernel_rfl) (by kernel_rfl)) ?_
  intro W base args ds gs before hval0 hW hcnd _
  have hval : ∀ (j : Nat) t v, Try.f3.params[j]? = some t → args[j]? = some v → Value.okWide Try.prog W .any base t v := hval0
  have hW' := hW
  obtain ⟨p, q, hA0, hV, rfl, hfz, hnd⟩ := hW
  have hA : DataW.TrodAll enc Try.prog W 0 (fun _ => true) true Try.f3.params.toList args.toList ds p := hA0
  rw [Try.params3] at hA hval
  obtain ⟨v0, vs0, d0, ds0, p0, q0, hargs, rfl, rfl, h0, r0⟩ := trodAll_cons hA
  obtain ⟨rfl, rfl, rfl⟩ := trodAll_nil r0
  obtain rfl : args = #[v0] := by cases args; simp_all
  obtain ⟨rfl, rfl⟩ := trodVars_none hV
  obtain ⟨a0, len0, cap0, rfl⟩ := okWide_slice Try.underlying22 (hval 0 22 v0 rfl rfl)
  have k0 := h0
  have lt0 : ∀ x ∈ p0, x.block < W.heap.size := by obtain ⟨m, hm⟩ := k0; exact DataW.trod_lt m _ _ _ hm
  obtain ⟨bs, hr, hnc⟩ : ∃ bs, Reads W W.heap.size 1 a0 len0 (bcells bs) ∧ len0 ≤ cap0 := by
    obtain ⟨fuel, hf⟩ := h0
    rcases open_ints Try.underlying22 Try.underlying5 (by kernel_rfl) hf with ⟨hcs, _⟩ | ⟨x, l, c, zs, hcs, _, hl, hm, hz, _, hcell, hwz⟩
    · simp [Value.cells] at hcs
      obtain ⟨rfl, rfl, rfl⟩ := hcs
      exact ⟨[], Reads.none_, Nat.le_refl _⟩
    · simp [Value.cells] at hcs
      obtain ⟨rfl, rfl, rfl⟩ := hcs
      exact ⟨_, reads_of_open (by simp at hz; omega) hcell hwz, by omega⟩
  clear hA0 hval0 hcnd
  refine (law_at a0 len0 cap0 bs W hr hnc).mono fun e W' ⟨he, bel⟩ => ?_
  subst he
  exact ⟨_, rfl, _, _, _, [], _, [], hW', trodAll_mk1 (shut_bool Try.underlying4 _), (trodAll_cons_mk (Below.trod laidOut (by kernel_rfl) (of_decide_eq_true (by kernel_rfl)) k0 bel lt0) trodAll_mk0), rfl, bel.frame _, fun h => by cases h⟩

theorem FnHUControl_holds : Rows.FnHUControlSaid :=
  OpenClaim.holds_of_wide 3 Try.f3 rfl rfl rfl rfl rfl rfl rfl ⟨rfl, rfl, rfl, rfl, rfl⟩ rfl rfl rfl rfl rfl (by kernel_rfl) Try.func3 (by kernel_rfl)
    (of_decide_eq_true (by kernel_rfl)) (by unfold Func.isWrapper; first | (rw [if_pos (by decide +kernel)]; kernel_rfl) | (rw [if_neg (by decide +kernel)]; exact ⟨rfl, rfl⟩))
    (fun os started H enc _ => ctl_lifted os started H enc)
#print axioms FnHUControl_holds
end Go.Proofs.Ytpegafbcfpedoaa
