/- laws.FnHRResponses returns true for every input, and its arguments and the named variables read as they did: the row and its tied card. No condition beyond the given row's own (the listed variables, tied). -/
import Derived.Test.YtgcfnhchmmkndaaGreatDoorRow
import Derived.Test.YtgcfnhchmmkndaaGreatDoorZ6
import Derived.Test.YtgcfnhchmmkndaaGreatDoorCards
import Derived.Test.YtgcfnhchmmkndaaGreatDoorTie
namespace Go.Proofs.YtgcfnhchmmkndaaGreatDoor
open Go.ChangeShapes Go.WideShapes Go.ChangeAt Go.RowKit
set_option linter.unusedVariables false
set_option maxRecDepth 100000

noncomputable abbrev callS (os : Os) : World := (startR os).forCall (fun _ _ => 0) ⟨#[], #[.slice none 0 0], []⟩
theorem s_shaped (os : Os) : (callS os).Shaped Tryz.prog := World.shaped_of_ZipB (by kernel_rfl) (by kernel_rfl)
theorem s_ok (os : Os) : Input.okWideB Tryz.prog (callS os) 6 ⟨#[], #[.slice none 0 0], []⟩ = true := by kernel_rfl
theorem s_pre (H : Type) (enc : TypeId × Value → H) (os : Os) : Rows.fnHRResponsesSpec.preB enc Tryz.prog Tryz.f6 [] false (callS os).memory #[.slice none 0 0] 8 = true := by kernel_rfl
theorem s_size (H : Type) (enc : TypeId × Value → H) (os : Os) : Rows.fnHRResponsesSpec.sizedB enc Tryz.prog Tryz.f6 false (callS os).memory #[.slice none 0 0] 8 = true := by kernel_rfl

theorem responses_big (w : World) (A : Option Addr) (n c : Nat) (hn : 2147483647 < n) :
    Calls Tryz.prog 6 #[.slice A n c] w (fun e w' => e = .returned (.bool true) ∧ Below w.heap.size w w') := by
  have h1 : (2147483647 : Int) < (n : Int) := by omega
  go_enter Tryz.func6, Tryz.ntmps6
  go_wp2_with fail
  go_ret
  exact ⟨rfl, Below.refl _ _⟩

theorem res_lifted (os : Os) (started : os.Started) (H : Type) (enc : TypeId × Value → H) :
    ReturnsInHanded {} Tryz.checked os 6 .any (fun w args => (Rows.fnHRResponsesSpec.pre enc Tryz.prog Tryz.f6 [] false w args ∧ laidMetH Tryz.prog laidR w) ∧ sizedMet enc Tryz.prog Tryz.f6 (OpenSpec.ofChange Rows.fnHRResponsesSpec) false w args)
      (Rows.fnHRResponsesSpec.post enc Tryz.prog Tryz.f6 false true false false) := by
  refine returnsInHanded_of_change_and (C := Tryz.checked) (X := fun w _ => laidMetH Tryz.prog laidR w) (fun _ _ _ hh h => h.of_heap hh) own started (by kernel_rfl) Tryz.func6
    (ChangeSpec.witness_shaped (enc := enc) (C := Tryz.checked) (os := os) (X := fun w _ => laidMetH Tryz.prog laidR w) false (startR os) #[.slice none 0 0] 8 (World.laidAll_os _ _ _) (s_shaped os) (s_ok os) (s_pre H enc os) (s_size H enc os) (startR_met os _)) ?_
  intro W base args ds gs before hval0 hW _ _ hL _
  have hval : ∀ (j : Nat) t v, Tryz.f6.params[j]? = some t → args[j]? = some v → Value.okWide Tryz.prog W .any base t v := hval0
  have hW' := hW
  obtain ⟨p, q, hA0, hV, rfl, hfz, hnd⟩ := hW
  have hA : DataW.TrodAll enc Tryz.prog W 0 (fun _ => true) true Tryz.f6.params.toList args.toList ds p := hA0
  rw [Tryz.params6] at hA hval
  obtain ⟨v0, vs0, d0, ds0, p0, q0, hargs, rfl, rfl, h0, r0⟩ := trodAll_cons hA
  obtain ⟨rfl, rfl, rfl⟩ := trodAll_nil r0
  obtain rfl : args = #[v0] := by cases args; simp_all
  obtain ⟨a0, len0, cap0, rfl⟩ := okWide_slice Tryz.underlying22 (hval 0 22 v0 rfl rfl)
  have k0 := h0
  have lt0 : ∀ x ∈ p0, x.block < W.heap.size := by obtain ⟨m, hm⟩ := k0; exact DataW.trod_lt m _ _ _ hm
  obtain ⟨bs, hr, hcap⟩ : ∃ bs, Reads W W.heap.size 1 a0 len0 (bcells bs) ∧ len0 ≤ cap0 := by
    obtain ⟨fuel, hf⟩ := h0
    rcases open_ints Tryz.underlying22 Tryz.underlying5 (by kernel_rfl) hf with ⟨hcs, _⟩ | ⟨x, l, c, zs, hcs, _, hl, hm, hz, _, hcell, hwz⟩
    · simp [Value.cells] at hcs
      obtain ⟨rfl, rfl, rfl⟩ := hcs
      exact ⟨[], Reads.none_, by omega⟩
    · simp [Value.cells] at hcs
      obtain ⟨rfl, rfl, rfl⟩ := hcs
      exact ⟨_, reads_of_open (by simp at hz; omega) hcell hwz, hl⟩
  obtain ⟨pe, hE, hT⟩ := of_laid hL
  have hEr := err_laid hL
  have hCa := case_laid hL
  clear hA0 hval0
  have law : Calls Tryz.prog 6 #[.slice a0 len0 cap0] W (fun e w' => e = .returned (.bool true) ∧ Below W.heap.size W w') := by
    by_cases hn : len0 ≤ 2147483647
    · have h2 : 2 < W.heap.size := World.block_lt_of_cell? W ⟨2, 0, none⟩ (hT 0 (by decide))
      exact responses_at W pe a0 len0 cap0 bs ⟨hE, hT, by omega⟩ ⟨hEr, hCa⟩ hr hcap hn
    · exact responses_big W a0 len0 cap0 (by omega)
  refine law.mono fun e W' ⟨he, bel⟩ => ?_
  subst he
  obtain ⟨g1, g2, rfl⟩ : ∃ g1 g2, gs = [g1, g2] := by
    have hl : gs.length = 2 := vars_length hV
    match gs, hl with
    | [a, b], _ => exact ⟨a, b, rfl⟩
  exact ⟨_, rfl, _, _, _, [], _, q, hW', trodAll_mk1 (shut_bool Tryz.underlying4 _), (trodAll_cons_mk (Below.trod laidOut (by kernel_rfl) (of_decide_eq_true (by kernel_rfl)) k0 bel lt0) trodAll_mk0), bel.trodVars laidOut (by kernel_rfl) hV, bel.frame _, fun h => by cases h⟩

theorem res_said : Rows.FnHRResponsesSaid :=
  OpenClaim.holds_of_wide 6 Tryz.f6 rfl rfl rfl rfl rfl rfl rfl ⟨rfl, rfl, rfl, rfl, rfl⟩ rfl rfl rfl rfl rfl (by kernel_rfl) Tryz.func6 (by kernel_rfl)
    (of_decide_eq_true (by kernel_rfl)) (by unfold Func.isWrapper; first | (rw [if_pos (by decide +kernel)]; kernel_rfl) | (rw [if_neg (by decide +kernel)]; exact ⟨rfl, rfl⟩))
    (fun os started H enc _ => res_lifted os started H enc)

theorem res_plain (f : FuncId) (fn : Func) (hf : Tryz.pinned.checked.prog.funcNamed "given.example/pub-heliostat/laws.FnHRResponses" = some f) (hfn : Tryz.pinned.checked.prog.funcs[f]? = some fn) :
    true = Tryz.pinned.checked.prog.looks [] ∧ ∀ (j : Nat) t, fn.params[j]? = some t → Tryz.pinned.checked.prog.wantsStandIn t = false := by
  obtain rfl : f = 6 := Option.some.inj ((show Tryz.prog.funcNamed "given.example/pub-heliostat/laws.FnHRResponses" = some 6 by kernel_rfl).symm.trans hf) |>.symm
  obtain rfl : fn = Tryz.f6 := (Option.some.inj (Tryz.func6.symm.trans hfn)).symm
  refine ⟨by kernel_rfl, fun j t ht => ?_⟩
  rw [Tryz.params6] at ht
  have hm : t ∈ [22] := by simpa using Array.mem_of_getElem? ht
  have hall : ([22].all fun u => !Tryz.prog.wantsStandIn u) = true := by kernel_rfl
  exact (show Tryz.prog.wantsStandIn t = false by simpa using List.all_eq_true.1 hall t hm)

theorem FnHRResponses_holds : Rows.FnHRResponsesCardSaid :=
  Claim7.holds_tied_plain_at .later [] _ _ _ _ res_said (fun _ h => by cases h) (by kernel_rfl) (fun _ h => by cases h) fnHRResponses_row_tie rfl ⟨rfl, rfl⟩ (by kernel_rfl) rfl res_plain (by kernel_rfl)
#print axioms FnHRResponses_holds
end Go.Proofs.YtgcfnhchmmkndaaGreatDoor
