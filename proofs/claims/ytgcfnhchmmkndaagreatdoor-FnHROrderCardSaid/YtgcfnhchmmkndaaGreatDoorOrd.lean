/- laws.FnHROrder returns true for every input, and its arguments and the named variables read as they did: the row and its tied card. No condition beyond the given row's own (the listed variables, tied). -/
import Derived.Test.YtgcfnhchmmkndaaGreatDoorRow
import Derived.Test.YtgcfnhchmmkndaaGreatDoorO5
import Derived.Test.YtgcfnhchmmkndaaGreatDoorY7
import Derived.Test.YtgcfnhchmmkndaaGreatDoorCards
import Derived.Test.YtgcfnhchmmkndaaGreatDoorTie
namespace Go.Proofs.YtgcfnhchmmkndaaGreatDoor
open Go.ChangeShapes Go.WideShapes Go.ChangeAt Go.RowKit
set_option linter.unusedVariables false
set_option maxRecDepth 100000

noncomputable abbrev callO (os : Os) : World := (startR os).forCall (fun _ _ => 0) ⟨#[], #[.slice none 0 0, .int .u8 0], []⟩
theorem o_shaped (os : Os) : (callO os).Shaped Tryz.prog := World.shaped_of_ZipB (by kernel_rfl) (by kernel_rfl)
theorem o_ok (os : Os) : Input.okWideB Tryz.prog (callO os) 4 ⟨#[], #[.slice none 0 0, .int .u8 0], []⟩ = true := by kernel_rfl
theorem o_pre (H : Type) (enc : TypeId × Value → H) (os : Os) : Rows.fnHROrderSpec.preB enc Tryz.prog Tryz.f4 [] false (callO os).memory #[.slice none 0 0, .int .u8 0] 8 = true := by kernel_rfl
theorem o_size (H : Type) (enc : TypeId × Value → H) (os : Os) : Rows.fnHROrderSpec.sizedB enc Tryz.prog Tryz.f4 false (callO os).memory #[.slice none 0 0, .int .u8 0] 8 = true := by kernel_rfl

theorem order_big (w : World) (A : Option Addr) (n c : Nat) (y : Int) (hn : 2147483647 < n) :
    Calls Tryz.prog 4 #[.slice A n c, .int .u8 y] w (fun e w' => e = .returned (.bool true) ∧ Below w.heap.size w w') := by
  have h1 : (2147483647 : Int) < (n : Int) := by omega
  go_enter Tryz.func4, Tryz.ntmps4
  go_wp2_with fail
  go_ret
  exact ⟨rfl, Below.refl _ _⟩

theorem ord_lifted (os : Os) (started : os.Started) (H : Type) (enc : TypeId × Value → H) :
    ReturnsInHanded {} Tryz.checked os 4 .any (fun w args => (Rows.fnHROrderSpec.pre enc Tryz.prog Tryz.f4 [] false w args ∧ laidMetH Tryz.prog laidR w) ∧ sizedMet enc Tryz.prog Tryz.f4 (OpenSpec.ofChange Rows.fnHROrderSpec) false w args)
      (Rows.fnHROrderSpec.post enc Tryz.prog Tryz.f4 false true false false) := by
  refine returnsInHanded_of_change_and (C := Tryz.checked) (X := fun w _ => laidMetH Tryz.prog laidR w) (fun _ _ _ hh h => h.of_heap hh) own started (by kernel_rfl) Tryz.func4
    (ChangeSpec.witness_shaped (enc := enc) (C := Tryz.checked) (os := os) (X := fun w _ => laidMetH Tryz.prog laidR w) false (startR os) #[.slice none 0 0, .int .u8 0] 8 (World.laidAll_os _ _ _) (o_shaped os) (o_ok os) (o_pre H enc os) (o_size H enc os) (startR_met os _)) ?_
  intro W base args ds gs before hval0 hW _ _ hL _
  have hval : ∀ (j : Nat) t v, Tryz.f4.params[j]? = some t → args[j]? = some v → Value.okWide Tryz.prog W .any base t v := hval0
  have hW' := hW
  obtain ⟨p, q, hA0, hV, rfl, hfz, hnd⟩ := hW
  have hA : DataW.TrodAll enc Tryz.prog W 0 (fun _ => true) true Tryz.f4.params.toList args.toList ds p := hA0
  rw [Tryz.params4] at hA hval
  obtain ⟨v0, vs0, d0, ds0, p0, q0, hargs, rfl, rfl, h0, r0⟩ := trodAll_cons hA
  obtain ⟨v1, vs1, d1, ds1, p1, q1, rfl, rfl, rfl, h1, r1⟩ := trodAll_cons r0
  obtain ⟨rfl, rfl, rfl⟩ := trodAll_nil r1
  obtain rfl : args = #[v0, v1] := by cases args; simp_all
  obtain ⟨y1, rfl, rfl, rfl, hy1⟩ := open_int Tryz.underlying5 (hval 1 5 v1 rfl rfl) h1
  obtain ⟨y, hyy, hy⟩ : ∃ y : Nat, y1 = (y : Int) ∧ y < 256 := by
    have h := hy1
    simp [Lit.wf] at h
    have e1 : IntKind.u8.min = 0 := rfl
    have e2 : IntKind.u8.max = 255 := rfl
    exact ⟨y1.toNat, by omega, by omega⟩
  subst hyy
  obtain ⟨a0, len0, cap0, rfl⟩ := okWide_slice Tryz.underlying22 (hval 0 22 v0 rfl rfl)
  have k0 := h0
  have lt0 : ∀ x ∈ p0, x.block < W.heap.size := by obtain ⟨m, hm⟩ := k0; exact DataW.trod_lt m _ _ _ hm
  obtain ⟨bs, hr, hcap⟩ : ∃ bs, Reads W W.heap.size 1 a0 len0 (bcells bs) ∧ len0 ≤ cap0 := by
    obtain ⟨fuel, hf⟩ := h0
    rcases open_ints Tryz.underlying22 Tryz.underlying5 (by kernel_rfl) hf with ⟨hcs, _⟩ | ⟨x, l, c, zs, hcs, _, hl, hm, hz, _, hcell, hwz⟩
    · simp [Value.cells] at hcs
      obtain ⟨rfl, rfl, rfl⟩ := hcs
      exact ⟨[], Reads.none_, by omega⟩
    · simp [Value.cells] at hcs
      obtain ⟨rfl, rfl, rfl⟩ := hcs
      exact ⟨_, reads_of_open (by simp at hz; omega) hcell hwz, hl⟩
  obtain ⟨pe, hE, hT⟩ := of_laid hL
  have hEr := err_laid hL
  have hCa := case_laid hL
  clear hA0 hval0
  have law : Calls Tryz.prog 4 #[.slice a0 len0 cap0, .int .u8 (y : Int)] W (fun e w' => e = .returned (.bool true) ∧ Below W.heap.size W w') := by
    by_cases hn : len0 ≤ 2147483647
    · have h2 : 2 < W.heap.size := World.block_lt_of_cell? W ⟨2, 0, none⟩ (hT 0 (by decide))
      exact order_at req7_at W pe a0 len0 cap0 y bs ⟨hE, hT, by omega⟩ ⟨hEr, hCa⟩ hr hcap hn hy
    · exact order_big W a0 len0 cap0 _ (by omega)
  refine law.mono fun e W' ⟨he, bel⟩ => ?_
  subst he
  obtain ⟨g1, g2, rfl⟩ : ∃ g1 g2, gs = [g1, g2] := by
    have hl : gs.length = 2 := vars_length hV
    match gs, hl with
    | [a, b], _ => exact ⟨a, b, rfl⟩
  exact ⟨_, rfl, _, _, _, [], _, q, hW', trodAll_mk1 (shut_bool Tryz.underlying4 _), (trodAll_cons_mk (Below.trod laidOut (by kernel_rfl) (of_decide_eq_true (by kernel_rfl)) k0 bel lt0) (trodAll_cons_mk (shut_int Tryz.underlying5 hy1) trodAll_mk0)), bel.trodVars laidOut (by kernel_rfl) hV, bel.frame _, fun h => by cases h⟩

theorem ord_said : Rows.FnHROrderSaid :=
  OpenClaim.holds_of_wide 4 Tryz.f4 rfl rfl rfl rfl rfl rfl rfl ⟨rfl, rfl, rfl, rfl, rfl⟩ rfl rfl rfl rfl rfl (by kernel_rfl) Tryz.func4 (by kernel_rfl)
    (of_decide_eq_true (by kernel_rfl)) (by unfold Func.isWrapper; first | (rw [if_pos (by decide +kernel)]; kernel_rfl) | (rw [if_neg (by decide +kernel)]; exact ⟨rfl, rfl⟩))
    (fun os started H enc _ => ord_lifted os started H enc)

theorem ord_plain (f : FuncId) (fn : Func) (hf : Tryz.pinned.checked.prog.funcNamed "given.example/pub-heliostat/laws.FnHROrder" = some f) (hfn : Tryz.pinned.checked.prog.funcs[f]? = some fn) :
    true = Tryz.pinned.checked.prog.looks [] ∧ ∀ (j : Nat) t, fn.params[j]? = some t → Tryz.pinned.checked.prog.wantsStandIn t = false := by
  obtain rfl : f = 4 := Option.some.inj ((show Tryz.prog.funcNamed "given.example/pub-heliostat/laws.FnHROrder" = some 4 by kernel_rfl).symm.trans hf) |>.symm
  obtain rfl : fn = Tryz.f4 := (Option.some.inj (Tryz.func4.symm.trans hfn)).symm
  refine ⟨by kernel_rfl, fun j t ht => ?_⟩
  rw [Tryz.params4] at ht
  have hm : t ∈ [22, 5] := by simpa using Array.mem_of_getElem? ht
  have hall : ([22, 5].all fun u => !Tryz.prog.wantsStandIn u) = true := by kernel_rfl
  exact (show Tryz.prog.wantsStandIn t = false by simpa using List.all_eq_true.1 hall t hm)

theorem FnHROrder_holds : Rows.FnHROrderCardSaid :=
  Claim7.holds_tied_plain_at .later [] _ _ _ _ ord_said (fun _ h => by cases h) (by kernel_rfl) (fun _ h => by cases h) fnHROrder_row_tie rfl ⟨rfl, rfl⟩ (by kernel_rfl) rfl ord_plain (by kernel_rfl)
#print axioms FnHROrder_holds
end Go.Proofs.YtgcfnhchmmkndaaGreatDoor
