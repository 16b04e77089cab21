/- laws.FnVNWritten returns true for every input, and its arguments read as they did: the row and its tied card. No condition beyond the given row's own (the two listed errors of package io, tied). -/
import Derived.Test.YtpegafbcfpedoaaDoorRow
import Derived.Test.YtpegafbcfpedoaaDoorT12
import Derived.Test.YtpegafbcfpedoaaDoorCards
import Derived.Test.YtpegafbcfpedoaaDoorTie
namespace Go.Proofs.YtpegafbcfpedoaaDoor
open Go.ChangeShapes Go.WideShapes Go.ChangeAt Go.RowKit
set_option linter.unusedVariables false

theorem written_any (N l : Nat) (A : Option Addr) (n c : Nat) (bs : List UInt8) (w : World) (hr : Reads w w.heap.size 1 A n (bcells bs)) (hcap : n ≤ c) (hcap2 : c ≤ 9223372036854775807) (hN : N < 18446744073709551616) (hl : l < 256) (t0 t1 : TypeId) (v0 v1 : Value)
    (g0 : w.cell? ⟨0, 0, none⟩ = some (.iface t0 v0)) (g1 : w.cell? ⟨1, 0, none⟩ = some (.iface t1 v1)) :
    Calls Tryd.prog 4 #[.int .u64 N, .int .u8 l, .slice A n c] w fun e w' => e = .returned (.bool true) ∧ Below w.heap.size w w' := by
  by_cases hn : n ≤ 2147483647
  rotate_left
  · exact written_big N l A n c w (by omega)
  generalize hm : N % 4611686018427387904 = m
  have hmb : m < 4611686018427387904 := by omega
  have h8 : vnLen m ≤ 8 := by have := (vnLen_ok m hmb).1; omega
  by_cases hk : n ≤ 20
  · rcases (show (l : Int) % 4 = 0 ∨ (l : Int) % 4 = 1 ∨ (l : Int) % 4 = 2 ∨ (l : Int) % 4 = 3 by omega) with hq | hq | hq | hq
    · by_cases hle : vnLen m ≤ 1
      · exact written_le0_n N m l A n c bs w hr hcap hcap2 hn hN hm hl hq hle (by omega) t0 t1 v0 v1 g0 g1
      · exact written_gt0_n N m l A n c bs w hr hcap hcap2 hn hN hm hl hq (by omega) (by omega) t0 t1 v0 v1 g0 g1
    · by_cases hle : vnLen m ≤ 2
      · exact written_le1_n N m l A n c bs w hr hcap hcap2 hn hN hm hl hq hle (by omega) t0 t1 v0 v1 g0 g1
      · exact written_gt1_n N m l A n c bs w hr hcap hcap2 hn hN hm hl hq (by omega) (by omega) t0 t1 v0 v1 g0 g1
    · by_cases hle : vnLen m ≤ 4
      · exact written_le2_n N m l A n c bs w hr hcap hcap2 hn hN hm hl hq hle (by omega) t0 t1 v0 v1 g0 g1
      · exact written_gt2_n N m l A n c bs w hr hcap hcap2 hn hN hm hl hq (by omega) (by omega) t0 t1 v0 v1 g0 g1
    · exact written_le3_n N m l A n c bs w hr hcap hcap2 hn hN hm hl hq h8 (by omega) t0 t1 v0 v1 g0 g1
  · rcases (show (l : Int) % 4 = 0 ∨ (l : Int) % 4 = 1 ∨ (l : Int) % 4 = 2 ∨ (l : Int) % 4 = 3 by omega) with hq | hq | hq | hq
    · by_cases hle : vnLen m ≤ 1
      · exact written_le0_20 N m l A n c bs w hr hcap hcap2 hn hN hm hl hq hle (by omega) t0 t1 v0 v1 g0 g1
      · exact written_gt0_20 N m l A n c bs w hr hcap hcap2 hn hN hm hl hq (by omega) (by omega) t0 t1 v0 v1 g0 g1
    · by_cases hle : vnLen m ≤ 2
      · exact written_le1_20 N m l A n c bs w hr hcap hcap2 hn hN hm hl hq hle (by omega) t0 t1 v0 v1 g0 g1
      · exact written_gt1_20 N m l A n c bs w hr hcap hcap2 hn hN hm hl hq (by omega) (by omega) t0 t1 v0 v1 g0 g1
    · by_cases hle : vnLen m ≤ 4
      · exact written_le2_20 N m l A n c bs w hr hcap hcap2 hn hN hm hl hq hle (by omega) t0 t1 v0 v1 g0 g1
      · exact written_gt2_20 N m l A n c bs w hr hcap hcap2 hn hN hm hl hq (by omega) (by omega) t0 t1 v0 v1 g0 g1
    · exact written_le3_20 N m l A n c bs w hr hcap hcap2 hn hN hm hl hq h8 (by omega) t0 t1 v0 v1 g0 g1

set_option maxRecDepth 100000 in
theorem written_lifted (os : Os) (started : os.Started) (H : Type) (enc : TypeId × Value → H) :
    ReturnsInHanded {} Tryd.checked os 4 .any (fun w args => (Rows.fnVNWrittenSpec.pre enc Tryd.prog Tryd.f4 [] false w args ∧ laidMetH Tryd.prog laid2 w) ∧ sizedMet enc Tryd.prog Tryd.f4 (OpenSpec.ofChange Rows.fnVNWrittenSpec) false w args)
      (Rows.fnVNWrittenSpec.post enc Tryd.prog Tryd.f4 false true false false) := by
  refine returnsInHanded_of_change_and (C := Tryd.checked) (X := fun w _ => laidMetH Tryd.prog laid2 w) (fun _ _ _ hh h => h.of_heap hh) own started (by kernel_rfl) Tryd.func4
    (ChangeSpec.witness_shaped (enc := enc) (C := Tryd.checked) (os := os) (X := fun w _ => laidMetH Tryd.prog laid2 w) false (World.doorLaid Tryd.prog 47 os) #[.int .u64 0, .int .u8 0, .slice none 0 0] 8 rfl (World.shaped_of_RefB (by kernel_rfl) (by kernel_rfl)) (by kernel_rfl) (by kernel_rfl) (by kernel_rfl) (door_met os _)) ?_
  intro W base args ds gs before hval0 hW _ _ hL _
  have hval : ∀ (j : Nat) t v, Tryd.f4.params[j]? = some t → args[j]? = some v → Value.okWide Tryd.prog W .any base t v := hval0
  have hW' := hW
  obtain ⟨p, q, hA0, hV, rfl, hfz, hnd⟩ := hW
  have hA : DataW.TrodAll enc Tryd.prog W 0 (fun _ => true) true Tryd.f4.params.toList args.toList ds p := hA0
  rw [Tryd.params4] at hA hval
  obtain ⟨v0, vs0, d0, ds0, p0, q0, hargs, rfl, rfl, h0, r0⟩ := trodAll_cons hA
  obtain ⟨v1, vs1, d1, ds1, p1, q1, rfl, rfl, rfl, h1, r1⟩ := trodAll_cons r0
  obtain ⟨v2, vs2, d2, ds2, p2, q2, rfl, rfl, rfl, h2, r2⟩ := trodAll_cons r1
  obtain ⟨rfl, rfl, rfl⟩ := trodAll_nil r2
  obtain rfl : args = #[v0, v1, v2] := by cases args; simp_all
  obtain ⟨rfl, rfl⟩ := trodVars_none hV
  obtain ⟨x0, rfl, rfl, rfl, wx0⟩ := open_int Tryd.underlying24 (hval 0 24 v0 rfl rfl) h0
  obtain ⟨x1, rfl, rfl, rfl, wx1⟩ := open_int Tryd.underlying5 (hval 1 5 v1 rfl rfl) h1
  obtain ⟨a0, len0, cap0, rfl⟩ := okWide_slice Tryd.underlying22 (hval 2 22 v2 rfl rfl)
  have k2 := h2
  have lt2 : ∀ x ∈ p2, x.block < W.heap.size := by obtain ⟨m, hm⟩ := k2; exact DataW.trod_lt m _ _ _ hm
  obtain ⟨bs, hr, hcap, hcap2⟩ : ∃ bs, Reads W W.heap.size 1 a0 len0 (bcells bs) ∧ len0 ≤ cap0 ∧ cap0 ≤ 9223372036854775807 := by
    obtain ⟨fuel, hf⟩ := h2
    rcases open_ints Tryd.underlying22 Tryd.underlying5 (by kernel_rfl) hf with ⟨hcs, _⟩ | ⟨x, l, c, zs, hcs, _, hl, hm, hz, _, hcell, hwz⟩
    · simp [Value.cells] at hcs
      obtain ⟨rfl, rfl, rfl⟩ := hcs
      exact ⟨[], Reads.none_, by omega, by omega⟩
    · simp [Value.cells] at hcs
      obtain ⟨rfl, rfl, rfl⟩ := hcs
      unfold maxLen at hm
      exact ⟨_, reads_of_open (by simp at hz; omega) hcell hwz, hl, by omega⟩
  have b0 : 0 ≤ x0 ∧ x0 ≤ 18446744073709551615 := by simpa [Lit.wf, IntKind.min, IntKind.max, IntKind.bits, IntKind.signed] using wx0
  have b1 : 0 ≤ x1 ∧ x1 ≤ 255 := by simpa [Lit.wf, IntKind.min, IntKind.max, IntKind.bits, IntKind.signed] using wx1
  obtain ⟨N, rfl⟩ := Int.eq_ofNat_of_zero_le b0.1
  obtain ⟨l, rfl⟩ := Int.eq_ofNat_of_zero_le b1.1
  obtain ⟨⟨t0, v0, g0⟩, t1, v1, g1⟩ := of_laid hL
  clear hA0 hval0
  refine (written_any N l a0 len0 cap0 bs W hr hcap hcap2 (by omega) (by omega) t0 t1 v0 v1 g0 g1).mono fun e W' ⟨he, bel⟩ => ?_
  subst he
  exact ⟨_, rfl, _, _, _, [], _, [], hW', trodAll_mk1 (shut_bool Tryd.underlying4 _), (trodAll_cons_mk (shut_int Tryd.underlying24 wx0) (trodAll_cons_mk (shut_int Tryd.underlying5 wx1) (trodAll_cons_mk (Below.trod laidOut (by kernel_rfl) (of_decide_eq_true (by kernel_rfl)) k2 bel lt2) trodAll_mk0))), rfl, bel.frame _, fun h => by cases h⟩

theorem written_said : Rows.FnVNWrittenSaid :=
  OpenClaim.holds_of_wide 4 Tryd.f4 rfl rfl rfl rfl rfl rfl rfl ⟨rfl, rfl, rfl, rfl, rfl⟩ rfl rfl rfl rfl rfl (by kernel_rfl) Tryd.func4 (by kernel_rfl)
    (of_decide_eq_true (by kernel_rfl)) (by unfold Func.isWrapper; first | (rw [if_pos (by decide +kernel)]; kernel_rfl) | (rw [if_neg (by decide +kernel)]; exact ⟨rfl, rfl⟩))
    (fun os started H enc _ => written_lifted os started H enc)

theorem written_plain (f : FuncId) (fn : Func) (hf : Tryd.pinned.checked.prog.funcNamed "given.example/pub-heliostat/laws.FnVNWritten" = some f) (hfn : Tryd.pinned.checked.prog.funcs[f]? = some fn) :
    false = Tryd.pinned.checked.prog.looks [] ∧ ∀ (j : Nat) t, fn.params[j]? = some t → Tryd.pinned.checked.prog.wantsStandIn t = false := by
  obtain rfl : f = 4 := Option.some.inj ((show Tryd.prog.funcNamed "given.example/pub-heliostat/laws.FnVNWritten" = some 4 by kernel_rfl).symm.trans hf) |>.symm
  obtain rfl : fn = Tryd.f4 := (Option.some.inj (Tryd.func4.symm.trans hfn)).symm
  refine ⟨by kernel_rfl, fun j t ht => ?_⟩
  rw [Tryd.params4] at ht
  have hm : t ∈ [24, 5, 22] := by simpa using Array.mem_of_getElem? ht
  have hall : ([24, 5, 22].all fun u => !Tryd.prog.wantsStandIn u) = true := by kernel_rfl
  exact (show Tryd.prog.wantsStandIn t = false by simpa using List.all_eq_true.1 hall t hm)

theorem FnVNWritten_holds : Rows.FnVNWrittenCardSaid :=
  Claim7.holds_tied_plain_at .later [] _ _ _ _ written_said (fun _ h => by cases h) (by kernel_rfl) (fun _ h => by cases h) fnVNWritten_row_tie rfl ⟨rfl, rfl⟩ (by kernel_rfl) rfl written_plain (by kernel_rfl)
#print axioms FnVNWritten_holds
end Go.Proofs.YtpegafbcfpedoaaDoor
