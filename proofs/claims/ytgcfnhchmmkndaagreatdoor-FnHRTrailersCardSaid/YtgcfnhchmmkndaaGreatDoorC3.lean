/- laws.hrSame. -/
import Derived.Test.YtgcfnhchmmkndaaGreatDoorSh2
namespace Go.Proofs.YtgcfnhchmmkndaaGreatDoor
open Go.RowKit Go.Maps
set_option linter.unusedVariables false
set_option maxRecDepth 100000

theorem below_drewN (w : World) (q : Nat) : Below w.heap.size w (w.drewN q) := by
  induction q with
  | zero => exact Below.refl _ _
  | succ q ih => exact ih.drew

/-- slices.Equal of strings -/
theorem seq_at (A1 A2 : Option Addr) (c1 c2 : Nat) (xs ys : List BS) (w : World) (B1 B2 : Nat) (h1 : Reads w B1 1 A1 xs.length (scells xs)) (h2 : Reads w B2 1 A2 ys.length (scells ys)) (hx : xs.length ≤ 900000) (hy : ys.length ≤ 900000) :
    Calls Tryz.prog 31 #[.slice A1 xs.length c1, .slice A2 ys.length c2] w fun e w' => e = .returned (.bool (decide (xs = ys))) ∧ Below w.heap.size w w' := by
  by_cases hl : xs.length = ys.length
  · rcases Nat.eq_zero_or_pos xs.length with h0 | hp
    · obtain rfl : xs = [] := List.eq_nil_of_length_eq_zero h0
      obtain rfl : ys = [] := List.eq_nil_of_length_eq_zero (by rw [← hl]; rfl)
      refine (Tryz.slices_Equal_string_empty A1 A2 c1 0 c2 w (by omega)).mono ?_
      rintro e w' ⟨rfl, rfl⟩
      exact ⟨by simp, Below.refl _ _⟩
    · obtain ⟨b1, o1, rfl, _, _, g1⟩ := reads_strs h1 hp
      obtain ⟨b2, o2, rfl, _, _, g2⟩ := reads_strs h2 (by omega)
      refine (Tryz.slices_Equal_string b1 o1 xs.length c1 b2 o2 ys.length c2 (xs.map fun x => ⟨x.toArray⟩) (ys.map fun x => ⟨x.toArray⟩) w (by simp) (by simp) (by omega) (by omega) (fun j hj => ?_) (fun j hj => ?_)).mono ?_
      · have hj' : j < xs.length := by simpa using hj
        rw [g1 j hj']
        simp [List.getD, List.getElem?_eq_getElem hj']
      · have hj' : j < ys.length := by simpa using hj
        rw [g2 j hj']
        simp [List.getD, List.getElem?_eq_getElem hj']
      · rintro e w' ⟨rfl, q, rfl⟩
        refine ⟨?_, below_drewN _ _⟩
        rw [show (xs.map fun x => (⟨x.toArray⟩ : ByteArray)).take xs.length = xs.map fun x => ⟨x.toArray⟩ from List.take_of_length_le (by simp), show (ys.map fun x => (⟨x.toArray⟩ : ByteArray)).take ys.length = ys.map fun x => ⟨x.toArray⟩ from List.take_of_length_le (by simp)]
        congr 3
        apply propext
        constructor
        · intro h
          have := congrArg (List.map fun b : ByteArray => b.data.toList) h
          simpa [List.map_map, Function.comp_def] using this
        · rintro rfl; rfl
  · refine (Tryz.slices_Equal_string_lens A1 A2 xs.length c1 ys.length c2 w hl).mono ?_
    rintro e w' ⟨rfl, rfl⟩
    refine ⟨?_, Below.refl _ _⟩
    rw [decide_eq_false]
    intro h
    exact hl (by rw [h])

/-- the closure, on heads that are alike -/
theorem alike_at (k : BS) (its : List BS) (A1 A2 : Option Addr) (c1 c2 : Nat) (w : World) (h1 : Reads w w.heap.size 1 A1 its.length (scells its)) (h2 : Reads w w.heap.size 1 A2 its.length (scells its)) (hx : its.length ≤ 900000) :
    Calls Tryz.prog 39 #[.agg #[str k, .slice A1 its.length c1], .agg #[str k, .slice A2 its.length c2]] w fun e w' => e = .returned (.bool true) ∧ Below w.heap.size w w' := by
  have hb1 : Below w.heap.size w ((w.alloc (.cells #[str k, .slice A1 its.length c1] 72)).alloc (.cells #[str k, .slice A2 its.length c2] 72)) := ((Below.refl w.heap.size w).alloc (Nat.le_refl _) _).alloc (by simp) _
  have K := seq_at A1 A2 c1 c2 its its ((w.alloc (.cells #[str k, .slice A1 its.length c1] 72)).alloc (.cells #[str k, .slice A2 its.length c2] 72)) _ _ (h1.below hb1) (h2.below hb1) hx hx
  rw [show decide (its = its) = true by simp] at K
  have HB := Lib.hid hb1
  clear hb1 h1 h2
  go_enter Tryz.func39, Tryz.ntmps39
  go_wp2_with (go_at_call 31; refine K.mono ?_; rintro e w2 ⟨rfl, hb2⟩)
  go_ret
  exact ⟨rfl, Below.next HB.out HB.out.size hb2⟩

theorem absE_at {es es' : List Ent} (h : absE es = absE es') {k : Nat} (hk : k < es.length) (hk' : k < es'.length) : es[k].key = es'[k].key ∧ es[k].items = es'[k].items := by
  have h1 : (absE es)[k]? = some (es[k].key, es[k].items) := by simp [absE, List.getElem?_eq_getElem hk]
  have h2 : (absE es')[k]? = some (es'[k].key, es'[k].items) := by simp [absE, List.getElem?_eq_getElem hk']
  rw [h, h2] at h1
  injection h1 with h1
  injection h1 with h3 h4
  exact ⟨h3.symm, h4.symm⟩

set_option maxHeartbeats 4000000 in
theorem eqf_at (base base' : Nat) (v v' : Value) (es es' : List Ent) (w : World) (h1 : HL w base v es) (h2 : HL w base' v' es') (hab : absE es = absE es') (hn : es.length ≤ 900000) (hil : ∀ e ∈ es, e.items.length ≤ 900000) :
    Calls Tryz.prog 38 #[v, v', .func (.func 39) #[] #[]] w fun e w' => e = .returned (.bool true) ∧ Below w.heap.size w w' := by
  have hll : es'.length = es.length := by have := absE_len hab; rw [this]; simp [absE]
  rcases h1.parts with ⟨rfl, rfl⟩ | ⟨b, c, rfl, _, hb, hc, hR⟩
  · obtain rfl : es' = [] := List.eq_nil_of_length_eq_zero hll
    obtain ⟨A2, c2, rfl⟩ := row_form h2.row
    go_enter Tryz.func38, Tryz.ntmps38
    go_wp2_with fail
    refine wp_loop_rounds 1 ?_
    rw [rounds_succ]
    go_wp2_with fail
    go_ret
    exact ⟨rfl, Below.refl _ _⟩
  · rcases Nat.eq_zero_or_pos es.length with h0 | hp
    · obtain rfl : es = [] := List.eq_nil_of_length_eq_zero h0
      obtain rfl : es' = [] := List.eq_nil_of_length_eq_zero hll
      obtain ⟨A2, c2, rfl⟩ := row_form h2.row
      go_enter Tryz.func38, Tryz.ntmps38
      go_wp2_with fail
      refine wp_loop_rounds 1 ?_
      rw [rounds_succ]
      go_wp2_with fail
      go_ret
      exact ⟨rfl, Below.refl _ _⟩
    · rcases h2.parts with ⟨rfl, rfl⟩ | ⟨b', c', rfl, _, hb', hc', hR'⟩
      · simp at hll; omega
      · have HR := Lib.hid hR
        have HR' := Lib.hid hR'
        have H1 := Lib.hid h1.vals
        have H2 := Lib.hid h2.vals
        have HAB := Lib.hid hab
        have HIL := Lib.hid hil
        rw [hll] at hc' ⊢
        obtain ⟨n, hn'⟩ : ∃ n, es.length = n := ⟨_, rfl⟩
        have HN := Lib.hid hn'
        have HN' := Lib.hid (hll.trans hn')
        rw [hn'] at hc hc' hn ⊢
        clear hR hR' h1 h2 hab hil hn' hll hp
        go_enter Tryz.func38, Tryz.ntmps38
        go_wp2_with fail
        go_loopw [17] (fun i wx => ∃ k : Nat, k ≤ n ∧ i = .int .i64 (k : Int) ∧ Below w.heap.size w wx) (fun i _ => n - (intOf i).toNat)
        case atStart => exact ⟨0, by omega, rfl, Below.refl _ _⟩
        case round =>
          obtain ⟨k, hk, rfl, hbel⟩ := hrel
          have HB := Lib.hid hbel
          clear hbel
          rcases Nat.lt_or_ge k n with hkl | hkl
          · have hk1 : k < es.length := by rw [HN.out]; exact hkl
            have hk2 : k < es'.length := by rw [HN'.out]; exact hkl
            obtain ⟨hke, hie⟩ := absE_at HAB.out hk1 hk2
            obtain ⟨A1, c1, hv1, hr1, _, _⟩ := (H1.out _ (List.getElem_mem hk1)).ex
            obtain ⟨A2, c2, hv2, hr2, _, _⟩ := (H2.out _ (List.getElem_mem hk2)).ex
            have hx := HIL.out _ (List.getElem_mem hk1)
            have e0 := (HR.out.below hb HB.out).key k hk1
            have e1 := (HR.out.below hb HB.out).val k hk1
            have e2 := (HR'.out.below hb' HB.out).key k hk2
            have e3 := (HR'.out.below hb' HB.out).val k hk2
            rw [hv1] at e1
            rw [← hke] at e2
            rw [hv2, ← hie] at e3
            rw [← hie] at hr2
            obtain ⟨its, hits⟩ : ∃ its, es[k].items = its := ⟨_, rfl⟩
            obtain ⟨ky, hky⟩ : ∃ ky, es[k].key = ky := ⟨_, rfl⟩
            rw [hits] at e1 e3 hr1 hr2 hx
            rw [hky] at e0 e2
            clear hv1 hv2 hke hie hits hky
            have hbw : b < wr.heap.size := Nat.lt_of_lt_of_le hb HB.out.size
            have hbw' : b' < wr.heap.size := Nat.lt_of_lt_of_le hb' HB.out.size
            have hbb : Below wr.heap.size wr ((wr.alloc (.cells #[str ky, .slice A1 its.length c1] 72)).alloc (.cells #[str ky, .slice A2 its.length c2] 72)) := ((Below.refl wr.heap.size wr).alloc (Nat.le_refl _) _).alloc (by simp) _
            have f2 : (wr.alloc (.cells #[str ky, .slice A1 its.length c1] 72)).cell? ⟨b', k * 2, none⟩ = some (str ky) := ((below_new wr (.cells #[str ky, .slice A1 its.length c1] 72)).cell (p := ⟨b', k * 2, none⟩) hbw').trans e2
            have f3 : (wr.alloc (.cells #[str ky, .slice A1 its.length c1] 72)).cell? ⟨b', k * 2 + 1, none⟩ = some (.slice A2 its.length c2) := ((below_new wr (.cells #[str ky, .slice A1 its.length c1] 72)).cell (p := ⟨b', k * 2 + 1, none⟩) hbw').trans e3
            have hbw2 := Below.next HB.out HB.out.size hbb
            have K := alike_at ky its A1 A2 c1 c2 _ ((hr1.below hbw2).more hbw2.size) ((hr2.below hbw2).more hbw2.size) hx
            have HB2 := Lib.hid hbw2
            clear hbb hbw2 hr1 hr2
            go_wp2_with (go_at_call 39; refine K.mono ?_; rintro e w3 ⟨rfl, hb3⟩)
            exact ⟨⟨k + 1, hkl, by go_num, Below.next HB2.out HB2.out.size hb3⟩, by simp [intOf]; omega⟩
          · have e : k = n := by omega
            subst e
            go_wp2_with fail
            go_ret
            exact ⟨rfl, HB.out⟩

theorem same_at (base base' : Nat) (v v' : Value) (es es' : List Ent) (w : World) (h1 : HL w base v es) (h2 : HL w base' v' es') (hab : absE es = absE es') (hn : es.length ≤ 900000) (hil : ∀ e ∈ es, e.items.length ≤ 900000) :
    Calls Tryz.prog 18 #[v, v'] w fun e w' => e = .returned (.bool true) ∧ Below w.heap.size w w' := by
  have K := eqf_at base base' v v' es es' w h1 h2 hab hn hil
  clear h1 h2
  go_enter Tryz.func18, Tryz.ntmps18
  go_wp2_with (go_at_call 38; refine K.mono ?_; rintro e w3 ⟨rfl, hb3⟩)
  go_ret
  exact ⟨rfl, hb3⟩
end Go.Proofs.YtgcfnhchmmkndaaGreatDoor
