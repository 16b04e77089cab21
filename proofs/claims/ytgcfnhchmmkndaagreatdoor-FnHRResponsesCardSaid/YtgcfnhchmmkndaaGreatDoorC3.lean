/- laws.hrSame. -/
import Derived.Test.YtgcfnhchmmkndaaGreatDoorSh2
namespace Go.Proofs.YtgcfnhchmmkndaaGreatDoor
open Go.RowKit Go.Maps
set_option linter.unusedVariables false
set_option maxRecDepth 100000

theorem below_drewN (w : World) (q : Nat) : Below w.heap.size w (w.drewN q) := by
  induction q with
  | zero => exact Below.refl _ _
  | succ q ih => exact ih.drew

/-- slices.Equal of strings -/
theorem seq_at (A1 A2 : Option Addr) (c1 c2 : Nat) (xs ys : List BS) (w : World) (B1 B2 : Nat) (h1 : Reads w B1 1 A1 xs.length (scells xs)) (h2 : Reads w B2 1 A2 ys.length (scells ys)) (hx : xs.length ≤ 900000) (hy : ys.length ≤ 900000) :
    Calls Tryz.prog 31 #[.slice A1 xs.length c1, .slice A2 ys.length c2] w fun e w' => e = .returned (.bool (decide (xs = ys))) ∧ Below w.heap.size w w' := by
  by_cases hl : xs.length = ys.length
  · rcases Nat.eq_zero_or_pos xs.length with h0 | hp
    · obtain rfl : xs = [] := List.eq_nil_of_length_eq_zero h0
      obtain rfl : ys = [] := List.eq_nil_of_length_eq_zero (by rw [← hl]; rfl)
      refine (Tryz.slices_Equal_string_empty A1 A2 c1 0 c2 w (by omega)).mono ?_
      rintro e w' ⟨rfl, rfl⟩
      exact ⟨by simp, Below.refl _ _⟩
    · obtain ⟨b1, o1, rfl, _, _, g1⟩ := reads_strs h1 hp
      obtain ⟨b2, o2, rfl, _, _, g2⟩ := reads_strs h2 (by omega)
      refine (Tryz.slices_Equal_string b1 o1 xs.length c1 b2 o2 ys.length c2 (xs.map fun x => ⟨x.toArray⟩) (ys.map fun x => ⟨x.toArray⟩) w (by simp) (by simp) (by omega) (by omega) (fun j hj => ?_) (fun j hj => ?_)).mono ?_
      · have hj' : j < xs.length := by simpa using hj
        rw [g1 j hj']
        simp [List.getD, List.getElem?_eq_getElem hj']
      · have hj' : j < ys.length := by simpa using hj
        rw [g2 j hj']
        simp [List.getD, List.getElem?_eq_getElem hj']
      · rintro e w' ⟨rfl, q, rfl⟩
        refine ⟨?_, below_drewN _ _⟩
        rw [show (xs.map fun x => (⟨x.toArray⟩ : ByteArray)).take xs.length = xs.map fun x => ⟨x.toArray⟩ from List.take_of_length_le (by simp), show (ys.map fun x => (⟨x.toArray⟩ : ByteArray)).take ys.length = ys.map fun x => ⟨x.toArray⟩ from List.take_of_length_le (by simp)]
        congr 3
        apply propext
        constructor
        · intro h
          have := congrArg (List.map fun b : ByteArray => b.data.toList) h
          simpa [List.map_map, Function.comp_def] using this
        · rintro rfl; rfl
  · refine (Tryz.slices_Equal_string_lens A1 A2 xs.length c1 ys.length c2 w hl).mono ?_
    rintro e w' ⟨rfl, rfl⟩
    refine ⟨?_, Below.refl _ _⟩
    rw [decide_eq_false]
    intro h
    exact hl (by rw [h])

/-- the closure, on heads that are alike -/
theorem alike_at (k : BS) (its : List BS) (A1 A2 : Option Addr) (c1 c2 : Nat) (w : World) (h1 : Reads w w.heap.size 1 A1 its.length (scells its)) (h2 : Reads w w.heap.size 1 A2 its.length (scells its)) (hx : its.length ≤ 900000) :
    Calls Tryz.prog 39 #[.agg #[str k, .slice A1 its.length c1], .agg #[str k, .slice A2 its.length c2]] w fun e w' => e = .returned (.bool true) ∧ Below w.heap.size w w' := by
  have hb1 : Below w.heap.size w ((w.alloc (.cells #[str k, .slice A1 its.length c1] 72)).alloc (.cells #[str k, .slice A2 its.length c2] 72)) := ((Below.refl w.heap.size w).alloc (Nat.le_refl _) _).alloc (by simp) _
  have K := seq_at A1 A2 c1 c2 its its ((w.alloc (.cells #[str k, .slice A1 its.length c1] 72)).alloc (.cells #[str k, .slice A2 its.length c2] 72)) _ _ (h1.below hb1) (h2.below hb1) hx hx
  rw [show decide (its = its) = true by simp] at K
  have HB := Lib.hid hb1
  clear hb1 h1 h2
  go_enter Tryz.func39, Tryz.ntmps39
  go_wp2_with (go_at_call 31; refine K.mono ?_; rintro e w2 ⟨rfl, hb2⟩)
  go_ret
  exact ⟨rfl, Below.next HB.out HB.out.size hb2⟩

theorem absE_at {es es' : List Ent} (h : absE es = absE es') {k : Nat} (hk : k < es.length) (hk' : k < es'.length) : es[k].key = es'[k].key ∧ es[k].items = es'[k].items := by
  have h1 : (absE es)[k]? = some (es[k].key, es[k].items) := by simp [absE, List.getElem?_eq_getElem hk]
  have h2 : (absE es')[k]? = some (es'[k].key, es'[k].items) := by simp [absE, List.getElem?_eq_getElem hk']
  rw [h, h2] at h1
  injection h1 with h1
  injection h1 with h3 h4
  exact ⟨h3.symm, h4.symm⟩

set_option maxHeartbeats 4000000 in
theorem eqf_at (base base' : Nat) (v v' : Value) (es es' : List Ent) (w : World) (h1 : HL w base v es) (h2 : HL w base' v' es') (hab : absE es = absE es') (hn : es.length ≤ 900000) (hil : ∀ e ∈ es, e.items.length ≤ 900000) :
    Calls Tryz.prog 38 #[v, v', .func (.func 39) #[] #[]] w fun e w' => e = .returned (.bool true) ∧ Below w.heap.size w w' := by
  have hll : es'.length = es.length := by have := absE_len hab; rw [this]; simp [absE]
  rcases h1.parts with ⟨rfl, rfl⟩ | ⟨b, c, rfl, _, hb, hc, hR⟩
  · obtain rfl : es' = [] := List.eq_nil_of_length_eq_zero hll
    obtain ⟨A2, c2, rfl⟩ := row_form h2.row
    go_enter Tryz.func38, Tryz.ntmps38
    go_wp2_with fail
    refine wp_loop_rounds 1 ?_
    rw [rounds_succ]
    go_wp2_with fail
    go_ret
    exact ⟨rfl, Below.refl _ _⟩
  · rcases Nat.eq_zero_or_pos es.length with h0 | hp
    · obtain rfl : es = [] := List.eq_nil_of_length_eq_zero h0
      obtain rfl : es' = [] := List.eq_nil_of_length_eq_zero hll
      obtain ⟨A2, c2, rfl⟩ := row_form h2.row
      go_enter Tryz.func38, Tryz.ntmps38
      go_wp2_with fail
      refine wp_loop_rounds 1 ?_
      rw [rounds_succ]
      go_wp2_with fail
      go_ret
      exact ⟨rfl, Below.refl _ _⟩
    · rcases h2.parts with ⟨rfl, rfl⟩ | ⟨b', c', rfl, _, hb', hc', hR'⟩
      · simp at hll; omega
      · have HR := Lib.hid hR
        have HR' := Lib.hid hR'
        have H1 := Lib.hid h1.vals
        have H2 := Lib.hid h2.vals
        have HAB := Lib.hid hab
        have HIL := Lib.hid hil
        rw [hll] at hc' ⊢
        obtain ⟨n, hn'⟩ : ∃ n, es.length = n := ⟨_, rfl⟩
        have HN := Lib.hid hn'
        have HN' := Lib.hid (hll.trans hn')
        rw [hn'] at hc hc' hn ⊢
        clear hR hR' h1 h2 hab hil hn' hll hp
        go_enter Tryz.func38, Tryz.ntmps38
        go_wp2_with fail
        go_loopw [17] (fun i wx => ∃ k : Nat, k ≤ n ∧ i = .int .i64 (k : Int) ∧ Below w.heap.size w wx) (fun i _ => n - (intOf i).toNat)
        case atStart => exact ⟨0, by omega, rfl, Below.refl _ _⟩
        case round =>
          obtain ⟨k, hk, rfl, hbel⟩ := hrel
          have HB := Lib.hid hbel
          clear hbel
          rcases Nat.lt_or_ge k n with hkl | hkl
          · have hk1 : k < es.length := by rw [HN.out]; exact hkl
            have hk2 : k < es'.length := by rw [HN'.out]; exact hkl
            obtain ⟨hke, hie⟩ := absE_at HAB.out hk1 hk2
            obtain ⟨A1, c1, hv1, hr1, _, _⟩ := (H1.out _ (List.getElem_mem hk1)).ex
            obtain ⟨A2, c2, hv2, hr2, _, _⟩ := (H2.out _ (List.getElem_mem hk2)).ex
            have hx := HIL.out _ (List.getElem_mem hk1)
            have e0 := (HR.out.below hb HB.out).key k hk1
            have e1 := (HR.out.below hb HB.out).val k hk1
            have e2 := (HR'.out.below hb' HB.out).key k hk2
            have e3 := (HR'.out.below hb' HB.out).val k hk2
            rw [hv1] at e1
            rw [← hke] at e2
            rw [hv2, ← hie] at e3
            rw [← hie] at hr2
            obtain ⟨its, hits⟩ : ∃ its, es[k].items = its := ⟨_, rfl⟩
            obtain ⟨ky, hky⟩ : ∃ ky, es[k].key = ky := ⟨_, rfl⟩
            rw [hits] at e1 e3 hr1 hr2 hx
            rw [hky] at e0 e2
            clear hv1 hv2 hke hie hits hky
            have hbw : b < wr.heap.size := Nat.lt_of_lt_of_le hb HB.out.size
            have hbw' : b' < wr.heap.size := Nat.lt_of_lt_of_le hb' HB.out.size
            have hbb : Below wr.heap.size wr ((wr.alloc (.cells #[str ky, .slice A1 its.length c1] 72)).alloc (.cells #[str ky, .slice A2 its.length c2] 72)) := ((Below.refl wr.heap.size wr).alloc (Nat.le_refl _) _).alloc (by simp) _
            have f2 : (wr.alloc (.cells #[str ky, .slice A1 its.length c1] 72)).cell? ⟨b', k * 2, none⟩ = some (str ky) := ((below_new wr (.cells #[str ky, .slice A1 its.length c1] 72)).cell (p := ⟨b', k * 2, none⟩) hbw').trans e2
            have f3 : (wr.alloc (.cells #[str ky, .slice A1 its.length c1] 72)).cell? ⟨b', k * 2 + 1, none⟩ = some (.slice A2 its.length c2) := ((below_new wr (.cells #[str ky, .slice A1 its.length c1] 72)).cell (p := ⟨b', k * 2 + 1, none⟩) hbw').trans e3
            have hbw2 := Below.next HB.out HB.out.size hbb
            have K := alike_at ky its A1 A2 c1 c2 _ ((hr1.below hbw2).more hbw2.size) ((hr2.below hbw2).more hbw2.size) hx
            have HB2 := Lib.hid hbw2
            clear hbb hbw2 hr1 hr2
            go_wp2_with (go_at_call 39; refine K.mono ?_; rintro e w3 ⟨rfl, hb3⟩)
            exact ⟨⟨k + 1, hkl, by go_num, Below.next HB2.out HB2.out.size hb3⟩, by simp [intOf]; omega⟩
          · have e : k = n := by omega
            subst e
            go_wp2_with fail
            go_ret
            exact ⟨rfl, HB.out⟩

theorem same_at (base base' : Nat) (v v' : Value) (es es' : List Ent) (w : World) (h1 : HL w base v es) (h2 : HL w base' v' es') (hab : absE es = absE es') (hn : es.length ≤ 900000) (hil : ∀ e ∈ es, e.items.length ≤ 900000) :
    Calls Tryz.prog 18 #[v, v'] w fun e w' => e = .returned (.bool true) ∧ Below w.heap.size w w' := by
  have K := eqf_at base base' v v' es es' w h1 h2 hab hn hil
  clear h1 h2
  go_enter Tryz.func18, Tryz.ntmps18
  go_wp2_with (go_at_call 38; refine K.mono ?_; rintro e w3 ⟨rfl, hb3⟩)
  go_ret
  exact ⟨rfl, hb3⟩

abbrev AL := List (BS × List BS)
def SortedA (S : AL) : Prop := S.Pairwise fun a b => a.1 < b.1
theorem bs_lt_irrefl (a : BS) : ¬ a < a := List.lt_irrefl a
theorem bs_lt_trans {a b c : BS} (h : a < b) (k : b < c) : a < c := List.lt_trans h k
theorem bs_tri {a b : BS} (h : ¬ a < b) (hne : a ≠ b) : b < a := by
  have h1 : b ≤ a := List.not_lt.1 h
  rcases Decidable.em (b < a) with h2 | h2
  · exact h2
  · exact absurd (List.le_antisymm (List.not_lt.1 h2) h1) hne

theorem sorted_ext {S T : AL} (hS : SortedA S) (hT : SortedA T) (h : ∀ p, p ∈ S ↔ p ∈ T) : S = T := by
  have nd : ∀ {X : AL}, SortedA X → X.Nodup := fun {X} hX => List.Pairwise.imp (R := fun a b : BS × List BS => a.1 < b.1) (S := fun a b => a ≠ b) (fun {a b} (hab : a.1 < b.1) (e : a = b) => bs_lt_irrefl a.1 (by rw [← e] at hab; exact hab)) hX
  have hp : S.Perm T := (List.perm_ext_iff_of_nodup (nd hS) (nd hT)).2 h
  exact List.Perm.eq_of_pairwise (le := fun a b : BS × List BS => a.1 < b.1) (fun a b _ _ (h1 : a.1 < b.1) (h2 : b.1 < a.1) => absurd (bs_lt_trans h1 h2) (bs_lt_irrefl _)) hS hT hp

theorem mem_putH {H : AL} (hnd : (H.map Prod.fst).Nodup) (k : BS) (vs : List BS) (p : BS × List BS) : p ∈ putH H k vs ↔ (p = (k, vs)) ∨ (p.1 ≠ k ∧ p ∈ H) := by
  unfold putH
  split
  · next h =>
    obtain ⟨q, hq, hk⟩ := List.any_eq_true.1 h
    have hk' : q.1 = k := by simpa using hk
    constructor
    · intro hp
      obtain ⟨r, hr, rfl⟩ := List.mem_map.1 hp
      by_cases e : r.1 = k
      · rw [if_pos e]; exact .inl rfl
      · rw [if_neg e]; exact .inr ⟨e, hr⟩
    · rintro (rfl | ⟨hne, hp⟩)
      · exact List.mem_map.2 ⟨q, hq, by rw [if_pos hk']⟩
      · exact List.mem_map.2 ⟨p, hp, by rw [if_neg hne]⟩
  · next h =>
    have hno : ∀ q ∈ H, q.1 ≠ k := fun q hq e => h (List.any_eq_true.2 ⟨q, hq, by simpa using e⟩)
    constructor
    · intro hp
      rcases List.mem_append.1 hp with hp | hp
      · exact .inr ⟨hno p hp, hp⟩
      · exact .inl (List.mem_singleton.1 hp)
    · rintro (rfl | ⟨hne, hp⟩)
      · exact List.mem_append.2 (.inr (List.mem_singleton.2 rfl))
      · exact List.mem_append.2 (.inl hp)
theorem putH_nodup {H : AL} (hnd : (H.map Prod.fst).Nodup) (k : BS) (vs : List BS) : ((putH H k vs).map Prod.fst).Nodup := by
  unfold putH
  split
  · have : (H.map fun p => if p.1 = k then (k, vs) else p).map Prod.fst = H.map Prod.fst := by
      rw [List.map_map]
      apply List.map_congr_left
      intro p _
      simp only [Function.comp]
      split
      · next e => exact e.symm
      · rfl
    rw [this]; exact hnd
  · next h =>
    rw [List.map_append, List.nodup_append]
    refine ⟨hnd, by simp, fun a ha b hb => ?_⟩
    simp at hb
    subst hb
    rintro rfl
    obtain ⟨q, hq, e⟩ := List.mem_map.1 ha
    exact h (List.any_eq_true.2 ⟨q, hq, by simpa using e⟩)
theorem getH_of_mem {H : AL} (hnd : (H.map Prod.fst).Nodup) {k : BS} {vs : List BS} (h : (k, vs) ∈ H) : getH H k = vs := by
  unfold getH
  induction H with
  | nil => simp at h
  | cons p t ih =>
    rw [List.map_cons, List.nodup_cons] at hnd
    rw [List.find?_cons]
    rcases List.mem_cons.1 h with rfl | h
    · simp
    · have hne : p.1 ≠ k := fun e => hnd.1 (List.mem_map.2 ⟨(k, vs), h, e.symm⟩)
      rw [show (p.1 == k) = false by simpa using hne]
      exact ih hnd.2 h
theorem getH_no {H : AL} {k : BS} (h : k ∉ H.map Prod.fst) : getH H k = [] := by
  unfold getH
  rw [show (H.find? fun p => p.1 == k) = none from List.find?_eq_none.2 fun p hp e => h (List.mem_map.2 ⟨p, hp, by simpa using e⟩)]
  rfl

theorem mem_headsOf {H : AL} (hnd : (H.map Prod.fst).Nodup) (p : BS × List BS) : p ∈ headsOf H ↔ p ∈ H := by
  unfold headsOf
  constructor
  · intro hp
    obtain ⟨k, hk, rfl⟩ := List.mem_map.1 hp
    obtain ⟨q, hq, rfl⟩ := List.mem_map.1 ((sortK_perm _).mem_iff.1 hk)
    rw [getH_of_mem hnd (show (q.1, q.2) ∈ H from hq)]
    exact hq
  · intro hp
    refine List.mem_map.2 ⟨p.1, (sortK_perm _).mem_iff.2 (List.mem_map.2 ⟨p, hp, rfl⟩), ?_⟩
    rw [getH_of_mem hnd (show (p.1, p.2) ∈ H from hp)]
theorem headsOf_sorted {H : AL} (hnd : (H.map Prod.fst).Nodup) : SortedA (headsOf H) := by
  unfold SortedA headsOf
  rw [List.pairwise_map]
  have h1 := sortK_sorted (H.map Prod.fst)
  have h2 : (sortK (H.map Prod.fst)).Nodup := (sortK_perm _).nodup_iff.2 hnd
  refine (h1.and h2).imp (fun {a b} h => ?_)
  rcases Decidable.em (a < b) with h3 | h3
  · exact h3
  · exact absurd (List.le_antisymm h.1 (List.not_lt.1 h3)) h.2

theorem hrAdd_keys {S : AL} {k v : BS} {x : BS} (hx : x < k) (h : ∀ p ∈ S, x < p.1) : ∀ p ∈ hrAdd S k v, x < p.1 := by
  induction S with
  | nil => intro p hp; simp [hrAdd] at hp; subst hp; exact hx
  | cons q t ih =>
    have hq := h q List.mem_cons_self
    have ht := fun p hp => h p (List.mem_cons_of_mem _ hp)
    intro p hp
    unfold hrAdd at hp
    split at hp
    · rcases List.mem_cons.1 hp with rfl | hp
      · exact hq
      · exact ih ht p hp
    · split at hp
      · rcases List.mem_cons.1 hp with rfl | hp
        · exact hx
        · exact ht p hp
      · rcases List.mem_cons.1 hp with rfl | hp
        · exact hx
        · rcases List.mem_cons.1 hp with rfl | hp
          · exact hq
          · exact ht p hp
theorem hrAdd_sorted {S : AL} (hS : SortedA S) (k v : BS) : SortedA (hrAdd S k v) := by
  induction S with
  | nil => simp [hrAdd, SortedA]
  | cons q t ih =>
    obtain ⟨a, vs⟩ := q
    have h := List.pairwise_cons.1 hS
    unfold hrAdd
    split
    · next hlt => exact List.pairwise_cons.2 ⟨hrAdd_keys hlt h.1, ih h.2⟩
    · next hlt =>
      split
      · next e => subst e; exact List.pairwise_cons.2 ⟨h.1, h.2⟩
      · next e =>
        have hka := bs_tri hlt e
        refine List.pairwise_cons.2 ⟨fun p hp => ?_, hS⟩
        rcases List.mem_cons.1 hp with rfl | hp
        · exact hka
        · exact bs_lt_trans hka (h.1 p hp)
theorem mem_hrAdd {S : AL} (hS : SortedA S) (k v : BS) (p : BS × List BS) : p ∈ hrAdd S k v ↔ (p = (k, getH S k ++ [v])) ∨ (p.1 ≠ k ∧ p ∈ S) := by
  induction S with
  | nil => simp [hrAdd, getH]
  | cons q t ih =>
    obtain ⟨a, vs⟩ := q
    have h := List.pairwise_cons.1 hS
    have hgt : k ≠ a → getH ((a, vs) :: t) k = getH t k := fun hne => by
      unfold getH
      rw [List.find?_cons, show ((a, vs).1 == k) = false by simpa using fun e => hne e.symm]
    unfold hrAdd
    split
    · next hlt =>
      have hne : k ≠ a := fun e => bs_lt_irrefl a (e ▸ hlt)
      rw [hgt hne, List.mem_cons, ih h.2, List.mem_cons]
      constructor
      · rintro (rfl | rfl | ⟨h1, h2⟩)
        · exact .inr ⟨fun e => hne e.symm, .inl rfl⟩
        · exact .inl rfl
        · exact .inr ⟨h1, .inr h2⟩
      · rintro (rfl | ⟨h1, rfl | h2⟩)
        · exact .inr (.inl rfl)
        · exact .inl rfl
        · exact .inr (.inr ⟨h1, h2⟩)
    · next hlt =>
      split
      · next e =>
        subst e
        have hg : getH ((a, vs) :: t) a = vs := by unfold getH; rw [List.find?_cons]; simp
        rw [hg, List.mem_cons, List.mem_cons]
        constructor
        · rintro (rfl | h2)
          · exact .inl rfl
          · exact .inr ⟨fun e => bs_lt_irrefl a (by have := h.1 p h2; rwa [e] at this), .inr h2⟩
        · rintro (rfl | ⟨h1, rfl | h2⟩)
          · exact .inl rfl
          · exact absurd rfl h1
          · exact .inr h2
      · next e =>
        have hka := bs_tri hlt e
        have hno : getH ((a, vs) :: t) k = [] := getH_no (fun hm => by
          obtain ⟨q, hq, e2⟩ := List.mem_map.1 hm
          rcases List.mem_cons.1 hq with rfl | hq
          · exact e e2
          · have := bs_lt_trans hka (h.1 q hq)
            rw [e2] at this
            exact bs_lt_irrefl _ this)
        rw [hno, List.nil_append, List.mem_cons]
        constructor
        · rintro (rfl | h2)
          · exact .inl rfl
          · refine .inr ⟨fun e2 => ?_, h2⟩
            rcases List.mem_cons.1 h2 with rfl | h3
            · exact e e2
            · have := bs_lt_trans hka (h.1 p h3)
              rw [e2] at this
              exact bs_lt_irrefl _ this
        · rintro (rfl | ⟨h1, h2⟩)
          · exact .inl rfl
          · exact .inr h2

theorem getH_heads {H : AL} (hnd : (H.map Prod.fst).Nodup) (k : BS) : getH (headsOf H) k = getH H k := by
  have hnd2 : ((headsOf H).map Prod.fst).Nodup := by
    have : (headsOf H).map Prod.fst = sortK (H.map Prod.fst) := by simp [headsOf, List.map_map, Function.comp_def]
    rw [this]
    exact (sortK_perm _).nodup_iff.2 hnd
  by_cases h : k ∈ H.map Prod.fst
  · obtain ⟨q, hq, rfl⟩ := List.mem_map.1 h
    rw [getH_of_mem hnd (show (q.1, q.2) ∈ H from hq)]
    exact getH_of_mem hnd2 ((mem_headsOf hnd _).2 hq)
  · rw [getH_no h]
    refine getH_no fun hm => h ?_
    obtain ⟨q, hq, e⟩ := List.mem_map.1 hm
    exact List.mem_map.2 ⟨q, (mem_headsOf hnd _).1 hq, e⟩

theorem headsOf_add {H : AL} (hnd : (H.map Prod.fst).Nodup) (k v : BS) : headsOf (addH H k v) = hrAdd (headsOf H) k v := by
  have hnd2 := putH_nodup hnd k (getH H k ++ [v])
  refine sorted_ext (headsOf_sorted hnd2) (hrAdd_sorted (headsOf_sorted hnd) k v) fun p => ?_
  unfold addH
  rw [mem_headsOf hnd2, mem_putH hnd, mem_hrAdd (headsOf_sorted hnd), getH_heads hnd, mem_headsOf hnd]

/-- names that both turn alike -/
theorem headsOf_fold (l : List (BS × BS)) (h : ∀ p ∈ l, tokAll p.1 = true) : headsOf (trFold l) = hrFold l := by
  have go : ∀ (l : List (BS × BS)) (H S : AL), (∀ p ∈ l, tokAll p.1 = true) → (H.map Prod.fst).Nodup → headsOf H = S → headsOf (l.foldl (fun H p => addH H (canonL p.1) p.2) H) = l.foldl (fun H p => hrAdd H (canonOut p.1) p.2) S := by
    intro l
    induction l with
    | nil => intro H S _ _ h; exact h
    | cons p t ih =>
      intro H S hl hnd hHS
      simp only [List.foldl_cons]
      refine ih _ _ (fun q hq => hl q (List.mem_cons_of_mem _ hq)) (putH_nodup hnd _ _) ?_
      rw [headsOf_add hnd, hHS]
      have : canonL p.1 = canonOut p.1 := by unfold canonL; rw [hl p List.mem_cons_self]; rfl
      rw [this]
  exact go l [] [] h (by simp) (by simp [headsOf, sortK])
end Go.Proofs.YtgcfnhchmmkndaaGreatDoor
