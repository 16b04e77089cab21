/- spec.sfText.member at a list in parentheses. -/
import Derived.Test.YtdgpfgbocacgeaaDoorP10
namespace Go.Proofs.YtdgpfgbocacgeaaDoor
open Go.RowKit
set_option linter.unusedVariables false

def MemAt (t R : Nat) (s : ByteArray) (o : Bool) (w wr : World) : Prop :=
  ∃ (s' : ByteArray) (o' : Bool), Tx wr t s' o' ∧ w.grownBy wr (some t) ∧ Pr wr R (iv 0) (iv 0) ∧ s'.size < s.size ∧ (o = true → o' = true) ∧ ∃ b, s.data.toList = 40 :: (b ++ s'.data.toList) ∧ Inner b ∧ (b = [] ∨ (∃ b', b = b' ++ [32]) ∨ headB s' = 32 ∨ headB s' = 41)

theorem inner_sp (l : List UInt8) : ∀ r, (∀ x ∈ l, x = 32) → Inner r → Inner (r ++ l) := by
  induction l with
  | nil => intro r _ k; simpa using k
  | cons x l ih =>
    intro r h k
    obtain rfl := h x (by simp)
    have := ih (r ++ [32]) (fun y hy => h y (by simp [hy])) (.sp _ k)
    simpa using this

theorem inner_before {b sp c r : List UInt8} {s' s2 : ByteArray} {k n : Int} (hb : b = [] ∨ (∃ b', b = b' ++ [32]) ∨ headB s' = 32 ∨ headB s' = 41) (hsp : ∀ x ∈ sp, x = 32) (e : s'.data.toList = sp ++ s2.data.toList)
    (h41 : headB s2 ≠ 41) (e2 : s2.data.toList = c ++ r) (hc : ItemIs c k n) : b ++ sp = [] ∨ ∃ r', b ++ sp = r' ++ [32] := by
  rcases sp with _ | ⟨x, l⟩
  · have hh : headB s' = headB s2 := by simp [headB, e]
    rw [List.append_nil]
    rcases hb with h | h | h | h
    · exact .inl h
    · exact .inr h
    · exfalso
      rcases c with _ | ⟨y, q⟩
      · exact hc.ne_nil
      · have : headB s2 = y := by simp [headB, e2]
        exact hc.ne32 (by rw [← this, ← hh, h])
    · exact absurd (hh.symm.trans h) h41
  · refine .inr ⟨b ++ (x :: l).dropLast, ?_⟩
    have h1 := List.dropLast_concat_getLast (l := x :: l) (by simp)
    have h2 := hsp _ (List.getLast_mem (l := x :: l) (by simp))
    rw [h2] at h1
    rw [List.append_assoc, h1]

set_option maxHeartbeats 4000000 in
set_option maxRecDepth 100000 in
theorem member_list (t : Nat) (s : ByteArray) (o : Bool) (w : World) (T : Tx w t s o) (hs : s.size ≤ 2147483647) (hh : headB s = 40) : Calls Tryd.prog 10 #[.pointer (some ⟨t, 0, none⟩)] w (MemberPost w t s o) := by
  have HT : Tx (w.alloc (.cells #[iv 0, iv 0] 33)) t s o := T.below (below_new w _)
  have HR : Pr (w.alloc (.cells #[iv 0, iv 0] 33)) w.heap.size (iv 0) (iv 0) := Pr.new w _ _ _
  have ht : t ≠ w.heap.size := by have := T.lt; omega
  have hg0 : w.grownBy (w.alloc (.cells #[iv 0, iv 0] 33)) (some t) := World.grownBy_alloc _ _ _
  have f1 : (((headB s).toNat : Int) != 40) = false := by rw [hh]; rfl
  obtain ⟨r, hr⟩ := head_cons hh (by decide)
  have g1 := cons_size hr
  have g2 := cons_ne hr
  have g3 := cons_toList hr
  have g4 := cons_isEmpty hr
  have g5 := cons_less hr
  have HS : Hid (s.data.toList = 40 :: ([] ++ (s.extract 1 s.size).data.toList)) := Lib.hid (by rw [cons_rest hr]; exact hr)
  clear hr hh
  have T1 := HT.sets (s.extract 1 s.size)
  have R1 := HR.other (p := ⟨t, 0, none⟩) (.string (s.extract 1 s.size)) ht
  have G1 := hg0.trans (grown_set (w.alloc (.cells #[iv 0, iv 0] 33)) t 0 (.string (s.extract 1 s.size)))
  obtain ⟨s0, o0, fs, fo, lt⟩ := id HT
  go_enter Tryd.func10, Tryd.ntmps10
  go_wp2_with fail
  refine (at_at t s o _ HT).mono ?_
  rintro e w' ⟨rfl, hw'⟩
  subst hw'
  clear HR hg0
  go_wp2_with fail
  go_loopw [31] (fun _ wr => MemAt t w.heap.size s o w wr) (fun _ wr => textLen t wr)
  case atStart => exact ⟨_, o, T1, G1, R1, g5, id, ⟨[], HS.out, .nil, .inl rfl⟩⟩
  case round =>
    clear s0 o0 fs fo lt HT T1 R1 G1
    obtain ⟨s', o', T', g', R', hlt, ho, hb⟩ := hrel
    rw [T'.len]
    have HT' := Lib.hid T'
    have HR' := Lib.hid R'
    have HG := Lib.hid g'
    have HO := Lib.hid ho
    have HB := Lib.hid hb
    obtain ⟨s0, o0, fs, fo, lt⟩ := T'
    obtain ⟨c0, c1, q0, q1, ql⟩ := R'
    clear g' ho hb
    rcases h' : s'.data.toList with _ | ⟨x, r'⟩
    · obtain rfl := nil_empty h'
      clear h'
      go_wp2_with fail
      have z0 := two_0 wr w.heap.size (iv 0) (iv 0) _ c0
      have z1 := two_1 wr w.heap.size (iv 0) (iv 0) _ c1
      exact ⟨rfl, _, (show _ = Result.ok (.tuple #[.agg #[iv 0, iv 0], .bool false]) _ by simp [results, Tryd.results10, go_sem, z0, z1]), 0, 0, false, _, o', rfl, (HT'.out.other _ (Ne.symm ht)).other _ (Ne.symm ht), grown_new (grown_new HG.out _ (Nat.le_refl _)) _ (Nat.le_refl _), HO.out, fun h => by cases h⟩
    · have k1 := cons_size h'
      have k2 := cons_ne h'
      have k3 := cons_toList h'
      have k4 := cons_isEmpty h'
      clear h'
      go_wp2_with fail
      refine (skip_at t false s' o' _ HT'.out).mono ?_
      rintro e W ⟨rfl, s2, sp, T2, g2, e2, hsp⟩
      have HG2 := Lib.hid (HG.out.trans g2)
      have HR2 := Lib.hid (pr_grown HR'.out g2 (Ne.symm ht))
      have z2 : s2.size ≤ s'.size := by
        have q1 := len_eq s2
        have q2 := len_eq s'
        rw [e2, List.length_append] at q2
        omega
      have HE2 := Lib.hid e2
      have HSP := Lib.hid hsp
      clear g2 e2 hsp s0 o0 fs fo lt c0 c1 q0 q1 ql HT' HG HR'
      go_wp2_with fail
      refine (at_at t s2 o' _ T2).mono ?_
      rintro e w2 ⟨rfl, hw2⟩
      obtain rfl := hw2.symm
      obtain ⟨c0, c1, q0, q1, ql⟩ := id HR2.out
      by_cases h41 : headB s2 = 41
      · have f2 : (((headB s2).toNat : Int) == 41) = true := by rw [h41]; rfl
        obtain ⟨r4, hr4⟩ := head_cons h41 (by decide)
        have m1 := cons_size hr4
        have m2 := cons_ne hr4
        have m3 := cons_toList hr4
        have m4 := cons_isEmpty hr4
        have m5 := cons_less hr4
        have H4 : Hid (s2.data.toList = 41 :: (s2.extract 1 s2.size).data.toList) := Lib.hid (by rw [cons_rest hr4]; exact hr4)
        clear hr4 h41
        obtain ⟨s0, o0, fs, fo, lt⟩ := id T2
        go_wp2_with fail
        have T4 := T2.sets (s2.extract 1 s2.size)
        have G4 := HG2.out.trans (grown_set W t 0 (.string (s2.extract 1 s2.size)))
        have R4 := HR2.out.other (p := ⟨t, 0, none⟩) (.string (s2.extract 1 s2.size)) ht
        refine (params_at t (s2.extract 1 s2.size) o' _ T4 (by omega)).mono ?_
        rintro e W5 ⟨is5, s5, o5, rfl, T5, g5', ho5, hp5⟩
        have G5 := G4.trans g5'
        obtain ⟨d0, d1, d2, d3, d4⟩ := pr_grown R4 g5' (Ne.symm ht)
        have HP5 := Lib.hid hp5
        have HO5 := Lib.hid ho5
        clear hp5 ho5 c0 c1 q0 q1 ql s0 o0 fs fo lt T4 G4 R4 g5'
        go_wp2_with fail
        have z0 := two_0 W5 w.heap.size (iv 0) (iv 0) _ d0
        have z1 := two_1 W5 w.heap.size (iv 0) (iv 0) _ d1
        refine ⟨rfl, _, (show _ = Result.ok (.tuple #[.agg #[iv 0, iv 0], .bool is5]) _ by simp [results, Tryd.results10, go_sem, z0, z1]), 0, 0, is5, s5, o5, rfl, (T5.other _ (Ne.symm ht)).other _ (Ne.symm ht),
          grown_new (grown_new G5 _ (Nat.le_refl _)) _ (Nat.le_refl _), fun h => HO5.out (HO.out h), fun h => ?_⟩
        obtain ⟨u1, u2, u3⟩ := HP5.out h
        refine ⟨by omega, u2, ?_⟩
        obtain ⟨b, e1, hb, _⟩ := HB.out
        obtain ⟨p, e5, hp⟩ := u3
        exact ⟨40 :: ((b ++ sp) ++ 41 :: p), by rw [e1, HE2.out, H4.out, e5]; simp, .inr ⟨rfl, b ++ sp, p, rfl, inner_sp sp b (fun x hx => (HSP.out x hx).elim id fun h => by cases h.1) hb, hp⟩⟩
      · have f2 : (((headB s2).toNat : Int) == 41) = false := eq_false (c := 41) h41
        go_wp2_with fail
        refine (item_at t s2 o' _ T2 (by omega)).mono ?_
        rintro e W4 ⟨k, n, is, s5, o5, rfl, T5, g5', ho5, hi⟩
        have hR4 := pr_grown HR2.out g5' (Ne.symm ht)
        have G5 := (HG2.out.trans g5').trans (World.grownBy_alloc W4 (.cells #[iv k, iv n] 33) _)
        have T6 := T5.below (below_new W4 (.cells #[iv k, iv n] 33))
        have R6 := hR4.below (below_new W4 (.cells #[iv k, iv n] 33))
        have HI := Lib.hid hi
        have HO5 := Lib.hid ho5
        have HT5 := Lib.hid T5
        have HG5 := Lib.hid (HG2.out.trans g5')
        clear hi ho5 c0 c1 q0 q1 ql g5' T5
        cases is
        · obtain ⟨d0, d1, d2, d3, d4⟩ := id hR4
          go_wp2_with fail
          have z0 := cell?_alloc_old (.cells #[iv k, iv n] 33) (two_0 W4 w.heap.size (iv 0) (iv 0) _ d0)
          have z1 := cell?_alloc_old (.cells #[iv k, iv n] 33) (two_1 W4 w.heap.size (iv 0) (iv 0) _ d1)
          exact ⟨rfl, _, (show _ = Result.ok (.tuple #[.agg #[iv 0, iv 0], .bool false]) _ by simp [results, Tryd.results10, go_sem, z0, z1]), 0, 0, false, s5, o5, rfl, ((HT5.out.other _ (Ne.symm ht)).other _ (Ne.symm ht)).below (below_new _ _),
            (grown_new (grown_new HG5.out _ (Nat.le_refl _)) _ (Nat.le_refl _)).trans (World.grownBy_alloc _ _ _), fun h => HO5.out (HO.out h), fun h => by cases h⟩
        · have HI2 := Lib.hid (HI.out rfl)
          clear HI hR4
          go_wp2_with fail
          refine (params_at t s5 o5 _ T6 (by have := HI2.out.1; omega)).mono ?_
          rintro e W7 ⟨is7, s7, o7, rfl, T7, g7, ho7, hp7⟩
          have G7 := G5.trans g7
          have R7 := pr_grown R6 g7 (Ne.symm ht)
          have HP7 := Lib.hid hp7
          have HO7 := Lib.hid ho7
          clear hp7 ho7 g7 T6 R6 G5
          obtain ⟨d0, d1, d2, d3, d4⟩ := id R7
          cases is7
          · go_wp2_with fail
            have z0 := two_0 W7 w.heap.size (iv 0) (iv 0) _ d0
            have z1 := two_1 W7 w.heap.size (iv 0) (iv 0) _ d1
            exact ⟨rfl, _, (show _ = Result.ok (.tuple #[.agg #[iv 0, iv 0], .bool false]) _ by simp [results, Tryd.results10, go_sem, z0, z1]), 0, 0, false, s7, o7, rfl, (T7.other _ (Ne.symm ht)).other _ (Ne.symm ht),
              grown_new (grown_new G7 _ (Nat.le_refl _)) _ (Nat.le_refl _), fun h => HO7.out (HO5.out (HO.out h)), fun h => by cases h⟩
          · have HP8 := Lib.hid (HP7.out rfl)
            clear HP7
            go_wp2_with fail
            refine (at_at t s7 o7 _ T7).mono ?_
            rintro e w2 ⟨rfl, hw2⟩
            obtain rfl := hw2.symm
            have hgo : headB s7 = 32 ∨ headB s7 = 41 → MemAt t w.heap.size s o w W7 ∧ textLen t W7 < s'.size := by
              intro hs7
              have y1 := HP8.out.1
              have y2 := HI2.out.1
              refine ⟨⟨s7, o7, T7, G7, R7, by omega, fun h => HO7.out (HO5.out (HO.out h)), ?_⟩, by rw [T7.len]; omega⟩
              obtain ⟨b, e1, hb, hb2⟩ := HB.out
              obtain ⟨c, e5, hc⟩ := HI2.out.2
              obtain ⟨p, e7, hp⟩ := HP8.out.2.2
              have hsp : ∀ x ∈ sp, x = 32 := fun x hx => (HSP.out x hx).elim id fun h => by cases h.1
              exact ⟨(b ++ sp) ++ (c ++ p), by rw [e1, HE2.out, e5, e7]; simp, .item _ c p k n (inner_sp sp b hsp hb) (inner_before hb2 hsp HE2.out h41 e5 hc) hc hp, .inr (.inr hs7)⟩
            have HGO := Lib.hid hgo
            clear hgo
            by_cases y32 : headB s7 = 32
            · have v1 : (((headB s7).toNat : Int) != 32) = false := by rw [y32]; rfl
              go_wp2_with fail
              exact HGO.out (.inl y32)
            have v1 : (((headB s7).toNat : Int) != 32) = true := ne_true (c := 32) y32
            by_cases y41 : headB s7 = 41
            · have v2 : (((headB s7).toNat : Int) != 41) = false := by rw [y41]; rfl
              go_wp2_with fail
              exact HGO.out (.inr y41)
            have v2 : (((headB s7).toNat : Int) != 41) = true := ne_true (c := 41) y41
            go_wp2_with fail
            have z0 := two_0 W7 w.heap.size (iv 0) (iv 0) _ d0
            have z1 := two_1 W7 w.heap.size (iv 0) (iv 0) _ d1
            exact ⟨rfl, _, (show _ = Result.ok (.tuple #[.agg #[iv 0, iv 0], .bool false]) _ by simp [results, Tryd.results10, go_sem, z0, z1]), 0, 0, false, s7, o7, rfl, (T7.other _ (Ne.symm ht)).other _ (Ne.symm ht),
              grown_new (grown_new G7 _ (Nat.le_refl _)) _ (Nat.le_refl _), fun h => HO7.out (HO5.out (HO.out h)), fun h => by cases h⟩

theorem member_at (t : Nat) (s : ByteArray) (o : Bool) (w : World) (T : Tx w t s o) (hs : s.size ≤ 2147483647) : Calls Tryd.prog 10 #[.pointer (some ⟨t, 0, none⟩)] w (MemberPost w t s o) := by
  by_cases h : headB s = 40
  · exact member_list t s o w T hs h
  · exact member_item t s o w T hs h
end Go.Proofs.YtdgpfgbocacgeaaDoor
