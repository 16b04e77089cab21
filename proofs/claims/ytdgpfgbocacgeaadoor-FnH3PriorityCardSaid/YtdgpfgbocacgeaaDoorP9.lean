/- spec.sfText.item, params. -/
import Derived.Test.YtdgpfgbocacgeaaDoorP8
namespace Go.Proofs.YtdgpfgbocacgeaaDoor
open Go.RowKit
set_option linter.unusedVariables false

theorem item_at (t : Nat) (s : ByteArray) (o : Bool) (w : World) (T : Tx w t s o) (hs : s.size ≤ 2147483647) : Calls Tryd.prog 18 #[.pointer (some ⟨t, 0, none⟩)] w (ItemPost w t s o) := by
  by_cases h45 : headB s = 45
  · exact item_number t s o w T hs (.inl h45)
  by_cases hd : isDigit (headB s) = true
  · exact item_number t s o w T hs (.inr hd)
  have hd' : isDigit (headB s) = false := by simpa using hd
  by_cases h34 : headB s = 34
  · exact item_string t s o w T h34
  by_cases h42 : headB s = 42
  · exact item_token t s o w T h45 hd' h34 (.inl h42)
  by_cases ha : isAlpha (headB s) = true
  · exact item_token t s o w T h45 hd' h34 (.inr ha)
  by_cases h63 : headB s = 63
  · exact item_bool t s o w T hs h63
  exact item_none t s o w T h45 hd' h34 h42 (by simpa using ha) h63

/-- parameters: each a semicolon, spaces, a key, and perhaps an item -/
inductive Params : List UInt8 → Prop
  | nil : Params []
  | key (sp k : List UInt8) (r : List UInt8) : (∀ x ∈ sp, x = 32) → (∀ x ∈ k, keyCh x = true) → k ≠ [] → Params r → Params (59 :: (sp ++ k ++ r))
  | item (sp k c : List UInt8) (n m : Int) (r : List UInt8) : (∀ x ∈ sp, x = 32) → (∀ x ∈ k, keyCh x = true) → k ≠ [] → ItemIs c n m → Params r → Params (59 :: (sp ++ k ++ 61 :: (c ++ r)))

theorem Params.append {a b : List UInt8} (h : Params a) (k : Params b) : Params (a ++ b) := by
  induction h with
  | nil => exact k
  | key sp kk r h1 h2 h3 _ ih => simpa using Params.key sp kk _ h1 h2 h3 ih
  | item sp kk c n m r h1 h2 h3 h4 _ ih => simpa using Params.item sp kk c n m _ h1 h2 h3 h4 ih

def ParamsAt (t : Nat) (s : ByteArray) (o : Bool) (w wr : World) : Prop :=
  ∃ (s' : ByteArray) (o' : Bool), Tx wr t s' o' ∧ w.grownBy wr (some t) ∧ s'.size ≤ s.size ∧ (o = true → o' = true) ∧ ∃ c, s.data.toList = c ++ s'.data.toList ∧ Params c

def ParamsPost (w : World) (t : Nat) (s : ByteArray) (o : Bool) (e : Ending) (w' : World) : Prop :=
  ∃ (is : Bool) (s' : ByteArray) (o' : Bool), e = .returned (.bool is) ∧ Tx w' t s' o' ∧ w.grownBy w' (some t) ∧ (o = true → o' = true) ∧
    (is = true → s'.size ≤ s.size ∧ headB s' ≠ 59 ∧ ∃ c, s.data.toList = c ++ s'.data.toList ∧ Params c)

theorem params_step {t : Nat} {s s' s5 : ByteArray} {o o' o5 : Bool} {w W : World} (T5 : Tx W t s5 o5) (G5 : w.grownBy W (some t)) (hle : s'.size ≤ s.size) (hlt : s5.size < s'.size) (ho : o = true → o' = true) (ho5 : o' = true → o5 = true)
    (hp : ∃ c, s.data.toList = c ++ s'.data.toList ∧ Params c) (hq : ∃ q, s'.data.toList = q ++ s5.data.toList ∧ Params q) : ParamsAt t s o w W ∧ textLen t W < s'.size := by
  refine ⟨⟨s5, o5, T5, G5, by omega, fun h => ho5 (ho h), ?_⟩, by rw [T5.len]; exact hlt⟩
  obtain ⟨c, e1, p1⟩ := hp
  obtain ⟨q, e2, p2⟩ := hq
  exact ⟨c ++ q, by rw [e1, e2]; simp, p1.append p2⟩

set_option maxHeartbeats 4000000 in
set_option maxRecDepth 100000 in
theorem params_at (t : Nat) (s : ByteArray) (o : Bool) (w : World) (T : Tx w t s o) (hs : s.size ≤ 2147483647) : Calls Tryd.prog 11 #[.pointer (some ⟨t, 0, none⟩)] w (ParamsPost w t s o) := by
  go_enter Tryd.func11, Tryd.ntmps11
  go_wp2_with fail
  go_loopw [7] (fun _ wr => ParamsAt t s o w wr) (fun _ wr => textLen t wr)
  case atStart => exact ⟨s, o, T, grown_refl _ _, Nat.le_refl _, id, ⟨[], rfl, .nil⟩⟩
  case round =>
    obtain ⟨s', o', T', g', hle, ho, hp⟩ := hrel
    rw [T'.len]
    have HG := Lib.hid g'
    have HO := Lib.hid ho
    have HP := Lib.hid hp
    clear g' ho hp
    go_wp2_with fail
    refine (at_at t s' o' _ T').mono ?_
    rintro e w2 ⟨rfl, hw2⟩
    obtain rfl := hw2.symm
    by_cases h59 : headB s' = 59
    · have f1 : (((headB s').toNat : Int) == 59) = true := by rw [h59]; rfl
      obtain ⟨r, hr⟩ := head_cons h59 (by decide)
      have k1 := cons_size hr
      have k2 := cons_ne hr
      have k3 := cons_toList hr
      have k4 := cons_isEmpty hr
      have k5 := cons_less hr
      have H1 : Hid (s'.data.toList = 59 :: (s'.extract 1 s'.size).data.toList) := Lib.hid (by rw [cons_rest hr]; exact hr)
      clear hr
      obtain ⟨s0, o0, fs, fo, lt⟩ := id T'
      go_wp2_with fail
      have T1 := T'.sets (s'.extract 1 s'.size)
      have G1 := HG.out.trans (grown_set wr t 0 (.string (s'.extract 1 s'.size)))
      refine (skip_at t false (s'.extract 1 s'.size) o' _ T1).mono ?_
      rintro e W ⟨rfl, s2, sp, T2, g2, e2, hsp⟩
      have HG2 := Lib.hid (G1.trans g2)
      have HE2 := Lib.hid e2
      have HSP := Lib.hid hsp
      have z2 : s2.size ≤ (s'.extract 1 s'.size).size := by
        have q1 := len_eq s2
        have q2 := len_eq (s'.extract 1 s'.size)
        rw [e2, List.length_append] at q2
        omega
      clear T1 G1 g2 e2 hsp s0 o0 fs fo lt T' HG
      go_wp2_with fail
      refine (key_at t s2 o' _ T2 (by omega)).mono ?_
      rintro e W2 ⟨kk, is, s3, rfl, T3, g3, hk⟩
      have HG3 := Lib.hid (HG2.out.trans g3)
      have HK := Lib.hid hk
      clear g3 hk HG2 T2
      cases is
      · go_wp2_with fail
        go_ret
        exact ⟨false, s3, o', rfl, T3, HG3.out, HO.out, fun h => by cases h⟩
      · obtain ⟨e3, hkc, c3, r3, hc3, _⟩ := HK.out rfl
        have hkne : kk.data.toList ≠ [] := by rw [hc3]; simp
        have z3 : s3.size < s2.size := by
          have q1 := len_eq s2
          have q2 := len_eq s3
          rw [e3, hc3] at q1
          simp at q1
          omega
        have E3 : Hid (s'.data.toList = 59 :: (sp ++ kk.data.toList ++ s3.data.toList)) := Lib.hid (by rw [H1.out, HE2.out, e3]; simp)
        have HKC := Lib.hid hkc
        have HKN := Lib.hid hkne
        clear e3 hkc hc3 hkne
        go_wp2_with fail
        refine (at_at t s3 o' _ T3).mono ?_
        rintro e w3 ⟨rfl, hw3⟩
        obtain rfl := hw3.symm
        by_cases h61 : headB s3 = 61
        · have f2 : (((headB s3).toNat : Int) == 61) = true := by rw [h61]; rfl
          obtain ⟨r4, hr4⟩ := head_cons h61 (by decide)
          have m1 := cons_size hr4
          have m2 := cons_ne hr4
          have m3 := cons_toList hr4
          have m4 := cons_isEmpty hr4
          have m5 := cons_less hr4
          have H4 : Hid (s3.data.toList = 61 :: (s3.extract 1 s3.size).data.toList) := Lib.hid (by rw [cons_rest hr4]; exact hr4)
          clear hr4 h61
          obtain ⟨s0, o0, fs, fo, lt⟩ := id T3
          go_wp2_with fail
          have T4 := T3.sets (s3.extract 1 s3.size)
          have G4 := HG3.out.trans (grown_set W2 t 0 (.string (s3.extract 1 s3.size)))
          refine (item_at t (s3.extract 1 s3.size) o' _ T4 (by omega)).mono ?_
          rintro e W4 ⟨k, n, is, s5, o5, rfl, T5, g5, ho5, hi⟩
          have G5 := (G4.trans g5).trans (World.grownBy_alloc W4 (.cells #[iv k, iv n] 33) _)
          have T6 := T5.below (below_new W4 (.cells #[iv k, iv n] 33))
          have HI := Lib.hid hi
          have HO5 := Lib.hid ho5
          clear hi ho5 s0 o0 fs fo lt T4 G4 g5 T3 HG3 T5
          cases is
          · go_wp2_with fail
            go_ret
            exact ⟨false, s5, o5, rfl, T6, G5, fun h => HO5.out (HO.out h), fun h => by cases h⟩
          · have HI2 := Lib.hid (HI.out rfl)
            clear HI
            go_wp2_with fail
            refine params_step T6 G5 hle (by have := HI2.out.1; omega) HO.out HO5.out HP.out ?_
            obtain ⟨c, e5, hc⟩ := HI2.out.2
            exact ⟨59 :: (sp ++ kk.data.toList ++ 61 :: (c ++ [])), by rw [E3.out, H4.out, e5]; simp, .item sp _ c k n [] (fun x hx => (HSP.out x hx).elim id fun h => by cases h.1) HKC.out HKN.out hc .nil⟩
        · have f2 : (((headB s3).toNat : Int) == 61) = false := eq_false (c := 61) h61
          go_wp2_with fail
          exact params_step T3 HG3.out hle (by omega) HO.out id HP.out ⟨59 :: (sp ++ kk.data.toList ++ []), by rw [E3.out]; simp, .key sp _ [] (fun x hx => (HSP.out x hx).elim id fun h => by cases h.1) HKC.out HKN.out .nil⟩
    · have f1 : (((headB s').toNat : Int) == 59) = false := eq_false (c := 59) h59
      go_wp2_with fail
      go_ret
      exact ⟨true, s', o', rfl, T', HG.out, HO.out, fun _ => ⟨hle, h59, HP.out⟩⟩
end Go.Proofs.YtdgpfgbocacgeaaDoor
