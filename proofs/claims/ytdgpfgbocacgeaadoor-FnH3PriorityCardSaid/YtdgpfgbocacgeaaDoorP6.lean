/- spec.sfText.item at a truth value, and at a sign that begins no item. -/
import Derived.Test.YtdgpfgbocacgeaaDoorP5
namespace Go.Proofs.YtdgpfgbocacgeaaDoor
open Go.RowKit
set_option linter.unusedVariables false

theorem head_cons {s : ByteArray} {c : UInt8} (h : headB s = c) (h0 : c ≠ 0) : ∃ r, s.data.toList = c :: r := by
  rcases hs : s.data.toList with _ | ⟨x, r⟩
  · exfalso
    simp [headB, hs] at h
    exact h0 h.symm
  · simp [headB, hs] at h
    exact ⟨r, by rw [h]⟩
theorem cons_get1 {s : ByteArray} {c y : UInt8} {r : List UInt8} (h : s.data.toList = c :: y :: r) (h' : 1 < s.size) : s[1]'h' = y := by
  rw [← get_eq s 1 h']
  simp [h]
theorem cons_size1 {s : ByteArray} {c y : UInt8} {r : List UInt8} (h : s.data.toList = c :: y :: r) : 1 < s.size := by rw [← len_eq, h]; simp

theorem eq_false {a c : UInt8} (h : a ≠ c) : ((a.toNat : Int) == (c.toNat : Int)) = false := (u8_eq a c).trans (by simpa using h)
theorem ne_true {a c : UInt8} (h : a ≠ c) : ((a.toNat : Int) != (c.toNat : Int)) = true := by unfold bne; rw [eq_false h]; rfl

set_option maxHeartbeats 1000000 in
set_option maxRecDepth 100000 in
theorem item_bool (t : Nat) (s : ByteArray) (o : Bool) (w : World) (T : Tx w t s o) (hs : s.size ≤ 2147483647) (hh : headB s = 63) :
    Calls Tryd.prog 18 #[.pointer (some ⟨t, 0, none⟩)] w (ItemPost w t s o) := by
  have HT : Tx (w.alloc (.cells #[iv 0, iv 0] 33)) t s o := T.below (below_new w _)
  have HR : Pr (w.alloc (.cells #[iv 0, iv 0] 33)) w.heap.size (iv 0) (iv 0) := Pr.new w _ _ _
  have ht : t ≠ w.heap.size := by have := T.lt; omega
  have hg0 : w.grownBy (w.alloc (.cells #[iv 0, iv 0] 33)) (some t) := World.grownBy_alloc _ _ _
  obtain ⟨r, hr⟩ := head_cons hh (by decide)
  have hd : isDigit (headB s) = false := by rw [hh]; rfl
  have ha : isAlpha (headB s) = false := by rw [hh]; rfl
  have f1 : (((headB s).toNat : Int) == 45) = false := by rw [hh]; rfl
  have f2 : (((headB s).toNat : Int) == 34) = false := by rw [hh]; rfl
  have f3 : (((headB s).toNat : Int) == 42) = false := by rw [hh]; rfl
  have f4 : (((headB s).toNat : Int) == 63) = true := by rw [hh]; rfl
  have g1 := cons_size hr
  have HD := Lib.hid hd
  have HA := Lib.hid ha
  have HH := Lib.hid hr
  clear hd ha hh
  have HX := HT
  obtain ⟨s0, o0, fs, fo, lt⟩ := HX
  go_enter Tryd.func18, Tryd.ntmps18
  go_wp2_with fail
  refine (at_at t s o _ HT).mono ?_
  rintro e w' ⟨rfl, hw'⟩
  subst hw'
  go_wp2_with fail
  refine (digit_at _ _).mono ?_
  rintro e w' ⟨rfl, hw'⟩
  subst hw'
  rw [HD.out]
  go_wp2_with fail
  refine (alpha_at _ _).mono ?_
  rintro e w' ⟨rfl, hw'⟩
  subst hw'
  rw [HA.out]
  have z := HR
  obtain ⟨c0, c1, q0, q1, ql⟩ := z
  rcases r with _ | ⟨y, r⟩
  · have k1 : decide ((s.size : Int) < 2) = true := decide_eq_true (by have := len_eq s; rw [hr] at this; simp at this; omega)
    clear hr
    go_wp2_with fail
    exact ⟨rfl, _, (show _ = Result.ok (.tuple #[.agg #[iv 0, iv 0], .bool false]) _ by simp [results, Tryd.results18, go_sem]), 0, 0, false, s, o, rfl, HT, hg0, id, fun h => by cases h⟩
  · have k0 := cons_size1 hr
    have k1 : decide ((s.size : Int) < 2) = false := decide_eq_false (by omega)
    have k2 := cons_get1 hr k0
    clear hr
    by_cases h48 : y = 48
    · have k3 : ((y.toNat : Int) != 48) = false := by rw [h48]; rfl
      have k4 : (y.toNat : Int) = 48 := by rw [h48]; rfl
      go_wp2_with fail
      have H2 := HT.sets (s.extract 2 s.size)
      have R2 := HR.other (p := ⟨t, 0, none⟩) (.string (s.extract 2 s.size)) ht
      have G2 := hg0.trans (grown_set (w.alloc (.cells #[iv 0, iv 0] 33)) t 0 (.string (s.extract 2 s.size)))
      have z0 := two_0 _ w.heap.size (iv 2) (iv 0) _ R2.c0
      have z1 := two_1 _ w.heap.size (iv 2) (iv 0) _ R2.c1
      have e2 : (s.extract 2 s.size).data.toList = r := by rw [drop_eq, HH.out]; rfl
      have e3 := len_eq (s.extract 2 s.size)
      have e4 := len_eq s
      rw [e2] at e3
      rw [HH.out] at e4
      simp only [List.length_cons] at e4
      clear c0 c1 q0 q1
      exact ⟨rfl, _, (show _ = Result.ok (.tuple #[.agg #[iv 2, iv 0], .bool true]) _ by simp [results, Tryd.results18, go_sem, z0, z1]), item_end 2 0 true H2 G2 ht id fun _ => ⟨by omega, ⟨[63, 48], by rw [HH.out, e2, h48]; rfl, .inr (.inr (.inr ⟨rfl, .inl ⟨rfl, rfl⟩⟩))⟩⟩⟩
    · have k3 : ((y.toNat : Int) != 48) = true := ne_true (c := 48) h48
      by_cases h49 : y = 49
      · have k4 : ((y.toNat : Int) != 49) = false := by rw [h49]; rfl
        have k5 : (y.toNat : Int) = 49 := by rw [h49]; rfl
        go_wp2_with fail
        have H2 := HT.sets (s.extract 2 s.size)
        have R2 := HR.other (p := ⟨t, 0, none⟩) (.string (s.extract 2 s.size)) ht
        have G2 := hg0.trans (grown_set (w.alloc (.cells #[iv 0, iv 0] 33)) t 0 (.string (s.extract 2 s.size)))
        have z0 := two_0 _ w.heap.size (iv 2) (iv 1) _ R2.c0
        have z1 := two_1 _ w.heap.size (iv 2) (iv 1) _ R2.c1
        have e2 : (s.extract 2 s.size).data.toList = r := by rw [drop_eq, HH.out]; rfl
        have e3 := len_eq (s.extract 2 s.size)
        have e4 := len_eq s
        rw [e2] at e3
        rw [HH.out] at e4
        simp only [List.length_cons] at e4
        clear c0 c1 q0 q1
        exact ⟨rfl, _, (show _ = Result.ok (.tuple #[.agg #[iv 2, iv 1], .bool true]) _ by simp [results, Tryd.results18, go_sem, z0, z1]), item_end 2 1 true H2 G2 ht id fun _ => ⟨by omega, ⟨[63, 49], by rw [HH.out, e2, h49]; rfl, .inr (.inr (.inr ⟨rfl, .inr ⟨rfl, rfl⟩⟩))⟩⟩⟩
      · have k4 : ((y.toNat : Int) != 49) = true := ne_true (c := 49) h49
        go_wp2_with fail
        exact ⟨rfl, _, (show _ = Result.ok (.tuple #[.agg #[iv 0, iv 0], .bool false]) _ by simp [results, Tryd.results18, go_sem]), 0, 0, false, s, o, rfl, HT, hg0, id, fun h => by cases h⟩
end Go.Proofs.YtdgpfgbocacgeaaDoor
