/- spec.sfText.item at a sign that begins no item; at a token. -/
import Derived.Test.YtdgpfgbocacgeaaDoorP6
namespace Go.Proofs.YtdgpfgbocacgeaaDoor
open Go.RowKit
set_option linter.unusedVariables false

set_option maxHeartbeats 1000000 in
set_option maxRecDepth 100000 in
theorem item_none (t : Nat) (s : ByteArray) (o : Bool) (w : World) (T : Tx w t s o) (h45 : headB s ≠ 45) (hd : isDigit (headB s) = false) (h34 : headB s ≠ 34) (h42 : headB s ≠ 42) (ha : isAlpha (headB s) = false) (h63 : headB s ≠ 63) :
    Calls Tryd.prog 18 #[.pointer (some ⟨t, 0, none⟩)] w (ItemPost w t s o) := by
  have HT : Tx (w.alloc (.cells #[iv 0, iv 0] 33)) t s o := T.below (below_new w _)
  have HR : Pr (w.alloc (.cells #[iv 0, iv 0] 33)) w.heap.size (iv 0) (iv 0) := Pr.new w _ _ _
  have ht : t ≠ w.heap.size := by have := T.lt; omega
  have hg0 : w.grownBy (w.alloc (.cells #[iv 0, iv 0] 33)) (some t) := World.grownBy_alloc _ _ _
  have f1 : (((headB s).toNat : Int) == 45) = false := eq_false (c := 45) h45
  have f2 : (((headB s).toNat : Int) == 34) = false := eq_false (c := 34) h34
  have f3 : (((headB s).toNat : Int) == 42) = false := eq_false (c := 42) h42
  have f4 : (((headB s).toNat : Int) == 63) = false := eq_false (c := 63) h63
  have f5 : (((headB s).toNat : Int) == 58) = (headB s == 58) := u8_eq _ 58
  have HD := Lib.hid hd
  have HA := Lib.hid ha
  clear hd ha h45 h34 h42 h63
  have HX := HT
  obtain ⟨s0, o0, fs, fo, lt⟩ := HX
  obtain ⟨c0, c1, q0, q1, ql⟩ := id HR
  cases h58 : (headB s == 58)
  all_goals
    rw [h58] at f5
    clear h58
    go_enter Tryd.func18, Tryd.ntmps18
    go_wp2_with fail
  all_goals
    refine (at_at t s o _ HT).mono ?_
    rintro e w' ⟨rfl, hw'⟩
    subst hw'
  all_goals go_wp2_with fail
  all_goals
    refine (digit_at _ _).mono ?_
    rintro e w' ⟨rfl, hw'⟩
    subst hw'
    rw [HD.out]
  all_goals go_wp2_with fail
  all_goals
    refine (alpha_at _ _).mono ?_
    rintro e w' ⟨rfl, hw'⟩
    subst hw'
    rw [HA.out]
  all_goals go_wp2_with fail
  · exact ⟨rfl, _, (show _ = Result.ok (.tuple #[.agg #[iv 0, iv 0], .bool false]) _ by simp [results, Tryd.results18, go_sem]), 0, 0, false, s, o, rfl, HT, hg0, id, fun h => by cases h⟩
  · have R2 := HR.other (p := ⟨t, 1, none⟩) (.bool true) ht
    have z0 := two_0 _ w.heap.size (iv 0) (iv 0) _ R2.c0
    have z1 := two_1 _ w.heap.size (iv 0) (iv 0) _ R2.c1
    exact ⟨rfl, _, (show _ = Result.ok (.tuple #[.agg #[iv 0, iv 0], .bool false]) _ by simp [results, Tryd.results18, go_sem, z0, z1]),
      item_end 0 0 false (HT.seto true) (hg0.trans (grown_set _ t 1 (.bool true))) ht (fun _ => rfl) fun h => by cases h⟩

/-- In the token's loop: c is read. -/
def TokAt (t R : Nat) (s : ByteArray) (o : Bool) (w wr : World) : Prop :=
  ∃ (c : List UInt8) (s' : ByteArray), Tx wr t s' o ∧ w.grownBy wr (some t) ∧ Pr wr R (iv 0) (iv 0) ∧ s.data.toList = c ++ s'.data.toList ∧ ∀ x ∈ c, tokCh x = true

theorem tok_done {s s' : ByteArray} {c : List UInt8} (hcs : s.data.toList = c ++ s'.data.toList) (hc : ∀ x ∈ c, tokCh x = true) (hh : headB s = 42 ∨ isAlpha (headB s) = true)
    (hstop : ∀ x r', s'.data.toList = x :: r' → tokCh x = false) : s'.size < s.size ∧ (∃ c, s.data.toList = c ++ s'.data.toList ∧ ItemIs c 0 0) := by
  have hne : c ≠ [] := by
    rintro rfl
    rw [List.nil_append] at hcs
    rcases hs : s'.data.toList with _ | ⟨x, r⟩
    · have h0 : headB s = 0 := by simp [headB, hcs, hs]
      rw [h0] at hh
      exact absurd hh (by decide)
    · have h0 : headB s = x := by simp [headB, hcs, hs]
      have h1 := hstop x r hs
      rw [h0] at hh
      rcases hh with h | h
      · subst h; exact absurd h1 (by decide)
      · simp [tokCh, h] at h1
  obtain ⟨y, l, rfl⟩ : ∃ y l, c = y :: l := by
    rcases c with _ | ⟨y, l⟩
    · exact absurd rfl hne
    · exact ⟨y, l, rfl⟩
  have hy : headB s = y := by simp [headB, hcs]
  rw [hy] at hh
  refine ⟨?_, _, hcs, .inr (.inr (.inl ⟨rfl, ⟨y, l, rfl, hh⟩, hc⟩))⟩
  have h1 := len_eq s
  have h2 := len_eq s'
  rw [hcs] at h1
  simp at h1
  omega

theorem tok_step {t R : Nat} {s s' : ByteArray} {o : Bool} {w wr : World} {c : List UInt8} {x : UInt8} {r' : List UInt8} (T' : Tx wr t s' o) (g : w.grownBy wr (some t)) (R' : Pr wr R (iv 0) (iv 0)) (ht : t ≠ R)
    (hcs : s.data.toList = c ++ s'.data.toList) (h' : s'.data.toList = x :: r') (hc : ∀ x ∈ c, tokCh x = true) (hx : tokCh x = true) :
    TokAt t R s o w (wr.setCell ⟨t, 0, none⟩ (.string (s'.extract 1 s'.size))) ∧ textLen t (wr.setCell ⟨t, 0, none⟩ (.string (s'.extract 1 s'.size))) < s'.size := by
  have T2 := T'.sets (s'.extract 1 s'.size)
  refine ⟨⟨c ++ [x], _, T2, g.trans (grown_set _ _ _ _), R'.other _ ht, ?_, ?_⟩, ?_⟩
  · rw [hcs, cons_rest h', h']; simp
  · intro y hy
    rcases List.mem_append.1 hy with hy | hy
    · exact hc y hy
    · obtain rfl : y = x := by simpa using hy
      exact hx
  · rw [T2.len]; exact cons_less h'

set_option maxHeartbeats 4000000 in
set_option maxRecDepth 100000 in
theorem item_token (t : Nat) (s : ByteArray) (o : Bool) (w : World) (T : Tx w t s o) (h45 : headB s ≠ 45) (hd : isDigit (headB s) = false) (h34 : headB s ≠ 34) (hh : headB s = 42 ∨ isAlpha (headB s) = true) :
    Calls Tryd.prog 18 #[.pointer (some ⟨t, 0, none⟩)] w (ItemPost w t s o) := by
  have HT : Tx (w.alloc (.cells #[iv 0, iv 0] 33)) t s o := T.below (below_new w _)
  have HR : Pr (w.alloc (.cells #[iv 0, iv 0] 33)) w.heap.size (iv 0) (iv 0) := Pr.new w _ _ _
  have ht : t ≠ w.heap.size := by have := T.lt; omega
  have hg0 : w.grownBy (w.alloc (.cells #[iv 0, iv 0] 33)) (some t) := World.grownBy_alloc _ _ _
  have f1 : (((headB s).toNat : Int) == 45) = false := eq_false (c := 45) h45
  have f2 : (((headB s).toNat : Int) == 34) = false := eq_false (c := 34) h34
  have hx : ((((headB s).toNat : Int) == 42) = true) ∨ ((((headB s).toNat : Int) == 42) = false ∧ isAlpha (headB s) = true) := by
    rcases hc : (((headB s).toNat : Int) == 42) with _ | _
    · rcases hh with h | h
      · rw [h] at hc; exact absurd hc (by decide)
      · exact .inr ⟨rfl, h⟩
    · exact .inl rfl
  have HD := Lib.hid hd
  have HH := Lib.hid hh
  clear hd hh h45 h34
  go_enter Tryd.func18, Tryd.ntmps18
  go_wp2_with fail
  refine (at_at t s o _ HT).mono ?_
  rintro e w' ⟨rfl, hw'⟩
  subst hw'
  go_wp2_with fail
  refine (digit_at _ _).mono ?_
  rintro e w' ⟨rfl, hw'⟩
  subst hw'
  rw [HD.out]
  rcases hx with f3 | ⟨f3, f4⟩
  · go_wp2_with fail
    go_loopw [95] (fun _ wr => TokAt t w.heap.size s o w wr) (fun _ wr => textLen t wr)
    case atStart => exact ⟨[], s, HT, hg0, HR, rfl, by simp⟩
    case round =>
      obtain ⟨c, s', T', g', R', hcs, b5⟩ := hrel
      rw [T'.len]
      have HT' := Lib.hid T'
      have HR' := Lib.hid R'
      have HC := Lib.hid hcs
      have HG := Lib.hid g'
      have H5 := Lib.hid b5
      obtain ⟨s0, o0, fs, fo, lt⟩ := T'
      obtain ⟨c0, c1, q0, q1, ql⟩ := R'
      clear hcs g' b5
      rcases h' : s'.data.toList with _ | ⟨x, r'⟩
      · obtain rfl := nil_empty h'
        clear h'
        go_wp2_with fail
        have z0 := two_0 wr w.heap.size (iv 0) (iv 0) _ c0
        have z1 := two_1 wr w.heap.size (iv 0) (iv 0) _ c1
        exact ⟨rfl, _, (show _ = Result.ok (.tuple #[.agg #[iv 0, iv 0], .bool true]) _ by simp [results, Tryd.results18, go_sem, z0, z1]), item_end 0 0 true HT'.out HG.out ht id fun _ => ⟨(tok_done HC.out H5.out HH.out (fun x r' h => by cases h)).1, (tok_done HC.out H5.out HH.out (fun x r' h => by cases h)).2⟩⟩
      · have f1 := cons_size h'
        have f2 := cons_ne h'
        have f3 := cons_toList h'
        have f4 := cons_isEmpty h'
        have f5 := cons_get h' f1
        have H' := Lib.hid h'
        clear h'
        go_wp2_with fail
        refine (alpha_at x _).mono ?_
        rintro e w2 ⟨rfl, hw2⟩
        obtain rfl := hw2.symm
        generalize hL : isAlpha x = b1
        have HL := Lib.hid hL
        clear hL
        cases b1
        · go_wp2_with fail
          refine (digit_at x _).mono ?_
          rintro e w2 ⟨rfl, hw2⟩
          obtain rfl := hw2.symm
          generalize hD : isDigit x = b2
          have HD2 := Lib.hid hD
          clear hD
          cases b2
          · go_wp2_with fail
            refine (among_at x ⟨tokL.toArray⟩ _ (by decide)).mono ?_
            rintro e w2 ⟨rfl, hw2⟩
            obtain rfl := hw2.symm
            have HA : Hid (contains x (ByteArray.mk tokL.toArray).data.toList = contains x tokL) := Lib.hid rfl
            rw [HA.out]
            generalize hA : contains x tokL = b3
            have HA3 := Lib.hid hA
            clear hA
            cases b3
            · go_wp2_with fail
              have z0 := two_0 wr w.heap.size (iv 0) (iv 0) _ c0
              have z1 := two_1 wr w.heap.size (iv 0) (iv 0) _ c1
              exact ⟨rfl, _, (show _ = Result.ok (.tuple #[.agg #[iv 0, iv 0], .bool true]) _ by simp [results, Tryd.results18, go_sem, z0, z1]), item_end 0 0 true HT'.out HG.out ht id fun _ => ⟨(tok_done HC.out H5.out HH.out (fun y r2 h => by rw [H'.out] at h; obtain rfl := (List.cons.inj h).1; simp [tokCh, HL.out, HD2.out, HA3.out])).1, (tok_done HC.out H5.out HH.out (fun y r2 h => by rw [H'.out] at h; obtain rfl := (List.cons.inj h).1; simp [tokCh, HL.out, HD2.out, HA3.out])).2⟩⟩
            · go_wp2_with fail
              exact tok_step HT'.out HG.out HR'.out ht HC.out H'.out H5.out (by simp [tokCh, HA3.out])
          · go_wp2_with fail
            exact tok_step HT'.out HG.out HR'.out ht HC.out H'.out H5.out (by simp [tokCh, HD2.out])
        · go_wp2_with fail
          exact tok_step HT'.out HG.out HR'.out ht HC.out H'.out H5.out (by simp [tokCh, HL.out])
  · go_wp2_with fail
    refine (alpha_at _ _).mono ?_
    rintro e w' ⟨rfl, hw'⟩
    subst hw'
    rw [f4]
    clear f4
    go_wp2_with fail
    go_loopw [95] (fun _ wr => TokAt t w.heap.size s o w wr) (fun _ wr => textLen t wr)
    case atStart => exact ⟨[], s, HT, hg0, HR, rfl, by simp⟩
    case round =>
      obtain ⟨c, s', T', g', R', hcs, b5⟩ := hrel
      rw [T'.len]
      have HT' := Lib.hid T'
      have HR' := Lib.hid R'
      have HC := Lib.hid hcs
      have HG := Lib.hid g'
      have H5 := Lib.hid b5
      obtain ⟨s0, o0, fs, fo, lt⟩ := T'
      obtain ⟨c0, c1, q0, q1, ql⟩ := R'
      clear hcs g' b5
      rcases h' : s'.data.toList with _ | ⟨x, r'⟩
      · obtain rfl := nil_empty h'
        clear h'
        go_wp2_with fail
        have z0 := two_0 wr w.heap.size (iv 0) (iv 0) _ c0
        have z1 := two_1 wr w.heap.size (iv 0) (iv 0) _ c1
        exact ⟨rfl, _, (show _ = Result.ok (.tuple #[.agg #[iv 0, iv 0], .bool true]) _ by simp [results, Tryd.results18, go_sem, z0, z1]), item_end 0 0 true HT'.out HG.out ht id fun _ => ⟨(tok_done HC.out H5.out HH.out (fun x r' h => by cases h)).1, (tok_done HC.out H5.out HH.out (fun x r' h => by cases h)).2⟩⟩
      · have f1 := cons_size h'
        have f2 := cons_ne h'
        have f3 := cons_toList h'
        have f4 := cons_isEmpty h'
        have f5 := cons_get h' f1
        have H' := Lib.hid h'
        clear h'
        go_wp2_with fail
        refine (alpha_at x _).mono ?_
        rintro e w2 ⟨rfl, hw2⟩
        obtain rfl := hw2.symm
        generalize hL : isAlpha x = b1
        have HL := Lib.hid hL
        clear hL
        cases b1
        · go_wp2_with fail
          refine (digit_at x _).mono ?_
          rintro e w2 ⟨rfl, hw2⟩
          obtain rfl := hw2.symm
          generalize hD : isDigit x = b2
          have HD2 := Lib.hid hD
          clear hD
          cases b2
          · go_wp2_with fail
            refine (among_at x ⟨tokL.toArray⟩ _ (by decide)).mono ?_
            rintro e w2 ⟨rfl, hw2⟩
            obtain rfl := hw2.symm
            have HA : Hid (contains x (ByteArray.mk tokL.toArray).data.toList = contains x tokL) := Lib.hid rfl
            rw [HA.out]
            generalize hA : contains x tokL = b3
            have HA3 := Lib.hid hA
            clear hA
            cases b3
            · go_wp2_with fail
              have z0 := two_0 wr w.heap.size (iv 0) (iv 0) _ c0
              have z1 := two_1 wr w.heap.size (iv 0) (iv 0) _ c1
              exact ⟨rfl, _, (show _ = Result.ok (.tuple #[.agg #[iv 0, iv 0], .bool true]) _ by simp [results, Tryd.results18, go_sem, z0, z1]), item_end 0 0 true HT'.out HG.out ht id fun _ => ⟨(tok_done HC.out H5.out HH.out (fun y r2 h => by rw [H'.out] at h; obtain rfl := (List.cons.inj h).1; simp [tokCh, HL.out, HD2.out, HA3.out])).1, (tok_done HC.out H5.out HH.out (fun y r2 h => by rw [H'.out] at h; obtain rfl := (List.cons.inj h).1; simp [tokCh, HL.out, HD2.out, HA3.out])).2⟩⟩
            · go_wp2_with fail
              exact tok_step HT'.out HG.out HR'.out ht HC.out H'.out H5.out (by simp [tokCh, HA3.out])
          · go_wp2_with fail
            exact tok_step HT'.out HG.out HR'.out ht HC.out H'.out H5.out (by simp [tokCh, HD2.out])
        · go_wp2_with fail
          exact tok_step HT'.out HG.out HR'.out ht HC.out H'.out H5.out (by simp [tokCh, HL.out])
end Go.Proofs.YtdgpfgbocacgeaaDoor
