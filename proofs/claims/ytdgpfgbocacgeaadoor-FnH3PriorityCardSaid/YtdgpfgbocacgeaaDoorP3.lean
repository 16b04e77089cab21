/- spec.sfText.key. -/
import Derived.Test.YtdgpfgbocacgeaaDoorP2
namespace Go.Proofs.YtdgpfgbocacgeaaDoor
open Go.RowKit
set_option linter.unusedVariables false

def keyCh (c : UInt8) : Bool := isLower c || isDigit c || contains c [95, 45, 46, 42]

def KeyPost (w : World) (t : Nat) (s : ByteArray) (o : Bool) (e : Ending) (w' : World) : Prop :=
  ∃ (k : ByteArray) (is : Bool) (s' : ByteArray), e = .returned (.tuple #[.string k, .bool is]) ∧ Tx w' t s' o ∧ w.grownBy w' (some t) ∧
    (is = true → s.data.toList = k.data.toList ++ s'.data.toList ∧ (∀ c ∈ k.data.toList, keyCh c = true) ∧ (∃ c r, k.data.toList = c :: r ∧ (isLower c = true ∨ c = 42)))

theorem take_eq (s : ByteArray) (k : Nat) : (s.extract 0 k).data.toList = s.data.toList.take k := by
  rw [ByteArray.data_extract, Array.toList_extract, List.extract_eq_take_drop]
  simp

theorem key_done {w w' : World} {t : Nat} {s : ByteArray} {o : Bool} (k : Nat) (hk : k ≤ s.size) (hn : ∀ c ∈ s.data.toList.take k, keyCh c = true) (HH : isLower (headB s) = true ∨ headB s = 42)
    (hstop : ∀ h : k < s.size, keyCh (s[k]) = false) (kk s2 : ByteArray) (e1 : kk.data.toList = s.data.toList.take k) (e2 : s2.data.toList = s.data.toList.drop k) (T' : Tx w' t s2 o) (hg : w.grownBy w' (some t)) :
    KeyPost w t s o (.returned (.tuple #[.string kk, .bool true])) w' := by
  refine ⟨kk, true, s2, rfl, T', hg, fun _ => ⟨by rw [e1, e2, List.take_append_drop], by rw [e1]; exact hn, ?_⟩⟩
  rcases hs : s.data.toList with _ | ⟨c, r⟩
  · exfalso
    have : headB s = 0 := by simp [headB, hs]
    rw [this] at HH
    exact absurd HH (by decide)
  · have hc : headB s = c := by simp [headB, hs]
    rw [hc] at HH
    rcases k with _ | k
    · exfalso
      have h1 := hstop (cons_size hs)
      rw [cons_get hs] at h1
      rcases HH with h | h
      · simp [keyCh, h] at h1
      · subst h; exact absurd h1 (by decide)
    · exact ⟨c, r.take k, by rw [e1, hs]; rfl, HH⟩

theorem key_step {s : ByteArray} {k : Nat} (h : k < s.size) (hn : ∀ c ∈ s.data.toList.take k, keyCh c = true) (hc : keyCh (s[k]) = true) : ∀ c ∈ s.data.toList.take (k + 1), keyCh c = true := by
  rw [List.take_succ_eq_append_getElem (by rw [len_eq]; exact h), get_eq s k h]
  intro c hx
  rcases List.mem_append.1 hx with hx | hx
  · exact hn c hx
  · obtain rfl : c = s[k] := by simpa using hx
    exact hc

set_option maxRecDepth 100000 in
theorem key_at (t : Nat) (s : ByteArray) (o : Bool) (w : World) (T : Tx w t s o) (hs : s.size ≤ 2147483647) : Calls Tryd.prog 8 #[.pointer (some ⟨t, 0, none⟩)] w (KeyPost w t s o) := by
  have HT := Lib.hid T
  obtain ⟨s0, o0, fs, fo, lt⟩ := T
  go_enter Tryd.func8, Tryd.ntmps8
  go_wp2_with fail
  refine (at_at t s o w HT.out).mono ?_
  rintro e w' ⟨rfl, rfl⟩
  go_wp2_with fail
  refine (lower_at (headB s) _).mono ?_
  rintro e w' ⟨rfl, rfl⟩
  by_cases hh : isLower (headB s) = true ∨ headB s = 42
  · have hx : (isLower (headB s) = true) ∨ (isLower (headB s) = false ∧ (((headB s).toNat : Int) != 42) = false) := by
      rcases hh with h | h
      · exact .inl h
      · rcases hl : isLower (headB s) with _ | _
        · exact .inr ⟨rfl, by rw [h]; rfl⟩
        · exact .inl rfl
    have HH := Lib.hid hh
    clear hh
    rcases hx with h | ⟨h, h2⟩
    all_goals
      rw [h]
      clear h
    all_goals go_wp2_with fail
    all_goals
      go_loop [5] (fun i => ∃ k : Nat, k ≤ s.size ∧ i = .int .i64 k ∧ ∀ c ∈ s.data.toList.take k, keyCh c = true) (fun i => s.size - (intOf i).toNat)
      case atStart => exact ⟨0, by omega, rfl, by simp⟩
      case round =>
        obtain ⟨k, hk, rfl, hn⟩ := hrel
        rcases Nat.lt_or_ge k s.size with h1 | h1
        · have HN := Lib.hid hn
          clear hn
          go_wp2_with fail
          refine (lower_at (s[k]) _).mono ?_
          rintro e w2 ⟨rfl, rfl⟩
          generalize hL : isLower (s[k]) = b1
          have HL := Lib.hid hL
          clear hL
          cases b1
          · go_wp2_with fail
            refine (digit_at (s[k]) _).mono ?_
            rintro e w2 ⟨rfl, rfl⟩
            generalize hD : isDigit (s[k]) = b2
            have HD := Lib.hid hD
            clear hD
            cases b2
            · go_wp2_with fail
              refine (among_at (s[k]) ⟨#[95, 45, 46, 42]⟩ _ (by decide)).mono ?_
              rintro e w2 ⟨rfl, rfl⟩
              generalize hA : contains (s[k]) _ = b3
              have HA := Lib.hid hA
              clear hA
              cases b3
              · go_wp2_with fail
                go_ret2
                exact key_done k hk HN.out HH.out (fun h => by simp [keyCh, HL.out, HD.out]; exact HA.out) (s.extract 0 k) (s.extract k s.size) (take_eq s k) (drop_eq s k) (HT.out.sets _) (grown_set _ _ _ _)
              · go_wp2_with fail
                exact ⟨⟨k + 1, h1, by simp, key_step h1 HN.out (by simp [keyCh, HL.out, HD.out]; exact HA.out)⟩, by simp [intOf]; omega⟩
            · go_wp2_with fail
              exact ⟨⟨k + 1, h1, by simp, key_step h1 HN.out (by simp [keyCh, HD.out])⟩, by simp [intOf]; omega⟩
          · go_wp2_with fail
            exact ⟨⟨k + 1, h1, by simp, key_step h1 HN.out (by simp [keyCh, HL.out])⟩, by simp [intOf]; omega⟩
        · have e : k = s.size := by omega
          subst e
          have h1' : ¬ s.size < s.size := by omega
          have HN := Lib.hid hn
          clear hn
          go_wp2_with fail
          go_ret2
          exact key_done s.size (Nat.le_refl _) HN.out HH.out (fun h => absurd h (by omega)) s ByteArray.empty (by rw [← len_eq, List.take_length]) (by rw [← len_eq, List.drop_length]; rfl) (HT.out.sets _) (grown_set _ _ _ _)
  · have h1 : isLower (headB s) = false := by simp at hh; exact hh.1
    have h2 : (((headB s).toNat : Int) != 42) = true := by
      have : (headB s == 42) = false := by simp at hh ⊢; exact hh.2
      rw [← u8_eq] at this
      simpa [bne] using this
    rw [h1]
    clear hh
    go_wp2_with fail
    go_ret2
    exact ⟨_, false, s, rfl, HT.out, grown_refl _ _, fun h => by cases h⟩
end Go.Proofs.YtdgpfgbocacgeaaDoor
