/- spec.sfText: the small functions on signs. -/
import Derived.Test.YtdgpfgbocacgeaaDoorS7
import Derived.Handy
namespace Go.Proofs.YtdgpfgbocacgeaaDoor
open Go.RowKit
set_option linter.unusedVariables false

abbrev vb (c : UInt8) : Value := .int .u8 (c.toNat : Int)
def isLower (c : UInt8) : Bool := decide (97 ≤ c.toNat) && decide (c.toNat ≤ 122)
def isDigit (c : UInt8) : Bool := decide (48 ≤ c.toNat) && decide (c.toNat ≤ 57)
def isAlpha (c : UInt8) : Bool := isLower c || (decide (65 ≤ c.toNat) && decide (c.toNat ≤ 90))

set_option maxRecDepth 100000 in
theorem lower_at (c : UInt8) (w : World) : Calls Tryd.prog 15 #[vb c] w fun e w' => e = .returned (.bool (isLower c)) ∧ w' = w := by
  by_cases h1 : 97 ≤ c.toNat
  · have d1 : decide ((97 : Int) ≤ (c.toNat : Int)) = true := by simp; omega
    have d2 : decide ((c.toNat : Int) ≤ 122) = decide (c.toNat ≤ 122) := by rw [decide_eq_decide]; omega
    go_enter Tryd.func15, Tryd.ntmps15
    go_wp2
    go_ret
    exact ⟨by simp [isLower, h1], rfl⟩
  · have d1 : decide ((97 : Int) ≤ (c.toNat : Int)) = false := by simp; omega
    go_enter Tryd.func15, Tryd.ntmps15
    go_wp2
    go_ret
    exact ⟨by simp [isLower, h1], rfl⟩

set_option maxRecDepth 100000 in
theorem digit_at (c : UInt8) (w : World) : Calls Tryd.prog 16 #[vb c] w fun e w' => e = .returned (.bool (isDigit c)) ∧ w' = w := by
  by_cases h1 : 48 ≤ c.toNat
  · have d1 : decide ((48 : Int) ≤ (c.toNat : Int)) = true := by simp; omega
    have d2 : decide ((c.toNat : Int) ≤ 57) = decide (c.toNat ≤ 57) := by rw [decide_eq_decide]; omega
    go_enter Tryd.func16, Tryd.ntmps16
    go_wp2
    go_ret
    exact ⟨by simp [isDigit, h1], rfl⟩
  · have d1 : decide ((48 : Int) ≤ (c.toNat : Int)) = false := by simp; omega
    go_enter Tryd.func16, Tryd.ntmps16
    go_wp2
    go_ret
    exact ⟨by simp [isDigit, h1], rfl⟩

set_option maxRecDepth 100000 in
theorem alpha_at (c : UInt8) (w : World) : Calls Tryd.prog 24 #[vb c] w fun e w' => e = .returned (.bool (isAlpha c)) ∧ w' = w := by
  generalize hL : isLower c = b
  have HL := Lib.hid hL
  clear hL
  cases b
  · by_cases h1 : 65 ≤ c.toNat
    · have d1 : decide ((65 : Int) ≤ (c.toNat : Int)) = true := by simp; omega
      have d2 : decide ((c.toNat : Int) ≤ 90) = decide (c.toNat ≤ 90) := by rw [decide_eq_decide]; omega
      go_enter Tryd.func24, Tryd.ntmps24
      go_wp2_with fail
      refine (lower_at c w).mono ?_
      rintro e w' ⟨rfl, rfl⟩
      rw [HL.out]
      go_wp2_with fail
      go_ret
      exact ⟨by simp [isAlpha, h1, HL.out], rfl⟩
    · have d1 : decide ((65 : Int) ≤ (c.toNat : Int)) = false := by simp; omega
      go_enter Tryd.func24, Tryd.ntmps24
      go_wp2_with fail
      refine (lower_at c w).mono ?_
      rintro e w' ⟨rfl, rfl⟩
      rw [HL.out]
      go_wp2_with fail
      go_ret
      exact ⟨by simp [isAlpha, h1, HL.out], rfl⟩
  · go_enter Tryd.func24, Tryd.ntmps24
    go_wp2_with fail
    refine (lower_at c w).mono ?_
    rintro e w' ⟨rfl, rfl⟩
    rw [HL.out]
    go_wp2_with fail
    go_ret
    exact ⟨by simp [isAlpha, HL.out], rfl⟩

def contains (c : UInt8) (l : List UInt8) : Bool := l.any fun x => x == c
theorem len_eq (s : ByteArray) : s.data.toList.length = s.size := by rw [Array.length_toList]; rfl
theorem get_eq (s : ByteArray) (k : Nat) (h : k < s.size) : s.data.toList[k]'(by rw [len_eq]; exact h) = s[k] := by
  rw [Array.getElem_toList]; rfl
theorem contains_succ (c : UInt8) (s : ByteArray) (k : Nat) (h : k < s.size) : contains c (s.data.toList.take (k + 1)) = (contains c (s.data.toList.take k) || (s[k] == c)) := by
  rw [List.take_succ_eq_append_getElem (by rw [len_eq]; exact h), get_eq s k h]
  simp [contains]
theorem contains_of_take (c : UInt8) (l : List UInt8) (k : Nat) (h : contains c (l.take k) = true) : contains c l = true := by
  unfold contains at h ⊢
  rw [List.any_eq_true] at h ⊢
  obtain ⟨x, hx, hc⟩ := h
  exact ⟨x, List.mem_of_mem_take hx, hc⟩
theorem u8_eq (a b : UInt8) : ((a.toNat : Int) == (b.toNat : Int)) = (a == b) := by
  rw [Bool.eq_iff_iff]
  simp only [beq_iff_eq]
  constructor
  · intro h; exact UInt8.toNat_inj.1 (by omega)
  · rintro rfl; rfl

set_option maxRecDepth 100000 in
theorem among_at (c : UInt8) (s : ByteArray) (w : World) (hs : s.size < 1000) : Calls Tryd.prog 17 #[vb c, .string s] w fun e w' => e = .returned (.bool (contains c s.data.toList)) ∧ w' = w := by
  go_enter Tryd.func17, Tryd.ntmps17
  go_wp2
  go_loop [5] (fun i => ∃ k : Nat, k ≤ s.size ∧ i = .int .i64 k ∧ contains c (s.data.toList.take k) = false) (fun i => s.size - (intOf i).toNat)
  case atStart => exact ⟨0, by omega, rfl, by simp [contains]⟩
  case round =>
    obtain ⟨k, hk, rfl, hn⟩ := hrel
    have HN := Lib.hid hn
    clear hn
    rcases Nat.lt_or_ge k s.size with h1 | h1
    · have h2 : ((s[k].toNat : Int) == (c.toNat : Int)) = (s[k] == c) := u8_eq _ _
      have HC := Lib.hid (contains_succ c s k h1)
      cases hb : (s[k] == c)
      · rw [hb] at h2
        have HB := Lib.hid hb
        clear hb
        go_wp2
        exact ⟨⟨k + 1, h1, by simp, by rw [HC.out, HB.out, HN.out]; rfl⟩, by simp [intOf]; omega⟩
      · rw [hb] at h2
        have HB := Lib.hid hb
        clear hb
        go_wp2
        go_ret
        refine ⟨?_, rfl⟩
        rw [contains_of_take c _ (k + 1) (by rw [HC.out, HB.out]; simp)]
        rfl
    · have e : k = s.size := by omega
      subst e
      have h1' : ¬ s.size < s.size := by omega
      go_wp2
      go_ret
      refine ⟨?_, rfl⟩
      have h := HN.out
      rw [← len_eq, List.take_length] at h
      rw [h]
      rfl
end Go.Proofs.YtdgpfgbocacgeaaDoor
