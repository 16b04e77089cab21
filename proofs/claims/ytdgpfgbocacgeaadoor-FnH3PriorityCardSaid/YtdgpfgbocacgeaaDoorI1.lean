/- http3.zzIndex and zzCut at a separator of one byte. -/
import Derived.Test.YtdgpfgbocacgeaaDoorP1
import Derived.Deep.QuietTactic
import Derived.BigQuiet
import Derived.Lib.Strings
import Derived.Lib.IndexBytes
namespace Go.Proofs.YtdgpfgbocacgeaaDoor
open Go.RowKit
set_option linter.unusedVariables false

def one (c : UInt8) : ByteArray := ⟨#[c]⟩

def IdxPost (s : ByteArray) (c : UInt8) (w : World) (e : Ending) (w' : World) : Prop :=
  w = w' ∧ ((∃ k : Nat, k < s.size ∧ e = .returned (.int .i64 k) ∧ (∃ h : k < s.size, s[k] = c) ∧ ∀ j, (h : j < s.size) → j < k → s[j] ≠ c) ∨ (e = .returned (.int .i64 (-1)) ∧ ∀ j, (h : j < s.size) → s[j] ≠ c))

theorem ext1_eq (s : ByteArray) (c : UInt8) (k : Nat) (h : k < s.size) : ((s.extract k (k + 1)).toList == (one c).toList) = (s[k] == c) := by
  rw [Lib.extract_toList, Lib.toList_data]
  have h1 : k < s.data.toList.length := by rw [len_eq]; exact h
  have e : (s.data.toList.drop k).take (k + 1 - k) = [s[k]] := by
    rw [show k + 1 - k = 1 by omega, List.drop_eq_getElem_cons h1, get_eq s k h]
    rfl
  rw [e]
  show ([s[k]] == [c]) = _
  simp

set_option maxRecDepth 100000 in
theorem idx_at (s : ByteArray) (c : UInt8) (w : World) (hs : s.size ≤ 2147483647) : Calls Tryd.prog 35 #[.string s, .string (one c)] w (IdxPost s c w) := by
  have hz : (one c).size = 1 := rfl
  go_enter Tryd.func35, Tryd.ntmps35
  go_wp2_with fail
  go_loop [5] (fun i => ∃ k : Nat, k ≤ s.size ∧ i = .int .i64 k ∧ ∀ j, (h : j < s.size) → j < k → s[j] ≠ c) (fun i => s.size - (intOf i).toNat)
  case atStart => exact ⟨0, by omega, rfl, fun j _ h => by omega⟩
  case round =>
    obtain ⟨k, hk, rfl, hn⟩ := hrel
    have HN := Lib.hid hn
    clear hn
    rcases Nat.lt_or_ge k s.size with h1 | h1
    · by_cases hc : s[k] = c
      · have f1 : ((s.extract k (k + 1)).toList == (one c).toList) = true := by rw [ext1_eq s c k h1]; simpa using hc
        have HC := Lib.hid hc
        clear hc
        go_wp2_with fail
        go_ret
        exact ⟨rfl, .inl ⟨k, h1, rfl, ⟨h1, HC.out⟩, HN.out⟩⟩
      · have f1 : ((s.extract k (k + 1)).toList == (one c).toList) = false := by rw [ext1_eq s c k h1]; simpa using hc
        have HC := Lib.hid hc
        clear hc
        go_wp2_with fail
        go_round
        case rel =>
          refine ⟨k + 1, h1, by go_num, fun j hj hjk => ?_⟩
          rcases Nat.lt_or_ge j k with h | h
          · exact HN.out j hj h
          · obtain rfl : j = k := by omega
            exact HC.out
        case measure => simp [intOf]; omega
    · have f1 : decide ((k : Int) + 1 ≤ (s.size : Int)) = false := by simp; omega
      go_wp2_with fail
      go_ret
      exact ⟨rfl, .inr ⟨rfl, fun j hj => HN.out j hj (by omega)⟩⟩

theorem below_drewN (w : World) (k : Nat) : Below w.heap.size w (w.drewN k) := ⟨rfl, rfl, rfl, Nat.le_refl _, fun _ _ => rfl⟩

def CutPost (s : ByteArray) (c : UInt8) (w : World) (e : Ending) (w' : World) : Prop :=
  Below w.heap.size w w' ∧ ∃ b a : ByteArray, e = .returned (.tuple #[.string b, .string a, .bool (s.data.toList.any (· == c))]) ∧ b.data.toList = s.data.toList.takeWhile (· != c) ∧ a.data.toList = (s.data.toList.dropWhile (· != c)).tail

theorem cut3 {b a : ByteArray} {f g : Bool} (h : g = f) : Ending.returned (.tuple #[.string b, .string a, .bool f]) = .returned (.tuple #[.string b, .string a, .bool g]) := by rw [h]

theorem cut_none {s : ByteArray} {c : UInt8} (h : ∀ j, (h : j < s.size) → s[j] ≠ c) : s.data.toList.any (· == c) = false ∧ s.data.toList = s.data.toList.takeWhile (· != c) ∧ (s.data.toList.dropWhile (· != c)).tail = [] := by
  have hm : ∀ x ∈ s.data.toList, x ≠ c := by
    intro x hx
    obtain ⟨j, hj, rfl⟩ := List.getElem_of_mem hx
    have hj' : j < s.size := by rw [← len_eq]; exact hj
    rw [get_eq s j hj']
    exact h j hj'
  generalize s.data.toList = l at hm
  induction l with
  | nil => simp
  | cons x l ih =>
    have h1 := hm x (by simp)
    have ⟨i1, i2, i3⟩ := ih fun y hy => hm y (by simp [hy])
    have e1 : (x == c) = false := by simpa using h1
    have e2 : (x != c) = true := by simpa using h1
    exact ⟨by simp [e1, i1], by rw [List.takeWhile_cons, if_pos e2, ← i2], by rw [List.dropWhile_cons, if_pos e2, i3]⟩

theorem cut_some {s : ByteArray} {c : UInt8} {k : Nat} (hk : k < s.size) (hc : s[k] = c) (hn : ∀ j, (h : j < s.size) → j < k → s[j] ≠ c) :
    s.data.toList.any (· == c) = true ∧ s.data.toList.take k = s.data.toList.takeWhile (· != c) ∧ s.data.toList.drop (k + 1) = (s.data.toList.dropWhile (· != c)).tail := by
  have hk' : k < s.data.toList.length := by rw [len_eq]; exact hk
  have hc' : s.data.toList[k]'hk' = c := by rw [get_eq s k hk]; exact hc
  have hn' : ∀ j, (h : j < s.data.toList.length) → j < k → s.data.toList[j] ≠ c := by
    intro j hj hjk
    have hj' : j < s.size := by rw [← len_eq]; exact hj
    rw [get_eq s j hj']
    exact hn j hj' hjk
  clear hc hn hk
  generalize s.data.toList = l at *
  induction l generalizing k with
  | nil => simp at hk'
  | cons x l ih =>
    rcases k with _ | k
    · have e : x = c := by simpa using hc'
      subst e
      simp
    · have h1 : x ≠ c := hn' 0 (by simp) (by omega)
      have e1 : (x == c) = false := by simpa using h1
      have e2 : (x != c) = true := by simpa using h1
      have ⟨i1, i2, i3⟩ := ih (k := k) (by simpa using hk') (by simpa using hc') (fun j hj hjk => hn' (j + 1) (by simpa using hj) (by omega))
      exact ⟨by simp [e1, i1], by rw [List.takeWhile_cons, if_pos e2, ← i2]; rfl, by rw [List.dropWhile_cons, if_pos e2, ← i3]; rfl⟩

set_option maxRecDepth 100000 in
theorem cut_at (s : ByteArray) (c : UInt8) (w : World) (hs : s.size ≤ 2147483647) : Calls Tryd.prog 31 #[.string s, .string (one c)] w (CutPost s c w) := by
  have hz : (one c).size = 1 := rfl
  go_enter Tryd.func31, Tryd.ntmps31
  go_wp2_with fail
  refine (idx_at s c w hs).mono ?_
  rintro e w' ⟨rfl, hk⟩
  rcases hk with ⟨k, hk, rfl, ⟨_, hc⟩, hn⟩ | ⟨rfl, hn⟩
  · have H := Lib.hid (cut_some hk hc hn)
    clear hc hn
    have g1 : (0 : Int) ≤ (k : Int) := by omega
    have g2 : decide ((k : Int) < 0) = false := by simp
    go_wp2_with fail
    go_quiet (fail)
    go_wp2_with fail
    go_ret3
    exact ⟨below_drewN w _, s.extract 0 k, s.extract (k + 1) s.size, cut3 H.out.1, by rw [← H.out.2.1, ByteArray.data_extract, Array.toList_extract, List.extract_eq_take_drop]; simp, by rw [← H.out.2.2]; exact Lib.extract_to_end s (k + 1)⟩
  · have H := Lib.hid (cut_none hn)
    clear hn
    go_wp2_with fail
    go_ret3
    exact ⟨Below.refl _ _, s, ByteArray.empty, cut3 H.out.1, H.out.2.1, H.out.2.2.symm⟩
end Go.Proofs.YtdgpfgbocacgeaaDoor
