/- http.token: a byte of a name. -/
import Derived.Test.YtgcfnhchmmkndaaGreatDoorProg
import Derived.Test.YtgcfnhchmmkndaaGreatDoorMem
import Derived.WalkKit
import Derived.Lib.Hide
import Derived.Laws.IdiomStrings
import Derived.IntWalk
namespace Go.Proofs.YtgcfnhchmmkndaaGreatDoor
open Go.RowKit
set_option linter.unusedVariables false
set_option maxRecDepth 100000

def marks : List Nat := [33, 35, 36, 37, 38, 39, 42, 43, 45, 46, 94, 95, 124, 126, 96]
def alnum (c : Nat) : Bool := (decide (48 ≤ c) && decide (c ≤ 57)) || (decide (97 ≤ c) && decide (c ≤ 122)) || (decide (65 ≤ c) && decide (c ≤ 90))
def tokN (c : Nat) : Bool := alnum c || marks.contains c

theorem ret_bool {a b : Bool} (h : a = b) : Ending.returned (.bool a) = .returned (.bool b) := by rw [h]

set_option maxHeartbeats 4000000 in
theorem token_at (c : Nat) (hc : c < 256) (w : World) : Calls Tryz.prog 98 #[.int .u8 (c : Int)] w fun e w' => e = .returned (.bool (tokN c)) ∧ w' = w := by
  cases ha : alnum c
  · have hn : ¬ (48 ≤ c ∧ c ≤ 57) ∧ ¬ (97 ≤ c ∧ c ≤ 122) ∧ ¬ (65 ≤ c ∧ c ≤ 90) := by
      unfold alnum at ha
      simp at ha
      omega
    have ht : tokN c = marks.contains c := by unfold tokN; rw [ha]; rfl
    have HT := Lib.hid ht
    clear ha ht
    obtain ⟨h1, h2, h3⟩ := hn
    go_enter Tryz.func98, Tryz.ntmps98
    go_wp2_with fail
    all_goals try omega
    all_goals
      go_loop [3] (fun i => ∃ k : Nat, k ≤ 15 ∧ i = .int .i64 (k : Int) ∧ ∀ x ∈ marks.take k, x ≠ c) (fun i => 15 - (intOf i).toNat)
      case atStart => exact ⟨0, by omega, rfl, by simp⟩
      case round =>
        obtain ⟨k, hk, rfl, hlt⟩ := hrel
        have HL := Lib.hid hlt
        clear hlt
        rcases (by omega : k = 0 ∨ k = 1 ∨ k = 2 ∨ k = 3 ∨ k = 4 ∨ k = 5 ∨ k = 6 ∨ k = 7 ∨ k = 8 ∨ k = 9 ∨ k = 10 ∨ k = 11 ∨ k = 12 ∨ k = 13 ∨ k = 14 ∨ k = 15) with rfl | rfl | rfl | rfl | rfl | rfl | rfl | rfl | rfl | rfl | rfl | rfl | rfl | rfl | rfl | rfl
        · by_cases e : c = 33
          · have f : (((({ data := #[33, 35, 36, 37, 38, 39, 42, 43, 45, 46, 94, 95, 124, 126, 96] } : ByteArray)[0]'(by decide)).toNat : Int) == (c : Int)) = true := by
              rw [e]; rfl
            have HE := Lib.hid e
            clear e
            go_wp2_with fail
            go_ret
            exact ⟨ret_bool (by rw [HT.out, HE.out]; rfl), rfl⟩
          · have f : (((({ data := #[33, 35, 36, 37, 38, 39, 42, 43, 45, 46, 94, 95, 124, 126, 96] } : ByteArray)[0]'(by decide)).toNat : Int) == (c : Int)) = false := by
              show (((33 : Nat) : Int) == (c : Int)) = false
              simp; omega
            have HE := Lib.hid e
            clear e
            go_wp2_with fail
            exact ⟨⟨1, by omega, rfl, by
              have h := HL.out
              intro x hx
              rw [show marks.take 1 = marks.take 0 ++ [33] from rfl, List.mem_append] at hx
              rcases hx with hx | hx
              · exact h x hx
              · rw [List.mem_singleton] at hx; rw [hx]; exact Ne.symm HE.out⟩, by decide⟩
        · by_cases e : c = 35
          · have f : (((({ data := #[33, 35, 36, 37, 38, 39, 42, 43, 45, 46, 94, 95, 124, 126, 96] } : ByteArray)[1]'(by decide)).toNat : Int) == (c : Int)) = true := by
              rw [e]; rfl
            have HE := Lib.hid e
            clear e
            go_wp2_with fail
            go_ret
            exact ⟨ret_bool (by rw [HT.out, HE.out]; rfl), rfl⟩
          · have f : (((({ data := #[33, 35, 36, 37, 38, 39, 42, 43, 45, 46, 94, 95, 124, 126, 96] } : ByteArray)[1]'(by decide)).toNat : Int) == (c : Int)) = false := by
              show (((35 : Nat) : Int) == (c : Int)) = false
              simp; omega
            have HE := Lib.hid e
            clear e
            go_wp2_with fail
            exact ⟨⟨2, by omega, rfl, by
              have h := HL.out
              intro x hx
              rw [show marks.take 2 = marks.take 1 ++ [35] from rfl, List.mem_append] at hx
              rcases hx with hx | hx
              · exact h x hx
              · rw [List.mem_singleton] at hx; rw [hx]; exact Ne.symm HE.out⟩, by decide⟩
        · by_cases e : c = 36
          · have f : (((({ data := #[33, 35, 36, 37, 38, 39, 42, 43, 45, 46, 94, 95, 124, 126, 96] } : ByteArray)[2]'(by decide)).toNat : Int) == (c : Int)) = true := by
              rw [e]; rfl
            have HE := Lib.hid e
            clear e
            go_wp2_with fail
            go_ret
            exact ⟨ret_bool (by rw [HT.out, HE.out]; rfl), rfl⟩
          · have f : (((({ data := #[33, 35, 36, 37, 38, 39, 42, 43, 45, 46, 94, 95, 124, 126, 96] } : ByteArray)[2]'(by decide)).toNat : Int) == (c : Int)) = false := by
              show (((36 : Nat) : Int) == (c : Int)) = false
              simp; omega
            have HE := Lib.hid e
            clear e
            go_wp2_with fail
            exact ⟨⟨3, by omega, rfl, by
              have h := HL.out
              intro x hx
              rw [show marks.take 3 = marks.take 2 ++ [36] from rfl, List.mem_append] at hx
              rcases hx with hx | hx
              · exact h x hx
              · rw [List.mem_singleton] at hx; rw [hx]; exact Ne.symm HE.out⟩, by decide⟩
        · by_cases e : c = 37
          · have f : (((({ data := #[33, 35, 36, 37, 38, 39, 42, 43, 45, 46, 94, 95, 124, 126, 96] } : ByteArray)[3]'(by decide)).toNat : Int) == (c : Int)) = true := by
              rw [e]; rfl
            have HE := Lib.hid e
            clear e
            go_wp2_with fail
            go_ret
            exact ⟨ret_bool (by rw [HT.out, HE.out]; rfl), rfl⟩
          · have f : (((({ data := #[33, 35, 36, 37, 38, 39, 42, 43, 45, 46, 94, 95, 124, 126, 96] } : ByteArray)[3]'(by decide)).toNat : Int) == (c : Int)) = false := by
              show (((37 : Nat) : Int) == (c : Int)) = false
              simp; omega
            have HE := Lib.hid e
            clear e
            go_wp2_with fail
            exact ⟨⟨4, by omega, rfl, by
              have h := HL.out
              intro x hx
              rw [show marks.take 4 = marks.take 3 ++ [37] from rfl, List.mem_append] at hx
              rcases hx with hx | hx
              · exact h x hx
              · rw [List.mem_singleton] at hx; rw [hx]; exact Ne.symm HE.out⟩, by decide⟩
        · by_cases e : c = 38
          · have f : (((({ data := #[33, 35, 36, 37, 38, 39, 42, 43, 45, 46, 94, 95, 124, 126, 96] } : ByteArray)[4]'(by decide)).toNat : Int) == (c : Int)) = true := by
              rw [e]; rfl
            have HE := Lib.hid e
            clear e
            go_wp2_with fail
            go_ret
            exact ⟨ret_bool (by rw [HT.out, HE.out]; rfl), rfl⟩
          · have f : (((({ data := #[33, 35, 36, 37, 38, 39, 42, 43, 45, 46, 94, 95, 124, 126, 96] } : ByteArray)[4]'(by decide)).toNat : Int) == (c : Int)) = false := by
              show (((38 : Nat) : Int) == (c : Int)) = false
              simp; omega
            have HE := Lib.hid e
            clear e
            go_wp2_with fail
            exact ⟨⟨5, by omega, rfl, by
              have h := HL.out
              intro x hx
              rw [show marks.take 5 = marks.take 4 ++ [38] from rfl, List.mem_append] at hx
              rcases hx with hx | hx
              · exact h x hx
              · rw [List.mem_singleton] at hx; rw [hx]; exact Ne.symm HE.out⟩, by decide⟩
        · by_cases e : c = 39
          · have f : (((({ data := #[33, 35, 36, 37, 38, 39, 42, 43, 45, 46, 94, 95, 124, 126, 96] } : ByteArray)[5]'(by decide)).toNat : Int) == (c : Int)) = true := by
              rw [e]; rfl
            have HE := Lib.hid e
            clear e
            go_wp2_with fail
            go_ret
            exact ⟨ret_bool (by rw [HT.out, HE.out]; rfl), rfl⟩
          · have f : (((({ data := #[33, 35, 36, 37, 38, 39, 42, 43, 45, 46, 94, 95, 124, 126, 96] } : ByteArray)[5]'(by decide)).toNat : Int) == (c : Int)) = false := by
              show (((39 : Nat) : Int) == (c : Int)) = false
              simp; omega
            have HE := Lib.hid e
            clear e
            go_wp2_with fail
            exact ⟨⟨6, by omega, rfl, by
              have h := HL.out
              intro x hx
              rw [show marks.take 6 = marks.take 5 ++ [39] from rfl, List.mem_append] at hx
              rcases hx with hx | hx
              · exact h x hx
              · rw [List.mem_singleton] at hx; rw [hx]; exact Ne.symm HE.out⟩, by decide⟩
        · by_cases e : c = 42
          · have f : (((({ data := #[33, 35, 36, 37, 38, 39, 42, 43, 45, 46, 94, 95, 124, 126, 96] } : ByteArray)[6]'(by decide)).toNat : Int) == (c : Int)) = true := by
              rw [e]; rfl
            have HE := Lib.hid e
            clear e
            go_wp2_with fail
            go_ret
            exact ⟨ret_bool (by rw [HT.out, HE.out]; rfl), rfl⟩
          · have f : (((({ data := #[33, 35, 36, 37, 38, 39, 42, 43, 45, 46, 94, 95, 124, 126, 96] } : ByteArray)[6]'(by decide)).toNat : Int) == (c : Int)) = false := by
              show (((42 : Nat) : Int) == (c : Int)) = false
              simp; omega
            have HE := Lib.hid e
            clear e
            go_wp2_with fail
            exact ⟨⟨7, by omega, rfl, by
              have h := HL.out
              intro x hx
              rw [show marks.take 7 = marks.take 6 ++ [42] from rfl, List.mem_append] at hx
              rcases hx with hx | hx
              · exact h x hx
              · rw [List.mem_singleton] at hx; rw [hx]; exact Ne.symm HE.out⟩, by decide⟩
        · by_cases e : c = 43
          · have f : (((({ data := #[33, 35, 36, 37, 38, 39, 42, 43, 45, 46, 94, 95, 124, 126, 96] } : ByteArray)[7]'(by decide)).toNat : Int) == (c : Int)) = true := by
              rw [e]; rfl
            have HE := Lib.hid e
            clear e
            go_wp2_with fail
            go_ret
            exact ⟨ret_bool (by rw [HT.out, HE.out]; rfl), rfl⟩
          · have f : (((({ data := #[33, 35, 36, 37, 38, 39, 42, 43, 45, 46, 94, 95, 124, 126, 96] } : ByteArray)[7]'(by decide)).toNat : Int) == (c : Int)) = false := by
              show (((43 : Nat) : Int) == (c : Int)) = false
              simp; omega
            have HE := Lib.hid e
            clear e
            go_wp2_with fail
            exact ⟨⟨8, by omega, rfl, by
              have h := HL.out
              intro x hx
              rw [show marks.take 8 = marks.take 7 ++ [43] from rfl, List.mem_append] at hx
              rcases hx with hx | hx
              · exact h x hx
              · rw [List.mem_singleton] at hx; rw [hx]; exact Ne.symm HE.out⟩, by decide⟩
        · by_cases e : c = 45
          · have f : (((({ data := #[33, 35, 36, 37, 38, 39, 42, 43, 45, 46, 94, 95, 124, 126, 96] } : ByteArray)[8]'(by decide)).toNat : Int) == (c : Int)) = true := by
              rw [e]; rfl
            have HE := Lib.hid e
            clear e
            go_wp2_with fail
            go_ret
            exact ⟨ret_bool (by rw [HT.out, HE.out]; rfl), rfl⟩
          · have f : (((({ data := #[33, 35, 36, 37, 38, 39, 42, 43, 45, 46, 94, 95, 124, 126, 96] } : ByteArray)[8]'(by decide)).toNat : Int) == (c : Int)) = false := by
              show (((45 : Nat) : Int) == (c : Int)) = false
              simp; omega
            have HE := Lib.hid e
            clear e
            go_wp2_with fail
            exact ⟨⟨9, by omega, rfl, by
              have h := HL.out
              intro x hx
              rw [show marks.take 9 = marks.take 8 ++ [45] from rfl, List.mem_append] at hx
              rcases hx with hx | hx
              · exact h x hx
              · rw [List.mem_singleton] at hx; rw [hx]; exact Ne.symm HE.out⟩, by decide⟩
        · by_cases e : c = 46
          · have f : (((({ data := #[33, 35, 36, 37, 38, 39, 42, 43, 45, 46, 94, 95, 124, 126, 96] } : ByteArray)[9]'(by decide)).toNat : Int) == (c : Int)) = true := by
              rw [e]; rfl
            have HE := Lib.hid e
            clear e
            go_wp2_with fail
            go_ret
            exact ⟨ret_bool (by rw [HT.out, HE.out]; rfl), rfl⟩
          · have f : (((({ data := #[33, 35, 36, 37, 38, 39, 42, 43, 45, 46, 94, 95, 124, 126, 96] } : ByteArray)[9]'(by decide)).toNat : Int) == (c : Int)) = false := by
              show (((46 : Nat) : Int) == (c : Int)) = false
              simp; omega
            have HE := Lib.hid e
            clear e
            go_wp2_with fail
            exact ⟨⟨10, by omega, rfl, by
              have h := HL.out
              intro x hx
              rw [show marks.take 10 = marks.take 9 ++ [46] from rfl, List.mem_append] at hx
              rcases hx with hx | hx
              · exact h x hx
              · rw [List.mem_singleton] at hx; rw [hx]; exact Ne.symm HE.out⟩, by decide⟩
        · by_cases e : c = 94
          · have f : (((({ data := #[33, 35, 36, 37, 38, 39, 42, 43, 45, 46, 94, 95, 124, 126, 96] } : ByteArray)[10]'(by decide)).toNat : Int) == (c : Int)) = true := by
              rw [e]; rfl
            have HE := Lib.hid e
            clear e
            go_wp2_with fail
            go_ret
            exact ⟨ret_bool (by rw [HT.out, HE.out]; rfl), rfl⟩
          · have f : (((({ data := #[33, 35, 36, 37, 38, 39, 42, 43, 45, 46, 94, 95, 124, 126, 96] } : ByteArray)[10]'(by decide)).toNat : Int) == (c : Int)) = false := by
              show (((94 : Nat) : Int) == (c : Int)) = false
              simp; omega
            have HE := Lib.hid e
            clear e
            go_wp2_with fail
            exact ⟨⟨11, by omega, rfl, by
              have h := HL.out
              intro x hx
              rw [show marks.take 11 = marks.take 10 ++ [94] from rfl, List.mem_append] at hx
              rcases hx with hx | hx
              · exact h x hx
              · rw [List.mem_singleton] at hx; rw [hx]; exact Ne.symm HE.out⟩, by decide⟩
        · by_cases e : c = 95
          · have f : (((({ data := #[33, 35, 36, 37, 38, 39, 42, 43, 45, 46, 94, 95, 124, 126, 96] } : ByteArray)[11]'(by decide)).toNat : Int) == (c : Int)) = true := by
              rw [e]; rfl
            have HE := Lib.hid e
            clear e
            go_wp2_with fail
            go_ret
            exact ⟨ret_bool (by rw [HT.out, HE.out]; rfl), rfl⟩
          · have f : (((({ data := #[33, 35, 36, 37, 38, 39, 42, 43, 45, 46, 94, 95, 124, 126, 96] } : ByteArray)[11]'(by decide)).toNat : Int) == (c : Int)) = false := by
              show (((95 : Nat) : Int) == (c : Int)) = false
              simp; omega
            have HE := Lib.hid e
            clear e
            go_wp2_with fail
            exact ⟨⟨12, by omega, rfl, by
              have h := HL.out
              intro x hx
              rw [show marks.take 12 = marks.take 11 ++ [95] from rfl, List.mem_append] at hx
              rcases hx with hx | hx
              · exact h x hx
              · rw [List.mem_singleton] at hx; rw [hx]; exact Ne.symm HE.out⟩, by decide⟩
        · by_cases e : c = 124
          · have f : (((({ data := #[33, 35, 36, 37, 38, 39, 42, 43, 45, 46, 94, 95, 124, 126, 96] } : ByteArray)[12]'(by decide)).toNat : Int) == (c : Int)) = true := by
              rw [e]; rfl
            have HE := Lib.hid e
            clear e
            go_wp2_with fail
            go_ret
            exact ⟨ret_bool (by rw [HT.out, HE.out]; rfl), rfl⟩
          · have f : (((({ data := #[33, 35, 36, 37, 38, 39, 42, 43, 45, 46, 94, 95, 124, 126, 96] } : ByteArray)[12]'(by decide)).toNat : Int) == (c : Int)) = false := by
              show (((124 : Nat) : Int) == (c : Int)) = false
              simp; omega
            have HE := Lib.hid e
            clear e
            go_wp2_with fail
            exact ⟨⟨13, by omega, rfl, by
              have h := HL.out
              intro x hx
              rw [show marks.take 13 = marks.take 12 ++ [124] from rfl, List.mem_append] at hx
              rcases hx with hx | hx
              · exact h x hx
              · rw [List.mem_singleton] at hx; rw [hx]; exact Ne.symm HE.out⟩, by decide⟩
        · by_cases e : c = 126
          · have f : (((({ data := #[33, 35, 36, 37, 38, 39, 42, 43, 45, 46, 94, 95, 124, 126, 96] } : ByteArray)[13]'(by decide)).toNat : Int) == (c : Int)) = true := by
              rw [e]; rfl
            have HE := Lib.hid e
            clear e
            go_wp2_with fail
            go_ret
            exact ⟨ret_bool (by rw [HT.out, HE.out]; rfl), rfl⟩
          · have f : (((({ data := #[33, 35, 36, 37, 38, 39, 42, 43, 45, 46, 94, 95, 124, 126, 96] } : ByteArray)[13]'(by decide)).toNat : Int) == (c : Int)) = false := by
              show (((126 : Nat) : Int) == (c : Int)) = false
              simp; omega
            have HE := Lib.hid e
            clear e
            go_wp2_with fail
            exact ⟨⟨14, by omega, rfl, by
              have h := HL.out
              intro x hx
              rw [show marks.take 14 = marks.take 13 ++ [126] from rfl, List.mem_append] at hx
              rcases hx with hx | hx
              · exact h x hx
              · rw [List.mem_singleton] at hx; rw [hx]; exact Ne.symm HE.out⟩, by decide⟩
        · by_cases e : c = 96
          · have f : (((({ data := #[33, 35, 36, 37, 38, 39, 42, 43, 45, 46, 94, 95, 124, 126, 96] } : ByteArray)[14]'(by decide)).toNat : Int) == (c : Int)) = true := by
              rw [e]; rfl
            have HE := Lib.hid e
            clear e
            go_wp2_with fail
            go_ret
            exact ⟨ret_bool (by rw [HT.out, HE.out]; rfl), rfl⟩
          · have f : (((({ data := #[33, 35, 36, 37, 38, 39, 42, 43, 45, 46, 94, 95, 124, 126, 96] } : ByteArray)[14]'(by decide)).toNat : Int) == (c : Int)) = false := by
              show (((96 : Nat) : Int) == (c : Int)) = false
              simp; omega
            have HE := Lib.hid e
            clear e
            go_wp2_with fail
            exact ⟨⟨15, by omega, rfl, by
              have h := HL.out
              intro x hx
              rw [show marks.take 15 = marks.take 14 ++ [96] from rfl, List.mem_append] at hx
              rcases hx with hx | hx
              · exact h x hx
              · rw [List.mem_singleton] at hx; rw [hx]; exact Ne.symm HE.out⟩, by decide⟩
        · go_wp2_with fail
          go_ret
          refine ⟨ret_bool ?_, rfl⟩
          rw [HT.out]
          have h := HL.out
          rw [show marks.take 15 = marks from rfl] at h
          cases hm : marks.contains c
          · rfl
          · exact absurd rfl (h c (by simpa using hm))
  · have ht : tokN c = true := by unfold tokN; rw [ha]; rfl
    rw [ht]
    have hn : (48 ≤ c ∧ c ≤ 57) ∨ (97 ≤ c ∧ c ≤ 122) ∨ (65 ≤ c ∧ c ≤ 90) := by
      unfold alnum at ha
      simp at ha
      omega
    clear ha ht
    rcases hn with ⟨h1, h2⟩ | ⟨h1, h2⟩ | ⟨h1, h2⟩
    all_goals
      go_enter Tryz.func98, Tryz.ntmps98
      go_wp2_with fail
      all_goals first
        | omega
        | (go_ret; exact ⟨rfl, rfl⟩)

abbrev str (l : List UInt8) : Value := .string ⟨l.toArray⟩
theorem str_of (s : ByteArray) : Value.string s = str s.data.toList := by simp [str]

/-- a capital at the beginning and behind hyphens -/
def canonC (up : Bool) (c : UInt8) : UInt8 := if up = true ∧ 97 ≤ c.toNat ∧ c.toNat ≤ 122 then c - 32 else if up = false ∧ 65 ≤ c.toNat ∧ c.toNat ≤ 90 then c + 32 else c
def upAt (l : List UInt8) (j : Nat) : Bool := if j = 0 then true else decide ((l.getD (j - 1) 0).toNat = 45)
def canonAt (l : List UInt8) (j : Nat) : UInt8 := canonC (upAt l j) (l.getD j 0)
def canonOut (l : List UInt8) : List UInt8 := (List.range l.length).map (canonAt l)
def tokAll (l : List UInt8) : Bool := l.all fun c => tokN c.toNat
def canonL (l : List UInt8) : List UInt8 := if tokAll l then canonOut l else l

theorem canonOut_len (l : List UInt8) : (canonOut l).length = l.length := by simp [canonOut]
theorem canonOut_at (l : List UInt8) (j : Nat) (h : j < (canonOut l).length) : (canonOut l)[j] = canonAt l j := by simp [canonOut]
theorem canonL_len (l : List UInt8) : (canonL l).length = l.length := by unfold canonL; split <;> simp [canonOut_len]

def mixAt (l : List UInt8) (k j : Nat) : UInt8 := if j < k then canonAt l j else l.getD j 0

theorem conv_ex (s : ByteArray) (w : World) : ∃ cap w1, (convert 9 22 (.string s)).run Tryz.prog w = .ok (.slice (some ⟨w.heap.size, 0, none⟩) s.size cap) w1 ∧ s.size ≤ cap ∧ w1.heap.size = w.heap.size + 1 ∧
    (∀ j, j < s.size → w1.cell? ⟨w.heap.size, j, none⟩ = some (.int .u8 ((s.data.toList.getD j 0).toNat : Int))) ∧ (∀ j, j < s.size → w1.frozen? ⟨w.heap.size, j, none⟩ = false) ∧ Below w.heap.size w w1 := by
  refine ⟨_, _, run_bytes_of_string w 9 22 5 s Tryz.underlying9 Tryz.underlying22 Tryz.underlying5, grownCap_ge _ _ _ _, by simp, fun j hj => ?_, fun j hj => ?_, ?_⟩
  · have h := World.cell?_alloc_mark w.drew (bytesRow s (grownCap w s.size 0 5)) 5 ((bytesRow s (grownCap w s.size 0 5)).size, (bytesRow s (grownCap w s.size 0 5)).size + 1) j
    have hj' : j < s.data.size := hj
    rw [bytesRow_at s _ j hj'] at h
    rw [show w.drew.heap.size = w.heap.size from rfl] at h
    rw [h]
    simp [List.getD, List.getElem?_eq_getElem (show j < s.data.toList.length by simpa using hj')]
  · have h := World.frozen?_alloc_mark w.drew (bytesRow s (grownCap w s.size 0 5)) 5 (bytesRow s (grownCap w s.size 0 5)).size ((bytesRow s (grownCap w s.size 0 5)).size + 1) j
    rw [show w.drew.heap.size = w.heap.size from rfl] at h
    rw [h]
    have hj' : j < s.data.size := hj
    simp [bytesRow]
    omega
  · exact ((Below.refl w.heap.size w).drew).alloc (Nat.le_refl _) _

structure Cst (w wx : World) (l : List UInt8) (n k : Nat) : Prop where
  cells : ∀ j, j < n → wx.cell? ⟨w.heap.size, j, none⟩ = some (.int .u8 ((mixAt l k j).toNat : Int))
  fz : ∀ j, j < n → wx.frozen? ⟨w.heap.size, j, none⟩ = false
  bel : Below w.heap.size w wx
  tok : ∀ j, j < k → tokN (l.getD j 0).toNat = true

theorem Cst.start {w w1 : World} {l : List UInt8} {n : Nat} (h1 : ∀ j, j < n → w1.cell? ⟨w.heap.size, j, none⟩ = some (.int .u8 ((l.getD j 0).toNat : Int))) (h2 : ∀ j, j < n → w1.frozen? ⟨w.heap.size, j, none⟩ = false) (h3 : Below w.heap.size w w1) : Cst w w1 l n 0 :=
  ⟨fun j hj => by rw [h1 j hj]; simp [mixAt], h2, h3, fun j hj => by omega⟩

/-- a byte that stays -/
theorem Cst.stay {w wx : World} {l : List UInt8} {n k : Nat} (h : Cst w wx l n k) (he : canonAt l k = l.getD k 0) (ht : tokN (l.getD k 0).toNat = true) : Cst w wx l n (k + 1) where
  cells := fun j hj => by
    rw [h.cells j hj]
    unfold mixAt
    rcases Nat.lt_trichotomy j k with h1 | h1 | h1
    · rw [if_pos h1, if_pos (by omega)]
    · subst h1; rw [if_neg (by omega), if_pos (by omega), he]
    · rw [if_neg (by omega), if_neg (by omega)]
  fz := h.fz
  bel := h.bel
  tok := fun j hj => by
    rcases Nat.lt_succ_iff_lt_or_eq.1 hj with h1 | h1
    · exact h.tok j h1
    · rw [h1]; exact ht
theorem Cst.put {w wx : World} {l : List UInt8} {n k : Nat} {x : Int} (h : Cst w wx l n k) (hk : k < n) (he : ((canonAt l k).toNat : Int) = x) (ht : tokN (l.getD k 0).toNat = true) : Cst w (wx.setCell ⟨w.heap.size, k, none⟩ (.int .u8 x)) l n (k + 1) where
  cells := fun j hj => by
    by_cases e : j = k
    · subst e
      rw [World.cell?_setCell_same _ _ _ (h.cells j hj), ← he]
      simp [mixAt]
    · rw [World.cell?_setCell_other _ _ _ _ (by simp), h.cells j hj]
      unfold mixAt
      rcases Nat.lt_or_gt_of_ne e with h1 | h1
      · rw [if_pos h1, if_pos (by omega)]
      · rw [if_neg (by omega), if_neg (by omega)]
  fz := fun j hj => by have := h.fz j hj; simpa using this
  bel := h.bel.setCell (Nat.le_refl _) _
  tok := fun j hj => by
    rcases Nat.lt_succ_iff_lt_or_eq.1 hj with h1 | h1
    · exact h.tok j h1
    · rw [h1]; exact ht

set_option maxHeartbeats 4000000 in
theorem canon_at (s : ByteArray) (w : World) (hs : s.size ≤ 2147483648) : Calls Tryz.prog 78 #[.string s] w fun e w' => e = .returned (str (canonL s.data.toList)) ∧ Below w.heap.size w w' := by
  obtain ⟨cap, w1, hconv, hcap, hz1, hc1, hf1, hb1⟩ := conv_ex s w
  obtain ⟨l, hl⟩ : ∃ l, s.data.toList = l := ⟨_, rfl⟩
  rw [hl] at hc1 ⊢
  have hC := Cst.start hc1 hf1 hb1
  have HC := Lib.hid hC
  have HL := Lib.hid hl
  have hln : l.length = s.size := by rw [← hl]; simp
  have HLN := Lib.hid hln
  clear hC hc1 hf1 hb1 hl hln hz1
  obtain ⟨n, hn⟩ : ∃ n, s.size = n := ⟨_, rfl⟩
  rw [hn] at hconv hcap hs HC HLN
  have HN := Lib.hid hn
  clear hn
  go_enter Tryz.func78, Tryz.ntmps78
  go_wp2_with fail
  go_loopw [4, 11] (fun u i wx => ∃ k : Nat, k ≤ n ∧ i = .int .i64 (k : Int) ∧ u = .bool (upAt l k) ∧ Cst w wx l n k) (fun _ i _ => n - (intOf i).toNat)
  case atStart => exact ⟨0, by omega, rfl, rfl, HC.out⟩
  case round =>
    clear HC hconv
    obtain ⟨k, hk, rfl, rfl, hS⟩ := hrel
    have HS := Lib.hid hS
    clear hS
    rcases Nat.lt_or_ge k n with hkl | hkl
    · have e0 := HS.out.cells k hkl
      have z0 := HS.out.fz k hkl
      have em : mixAt l k k = l.getD k 0 := by simp [mixAt]
      rw [em] at e0
      have hua : upAt l (k + 1) = decide ((l.getD k 0).toNat = 45) := by simp [upAt]
      have hca : canonAt l k = canonC (upAt l k) (l.getD k 0) := rfl
      have HNT : Hid (tokN (l.getD k 0).toNat = false → tokAll l = false) := Lib.hid (by
        intro hf
        unfold tokAll
        rw [List.all_eq_false]
        have hk2 : k < l.length := by rw [HLN.out]; exact hkl
        have hg : l.getD k 0 = l[k] := by simp [List.getD, List.getElem?_eq_getElem hk2]
        refine ⟨l.getD k 0, ?_, by rw [hf]; decide⟩
        rw [hg]
        exact List.getElem_mem hk2)
      obtain ⟨x, hx⟩ : ∃ x, l.getD k 0 = x := ⟨_, rfl⟩
      rw [hx] at e0 hua hca HNT
      have HX := Lib.hid hx
      obtain ⟨c, hc⟩ : ∃ c, x.toNat = c := ⟨_, rfl⟩
      have hc256 : c < 256 := hc ▸ x.toNat_lt
      rw [hc] at e0 hua HNT
      have HCx := Lib.hid hc
      obtain ⟨t, ht⟩ : ∃ t, tokN c = t := ⟨_, rfl⟩
      have KT := fun w => token_at c hc256 w
      rw [ht] at KT HNT
      have HT := Lib.hid ht
      have HUA := Lib.hid hua
      have HCA := Lib.hid hca
      obtain ⟨u, hu⟩ : ∃ u, upAt l k = u := ⟨_, rfl⟩
      rw [hu] at HCA ⊢
      clear hx hc ht hua hca em
      cases t
      · go_wp2_with ((with_reducible refine (KT _).mono ?_); rintro e w2 ⟨rfl, rfl⟩)
        go_ret
        refine ⟨?_, HS.out.bel⟩
        unfold canonL
        rw [HNT.out trivial, str_of, HL.out]
        rfl
      · have hcase : (u = true ∧ 97 ≤ c ∧ c ≤ 122) ∨ (u = false ∧ 65 ≤ c ∧ c ≤ 90) ∨ (¬ (u = true ∧ 97 ≤ c ∧ c ≤ 122) ∧ ¬ (u = false ∧ 65 ≤ c ∧ c ≤ 90)) := by
          cases u <;> simp <;> omega
        have f45 : ((c : Int) == 45) = decide (c = 45) := by rw [Bool.eq_iff_iff]; simp; omega
        rcases hcase with ⟨rfl, h1, h2⟩ | ⟨rfl, h1, h2⟩ | ⟨h1, h2⟩
        · have hv : (((canonAt l k).toNat : Nat) : Int) = (c : Int) - 32 := by
            rw [HCA.out]
            unfold canonC
            rw [HCx.out, if_pos ⟨rfl, h1, h2⟩]
            have : (x - 32).toNat = c - 32 := by rw [UInt8.toNat_sub_of_le _ _ (by rw [UInt8.le_iff_toNat_le, HCx.out]; exact Nat.le_trans (by decide) h1), HCx.out]; rfl
            rw [this]; omega
          have HV := Lib.hid hv
          clear hv
          go_wp2_with ((with_reducible refine (KT _).mono ?_); rintro e w2 ⟨rfl, rfl⟩)
          exact ⟨⟨k + 1, hkl, by go_num, by rw [HUA.out], HS.out.put hkl HV.out (by rw [HX.out, HCx.out]; exact HT.out)⟩, by simp [intOf]; omega⟩
        · have hv : (((canonAt l k).toNat : Nat) : Int) = (c : Int) + 32 := by
            rw [HCA.out]
            unfold canonC
            rw [HCx.out, if_neg (by simp), if_pos ⟨rfl, h1, h2⟩]
            have : (x + 32).toNat = c + 32 := by rw [UInt8.toNat_add, HCx.out]; show (c + 32) % 256 = _; omega
            rw [this]; omega
          have HV := Lib.hid hv
          clear hv
          go_wp2_with ((with_reducible refine (KT _).mono ?_); rintro e w2 ⟨rfl, rfl⟩)
          exact ⟨⟨k + 1, hkl, by go_num, by rw [HUA.out], HS.out.put hkl HV.out (by rw [HX.out, HCx.out]; exact HT.out)⟩, by simp [intOf]; omega⟩
        · have hv : canonAt l k = l.getD k 0 := by
            rw [HCA.out]
            unfold canonC
            rw [HCx.out, if_neg h1, if_neg h2, HX.out]
          have HV := Lib.hid hv
          clear hv
          have HS' := Lib.hid (HS.out.stay HV.out (by rw [HX.out, HCx.out]; exact HT.out))
          cases u
          · have h3 : c < 65 ∨ 90 < c := by simp at h2; omega
            clear h1 h2
            rcases h3 with h3 | h3
            all_goals
              go_wp2_with ((with_reducible refine (KT _).mono ?_); rintro e w2 ⟨rfl, rfl⟩)
              all_goals first
                | omega
                | exact ⟨⟨k + 1, hkl, by go_num, by rw [HUA.out], HS'.out⟩, by simp [intOf]; omega⟩
          · have h3 : c < 97 ∨ 122 < c := by simp at h1; omega
            clear h1 h2
            rcases h3 with h3 | h3
            all_goals
              go_wp2_with ((with_reducible refine (KT _).mono ?_); rintro e w2 ⟨rfl, rfl⟩)
              all_goals first
                | omega
                | exact ⟨⟨k + 1, hkl, by go_num, by rw [HUA.out], HS'.out⟩, by simp [intOf]; omega⟩
    · have e : k = n := by omega
      subst e
      have hback := run_convert_bytes_back wr 22 9 5 ⟨w.heap.size, 0, none⟩ cap (canonOut l) Tryz.underlying22 Tryz.underlying5 Tryz.underlying9 (fun j hj => by
        have hj' : j < k := by rw [canonOut_len, HLN.out] at hj; exact hj
        rw [canonOut_at, Addr.add_lit, Nat.zero_add, HS.out.cells j hj']
        simp [mixAt, hj'])
      rw [canonOut_len, HLN.out] at hback
      have hr : str (canonOut l) = str (canonL l) := by
        have : tokAll l = true := by
          unfold tokAll
          rw [List.all_eq_true]
          intro x hx
          obtain ⟨j, hj, rfl⟩ := List.getElem_of_mem hx
          have := HS.out.tok j (by rw [HLN.out] at hj; exact hj)
          rwa [show l.getD j 0 = l[j] by simp [List.getD, List.getElem?_eq_getElem hj]] at this
        unfold canonL
        rw [this]
        rfl
      have HRR := Lib.hid hr
      clear hr
      go_wp2_with fail
      go_ret
      exact ⟨congrArg _ HRR.out, HS.out.bel⟩

def valC (c : Nat) : Bool := (decide (32 ≤ c) && decide (c ≠ 127)) || decide (c = 9)
def valOk (l : List UInt8) : Bool := l.all fun c => valC c.toNat

theorem all_take (l : List UInt8) (p : UInt8 → Bool) (k : Nat) (hk : k < l.length) (h : (l.take k).all p = true) (hp : p l[k] = true) : (l.take (k + 1)).all p = true := by
  rw [List.take_succ_eq_append_getElem hk, List.all_append, h]
  simp [hp]
theorem all_not (l : List UInt8) (p : UInt8 → Bool) (k : Nat) (hk : k < l.length) (hp : p l[k] = false) : l.all p = false := by
  rw [List.all_eq_false]
  exact ⟨l[k], List.getElem_mem hk, by simp [hp]⟩

set_option maxHeartbeats 4000000 in
theorem value_at (s : ByteArray) (w : World) (hs : s.size ≤ 2147483648) : Calls Tryz.prog 87 #[.string s] w fun e w' => e = .returned (.bool (valOk s.data.toList)) ∧ w' = w := by
  go_enter Tryz.func87, Tryz.ntmps87
  go_wp2_with fail
  go_loop [3] (fun i => ∃ k : Nat, k ≤ s.size ∧ i = .int .i64 (k : Int) ∧ (s.data.toList.take k).all (fun c => valC c.toNat) = true) (fun i => s.size - (intOf i).toNat)
  case atStart => exact ⟨0, by omega, rfl, rfl⟩
  case round =>
    obtain ⟨k, hk, rfl, hall⟩ := hrel
    have HA := Lib.hid hall
    clear hall
    rcases Nat.lt_or_ge k s.size with hkl | hkl
    · have hkl' : k < s.data.toList.length := by simpa using hkl
      have hg : s.data.toList[k] = s[k] := by simp; rfl
      have HG := Lib.hid hg
      clear hg
      have hcase : (32 ≤ s[k].toNat ∧ s[k].toNat ≠ 127) ∨ s[k].toNat = 9 ∨ (s[k].toNat < 32 ∧ s[k].toNat ≠ 9) ∨ s[k].toNat = 127 := by omega
      rcases hcase with h | h | h | h
      · obtain ⟨h1, h2⟩ := h
        have f1 : decide ((s[k].toNat : Int) < 32) = false := by simp; omega
        have f2 : ((s[k].toNat : Int) == 127) = false := by simp; omega
        have HV : Hid (valC s[k].toNat = true) := Lib.hid (by unfold valC; simp [h1, h2])
        clear h1 h2
        go_wp2
        exact ⟨⟨k + 1, by omega, by go_num, all_take _ _ k hkl' HA.out (by rw [HG.out]; exact HV.out)⟩, by simp [intOf]; omega⟩
      · have f1 : decide ((s[k].toNat : Int) < 32) = true := by simp; omega
        have f2 : ((s[k].toNat : Int) == 32) = false := by simp; omega
        have f3 : ((s[k].toNat : Int) == 9) = true := by simp; omega
        have HV : Hid (valC s[k].toNat = true) := Lib.hid (by unfold valC; simp [h])
        clear h
        go_wp2
        exact ⟨⟨k + 1, by omega, by go_num, all_take _ _ k hkl' HA.out (by rw [HG.out]; exact HV.out)⟩, by simp [intOf]; omega⟩
      · obtain ⟨h1, h2⟩ := h
        have f1 : decide ((s[k].toNat : Int) < 32) = true := by simp; omega
        have f2 : ((s[k].toNat : Int) == 32) = false := by simp; omega
        have f3 : ((s[k].toNat : Int) == 9) = false := by simp; omega
        have HV : Hid (valC s[k].toNat = false) := Lib.hid (by unfold valC; simp; omega)
        clear h1 h2
        go_wp2
        go_ret
        exact ⟨ret_bool (all_not _ _ k hkl' (by rw [HG.out]; exact HV.out)).symm, rfl⟩
      · have f1 : decide ((s[k].toNat : Int) < 32) = false := by simp; omega
        have f0 : ((s[k].toNat : Int) == 127) = true := by simp; omega
        have f2 : ((s[k].toNat : Int) == 32) = false := by simp; omega
        have f3 : ((s[k].toNat : Int) == 9) = false := by simp; omega
        have HV : Hid (valC s[k].toNat = false) := Lib.hid (by unfold valC; simp; omega)
        clear h
        go_wp2
        go_ret
        exact ⟨ret_bool (all_not _ _ k hkl' (by rw [HG.out]; exact HV.out)).symm, rfl⟩
    · have e : k = s.size := by omega
      subst e
      go_wp2
      go_ret
      exact ⟨ret_bool (by have h := HA.out; rw [List.take_of_length_le (by simp)] at h; exact h.symm), rfl⟩

/-- the table of the bytes of a name, as the program lays it -/
def TokTab (w : World) : Prop := ∀ c, c < 256 → w.cell? ⟨2, c, none⟩ = some (.bool (tokN c))

def nameOk (l : List UInt8) : Bool := !l.isEmpty && tokAll l

set_option maxHeartbeats 4000000 in
theorem name_at (s : ByteArray) (w : World) (hs : s.size ≤ 2147483648) (ht : TokTab w) : Calls Tryz.prog 77 #[.string s] w fun e w' => e = .returned (.bool (nameOk s.data.toList)) ∧ w' = w := by
  have HT := Lib.hid ht
  clear ht
  rcases Nat.eq_zero_or_pos s.size with h0 | hpos
  · have f0 : ((s.size : Int) == 0) = true := by rw [h0]; rfl
    have hl : s.data.toList = [] := by
      apply List.eq_nil_of_length_eq_zero
      simpa using h0
    have HL := Lib.hid hl
    clear hl h0
    go_enter Tryz.func77, Tryz.ntmps77
    go_wp2_with fail
    go_ret
    exact ⟨ret_bool (by rw [HL.out]; rfl), rfl⟩
  · have f0 : ((s.size : Int) == 0) = false := beq_eq_false_iff_ne.2 (by omega)
    go_enter Tryz.func77, Tryz.ntmps77
    go_wp2_with fail
    go_loop [3] (fun i => ∃ k : Nat, k ≤ s.size ∧ i = .int .i64 (k : Int) ∧ (s.data.toList.take k).all (fun c => tokN c.toNat) = true) (fun i => s.size - (intOf i).toNat)
    case atStart => exact ⟨0, by omega, rfl, rfl⟩
    case round =>
      obtain ⟨k, hk, rfl, hall⟩ := hrel
      have HA := Lib.hid hall
      clear hall
      rcases Nat.lt_or_ge k s.size with hkl | hkl
      · have hkl' : k < s.data.toList.length := by simpa using hkl
        have hg : s.data.toList[k] = s[k] := by simp; rfl
        have HG := Lib.hid hg
        clear hg
        have hlt : s[k].toNat < 256 := s[k].toNat_lt
        have e0 := HT.out s[k].toNat hlt
        obtain ⟨t, htk⟩ : ∃ t, tokN s[k].toNat = t := ⟨_, rfl⟩
        rw [htk] at e0
        have HTK := Lib.hid htk
        clear htk
        have g1 : (s[k].toNat : Int) < 256 := by omega
        cases t
        · go_wp2_with fail
          go_ret
          refine ⟨ret_bool ?_, rfl⟩
          unfold nameOk tokAll
          rw [all_not _ _ k hkl' (by rw [HG.out]; exact HTK.out)]
          simp
        · go_wp2_with fail
          exact ⟨⟨k + 1, by omega, by go_num, all_take _ _ k hkl' HA.out (by rw [HG.out]; exact HTK.out)⟩, by simp [intOf]; omega⟩
      · have e : k = s.size := by omega
        subst e
        go_wp2_with fail
        go_ret
        refine ⟨ret_bool ?_, rfl⟩
        have h := HA.out
        rw [List.take_of_length_le (by simp)] at h
        unfold nameOk tokAll
        rw [h]
        have : s.data.toList ≠ [] := by
          intro e
          have h2 : s.data.toList.length = 0 := by rw [e]; rfl
          rw [Array.length_toList] at h2
          have h3 : s.size = s.data.size := rfl
          omega
        cases hh : s.data.toList
        · exact absurd hh this
        · rfl
end Go.Proofs.YtgcfnhchmmkndaaGreatDoor
