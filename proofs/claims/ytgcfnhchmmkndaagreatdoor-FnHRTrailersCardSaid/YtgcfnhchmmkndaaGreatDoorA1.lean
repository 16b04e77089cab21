/- http.token: a byte of a name. -/
import Derived.Test.YtgcfnhchmmkndaaGreatDoorProg
import Derived.Test.YtgcfnhchmmkndaaGreatDoorMem
import Derived.WalkKit
import Derived.Lib.Hide
namespace Go.Proofs.YtgcfnhchmmkndaaGreatDoor
open Go.RowKit
set_option linter.unusedVariables false
set_option maxRecDepth 100000

def marks : List Nat := [33, 35, 36, 37, 38, 39, 42, 43, 45, 46, 94, 95, 124, 126, 96]
def alnum (c : Nat) : Bool := (decide (48 ≤ c) && decide (c ≤ 57)) || (decide (97 ≤ c) && decide (c ≤ 122)) || (decide (65 ≤ c) && decide (c ≤ 90))
def tokN (c : Nat) : Bool := alnum c || marks.contains c

theorem ret_bool {a b : Bool} (h : a = b) : Ending.returned (.bool a) = .returned (.bool b) := by rw [h]

set_option maxHeartbeats 4000000 in
theorem token_at (c : Nat) (hc : c < 256) (w : World) : Calls Tryz.prog 98 #[.int .u8 (c : Int)] w fun e w' => e = .returned (.bool (tokN c)) ∧ w' = w := by
  cases ha : alnum c
  · have hn : ¬ (48 ≤ c ∧ c ≤ 57) ∧ ¬ (97 ≤ c ∧ c ≤ 122) ∧ ¬ (65 ≤ c ∧ c ≤ 90) := by
      unfold alnum at ha
      simp at ha
      omega
    have ht : tokN c = marks.contains c := by unfold tokN; rw [ha]; rfl
    have HT := Lib.hid ht
    clear ha ht
    obtain ⟨h1, h2, h3⟩ := hn
    go_enter Tryz.func98, Tryz.ntmps98
    go_wp2_with fail
    all_goals try omega
    all_goals
      go_loop [3] (fun i => ∃ k : Nat, k ≤ 15 ∧ i = .int .i64 (k : Int) ∧ ∀ x ∈ marks.take k, x ≠ c) (fun i => 15 - (intOf i).toNat)
      case atStart => exact ⟨0, by omega, rfl, by simp⟩
      case round =>
        obtain ⟨k, hk, rfl, hlt⟩ := hrel
        have HL := Lib.hid hlt
        clear hlt
        rcases (by omega : k = 0 ∨ k = 1 ∨ k = 2 ∨ k = 3 ∨ k = 4 ∨ k = 5 ∨ k = 6 ∨ k = 7 ∨ k = 8 ∨ k = 9 ∨ k = 10 ∨ k = 11 ∨ k = 12 ∨ k = 13 ∨ k = 14 ∨ k = 15) with rfl | rfl | rfl | rfl | rfl | rfl | rfl | rfl | rfl | rfl | rfl | rfl | rfl | rfl | rfl | rfl
        · by_cases e : c = 33
          · have f : (((({ data := #[33, 35, 36, 37, 38, 39, 42, 43, 45, 46, 94, 95, 124, 126, 96] } : ByteArray)[0]'(by decide)).toNat : Int) == (c : Int)) = true := by
              rw [e]; rfl
            have HE := Lib.hid e
            clear e
            go_wp2_with fail
            go_ret
            exact ⟨ret_bool (by rw [HT.out, HE.out]; rfl), rfl⟩
          · have f : (((({ data := #[33, 35, 36, 37, 38, 39, 42, 43, 45, 46, 94, 95, 124, 126, 96] } : ByteArray)[0]'(by decide)).toNat : Int) == (c : Int)) = false := by
              show (((33 : Nat) : Int) == (c : Int)) = false
              simp; omega
            have HE := Lib.hid e
            clear e
            go_wp2_with fail
            exact ⟨⟨1, by omega, rfl, by
              have h := HL.out
              intro x hx
              rw [show marks.take 1 = marks.take 0 ++ [33] from rfl, List.mem_append] at hx
              rcases hx with hx | hx
              · exact h x hx
              · rw [List.mem_singleton] at hx; rw [hx]; exact Ne.symm HE.out⟩, by decide⟩
        · by_cases e : c = 35
          · have f : (((({ data := #[33, 35, 36, 37, 38, 39, 42, 43, 45, 46, 94, 95, 124, 126, 96] } : ByteArray)[1]'(by decide)).toNat : Int) == (c : Int)) = true := by
              rw [e]; rfl
            have HE := Lib.hid e
            clear e
            go_wp2_with fail
            go_ret
            exact ⟨ret_bool (by rw [HT.out, HE.out]; rfl), rfl⟩
          · have f : (((({ data := #[33, 35, 36, 37, 38, 39, 42, 43, 45, 46, 94, 95, 124, 126, 96] } : ByteArray)[1]'(by decide)).toNat : Int) == (c : Int)) = false := by
              show (((35 : Nat) : Int) == (c : Int)) = false
              simp; omega
            have HE := Lib.hid e
            clear e
            go_wp2_with fail
            exact ⟨⟨2, by omega, rfl, by
              have h := HL.out
              intro x hx
              rw [show marks.take 2 = marks.take 1 ++ [35] from rfl, List.mem_append] at hx
              rcases hx with hx | hx
              · exact h x hx
              · rw [List.mem_singleton] at hx; rw [hx]; exact Ne.symm HE.out⟩, by decide⟩
        · by_cases e : c = 36
          · have f : (((({ data := #[33, 35, 36, 37, 38, 39, 42, 43, 45, 46, 94, 95, 124, 126, 96] } : ByteArray)[2]'(by decide)).toNat : Int) == (c : Int)) = true := by
              rw [e]; rfl
            have HE := Lib.hid e
            clear e
            go_wp2_with fail
            go_ret
            exact ⟨ret_bool (by rw [HT.out, HE.out]; rfl), rfl⟩
          · have f : (((({ data := #[33, 35, 36, 37, 38, 39, 42, 43, 45, 46, 94, 95, 124, 126, 96] } : ByteArray)[2]'(by decide)).toNat : Int) == (c : Int)) = false := by
              show (((36 : Nat) : Int) == (c : Int)) = false
              simp; omega
            have HE := Lib.hid e
            clear e
            go_wp2_with fail
            exact ⟨⟨3, by omega, rfl, by
              have h := HL.out
              intro x hx
              rw [show marks.take 3 = marks.take 2 ++ [36] from rfl, List.mem_append] at hx
              rcases hx with hx | hx
              · exact h x hx
              · rw [List.mem_singleton] at hx; rw [hx]; exact Ne.symm HE.out⟩, by decide⟩
        · by_cases e : c = 37
          · have f : (((({ data := #[33, 35, 36, 37, 38, 39, 42, 43, 45, 46, 94, 95, 124, 126, 96] } : ByteArray)[3]'(by decide)).toNat : Int) == (c : Int)) = true := by
              rw [e]; rfl
            have HE := Lib.hid e
            clear e
            go_wp2_with fail
            go_ret
            exact ⟨ret_bool (by rw [HT.out, HE.out]; rfl), rfl⟩
          · have f : (((({ data := #[33, 35, 36, 37, 38, 39, 42, 43, 45, 46, 94, 95, 124, 126, 96] } : ByteArray)[3]'(by decide)).toNat : Int) == (c : Int)) = false := by
              show (((37 : Nat) : Int) == (c : Int)) = false
              simp; omega
            have HE := Lib.hid e
            clear e
            go_wp2_with fail
            exact ⟨⟨4, by omega, rfl, by
              have h := HL.out
              intro x hx
              rw [show marks.take 4 = marks.take 3 ++ [37] from rfl, List.mem_append] at hx
              rcases hx with hx | hx
              · exact h x hx
              · rw [List.mem_singleton] at hx; rw [hx]; exact Ne.symm HE.out⟩, by decide⟩
        · by_cases e : c = 38
          · have f : (((({ data := #[33, 35, 36, 37, 38, 39, 42, 43, 45, 46, 94, 95, 124, 126, 96] } : ByteArray)[4]'(by decide)).toNat : Int) == (c : Int)) = true := by
              rw [e]; rfl
            have HE := Lib.hid e
            clear e
            go_wp2_with fail
            go_ret
            exact ⟨ret_bool (by rw [HT.out, HE.out]; rfl), rfl⟩
          · have f : (((({ data := #[33, 35, 36, 37, 38, 39, 42, 43, 45, 46, 94, 95, 124, 126, 96] } : ByteArray)[4]'(by decide)).toNat : Int) == (c : Int)) = false := by
              show (((38 : Nat) : Int) == (c : Int)) = false
              simp; omega
            have HE := Lib.hid e
            clear e
            go_wp2_with fail
            exact ⟨⟨5, by omega, rfl, by
              have h := HL.out
              intro x hx
              rw [show marks.take 5 = marks.take 4 ++ [38] from rfl, List.mem_append] at hx
              rcases hx with hx | hx
              · exact h x hx
              · rw [List.mem_singleton] at hx; rw [hx]; exact Ne.symm HE.out⟩, by decide⟩
        · by_cases e : c = 39
          · have f : (((({ data := #[33, 35, 36, 37, 38, 39, 42, 43, 45, 46, 94, 95, 124, 126, 96] } : ByteArray)[5]'(by decide)).toNat : Int) == (c : Int)) = true := by
              rw [e]; rfl
            have HE := Lib.hid e
            clear e
            go_wp2_with fail
            go_ret
            exact ⟨ret_bool (by rw [HT.out, HE.out]; rfl), rfl⟩
          · have f : (((({ data := #[33, 35, 36, 37, 38, 39, 42, 43, 45, 46, 94, 95, 124, 126, 96] } : ByteArray)[5]'(by decide)).toNat : Int) == (c : Int)) = false := by
              show (((39 : Nat) : Int) == (c : Int)) = false
              simp; omega
            have HE := Lib.hid e
            clear e
            go_wp2_with fail
            exact ⟨⟨6, by omega, rfl, by
              have h := HL.out
              intro x hx
              rw [show marks.take 6 = marks.take 5 ++ [39] from rfl, List.mem_append] at hx
              rcases hx with hx | hx
              · exact h x hx
              · rw [List.mem_singleton] at hx; rw [hx]; exact Ne.symm HE.out⟩, by decide⟩
        · by_cases e : c = 42
          · have f : (((({ data := #[33, 35, 36, 37, 38, 39, 42, 43, 45, 46, 94, 95, 124, 126, 96] } : ByteArray)[6]'(by decide)).toNat : Int) == (c : Int)) = true := by
              rw [e]; rfl
            have HE := Lib.hid e
            clear e
            go_wp2_with fail
            go_ret
            exact ⟨ret_bool (by rw [HT.out, HE.out]; rfl), rfl⟩
          · have f : (((({ data := #[33, 35, 36, 37, 38, 39, 42, 43, 45, 46, 94, 95, 124, 126, 96] } : ByteArray)[6]'(by decide)).toNat : Int) == (c : Int)) = false := by
              show (((42 : Nat) : Int) == (c : Int)) = false
              simp; omega
            have HE := Lib.hid e
            clear e
            go_wp2_with fail
            exact ⟨⟨7, by omega, rfl, by
              have h := HL.out
              intro x hx
              rw [show marks.take 7 = marks.take 6 ++ [42] from rfl, List.mem_append] at hx
              rcases hx with hx | hx
              · exact h x hx
              · rw [List.mem_singleton] at hx; rw [hx]; exact Ne.symm HE.out⟩, by decide⟩
        · by_cases e : c = 43
          · have f : (((({ data := #[33, 35, 36, 37, 38, 39, 42, 43, 45, 46, 94, 95, 124, 126, 96] } : ByteArray)[7]'(by decide)).toNat : Int) == (c : Int)) = true := by
              rw [e]; rfl
            have HE := Lib.hid e
            clear e
            go_wp2_with fail
            go_ret
            exact ⟨ret_bool (by rw [HT.out, HE.out]; rfl), rfl⟩
          · have f : (((({ data := #[33, 35, 36, 37, 38, 39, 42, 43, 45, 46, 94, 95, 124, 126, 96] } : ByteArray)[7]'(by decide)).toNat : Int) == (c : Int)) = false := by
              show (((43 : Nat) : Int) == (c : Int)) = false
              simp; omega
            have HE := Lib.hid e
            clear e
            go_wp2_with fail
            exact ⟨⟨8, by omega, rfl, by
              have h := HL.out
              intro x hx
              rw [show marks.take 8 = marks.take 7 ++ [43] from rfl, List.mem_append] at hx
              rcases hx with hx | hx
              · exact h x hx
              · rw [List.mem_singleton] at hx; rw [hx]; exact Ne.symm HE.out⟩, by decide⟩
        · by_cases e : c = 45
          · have f : (((({ data := #[33, 35, 36, 37, 38, 39, 42, 43, 45, 46, 94, 95, 124, 126, 96] } : ByteArray)[8]'(by decide)).toNat : Int) == (c : Int)) = true := by
              rw [e]; rfl
            have HE := Lib.hid e
            clear e
            go_wp2_with fail
            go_ret
            exact ⟨ret_bool (by rw [HT.out, HE.out]; rfl), rfl⟩
          · have f : (((({ data := #[33, 35, 36, 37, 38, 39, 42, 43, 45, 46, 94, 95, 124, 126, 96] } : ByteArray)[8]'(by decide)).toNat : Int) == (c : Int)) = false := by
              show (((45 : Nat) : Int) == (c : Int)) = false
              simp; omega
            have HE := Lib.hid e
            clear e
            go_wp2_with fail
            exact ⟨⟨9, by omega, rfl, by
              have h := HL.out
              intro x hx
              rw [show marks.take 9 = marks.take 8 ++ [45] from rfl, List.mem_append] at hx
              rcases hx with hx | hx
              · exact h x hx
              · rw [List.mem_singleton] at hx; rw [hx]; exact Ne.symm HE.out⟩, by decide⟩
        · by_cases e : c = 46
          · have f : (((({ data := #[33, 35, 36, 37, 38, 39, 42, 43, 45, 46, 94, 95, 124, 126, 96] } : ByteArray)[9]'(by decide)).toNat : Int) == (c : Int)) = true := by
              rw [e]; rfl
            have HE := Lib.hid e
            clear e
            go_wp2_with fail
            go_ret
            exact ⟨ret_bool (by rw [HT.out, HE.out]; rfl), rfl⟩
          · have f : (((({ data := #[33, 35, 36, 37, 38, 39, 42, 43, 45, 46, 94, 95, 124, 126, 96] } : ByteArray)[9]'(by decide)).toNat : Int) == (c : Int)) = false := by
              show (((46 : Nat) : Int) == (c : Int)) = false
              simp; omega
            have HE := Lib.hid e
            clear e
            go_wp2_with fail
            exact ⟨⟨10, by omega, rfl, by
              have h := HL.out
              intro x hx
              rw [show marks.take 10 = marks.take 9 ++ [46] from rfl, List.mem_append] at hx
              rcases hx with hx | hx
              · exact h x hx
              · rw [List.mem_singleton] at hx; rw [hx]; exact Ne.symm HE.out⟩, by decide⟩
        · by_cases e : c = 94
          · have f : (((({ data := #[33, 35, 36, 37, 38, 39, 42, 43, 45, 46, 94, 95, 124, 126, 96] } : ByteArray)[10]'(by decide)).toNat : Int) == (c : Int)) = true := by
              rw [e]; rfl
            have HE := Lib.hid e
            clear e
            go_wp2_with fail
            go_ret
            exact ⟨ret_bool (by rw [HT.out, HE.out]; rfl), rfl⟩
          · have f : (((({ data := #[33, 35, 36, 37, 38, 39, 42, 43, 45, 46, 94, 95, 124, 126, 96] } : ByteArray)[10]'(by decide)).toNat : Int) == (c : Int)) = false := by
              show (((94 : Nat) : Int) == (c : Int)) = false
              simp; omega
            have HE := Lib.hid e
            clear e
            go_wp2_with fail
            exact ⟨⟨11, by omega, rfl, by
              have h := HL.out
              intro x hx
              rw [show marks.take 11 = marks.take 10 ++ [94] from rfl, List.mem_append] at hx
              rcases hx with hx | hx
              · exact h x hx
              · rw [List.mem_singleton] at hx; rw [hx]; exact Ne.symm HE.out⟩, by decide⟩
        · by_cases e : c = 95
          · have f : (((({ data := #[33, 35, 36, 37, 38, 39, 42, 43, 45, 46, 94, 95, 124, 126, 96] } : ByteArray)[11]'(by decide)).toNat : Int) == (c : Int)) = true := by
              rw [e]; rfl
            have HE := Lib.hid e
            clear e
            go_wp2_with fail
            go_ret
            exact ⟨ret_bool (by rw [HT.out, HE.out]; rfl), rfl⟩
          · have f : (((({ data := #[33, 35, 36, 37, 38, 39, 42, 43, 45, 46, 94, 95, 124, 126, 96] } : ByteArray)[11]'(by decide)).toNat : Int) == (c : Int)) = false := by
              show (((95 : Nat) : Int) == (c : Int)) = false
              simp; omega
            have HE := Lib.hid e
            clear e
            go_wp2_with fail
            exact ⟨⟨12, by omega, rfl, by
              have h := HL.out
              intro x hx
              rw [show marks.take 12 = marks.take 11 ++ [95] from rfl, List.mem_append] at hx
              rcases hx with hx | hx
              · exact h x hx
              · rw [List.mem_singleton] at hx; rw [hx]; exact Ne.symm HE.out⟩, by decide⟩
        · by_cases e : c = 124
          · have f : (((({ data := #[33, 35, 36, 37, 38, 39, 42, 43, 45, 46, 94, 95, 124, 126, 96] } : ByteArray)[12]'(by decide)).toNat : Int) == (c : Int)) = true := by
              rw [e]; rfl
            have HE := Lib.hid e
            clear e
            go_wp2_with fail
            go_ret
            exact ⟨ret_bool (by rw [HT.out, HE.out]; rfl), rfl⟩
          · have f : (((({ data := #[33, 35, 36, 37, 38, 39, 42, 43, 45, 46, 94, 95, 124, 126, 96] } : ByteArray)[12]'(by decide)).toNat : Int) == (c : Int)) = false := by
              show (((124 : Nat) : Int) == (c : Int)) = false
              simp; omega
            have HE := Lib.hid e
            clear e
            go_wp2_with fail
            exact ⟨⟨13, by omega, rfl, by
              have h := HL.out
              intro x hx
              rw [show marks.take 13 = marks.take 12 ++ [124] from rfl, List.mem_append] at hx
              rcases hx with hx | hx
              · exact h x hx
              · rw [List.mem_singleton] at hx; rw [hx]; exact Ne.symm HE.out⟩, by decide⟩
        · by_cases e : c = 126
          · have f : (((({ data := #[33, 35, 36, 37, 38, 39, 42, 43, 45, 46, 94, 95, 124, 126, 96] } : ByteArray)[13]'(by decide)).toNat : Int) == (c : Int)) = true := by
              rw [e]; rfl
            have HE := Lib.hid e
            clear e
            go_wp2_with fail
            go_ret
            exact ⟨ret_bool (by rw [HT.out, HE.out]; rfl), rfl⟩
          · have f : (((({ data := #[33, 35, 36, 37, 38, 39, 42, 43, 45, 46, 94, 95, 124, 126, 96] } : ByteArray)[13]'(by decide)).toNat : Int) == (c : Int)) = false := by
              show (((126 : Nat) : Int) == (c : Int)) = false
              simp; omega
            have HE := Lib.hid e
            clear e
            go_wp2_with fail
            exact ⟨⟨14, by omega, rfl, by
              have h := HL.out
              intro x hx
              rw [show marks.take 14 = marks.take 13 ++ [126] from rfl, List.mem_append] at hx
              rcases hx with hx | hx
              · exact h x hx
              · rw [List.mem_singleton] at hx; rw [hx]; exact Ne.symm HE.out⟩, by decide⟩
        · by_cases e : c = 96
          · have f : (((({ data := #[33, 35, 36, 37, 38, 39, 42, 43, 45, 46, 94, 95, 124, 126, 96] } : ByteArray)[14]'(by decide)).toNat : Int) == (c : Int)) = true := by
              rw [e]; rfl
            have HE := Lib.hid e
            clear e
            go_wp2_with fail
            go_ret
            exact ⟨ret_bool (by rw [HT.out, HE.out]; rfl), rfl⟩
          · have f : (((({ data := #[33, 35, 36, 37, 38, 39, 42, 43, 45, 46, 94, 95, 124, 126, 96] } : ByteArray)[14]'(by decide)).toNat : Int) == (c : Int)) = false := by
              show (((96 : Nat) : Int) == (c : Int)) = false
              simp; omega
            have HE := Lib.hid e
            clear e
            go_wp2_with fail
            exact ⟨⟨15, by omega, rfl, by
              have h := HL.out
              intro x hx
              rw [show marks.take 15 = marks.take 14 ++ [96] from rfl, List.mem_append] at hx
              rcases hx with hx | hx
              · exact h x hx
              · rw [List.mem_singleton] at hx; rw [hx]; exact Ne.symm HE.out⟩, by decide⟩
        · go_wp2_with fail
          go_ret
          refine ⟨ret_bool ?_, rfl⟩
          rw [HT.out]
          have h := HL.out
          rw [show marks.take 15 = marks from rfl] at h
          cases hm : marks.contains c
          · rfl
          · exact absurd rfl (h c (by simpa using hm))
  · have ht : tokN c = true := by unfold tokN; rw [ha]; rfl
    rw [ht]
    have hn : (48 ≤ c ∧ c ≤ 57) ∨ (97 ≤ c ∧ c ≤ 122) ∨ (65 ≤ c ∧ c ≤ 90) := by
      unfold alnum at ha
      simp at ha
      omega
    clear ha ht
    rcases hn with ⟨h1, h2⟩ | ⟨h1, h2⟩ | ⟨h1, h2⟩
    all_goals
      go_enter Tryz.func98, Tryz.ntmps98
      go_wp2_with fail
      all_goals first
        | omega
        | (go_ret; exact ⟨rfl, rfl⟩)
end Go.Proofs.YtgcfnhchmmkndaaGreatDoor
