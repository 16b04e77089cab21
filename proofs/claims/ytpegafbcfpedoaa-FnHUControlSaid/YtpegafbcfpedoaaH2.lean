/- spec.H3Get, where there are enough bytes: the number and how many bytes it has; nothing in memory turns. -/
import Derived.Test.YtpegafbcfpedoaaH1
namespace Go.Proofs.Ytpegafbcfpedoaa
open Go.RowKit
set_option linter.unusedVariables false
set_option maxRecDepth 100000

set_option maxHeartbeats 1000000 in
theorem get_0 (b o n c : Nat) (bs : List UInt8) (w : World) (hn2 : n ≤ 1099511627776) (hn0 : 0 < bs.length) (hl : bs.length = n) (hnc : n ≤ c) (hu8 : 1 ≤ n)
    (hc : ∀ k, (hk : k < bs.length) → w.cell? ⟨b, o + k, none⟩ = some (.int .u8 ((bs[k]).toNat : Int)))
    (hq : (bs[0]'hn0).toNat / 64 = 0) :
    Calls Try.prog 14 #[.slice (some ⟨b, o, none⟩) n c] w fun e w' => e = .returned (.tuple #[.int .u64 (vnVal bs 1), .int .i64 1]) ∧ w = w' := by
  have h0 : w.cell? ⟨b, o, none⟩ = some (.int .u8 ((bs[0]'hn0).toNat : Int)) := hc 0 hn0
  have hne : ((n : Int) == 0) = false := by simp; omega
  have hn' : (0 : Int) < (n : Int) := by omega
  have hlt : (bs[0]'hn0).toNat < 256 := (bs[0]'hn0).toNat_lt
  have hw4 : wrap64 1 = 1 := IntWalk.wrap64_in 1 (by omega)
  have hs1 : vnVal bs 1 = (bs[0]'hn0).toNat % 64 := by rw [vnVal_one]; cases bs with | nil => simp at hl; omega | cons x r => rfl
  have HC := Lib.hid hc
  have HL := Lib.hid hl
  have HQ := Lib.hid hq
  have H1 := Lib.hid hs1
  clear hc hl hs1
  by_cases hc1 : c = 1
  · subst hc1
    go_enter Try.func14, Try.ntmps14
    go_wp2
    go_loop [5, 30] (fun v i => ∃ k : Nat, 1 ≤ k ∧ k ≤ 1 ∧ i = .int .i64 ((k - 1 : Nat) : Int) ∧ v = .int .u64 (vnVal bs k)) (fun _ i => 1 - (intOf i).toNat)
    case atStart => exact ⟨1, by omega, by omega, rfl, u64_eq (by rw [H1.out]; omega)⟩
    case round =>
      obtain ⟨k, hk1, hk2, rfl, rfl⟩ := hrel
      by_cases hlt : k < 1
      · exfalso; omega
      · obtain rfl : k = 1 := by omega
        go_wp2
        go_ret2
        exact ⟨rfl, rfl⟩
  · skip
    go_enter Try.func14, Try.ntmps14
    go_wp2
    go_loop [5, 30] (fun v i => ∃ k : Nat, 1 ≤ k ∧ k ≤ 1 ∧ i = .int .i64 ((k - 1 : Nat) : Int) ∧ v = .int .u64 (vnVal bs k)) (fun _ i => 1 - (intOf i).toNat)
    case atStart => exact ⟨1, by omega, by omega, rfl, u64_eq (by rw [H1.out]; omega)⟩
    case round =>
      obtain ⟨k, hk1, hk2, rfl, rfl⟩ := hrel
      by_cases hlt : k < 1
      · exfalso; omega
      · obtain rfl : k = 1 := by omega
        go_wp2
        go_ret2
        exact ⟨rfl, rfl⟩

set_option maxHeartbeats 1000000 in
theorem get_1 (b o n c : Nat) (bs : List UInt8) (w : World) (hn2 : n ≤ 1099511627776) (hn0 : 0 < bs.length) (hl : bs.length = n) (hnc : n ≤ c) (hu8 : 2 ≤ n)
    (hc : ∀ k, (hk : k < bs.length) → w.cell? ⟨b, o + k, none⟩ = some (.int .u8 ((bs[k]).toNat : Int)))
    (hq : (bs[0]'hn0).toNat / 64 = 1) :
    Calls Try.prog 14 #[.slice (some ⟨b, o, none⟩) n c] w fun e w' => e = .returned (.tuple #[.int .u64 (vnVal bs 2), .int .i64 2]) ∧ w = w' := by
  have h0 : w.cell? ⟨b, o, none⟩ = some (.int .u8 ((bs[0]'hn0).toNat : Int)) := hc 0 hn0
  have hne : ((n : Int) == 0) = false := by simp; omega
  have hn' : (0 : Int) < (n : Int) := by omega
  have hlt : (bs[0]'hn0).toNat < 256 := (bs[0]'hn0).toNat_lt
  have hw4 : wrap64 2 = 2 := IntWalk.wrap64_in 2 (by omega)
  have hs1 : vnVal bs 1 = (bs[0]'hn0).toNat % 64 := by rw [vnVal_one]; cases bs with | nil => simp at hl; omega | cons x r => rfl
  have HC := Lib.hid hc
  have HL := Lib.hid hl
  have HQ := Lib.hid hq
  have H1 := Lib.hid hs1
  clear hc hl hs1
  have hc1 : ¬ c = 1 := by omega
  go_enter Try.func14, Try.ntmps14
  go_wp2
  go_loop [5, 30] (fun v i => ∃ k : Nat, 1 ≤ k ∧ k ≤ 2 ∧ i = .int .i64 ((k - 1 : Nat) : Int) ∧ v = .int .u64 (vnVal bs k)) (fun _ i => 2 - (intOf i).toNat)
  case atStart => exact ⟨1, by omega, by omega, rfl, u64_eq (by rw [H1.out]; omega)⟩
  case round =>
    obtain ⟨k, hk1, hk2, rfl, rfl⟩ := hrel
    by_cases hlt : k < 2
    · have hkl : k < bs.length := by have := HL.out; omega
      have hck : w.cell? ⟨b, o + 1 + (k - 1), none⟩ = some (.int .u8 ((bs[k]).toNat : Int)) := by
        rw [show o + 1 + (k - 1) = o + k by omega]
        exact HC.out k hkl
      have hkn : k < n := by omega
      have hv : vnVal bs k < 18014398509481984 := by
        have := vnVal_lt bs k
        have h2 : 64 * 256 ^ (k - 1) ≤ 64 * 256 ^ 6 := Nat.mul_le_mul_left _ (Nat.pow_le_pow_right (by omega) (by omega))
        omega
      have hbk : (bs[k]).toNat < 256 := (bs[k]).toNat_lt
      have HR := Lib.hid (vnVal_round bs k hk1 hkl hv)
      go_wp2
      exact ⟨⟨k + 1, by omega, by omega, i64_eq (by omega), u64_eq HR.out⟩, by simp [intOf]; omega⟩
    · obtain rfl : k = 2 := by omega
      go_wp2
      go_ret2
      exact ⟨rfl, rfl⟩

set_option maxHeartbeats 1000000 in
theorem get_2 (b o n c : Nat) (bs : List UInt8) (w : World) (hn2 : n ≤ 1099511627776) (hn0 : 0 < bs.length) (hl : bs.length = n) (hnc : n ≤ c) (hu8 : 4 ≤ n)
    (hc : ∀ k, (hk : k < bs.length) → w.cell? ⟨b, o + k, none⟩ = some (.int .u8 ((bs[k]).toNat : Int)))
    (hq : (bs[0]'hn0).toNat / 64 = 2) :
    Calls Try.prog 14 #[.slice (some ⟨b, o, none⟩) n c] w fun e w' => e = .returned (.tuple #[.int .u64 (vnVal bs 4), .int .i64 4]) ∧ w = w' := by
  have h0 : w.cell? ⟨b, o, none⟩ = some (.int .u8 ((bs[0]'hn0).toNat : Int)) := hc 0 hn0
  have hne : ((n : Int) == 0) = false := by simp; omega
  have hn' : (0 : Int) < (n : Int) := by omega
  have hlt : (bs[0]'hn0).toNat < 256 := (bs[0]'hn0).toNat_lt
  have hw4 : wrap64 4 = 4 := IntWalk.wrap64_in 4 (by omega)
  have hs1 : vnVal bs 1 = (bs[0]'hn0).toNat % 64 := by rw [vnVal_one]; cases bs with | nil => simp at hl; omega | cons x r => rfl
  have HC := Lib.hid hc
  have HL := Lib.hid hl
  have HQ := Lib.hid hq
  have H1 := Lib.hid hs1
  clear hc hl hs1
  have hc1 : ¬ c = 1 := by omega
  go_enter Try.func14, Try.ntmps14
  go_wp2
  go_loop [5, 30] (fun v i => ∃ k : Nat, 1 ≤ k ∧ k ≤ 4 ∧ i = .int .i64 ((k - 1 : Nat) : Int) ∧ v = .int .u64 (vnVal bs k)) (fun _ i => 4 - (intOf i).toNat)
  case atStart => exact ⟨1, by omega, by omega, rfl, u64_eq (by rw [H1.out]; omega)⟩
  case round =>
    obtain ⟨k, hk1, hk2, rfl, rfl⟩ := hrel
    by_cases hlt : k < 4
    · have hkl : k < bs.length := by have := HL.out; omega
      have hck : w.cell? ⟨b, o + 1 + (k - 1), none⟩ = some (.int .u8 ((bs[k]).toNat : Int)) := by
        rw [show o + 1 + (k - 1) = o + k by omega]
        exact HC.out k hkl
      have hkn : k < n := by omega
      have hv : vnVal bs k < 18014398509481984 := by
        have := vnVal_lt bs k
        have h2 : 64 * 256 ^ (k - 1) ≤ 64 * 256 ^ 6 := Nat.mul_le_mul_left _ (Nat.pow_le_pow_right (by omega) (by omega))
        omega
      have hbk : (bs[k]).toNat < 256 := (bs[k]).toNat_lt
      have HR := Lib.hid (vnVal_round bs k hk1 hkl hv)
      go_wp2
      exact ⟨⟨k + 1, by omega, by omega, i64_eq (by omega), u64_eq HR.out⟩, by simp [intOf]; omega⟩
    · obtain rfl : k = 4 := by omega
      go_wp2
      go_ret2
      exact ⟨rfl, rfl⟩

set_option maxHeartbeats 1000000 in
theorem get_3 (b o n c : Nat) (bs : List UInt8) (w : World) (hn2 : n ≤ 1099511627776) (hn0 : 0 < bs.length) (hl : bs.length = n) (hnc : n ≤ c) (hu8 : 8 ≤ n)
    (hc : ∀ k, (hk : k < bs.length) → w.cell? ⟨b, o + k, none⟩ = some (.int .u8 ((bs[k]).toNat : Int)))
    (hq : (bs[0]'hn0).toNat / 64 = 3) :
    Calls Try.prog 14 #[.slice (some ⟨b, o, none⟩) n c] w fun e w' => e = .returned (.tuple #[.int .u64 (vnVal bs 8), .int .i64 8]) ∧ w = w' := by
  have h0 : w.cell? ⟨b, o, none⟩ = some (.int .u8 ((bs[0]'hn0).toNat : Int)) := hc 0 hn0
  have hne : ((n : Int) == 0) = false := by simp; omega
  have hn' : (0 : Int) < (n : Int) := by omega
  have hlt : (bs[0]'hn0).toNat < 256 := (bs[0]'hn0).toNat_lt
  have hw4 : wrap64 8 = 8 := IntWalk.wrap64_in 8 (by omega)
  have hs1 : vnVal bs 1 = (bs[0]'hn0).toNat % 64 := by rw [vnVal_one]; cases bs with | nil => simp at hl; omega | cons x r => rfl
  have HC := Lib.hid hc
  have HL := Lib.hid hl
  have HQ := Lib.hid hq
  have H1 := Lib.hid hs1
  clear hc hl hs1
  have hc1 : ¬ c = 1 := by omega
  go_enter Try.func14, Try.ntmps14
  go_wp2
  go_loop [5, 30] (fun v i => ∃ k : Nat, 1 ≤ k ∧ k ≤ 8 ∧ i = .int .i64 ((k - 1 : Nat) : Int) ∧ v = .int .u64 (vnVal bs k)) (fun _ i => 8 - (intOf i).toNat)
  case atStart => exact ⟨1, by omega, by omega, rfl, u64_eq (by rw [H1.out]; omega)⟩
  case round =>
    obtain ⟨k, hk1, hk2, rfl, rfl⟩ := hrel
    by_cases hlt : k < 8
    · have hkl : k < bs.length := by have := HL.out; omega
      have hck : w.cell? ⟨b, o + 1 + (k - 1), none⟩ = some (.int .u8 ((bs[k]).toNat : Int)) := by
        rw [show o + 1 + (k - 1) = o + k by omega]
        exact HC.out k hkl
      have hkn : k < n := by omega
      have hv : vnVal bs k < 18014398509481984 := by
        have := vnVal_lt bs k
        have h2 : 64 * 256 ^ (k - 1) ≤ 64 * 256 ^ 6 := Nat.mul_le_mul_left _ (Nat.pow_le_pow_right (by omega) (by omega))
        omega
      have hbk : (bs[k]).toNat < 256 := (bs[k]).toNat_lt
      have HR := Lib.hid (vnVal_round bs k hk1 hkl hv)
      go_wp2
      exact ⟨⟨k + 1, by omega, by omega, i64_eq (by omega), u64_eq HR.out⟩, by simp [intOf]; omega⟩
    · obtain rfl : k = 8 := by omega
      go_wp2
      go_ret2
      exact ⟨rfl, rfl⟩

theorem get_any (b o n c : Nat) (bs : List UInt8) (w : World) (hn2 : n ≤ 1099511627776) (hl : bs.length = n) (hnc : n ≤ c) (hn : 0 < n)
    (hc : ∀ k, (hk : k < bs.length) → w.cell? ⟨b, o + k, none⟩ = some (.int .u8 ((bs[k]).toNat : Int))) (hu : vnUsed bs ≠ 0) :
    Calls Try.prog 14 #[.slice (some ⟨b, o, none⟩) n c] w fun e w' => e = .returned (.tuple #[.int .u64 (vnNum bs), .int .i64 (vnUsed bs)]) ∧ w = w' := by
  have hue := vnUsed_cons bs (by omega)
  have hlt : (bs[0]).toNat < 256 := (bs[0]).toNat_lt
  have hle : ¬ bs.length < 2 ^ ((bs[0]).toNat / 64) := by
    intro h
    rw [if_pos h] at hue
    exact hu hue
  rw [if_neg hle] at hue
  rw [vnNum_of bs _ hue (by have := Nat.pow_pos (n := (bs[0]).toNat / 64) (show 0 < 2 by omega); omega), hue]
  rcases (show (bs[0]).toNat / 64 = 0 ∨ (bs[0]).toNat / 64 = 1 ∨ (bs[0]).toNat / 64 = 2 ∨ (bs[0]).toNat / 64 = 3 by omega) with hq | hq | hq | hq
  all_goals rw [hq] at hle ⊢
  · exact get_0 b o n c bs w hn2 (by omega) hl hnc (by omega) hc hq
  · exact get_1 b o n c bs w hn2 (by omega) hl hnc (by omega) hc hq
  · exact get_2 b o n c bs w hn2 (by omega) hl hnc (by omega) hc hq
  · exact get_3 b o n c bs w hn2 (by omega) hl hnc (by omega) hc hq
end Go.Proofs.Ytpegafbcfpedoaa
