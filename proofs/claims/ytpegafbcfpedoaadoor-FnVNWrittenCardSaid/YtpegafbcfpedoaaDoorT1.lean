/- spec.VNTake: what it answers for any bytes (at most 2^40 of them): the number that RFC 9000 says, and how many bytes it has; nothing in memory turns. -/
import Derived.Test.YtpegafbcfpedoaaDoorProg
import Derived.Test.YtpegafbcfpedoaaDoorMem
import Derived.WalkLawsBesides
import Derived.WalkSpells
import Derived.Outline
import Derived.Lib.EndianBits
import Derived.BigQuiet
import Derived.Lib.Hide
namespace Go.Proofs.YtpegafbcfpedoaaDoor
open Go.RowKit
set_option linter.unusedVariables false

/-- what the first k bytes spell, without the two highest bits of the first -/
def vnVal (bs : List UInt8) (k : Nat) : Nat := Lib.beFrom ((bs.headD 0).toNat % 64) ((bs.drop 1).take (k - 1))

/-- how many bytes the number at the beginning has; 0: they are too few -/
def vnUsed (bs : List UInt8) : Nat := match bs with
  | [] => 0
  | x :: r => if r.length + 1 < 2 ^ (x.toNat / 64) then 0 else 2 ^ (x.toNat / 64)
def vnNum (bs : List UInt8) : Nat := if vnUsed bs = 0 then 0 else vnVal bs (vnUsed bs)

theorem beFrom_append (l r : List UInt8) : ∀ a, Lib.beFrom a (l ++ r) = Lib.beFrom (Lib.beFrom a l) r := by
  induction l with
  | nil => intro a; rfl
  | cons x l ih => intro a; simp only [List.cons_append, Lib.beFrom, ih]
theorem vnVal_succ (bs : List UInt8) (k : Nat) (hk : 1 ≤ k) (h : k < bs.length) : vnVal bs (k + 1) = vnVal bs k * 256 + (bs[k]).toNat := by
  unfold vnVal
  obtain ⟨j, rfl⟩ : ∃ j, k = j + 1 := ⟨k - 1, by omega⟩
  have hl : j < (bs.drop 1).length := by simp; omega
  rw [show j + 1 + 1 - 1 = j + 1 by omega, show j + 1 - 1 = j by omega, List.take_succ_eq_append_getElem hl, beFrom_append]
  simp [Lib.beFrom]
theorem vnVal_one (bs : List UInt8) : vnVal bs 1 = (bs.headD 0).toNat % 64 := by simp [vnVal, Lib.beFrom]
theorem beFrom_lt (l : List UInt8) : ∀ a, Lib.beFrom a l < (a + 1) * 256 ^ l.length := by
  induction l with
  | nil => intro a; simp [Lib.beFrom]
  | cons x l ih =>
    intro a
    have h1 := ih (a * 256 + x.toNat)
    have h2 := x.toNat_lt
    simp only [Lib.beFrom, List.length_cons, Nat.pow_succ]
    calc _ < _ := h1
      _ ≤ (a + 1) * 256 * 256 ^ l.length := Nat.mul_le_mul_right _ (by omega)
      _ = _ := by rw [Nat.mul_assoc, Nat.mul_comm 256]
theorem vnVal_lt (bs : List UInt8) (k : Nat) : vnVal bs k < 64 * 256 ^ (k - 1) := by
  have h := beFrom_lt ((bs.drop 1).take (k - 1)) ((bs.headD 0).toNat % 64)
  have h2 : 256 ^ ((bs.drop 1).take (k - 1)).length ≤ 256 ^ (k - 1) := Nat.pow_le_pow_right (by omega) (List.length_take_le _ _)
  have h3 : ((bs.headD 0).toNat % 64 + 1) * 256 ^ ((bs.drop 1).take (k - 1)).length ≤ 64 * 256 ^ (k - 1) := Nat.mul_le_mul (by omega) h2
  unfold vnVal
  omega
theorem vnVal_round (bs : List UInt8) (k : Nat) (hk1 : 1 ≤ k) (hk : k < bs.length) (hv : vnVal bs k < 18014398509481984) :
    bits BinOp.or IntKind.u64 ((vnVal bs k : Int) * 256) ((bs[k]).toNat : Int) = ((vnVal bs (k + 1) : Nat) : Int) := by
  have hb : (bs[k]).toNat < 256 := (bs[k]).toNat_lt
  rw [vnVal_succ bs k hk1 hk]
  rw [bits_join .u64 64 (by decide) wraps_u64 8 _ _ (by omega) (by omega) (by omega) (by omega) (by omega) (by omega)]
  omega
theorem ret2 {a b c d : Int} (h1 : a = c) (h2 : b = d) : Ending.returned (.tuple #[.int .u64 a, .int .i64 b]) = .returned (.tuple #[.int .u64 c, .int .i64 d]) := by rw [h1, h2]
theorem i64_eq {a b : Int} (h : a = b) : Value.int .i64 a = .int .i64 b := by rw [h]
theorem u64_eq {a b : Int} (h : a = b) : Value.int .u64 a = .int .u64 b := by rw [h]

theorem take_none (A : Option Addr) (c : Nat) (w : World) :
    Calls Tryd.prog 6 #[.slice A 0 c] w fun e w' => e = .returned (.tuple #[.int .u64 0, .int .i64 0]) ∧ w = w' := by
  go_enter Tryd.func6, Tryd.ntmps6
  go_wp2
  go_ret2
  exact ⟨rfl, rfl⟩

theorem take_some0 (b o n c : Nat) (bs : List UInt8) (w : World) (hn2 : n ≤ 1099511627776) (hn0 : 0 < bs.length) (hl : bs.length = n) (hn : 0 < n) (hu8 : 1 ≤ n)
    (hc : ∀ k, (hk : k < bs.length) → w.cell? ⟨b, o + k, none⟩ = some (.int .u8 ((bs[k]).toNat : Int)))
    (hq : (bs[0]'hn0).toNat / 64 = 0) :
    Calls Tryd.prog 6 #[.slice (some ⟨b, o, none⟩) n c] w fun e w' => e = .returned (.tuple #[.int .u64 (vnVal bs 1), .int .i64 1]) ∧ w = w' := by
  have h0 : w.cell? ⟨b, o, none⟩ = some (.int .u8 ((bs[0]'hn0).toNat : Int)) := hc 0 hn0
  have hne : ((n : Int) == 0) = false := by simp; omega
  have hn' : (0 : Int) < (n : Int) := by omega
  have hlt : (bs[0]'hn0).toNat < 256 := (bs[0]'hn0).toNat_lt
  have hw4 : wrap64 1 = 1 := IntWalk.wrap64_in 1 (by omega)
  have hs1 : vnVal bs 1 = (bs[0]'hn0).toNat % 64 := by rw [vnVal_one]; cases bs with | nil => simp at hl; omega | cons x r => rfl
  have HC := Lib.hid hc
  have HL := Lib.hid hl
  have HQ := Lib.hid hq
  have H1 := Lib.hid hs1
  clear hc hl hs1
  go_enter Tryd.func6, Tryd.ntmps6
  go_wp2
  go_loop [5, 6] (fun v i => ∃ k : Nat, 1 ≤ k ∧ k ≤ 1 ∧ i = .int .i64 k ∧ v = .int .u64 (vnVal bs k)) (fun _ i => 1 - (intOf i).toNat)
  case atStart => exact ⟨1, by omega, by omega, rfl, u64_eq (by rw [H1.out]; omega)⟩
  case round =>
    obtain ⟨k, hk1, hk2, rfl, rfl⟩ := hrel
    by_cases hlt : k < 1
    · exfalso; omega
    · obtain rfl : k = 1 := by omega
      go_wp2
      go_ret2
      exact ⟨rfl, rfl⟩

theorem take_some1 (b o n c : Nat) (bs : List UInt8) (w : World) (hn2 : n ≤ 1099511627776) (hn0 : 0 < bs.length) (hl : bs.length = n) (hn : 0 < n) (hu8 : 2 ≤ n)
    (hc : ∀ k, (hk : k < bs.length) → w.cell? ⟨b, o + k, none⟩ = some (.int .u8 ((bs[k]).toNat : Int)))
    (hq : (bs[0]'hn0).toNat / 64 = 1) :
    Calls Tryd.prog 6 #[.slice (some ⟨b, o, none⟩) n c] w fun e w' => e = .returned (.tuple #[.int .u64 (vnVal bs 2), .int .i64 2]) ∧ w = w' := by
  have h0 : w.cell? ⟨b, o, none⟩ = some (.int .u8 ((bs[0]'hn0).toNat : Int)) := hc 0 hn0
  have hne : ((n : Int) == 0) = false := by simp; omega
  have hn' : (0 : Int) < (n : Int) := by omega
  have hlt : (bs[0]'hn0).toNat < 256 := (bs[0]'hn0).toNat_lt
  have hw4 : wrap64 2 = 2 := IntWalk.wrap64_in 2 (by omega)
  have hs1 : vnVal bs 1 = (bs[0]'hn0).toNat % 64 := by rw [vnVal_one]; cases bs with | nil => simp at hl; omega | cons x r => rfl
  have HC := Lib.hid hc
  have HL := Lib.hid hl
  have HQ := Lib.hid hq
  have H1 := Lib.hid hs1
  clear hc hl hs1
  go_enter Tryd.func6, Tryd.ntmps6
  go_wp2
  go_loop [5, 6] (fun v i => ∃ k : Nat, 1 ≤ k ∧ k ≤ 2 ∧ i = .int .i64 k ∧ v = .int .u64 (vnVal bs k)) (fun _ i => 2 - (intOf i).toNat)
  case atStart => exact ⟨1, by omega, by omega, rfl, u64_eq (by rw [H1.out]; omega)⟩
  case round =>
    obtain ⟨k, hk1, hk2, rfl, rfl⟩ := hrel
    by_cases hlt : k < 2
    · have hkl : k < bs.length := by have := HL.out; omega
      have hck := HC.out k hkl
      have hkn : k < n := by omega
      have hv : vnVal bs k < 18014398509481984 := by
        have := vnVal_lt bs k
        have h2 : 64 * 256 ^ (k - 1) ≤ 64 * 256 ^ 6 := Nat.mul_le_mul_left _ (Nat.pow_le_pow_right (by omega) (by omega))
        omega
      have hbk : (bs[k]).toNat < 256 := (bs[k]).toNat_lt
      have HR := Lib.hid (vnVal_round bs k hk1 hkl hv)
      go_wp2
      exact ⟨⟨k + 1, by omega, by omega, by go_num, u64_eq HR.out⟩, by simp [intOf]; omega⟩
    · obtain rfl : k = 2 := by omega
      go_wp2
      go_ret2
      exact ⟨rfl, rfl⟩

theorem take_short1 (b o n c : Nat) (bs : List UInt8) (w : World) (hn0 : 0 < bs.length) (hl : bs.length = n) (hn : 0 < n) (hu8 : n < 2)
    (hc : ∀ k, (hk : k < bs.length) → w.cell? ⟨b, o + k, none⟩ = some (.int .u8 ((bs[k]).toNat : Int)))
    (hq : (bs[0]'hn0).toNat / 64 = 1) :
    Calls Tryd.prog 6 #[.slice (some ⟨b, o, none⟩) n c] w fun e w' => e = .returned (.tuple #[.int .u64 0, .int .i64 0]) ∧ w = w' := by
  have h0 : w.cell? ⟨b, o, none⟩ = some (.int .u8 ((bs[0]'hn0).toNat : Int)) := hc 0 hn0
  have hne : ((n : Int) == 0) = false := by simp; omega
  have hn' : (0 : Int) < (n : Int) := by omega
  have hlt : (bs[0]'hn0).toNat < 256 := (bs[0]'hn0).toNat_lt
  have hw4 : wrap64 2 = 2 := IntWalk.wrap64_in 2 (by omega)
  clear hc hl
  go_enter Tryd.func6, Tryd.ntmps6
  go_wp2
  go_ret2
  exact ⟨rfl, rfl⟩

theorem take_some2 (b o n c : Nat) (bs : List UInt8) (w : World) (hn2 : n ≤ 1099511627776) (hn0 : 0 < bs.length) (hl : bs.length = n) (hn : 0 < n) (hu8 : 4 ≤ n)
    (hc : ∀ k, (hk : k < bs.length) → w.cell? ⟨b, o + k, none⟩ = some (.int .u8 ((bs[k]).toNat : Int)))
    (hq : (bs[0]'hn0).toNat / 64 = 2) :
    Calls Tryd.prog 6 #[.slice (some ⟨b, o, none⟩) n c] w fun e w' => e = .returned (.tuple #[.int .u64 (vnVal bs 4), .int .i64 4]) ∧ w = w' := by
  have h0 : w.cell? ⟨b, o, none⟩ = some (.int .u8 ((bs[0]'hn0).toNat : Int)) := hc 0 hn0
  have hne : ((n : Int) == 0) = false := by simp; omega
  have hn' : (0 : Int) < (n : Int) := by omega
  have hlt : (bs[0]'hn0).toNat < 256 := (bs[0]'hn0).toNat_lt
  have hw4 : wrap64 4 = 4 := IntWalk.wrap64_in 4 (by omega)
  have hs1 : vnVal bs 1 = (bs[0]'hn0).toNat % 64 := by rw [vnVal_one]; cases bs with | nil => simp at hl; omega | cons x r => rfl
  have HC := Lib.hid hc
  have HL := Lib.hid hl
  have HQ := Lib.hid hq
  have H1 := Lib.hid hs1
  clear hc hl hs1
  go_enter Tryd.func6, Tryd.ntmps6
  go_wp2
  go_loop [5, 6] (fun v i => ∃ k : Nat, 1 ≤ k ∧ k ≤ 4 ∧ i = .int .i64 k ∧ v = .int .u64 (vnVal bs k)) (fun _ i => 4 - (intOf i).toNat)
  case atStart => exact ⟨1, by omega, by omega, rfl, u64_eq (by rw [H1.out]; omega)⟩
  case round =>
    obtain ⟨k, hk1, hk2, rfl, rfl⟩ := hrel
    by_cases hlt : k < 4
    · have hkl : k < bs.length := by have := HL.out; omega
      have hck := HC.out k hkl
      have hkn : k < n := by omega
      have hv : vnVal bs k < 18014398509481984 := by
        have := vnVal_lt bs k
        have h2 : 64 * 256 ^ (k - 1) ≤ 64 * 256 ^ 6 := Nat.mul_le_mul_left _ (Nat.pow_le_pow_right (by omega) (by omega))
        omega
      have hbk : (bs[k]).toNat < 256 := (bs[k]).toNat_lt
      have HR := Lib.hid (vnVal_round bs k hk1 hkl hv)
      go_wp2
      exact ⟨⟨k + 1, by omega, by omega, by go_num, u64_eq HR.out⟩, by simp [intOf]; omega⟩
    · obtain rfl : k = 4 := by omega
      go_wp2
      go_ret2
      exact ⟨rfl, rfl⟩

theorem take_short2 (b o n c : Nat) (bs : List UInt8) (w : World) (hn0 : 0 < bs.length) (hl : bs.length = n) (hn : 0 < n) (hu8 : n < 4)
    (hc : ∀ k, (hk : k < bs.length) → w.cell? ⟨b, o + k, none⟩ = some (.int .u8 ((bs[k]).toNat : Int)))
    (hq : (bs[0]'hn0).toNat / 64 = 2) :
    Calls Tryd.prog 6 #[.slice (some ⟨b, o, none⟩) n c] w fun e w' => e = .returned (.tuple #[.int .u64 0, .int .i64 0]) ∧ w = w' := by
  have h0 : w.cell? ⟨b, o, none⟩ = some (.int .u8 ((bs[0]'hn0).toNat : Int)) := hc 0 hn0
  have hne : ((n : Int) == 0) = false := by simp; omega
  have hn' : (0 : Int) < (n : Int) := by omega
  have hlt : (bs[0]'hn0).toNat < 256 := (bs[0]'hn0).toNat_lt
  have hw4 : wrap64 4 = 4 := IntWalk.wrap64_in 4 (by omega)
  clear hc hl
  go_enter Tryd.func6, Tryd.ntmps6
  go_wp2
  go_ret2
  exact ⟨rfl, rfl⟩

theorem take_some3 (b o n c : Nat) (bs : List UInt8) (w : World) (hn2 : n ≤ 1099511627776) (hn0 : 0 < bs.length) (hl : bs.length = n) (hn : 0 < n) (hu8 : 8 ≤ n)
    (hc : ∀ k, (hk : k < bs.length) → w.cell? ⟨b, o + k, none⟩ = some (.int .u8 ((bs[k]).toNat : Int)))
    (hq : (bs[0]'hn0).toNat / 64 = 3) :
    Calls Tryd.prog 6 #[.slice (some ⟨b, o, none⟩) n c] w fun e w' => e = .returned (.tuple #[.int .u64 (vnVal bs 8), .int .i64 8]) ∧ w = w' := by
  have h0 : w.cell? ⟨b, o, none⟩ = some (.int .u8 ((bs[0]'hn0).toNat : Int)) := hc 0 hn0
  have hne : ((n : Int) == 0) = false := by simp; omega
  have hn' : (0 : Int) < (n : Int) := by omega
  have hlt : (bs[0]'hn0).toNat < 256 := (bs[0]'hn0).toNat_lt
  have hw4 : wrap64 8 = 8 := IntWalk.wrap64_in 8 (by omega)
  have hs1 : vnVal bs 1 = (bs[0]'hn0).toNat % 64 := by rw [vnVal_one]; cases bs with | nil => simp at hl; omega | cons x r => rfl
  have HC := Lib.hid hc
  have HL := Lib.hid hl
  have HQ := Lib.hid hq
  have H1 := Lib.hid hs1
  clear hc hl hs1
  go_enter Tryd.func6, Tryd.ntmps6
  go_wp2
  go_loop [5, 6] (fun v i => ∃ k : Nat, 1 ≤ k ∧ k ≤ 8 ∧ i = .int .i64 k ∧ v = .int .u64 (vnVal bs k)) (fun _ i => 8 - (intOf i).toNat)
  case atStart => exact ⟨1, by omega, by omega, rfl, u64_eq (by rw [H1.out]; omega)⟩
  case round =>
    obtain ⟨k, hk1, hk2, rfl, rfl⟩ := hrel
    by_cases hlt : k < 8
    · have hkl : k < bs.length := by have := HL.out; omega
      have hck := HC.out k hkl
      have hkn : k < n := by omega
      have hv : vnVal bs k < 18014398509481984 := by
        have := vnVal_lt bs k
        have h2 : 64 * 256 ^ (k - 1) ≤ 64 * 256 ^ 6 := Nat.mul_le_mul_left _ (Nat.pow_le_pow_right (by omega) (by omega))
        omega
      have hbk : (bs[k]).toNat < 256 := (bs[k]).toNat_lt
      have HR := Lib.hid (vnVal_round bs k hk1 hkl hv)
      go_wp2
      exact ⟨⟨k + 1, by omega, by omega, by go_num, u64_eq HR.out⟩, by simp [intOf]; omega⟩
    · obtain rfl : k = 8 := by omega
      go_wp2
      go_ret2
      exact ⟨rfl, rfl⟩

theorem take_short3 (b o n c : Nat) (bs : List UInt8) (w : World) (hn0 : 0 < bs.length) (hl : bs.length = n) (hn : 0 < n) (hu8 : n < 8)
    (hc : ∀ k, (hk : k < bs.length) → w.cell? ⟨b, o + k, none⟩ = some (.int .u8 ((bs[k]).toNat : Int)))
    (hq : (bs[0]'hn0).toNat / 64 = 3) :
    Calls Tryd.prog 6 #[.slice (some ⟨b, o, none⟩) n c] w fun e w' => e = .returned (.tuple #[.int .u64 0, .int .i64 0]) ∧ w = w' := by
  have h0 : w.cell? ⟨b, o, none⟩ = some (.int .u8 ((bs[0]'hn0).toNat : Int)) := hc 0 hn0
  have hne : ((n : Int) == 0) = false := by simp; omega
  have hn' : (0 : Int) < (n : Int) := by omega
  have hlt : (bs[0]'hn0).toNat < 256 := (bs[0]'hn0).toNat_lt
  have hw4 : wrap64 8 = 8 := IntWalk.wrap64_in 8 (by omega)
  clear hc hl
  go_enter Tryd.func6, Tryd.ntmps6
  go_wp2
  go_ret2
  exact ⟨rfl, rfl⟩

theorem vnUsed_cons (bs : List UInt8) (hn : 0 < bs.length) : vnUsed bs = if bs.length < 2 ^ ((bs[0]).toNat / 64) then 0 else 2 ^ ((bs[0]).toNat / 64) := by
  cases bs with
  | nil => simp at hn
  | cons x r => rfl
theorem vnNum_of (bs : List UInt8) (u : Nat) (h : vnUsed bs = u) (hu : u ≠ 0) : vnNum bs = vnVal bs u := by unfold vnNum; rw [if_neg (by omega), h]
theorem vnNum_zero (bs : List UInt8) (h : vnUsed bs = 0) : vnNum bs = 0 := by unfold vnNum; rw [if_pos h]

theorem take_any (A : Option Addr) (n c : Nat) (bs : List UInt8) (w : World) (B : Nat) (hn2 : n ≤ 1099511627776) (hr : Reads w B 1 A n (bcells bs)) :
    Calls Tryd.prog 6 #[.slice A n c] w fun e w' => e = .returned (.tuple #[.int .u64 (vnNum bs), .int .i64 (vnUsed bs)]) ∧ w = w' := by
  have hl : bs.length = n := by have := hr.1; rw [bcells_length] at this; omega
  rcases Nat.eq_zero_or_pos n with h0 | hn
  · subst h0
    have : bs = [] := List.eq_nil_of_length_eq_zero hl
    subst this
    exact take_none A c w
  · obtain ⟨b, o, rfl, _, _, hc⟩ := hr.byte hn
    have hu := vnUsed_cons bs (by omega)
    have hlt : (bs[0]).toNat < 256 := (bs[0]).toNat_lt
    rcases (show (bs[0]).toNat / 64 = 0 ∨ (bs[0]).toNat / 64 = 1 ∨ (bs[0]).toNat / 64 = 2 ∨ (bs[0]).toNat / 64 = 3 by omega) with hq | hq | hq | hq
    all_goals rw [hq, hl] at hu
    · rw [if_neg (by omega)] at hu
      rw [vnNum_of bs _ hu (by omega), hu]
      exact take_some0 b o n c bs w hn2 (by omega) hl hn (by omega) hc hq
    · by_cases h : n < 2
      · rw [if_pos (by omega)] at hu
        rw [hu, vnNum_zero bs hu]
        exact take_short1 b o n c bs w (by omega) hl hn h hc hq
      · rw [if_neg (by omega)] at hu
        rw [vnNum_of bs _ hu (by omega), hu]
        exact take_some1 b o n c bs w hn2 (by omega) hl hn (by omega) hc hq
    · by_cases h : n < 4
      · rw [if_pos (by omega)] at hu
        rw [hu, vnNum_zero bs hu]
        exact take_short2 b o n c bs w (by omega) hl hn h hc hq
      · rw [if_neg (by omega)] at hu
        rw [vnNum_of bs _ hu (by omega), hu]
        exact take_some2 b o n c bs w hn2 (by omega) hl hn (by omega) hc hq
    · by_cases h : n < 8
      · rw [if_pos (by omega)] at hu
        rw [hu, vnNum_zero bs hu]
        exact take_short3 b o n c bs w (by omega) hl hn h hc hq
      · rw [if_neg (by omega)] at hu
        rw [vnNum_of bs _ hu (by omega), hu]
        exact take_some3 b o n c bs w hn2 (by omega) hl hn (by omega) hc hq
end Go.Proofs.YtpegafbcfpedoaaDoor
