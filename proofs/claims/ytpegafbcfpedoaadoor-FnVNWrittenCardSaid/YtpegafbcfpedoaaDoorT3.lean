/- quicvarint.Parse and impl.VNParse: what they answer for any bytes. -/
import Derived.Test.YtpegafbcfpedoaaDoorT2
namespace Go.Proofs.YtpegafbcfpedoaaDoor
open Go.RowKit
set_option linter.unusedVariables false

/-- the error that Parse answers -/
def parseErr (bs : List UInt8) (e0 e1 : Value) : Value := if vnUsed bs ≠ 0 then .nilIface else if bs = [] then e0 else e1

theorem below_drewN' {B : Nat} {a w : World} (h : Below B a w) (n : Nat) : Below B a (w.drewN n) := ⟨h.os, h.tape, h.output, h.size, h.block⟩

theorem parse_none (A : Option Addr) (c : Nat) (w : World) (t0 : TypeId) (v0 : Value) (g0 : w.cell? ⟨0, 0, none⟩ = some (.iface t0 v0)) :
    Calls Tryd.prog 17 #[.slice A 0 c] w fun e w' => e = .returned (.tuple #[.int .u64 0, .int .i64 0, .iface t0 v0]) ∧ Below w.heap.size w w' := by
  go_enter Tryd.func17, Tryd.ntmps17
  go_wp2
  go_quiet (fail)
  go_wp2
  go_ret3
  exact ⟨rfl, below_drewN' (Below.refl _ _) _⟩

theorem parse_0 (b o n c : Nat) (x : UInt8) (w : World) (hn : 0 < n) (h0 : w.cell? ⟨b, o, none⟩ = some (.int .u8 (x.toNat : Int))) (hq : x.toNat / 64 = 0) :
    Calls Tryd.prog 17 #[.slice (some ⟨b, o, none⟩) n c] w fun e w' => e = .returned (.tuple #[.int .u64 (x.toNat % 64 : Nat), .int .i64 1, .nilIface]) ∧ Below w.heap.size w w' := by
  have hne : ((n : Int) == 0) = false := by simp; omega
  have hx := x.toNat_lt
  have hq' : ((x.toNat : Int) / 64 == 0) = true := by simp; omega
  clear hq
  go_enter Tryd.func17, Tryd.ntmps17
  go_wp2
  go_ret3
  exact ⟨rfl, Below.refl _ _⟩

theorem parse_short1 (b o n c : Nat) (x : UInt8) (w : World) (hn : 0 < n) (hs : n < 2) (h0 : w.cell? ⟨b, o, none⟩ = some (.int .u8 (x.toNat : Int))) (hq : x.toNat / 64 = 1)
    (t1 : TypeId) (v1 : Value) (g1 : w.cell? ⟨1, 0, none⟩ = some (.iface t1 v1)) :
    Calls Tryd.prog 17 #[.slice (some ⟨b, o, none⟩) n c] w fun e w' => e = .returned (.tuple #[.int .u64 0, .int .i64 0, .iface t1 v1]) ∧ Below w.heap.size w w' := by
  have hne : ((n : Int) == 0) = false := by simp; omega
  have hx := x.toNat_lt
  have hq0 : ((x.toNat : Int) / 64 == 0) = false := by simp; omega
  have hq1 : ((x.toNat : Int) / 64 == 1) = true := by simp; omega
  clear hq
  go_enter Tryd.func17, Tryd.ntmps17
  go_wp2
  go_quiet (fail)
  go_wp2
  go_ret3
  exact ⟨rfl, below_drewN' (Below.refl _ _) _⟩

theorem parse_short2 (b o n c : Nat) (x : UInt8) (w : World) (hn : 0 < n) (hs : n < 4) (h0 : w.cell? ⟨b, o, none⟩ = some (.int .u8 (x.toNat : Int))) (hq : x.toNat / 64 = 2)
    (t1 : TypeId) (v1 : Value) (g1 : w.cell? ⟨1, 0, none⟩ = some (.iface t1 v1)) :
    Calls Tryd.prog 17 #[.slice (some ⟨b, o, none⟩) n c] w fun e w' => e = .returned (.tuple #[.int .u64 0, .int .i64 0, .iface t1 v1]) ∧ Below w.heap.size w w' := by
  have hne : ((n : Int) == 0) = false := by simp; omega
  have hx := x.toNat_lt
  have hq0 : ((x.toNat : Int) / 64 == 0) = false := by simp; omega
  have hq1 : ((x.toNat : Int) / 64 == 1) = false := by simp; omega
  have hq2 : ((x.toNat : Int) / 64 == 2) = true := by simp; omega
  clear hq
  go_enter Tryd.func17, Tryd.ntmps17
  go_wp2
  go_quiet (fail)
  go_wp2
  go_ret3
  exact ⟨rfl, below_drewN' (Below.refl _ _) _⟩

theorem parse_short3 (b o n c : Nat) (x : UInt8) (w : World) (hn : 0 < n) (hs : n < 8) (h0 : w.cell? ⟨b, o, none⟩ = some (.int .u8 (x.toNat : Int))) (hq : x.toNat / 64 = 3)
    (t1 : TypeId) (v1 : Value) (g1 : w.cell? ⟨1, 0, none⟩ = some (.iface t1 v1)) :
    Calls Tryd.prog 17 #[.slice (some ⟨b, o, none⟩) n c] w fun e w' => e = .returned (.tuple #[.int .u64 0, .int .i64 0, .iface t1 v1]) ∧ Below w.heap.size w w' := by
  have hne : ((n : Int) == 0) = false := by simp; omega
  have hx := x.toNat_lt
  have hq0 : ((x.toNat : Int) / 64 == 0) = false := by simp; omega
  have hq1 : ((x.toNat : Int) / 64 == 1) = false := by simp; omega
  have hq2 : ((x.toNat : Int) / 64 == 2) = false := by simp; omega
  have hq3 : ((x.toNat : Int) / 64 == 3) = true := by simp; omega
  clear hq
  go_enter Tryd.func17, Tryd.ntmps17
  go_wp2
  go_quiet (fail)
  go_wp2
  go_ret3
  exact ⟨rfl, below_drewN' (Below.refl _ _) _⟩

theorem ret3 {a c : Int} {u u' v : Value} (h1 : a = c) (h2 : u = u') : Ending.returned (.tuple #[.int .u64 a, u, v]) = .returned (.tuple #[.int .u64 c, u', v]) := by rw [h1, h2]

theorem parse_ok1 (b o n c : Nat) (x y : UInt8) (w : World) (hs : 2 ≤ n) (h0 : w.cell? ⟨b, o, none⟩ = some (.int .u8 (x.toNat : Int))) (h1 : w.cell? ⟨b, o + 1, none⟩ = some (.int .u8 (y.toNat : Int))) (hq : x.toNat / 64 = 1) :
    Calls Tryd.prog 17 #[.slice (some ⟨b, o, none⟩) n c] w fun e w' => e = .returned (.tuple #[.int .u64 ((x.toNat % 64) * 256 + y.toNat : Nat), .int .i64 2, .nilIface]) ∧ Below w.heap.size w w' := by
  have hne : ((n : Int) == 0) = false := by simp; omega
  have hx := x.toNat_lt
  have hy := y.toNat_lt
  have hq0 : ((x.toNat : Int) / 64 == 0) = false := by simp; omega
  have hq1 : ((x.toNat : Int) / 64 == 1) = true := by simp; omega
  have q1 : (1 : Int) < (n : Int) := by omega
  clear hq
  go_enter Tryd.func17, Tryd.ntmps17
  go_wp2
  go_ret3
  refine ⟨ret3 ?_ rfl, Below.refl _ _⟩
  simp (disch := omega) only [u64_or8]
  omega

set_option maxHeartbeats 1000000 in
theorem parse_ok2 (b o n c : Nat) (x y z u : UInt8) (w : World) (hs : 4 ≤ n) (h0 : w.cell? ⟨b, o, none⟩ = some (.int .u8 (x.toNat : Int))) (h1 : w.cell? ⟨b, o + 1, none⟩ = some (.int .u8 (y.toNat : Int)))
    (h2 : w.cell? ⟨b, o + 2, none⟩ = some (.int .u8 (z.toNat : Int))) (h3 : w.cell? ⟨b, o + 3, none⟩ = some (.int .u8 (u.toNat : Int))) (hq : x.toNat / 64 = 2) :
    Calls Tryd.prog 17 #[.slice (some ⟨b, o, none⟩) n c] w fun e w' => e = .returned (.tuple #[.int .u64 ((((x.toNat % 64) * 256 + y.toNat) * 256 + z.toNat) * 256 + u.toNat : Nat), .int .i64 4, .nilIface]) ∧ Below w.heap.size w w' := by
  have hne : ((n : Int) == 0) = false := by simp; omega
  have hx := x.toNat_lt
  have hy := y.toNat_lt
  have hz := z.toNat_lt
  have hu := u.toNat_lt
  have hq0 : ((x.toNat : Int) / 64 == 0) = false := by simp; omega
  have hq1 : ((x.toNat : Int) / 64 == 1) = false := by simp; omega
  have hq2 : ((x.toNat : Int) / 64 == 2) = true := by simp; omega
  have q1 : (1 : Int) < (n : Int) := by omega
  have q2 : (2 : Int) < (n : Int) := by omega
  have q3 : (3 : Int) < (n : Int) := by omega
  clear hq
  go_enter Tryd.func17, Tryd.ntmps17
  go_wp2
  go_quiet (fail)
  go_wp2
  go_ret3
  refine ⟨ret3 ?_ rfl, below_drewN' (Below.refl _ _) _⟩
  simp (disch := omega) only [u64_or8, u64_or16, u64_or24]
  omega

theorem u64_and62 (x : Nat) (h : x < 18446744073709551616) : bits .and .u64 (x : Int) 4611686018427387903 = ((x % 4611686018427387904 : Nat) : Int) := by
  have h1 := (bits_nat .u64 64 (by decide) wraps_u64 x 4611686018427387903 (by omega) (by omega)).1
  rw [show ((4611686018427387903 : Nat) : Int) = 4611686018427387903 from rfl] at h1
  rw [h1]
  exact congrArg Nat.cast (Nat.and_two_pow_sub_one_eq_mod x 62)

set_option maxHeartbeats 1000000 in
theorem parse_ok3 (b o n c : Nat) (bs : List UInt8) (w : World) (hs : 8 ≤ n) (hl : bs.length = n) (hc : ∀ k, (hk : k < bs.length) → w.cell? ⟨b, o + k, none⟩ = some (.int .u8 ((bs[k]).toNat : Int)))
    (hn0 : 0 < bs.length) (hq : (bs[0]'hn0).toNat / 64 = 3) :
    Calls Tryd.prog 17 #[.slice (some ⟨b, o, none⟩) n c] w fun e w' => e = .returned (.tuple #[.int .u64 (Lib.beNat (bs.take 8) % 4611686018427387904 : Nat), .int .i64 8, .nilIface]) ∧ Below w.heap.size w w' := by
  have h0 : w.cell? ⟨b, o, none⟩ = some (.int .u8 ((bs[0]'hn0).toNat : Int)) := hc 0 hn0
  have hne : ((n : Int) == 0) = false := by simp; omega
  have hx := (bs[0]'hn0).toNat_lt
  have hq0 : (((bs[0]'hn0).toNat : Int) / 64 == 0) = false := by simp; omega
  have hq1 : (((bs[0]'hn0).toNat : Int) / 64 == 1) = false := by simp; omega
  have hq2 : (((bs[0]'hn0).toNat : Int) / 64 == 2) = false := by simp; omega
  have hq3 : (((bs[0]'hn0).toNat : Int) / 64 == 3) = true := by simp; omega
  have HC := Lib.hid hc
  have HL := Lib.hid hl
  clear hq hc hl
  go_enter Tryd.func17, Tryd.ntmps17
  go_wp2_with fail
  refine (be64 b o n c bs w hs (by have := HL.out; omega) HC.out).mono ?_
  rintro e w' ⟨rfl, hb⟩
  have hlt : Lib.beNat (bs.take 8) < 18446744073709551616 := by
    have h1 := beFrom_lt (bs.take 8) 0
    have h2 : 256 ^ (bs.take 8).length ≤ 256 ^ 8 := Nat.pow_le_pow_right (by omega) (List.length_take_le _ _)
    unfold Lib.beNat
    omega
  have HA := Lib.hid (u64_and62 _ hlt)
  clear hlt
  go_wp2
  go_ret3
  exact ⟨ret3 HA.out rfl, hb⟩

theorem vnUsed_le (bs : List UInt8) : vnUsed bs ≤ bs.length := by
  cases bs with
  | nil => simp [vnUsed]
  | cons x r => simp only [vnUsed, List.length_cons]; split <;> omega
theorem vnVal8 (b0 b1 b2 b3 b4 b5 b6 b7 : UInt8) (r : List UInt8) :
    vnVal (b0 :: b1 :: b2 :: b3 :: b4 :: b5 :: b6 :: b7 :: r) 8 = Lib.beNat ((b0 :: b1 :: b2 :: b3 :: b4 :: b5 :: b6 :: b7 :: r).take 8) % 4611686018427387904 := by
  have h0 := b0.toNat_lt; have h1 := b1.toNat_lt; have h2 := b2.toNat_lt; have h3 := b3.toNat_lt
  have h4 := b4.toNat_lt; have h5 := b5.toNat_lt; have h6 := b6.toNat_lt; have h7 := b7.toNat_lt
  simp only [vnVal, Lib.beNat, Lib.beFrom, List.headD_cons, List.drop_succ_cons, List.drop_zero, List.take_succ_cons, List.take_zero]
  omega

theorem parse_any (A : Option Addr) (n c : Nat) (bs : List UInt8) (w : World) (B : Nat) (hr : Reads w B 1 A n (bcells bs)) (t0 t1 : TypeId) (v0 v1 : Value)
    (g0 : w.cell? ⟨0, 0, none⟩ = some (.iface t0 v0)) (g1 : w.cell? ⟨1, 0, none⟩ = some (.iface t1 v1)) :
    Calls Tryd.prog 17 #[.slice A n c] w fun e w' => e = .returned (.tuple #[.int .u64 (vnNum bs), .int .i64 (vnUsed bs), parseErr bs (.iface t0 v0) (.iface t1 v1)]) ∧ Below w.heap.size w w' := by
  have hl : bs.length = n := by have := hr.1; rw [bcells_length] at this; omega
  rcases Nat.eq_zero_or_pos n with h0 | hn
  · subst h0
    have : bs = [] := List.eq_nil_of_length_eq_zero hl
    subst this
    exact parse_none A c w t0 v0 g0
  · obtain ⟨b, o, rfl, _, _, hc⟩ := hr.byte hn
    have hn0 : 0 < bs.length := by omega
    have hne : bs ≠ [] := by intro h; subst h; simp at hn0
    have hu := vnUsed_cons bs hn0
    have hlt : (bs[0]).toNat < 256 := (bs[0]).toNat_lt
    have c0 := hc 0 hn0
    rcases (show (bs[0]).toNat / 64 = 0 ∨ (bs[0]).toNat / 64 = 1 ∨ (bs[0]).toNat / 64 = 2 ∨ (bs[0]).toNat / 64 = 3 by omega) with hq | hq | hq | hq
    all_goals rw [hq, hl] at hu
    · rw [if_neg (by omega)] at hu
      rw [vnNum_of bs _ hu (by omega), parseErr, hu, if_pos (by omega)]
      have hs1 : vnVal bs 1 = (bs[0]).toNat % 64 := by rw [vnVal_one]; cases bs with | nil => simp at hn0 | cons x r => rfl
      rw [show (2 ^ 0 : Nat) = 1 from rfl, hs1]
      exact parse_0 b o n c _ w hn c0 hq
    · by_cases h : n < 2
      · rw [if_pos (by omega)] at hu
        rw [hu, vnNum_zero bs hu, parseErr, hu, if_neg (by omega), if_neg hne]
        exact parse_short1 b o n c _ w hn h c0 hq t1 v1 g1
      · rw [if_neg (by omega)] at hu
        rw [vnNum_of bs _ hu (by omega), parseErr, hu, if_pos (by omega)]
        have h2 : 2 ≤ bs.length := by omega
        obtain ⟨x, y, r, rfl⟩ : ∃ x y r, bs = x :: y :: r := by
          match bs, h2 with
          | x :: y :: r, _ => exact ⟨x, y, r, rfl⟩
        have := parse_ok1 b o n c x y w (by omega) c0 (hc 1 (by simp)) hq
        simpa [vnVal, Lib.beFrom] using this
    · by_cases h : n < 4
      · rw [if_pos (by omega)] at hu
        rw [hu, vnNum_zero bs hu, parseErr, hu, if_neg (by omega), if_neg hne]
        exact parse_short2 b o n c _ w hn h c0 hq t1 v1 g1
      · rw [if_neg (by omega)] at hu
        rw [vnNum_of bs _ hu (by omega), parseErr, hu, if_pos (by omega)]
        have h4 : 4 ≤ bs.length := by omega
        obtain ⟨x, y, z, u, r, rfl⟩ : ∃ x y z u r, bs = x :: y :: z :: u :: r := by
          match bs, h4 with
          | x :: y :: z :: u :: r, _ => exact ⟨x, y, z, u, r, rfl⟩
        have := parse_ok2 b o n c x y z u w (by omega) c0 (hc 1 (by simp)) (hc 2 (by simp)) (hc 3 (by simp)) hq
        simpa [vnVal, Lib.beFrom] using this
    · by_cases h : n < 8
      · rw [if_pos (by omega)] at hu
        rw [hu, vnNum_zero bs hu, parseErr, hu, if_neg (by omega), if_neg hne]
        exact parse_short3 b o n c _ w hn h c0 hq t1 v1 g1
      · rw [if_neg (by omega)] at hu
        rw [vnNum_of bs _ hu (by omega), parseErr, hu, if_pos (by omega)]
        have h8 : 8 ≤ bs.length := by omega
        obtain ⟨b0, b1, b2, b3, b4, b5, b6, b7, r, rfl⟩ : ∃ b0 b1 b2 b3 b4 b5 b6 b7 r, bs = b0 :: b1 :: b2 :: b3 :: b4 :: b5 :: b6 :: b7 :: r := by
          match bs, h8 with
          | b0 :: b1 :: b2 :: b3 :: b4 :: b5 :: b6 :: b7 :: r, _ => exact ⟨b0, b1, b2, b3, b4, b5, b6, b7, r, rfl⟩
        rw [show (2 ^ 3 : Nat) = 8 from rfl, vnVal8]
        exact parse_ok3 b o n c _ w (by omega) hl hc hn0 hq

/-- impl.VNParse -/
theorem vnparse_any (A : Option Addr) (n c : Nat) (bs : List UInt8) (w : World) (hr : Reads w w.heap.size 1 A n (bcells bs)) (t0 t1 : TypeId) (v0 v1 : Value)
    (g0 : w.cell? ⟨0, 0, none⟩ = some (.iface t0 v0)) (g1 : w.cell? ⟨1, 0, none⟩ = some (.iface t1 v1)) :
    Calls Tryd.prog 7 #[.slice A n c] w fun e w' => e = .returned (.tuple #[.int .u64 (vnNum bs), .int .i64 (vnUsed bs), .bool (decide (vnUsed bs ≠ 0))]) ∧ Below w.heap.size w w' := by
  have hc := parse_any A n c bs (w.alloc (Obj.cells #[Value.bool false] 4)) w.heap.size (hr.alloc (Nat.le_refl _) _) t0 t1 v0 v1 (cell?_alloc_old _ g0) (cell?_alloc_old _ g1)
  rcases Nat.eq_zero_or_pos (vnUsed bs) with hu | hu
  · obtain ⟨t, v, he⟩ : ∃ t v, parseErr bs (.iface t0 v0) (.iface t1 v1) = .iface t v := by
      unfold parseErr
      rw [if_neg (by omega)]
      split
      · exact ⟨_, _, rfl⟩
      · exact ⟨_, _, rfl⟩
    rw [he] at hc
    have hd : decide (vnUsed bs ≠ 0) = false := by simp; omega
    rw [hd]
    have HC := Lib.hid hc
    clear hc he hd hr g0 g1
    go_enter_defers Tryd.func7, Tryd.ntmps7
    go_wp2_with fail
    refine HC.out.mono ?_
    rintro e w1 ⟨rfl, hb⟩
    have k1 : w1.cell? ⟨w.heap.size, 0, none⟩ = some (.bool false) := (hb.cell (p := ⟨w.heap.size, 0, none⟩) (by simp)).trans (by simp)
    have k2 : w1.frozen? ⟨w.heap.size, 0, none⟩ = false := (hb.frozen (p := ⟨w.heap.size, 0, none⟩) (by simp)).trans (by simp)
    go_wp2
    go_region
    go_wp2
    refine leaves_cons (f := 16) (args := #[.pointer (some ⟨w.heap.size, 0, none⟩)]) (by simp) (by simp [go_sem]) ?_
    refine (caught_idle ⟨w.heap.size, 0, none⟩ _).mono ?_
    rintro e u' w'' ⟨rfl, rfl, rfl⟩
    have k3 := World.cell?_setCell_same w1 ⟨w.heap.size, 0, none⟩ (.bool false) k1
    refine ⟨_, by simp [results, Tryd.results7, go_sem, k3, hu], rfl, ?_⟩
    exact Below.drew ((((Below.refl w.heap.size w).alloc (Nat.le_refl _) _).trans (hb.mono (by simp))).setCell (Nat.le_refl _) _)
  · have he : parseErr bs (.iface t0 v0) (.iface t1 v1) = .nilIface := by unfold parseErr; rw [if_pos (by omega)]
    rw [he] at hc
    have hd : decide (vnUsed bs ≠ 0) = true := by simp; omega
    rw [hd]
    have HC := Lib.hid hc
    clear hc he hd hr g0 g1
    go_enter_defers Tryd.func7, Tryd.ntmps7
    go_wp2_with fail
    refine HC.out.mono ?_
    rintro e w1 ⟨rfl, hb⟩
    have k1 : w1.cell? ⟨w.heap.size, 0, none⟩ = some (.bool false) := (hb.cell (p := ⟨w.heap.size, 0, none⟩) (by simp)).trans (by simp)
    have k2 : w1.frozen? ⟨w.heap.size, 0, none⟩ = false := (hb.frozen (p := ⟨w.heap.size, 0, none⟩) (by simp)).trans (by simp)
    go_wp2
    go_region
    go_wp2
    refine leaves_cons (f := 16) (args := #[.pointer (some ⟨w.heap.size, 0, none⟩)]) (by simp) (by simp [go_sem]) ?_
    refine (caught_idle ⟨w.heap.size, 0, none⟩ _).mono ?_
    rintro e u' w'' ⟨rfl, rfl, rfl⟩
    have k3 := World.cell?_setCell_same w1 ⟨w.heap.size, 0, none⟩ (.bool true) k1
    refine ⟨_, by simp [results, Tryd.results7, go_sem, k3], rfl, ?_⟩
    exact Below.drew ((((Below.refl w.heap.size w).alloc (Nat.le_refl _) _).trans (hb.mono (by simp))).setCell (Nat.le_refl _) _)
end Go.Proofs.YtpegafbcfpedoaaDoor
