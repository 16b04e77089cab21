/- quicvarint.AppendWithLen onto nothing: the bytes of a number in as many bytes as are asked for. -/
import Derived.Test.YtpegafbcfpedoaaDoorT7
namespace Go.Proofs.YtpegafbcfpedoaaDoor
open Go.RowKit
set_option linter.unusedVariables false

theorem zeros_one (k : Nat) : List.replicate k (Value.int .u8 0) ++ [Value.int .u8 0] = List.replicate (k + 1) (Value.int .u8 0) := by
  rw [List.replicate_succ']
theorem own_eq {w : World} {B m m' : Nat} {v : Value} {xs ys : List Value} (h : w.ownsRow B 5 1 v m xs) (h1 : m = m') (h2 : xs = ys) : w.ownsRow B 5 1 v m' ys := by
  subst h1 h2; exact h
theorem below_own {w w1 w2 : World} {v : Value} {m : Nat} {xs : List Value} {o : Obj} (h : Below w.heap.size w w1) (ho : w1.ownsRow w.heap.size 5 1 v m xs) (hg : (w1.alloc o).grownBy w2 v.ownBlock) : Below w.heap.size w w2 :=
  (h.alloc h.size o).grown hg (by simp; have := h.size; omega) (fun k e => (ho.lt k e).1)

def wl1 (i : Int) : Nat → List Value
  | 0 => []
  | _ => [.int .u8 (i)]

def wl2 (i : Int) : Nat → List Value
  | 0 => []
  | 1 => [.int .u8 (i / 256)]
  | _ => [.int .u8 (i / 256), .int .u8 (i % 256)]

def wl4 (i : Int) : Nat → List Value
  | 0 => []
  | 1 => [.int .u8 (i / 16777216)]
  | 2 => [.int .u8 (i / 16777216), .int .u8 (i / 65536 % 256)]
  | 3 => [.int .u8 (i / 16777216), .int .u8 (i / 65536 % 256), .int .u8 (i / 256 % 256)]
  | _ => [.int .u8 (i / 16777216), .int .u8 (i / 65536 % 256), .int .u8 (i / 256 % 256), .int .u8 (i % 256)]

set_option maxHeartbeats 4000000 in
theorem with_1_2 (i : Nat) (w : World) (h2 : i < 64) : Calls Tryd.prog 23 #[.slice none 0 0, .int .u64 i, .int .i64 2] w (New w 2 (bcells (vnBytes i 2))) := by
  obtain ⟨i0, hi0, hz0, hz1, hz2⟩ := info_parts info5
  have hl : vnLen i = 1 := by rcases vnLen_cases i with ⟨e, h1⟩ | ⟨e, h1, h2⟩ | ⟨e, h1, h2⟩ | ⟨e, h1⟩ <;> omega
  have hc := len_any i w (by omega)
  rw [hl] at hc
  have HC := Lib.hid hc
  clear hc hl
  go_enter Tryd.func23, Tryd.ntmps23
  go_wp2_with (first | (go_at_call 22; refine HC.out.mono ?_; rintro e w' ⟨rfl, rfl⟩) | (at_builtin; refine wpList_append_own_at _ rfl (.tmp 39) (.tmp 40) 22 rfl w.heap.size 5 i0 _ 1 1 Tryd.underlying22 hi0 hz0 hz1 hz2 rfl (by omega) (.slice none 0 0) 0 [] rfl (World.ownsRow_nil _ _ _ _) ⟨w.heap.size, 0, none⟩ 1 1 _ rfl rfl (cells_new _ _ _) (by simp [Value.oneCell']) (by simp only [maxLen]; omega) (by omega) (by simp) ?_; intro v' w1 hown1 hg1 _ _))
  have hb1 : Below w.heap.size w w1 := below_own (Below.refl _ _) (World.ownsRow_nil _ _ _ _) hg1
  have HO := Lib.hid hown1
  clear hown1 hg1
  go_loopw [0, 56] (fun bv kv wr => ∃ k : Nat, k ≤ 0 ∧ kv = .int .i64 k ∧ wr.ownsRow w.heap.size 5 1 bv (1 + k) (.int .u8 64 :: List.replicate k (.int .u8 0)) ∧ Below w.heap.size w wr) (fun _ kv _ => 1 - (intOf kv).toNat)
  case atStart => exact ⟨0, by omega, rfl, own_eq HO.out rfl rfl, hb1⟩
  case round =>
    obtain ⟨k, hk, rfl, hown, hbw⟩ := hrel
    have HN := Lib.hid hown
    have hbs := hbw.size
    clear hown HO hb1
    by_cases hkz : k < 0
    · exfalso; omega
    · obtain rfl : k = 0 := by omega
      go_wp2_with fail
      go_loopw [0, 63] (fun bv kv w3 => ∃ j : Nat, j ≤ 1 ∧ kv = .int .i64 j ∧ w3.ownsRow w.heap.size 5 1 bv (1 + j) ((.int .u8 64 :: List.replicate 0 (.int .u8 0)) ++ wl1 i j) ∧ Below w.heap.size w w3) (fun _ kv _ => 2 - (intOf kv).toNat)
      case atStart => exact ⟨0, by omega, rfl, own_eq HN.out rfl (by simp [wl1]), hbw⟩
      case round =>
        obtain ⟨j, hj, rfl, hown, hbw3⟩ := hrel
        have HM := Lib.hid hown
        have hbs3 := hbw3.size
        clear hown HN hbw hbs
        rcases (show j = 0 ∨ j = 1 by omega) with rfl | rfl
        · go_wp2_with (first | (at_builtin; refine wpList_append_own_at _ rfl (.tmp 66) (.tmp 75) 22 rfl w.heap.size 5 i0 _ 1 1 Tryd.underlying22 hi0 hz0 hz1 hz2 rfl (by omega) _ (1 + 0) _ rfl (HM.out.alloc _) ⟨_, 0, none⟩ 1 1 _ rfl rfl (cells_new _ _ _) (by simp [Value.oneCell']) (by simp only [maxLen]; omega) (by omega) (by simp; omega) ?_; intro v' w1 hown1 hg1 _ _))
          go_roundw
          case rel => (repeat apply Exists.intro); exact ⟨⟨1, by omega, rfl, own_eq hown1 (by omega) (by simp [wl1]), below_own hbw3 HM.out hg1⟩, rfl⟩
          case measure => simp [intOf]
        · go_wp2_with fail
          go_ret
          refine ⟨_, rfl, own_eq HM.out rfl ?_, hbw3⟩
          rw [vnB2 i (by omega)]
          simp only [wl1, List.replicate, List.cons_append, List.nil_append, List.cons.injEq, Value.int.injEq, true_and, and_true]
          omega

set_option maxHeartbeats 4000000 in
theorem with_1_4 (i : Nat) (w : World) (h2 : i < 64) : Calls Tryd.prog 23 #[.slice none 0 0, .int .u64 i, .int .i64 4] w (New w 4 (bcells (vnBytes i 4))) := by
  obtain ⟨i0, hi0, hz0, hz1, hz2⟩ := info_parts info5
  have hl : vnLen i = 1 := by rcases vnLen_cases i with ⟨e, h1⟩ | ⟨e, h1, h2⟩ | ⟨e, h1, h2⟩ | ⟨e, h1⟩ <;> omega
  have hc := len_any i w (by omega)
  rw [hl] at hc
  have HC := Lib.hid hc
  clear hc hl
  go_enter Tryd.func23, Tryd.ntmps23
  go_wp2_with (first | (go_at_call 22; refine HC.out.mono ?_; rintro e w' ⟨rfl, rfl⟩) | (at_builtin; refine wpList_append_own_at _ rfl (.tmp 44) (.tmp 45) 22 rfl w.heap.size 5 i0 _ 1 1 Tryd.underlying22 hi0 hz0 hz1 hz2 rfl (by omega) (.slice none 0 0) 0 [] rfl (World.ownsRow_nil _ _ _ _) ⟨w.heap.size, 0, none⟩ 1 1 _ rfl rfl (cells_new _ _ _) (by simp [Value.oneCell']) (by simp only [maxLen]; omega) (by omega) (by simp) ?_; intro v' w1 hown1 hg1 _ _))
  have hb1 : Below w.heap.size w w1 := below_own (Below.refl _ _) (World.ownsRow_nil _ _ _ _) hg1
  have HO := Lib.hid hown1
  clear hown1 hg1
  go_loopw [0, 56] (fun bv kv wr => ∃ k : Nat, k ≤ 2 ∧ kv = .int .i64 k ∧ wr.ownsRow w.heap.size 5 1 bv (1 + k) (.int .u8 128 :: List.replicate k (.int .u8 0)) ∧ Below w.heap.size w wr) (fun _ kv _ => 3 - (intOf kv).toNat)
  case atStart => exact ⟨0, by omega, rfl, own_eq HO.out rfl rfl, hb1⟩
  case round =>
    obtain ⟨k, hk, rfl, hown, hbw⟩ := hrel
    have HN := Lib.hid hown
    have hbs := hbw.size
    clear hown HO hb1
    by_cases hkz : k < 2
    · go_wp2_with (first | (at_builtin; refine wpList_append_own_at _ rfl (.tmp 58) (.tmp 59) 22 rfl w.heap.size 5 i0 _ 1 1 Tryd.underlying22 hi0 hz0 hz1 hz2 rfl (by omega) _ (1 + k) _ rfl (HN.out.alloc _) ⟨_, 0, none⟩ 1 1 _ rfl rfl (cells_new _ _ _) (by simp [Value.oneCell']) (by simp only [maxLen]; omega) (by omega) (by simp; omega) ?_; intro v' w1 hown1 hg1 _ _))
      go_roundw
      case rel => exact ⟨k + 1, by omega, by go_num, own_eq hown1 (by omega) (by rw [List.cons_append, zeros_one]), below_own hbw HN.out hg1⟩
      case measure => simp [intOf]; omega
    · obtain rfl : k = 2 := by omega
      go_wp2_with fail
      go_loopw [0, 63] (fun bv kv w3 => ∃ j : Nat, j ≤ 1 ∧ kv = .int .i64 j ∧ w3.ownsRow w.heap.size 5 1 bv (3 + j) ((.int .u8 128 :: List.replicate 2 (.int .u8 0)) ++ wl1 i j) ∧ Below w.heap.size w w3) (fun _ kv _ => 2 - (intOf kv).toNat)
      case atStart => exact ⟨0, by omega, rfl, own_eq HN.out rfl (by simp [wl1]), hbw⟩
      case round =>
        obtain ⟨j, hj, rfl, hown, hbw3⟩ := hrel
        have HM := Lib.hid hown
        have hbs3 := hbw3.size
        clear hown HN hbw hbs
        rcases (show j = 0 ∨ j = 1 by omega) with rfl | rfl
        · go_wp2_with (first | (at_builtin; refine wpList_append_own_at _ rfl (.tmp 66) (.tmp 75) 22 rfl w.heap.size 5 i0 _ 1 1 Tryd.underlying22 hi0 hz0 hz1 hz2 rfl (by omega) _ (3 + 0) _ rfl (HM.out.alloc _) ⟨_, 0, none⟩ 1 1 _ rfl rfl (cells_new _ _ _) (by simp [Value.oneCell']) (by simp only [maxLen]; omega) (by omega) (by simp; omega) ?_; intro v' w1 hown1 hg1 _ _))
          go_roundw
          case rel => (repeat apply Exists.intro); exact ⟨⟨1, by omega, rfl, own_eq hown1 (by omega) (by simp [wl1]), below_own hbw3 HM.out hg1⟩, rfl⟩
          case measure => simp [intOf]
        · go_wp2_with fail
          go_ret
          refine ⟨_, rfl, own_eq HM.out rfl ?_, hbw3⟩
          rw [vnB4 i (by omega)]
          simp only [wl1, List.replicate, List.cons_append, List.nil_append, List.cons.injEq, Value.int.injEq, true_and, and_true]
          omega

set_option maxHeartbeats 4000000 in
theorem with_1_8 (i : Nat) (w : World) (h2 : i < 64) : Calls Tryd.prog 23 #[.slice none 0 0, .int .u64 i, .int .i64 8] w (New w 8 (bcells (vnBytes i 8))) := by
  obtain ⟨i0, hi0, hz0, hz1, hz2⟩ := info_parts info5
  have hl : vnLen i = 1 := by rcases vnLen_cases i with ⟨e, h1⟩ | ⟨e, h1, h2⟩ | ⟨e, h1, h2⟩ | ⟨e, h1⟩ <;> omega
  have hc := len_any i w (by omega)
  rw [hl] at hc
  have HC := Lib.hid hc
  clear hc hl
  go_enter Tryd.func23, Tryd.ntmps23
  go_wp2_with (first | (go_at_call 22; refine HC.out.mono ?_; rintro e w' ⟨rfl, rfl⟩) | (at_builtin; refine wpList_append_own_at _ rfl (.tmp 49) (.tmp 50) 22 rfl w.heap.size 5 i0 _ 1 1 Tryd.underlying22 hi0 hz0 hz1 hz2 rfl (by omega) (.slice none 0 0) 0 [] rfl (World.ownsRow_nil _ _ _ _) ⟨w.heap.size, 0, none⟩ 1 1 _ rfl rfl (cells_new _ _ _) (by simp [Value.oneCell']) (by simp only [maxLen]; omega) (by omega) (by simp) ?_; intro v' w1 hown1 hg1 _ _))
  have hb1 : Below w.heap.size w w1 := below_own (Below.refl _ _) (World.ownsRow_nil _ _ _ _) hg1
  have HO := Lib.hid hown1
  clear hown1 hg1
  go_loopw [0, 56] (fun bv kv wr => ∃ k : Nat, k ≤ 6 ∧ kv = .int .i64 k ∧ wr.ownsRow w.heap.size 5 1 bv (1 + k) (.int .u8 192 :: List.replicate k (.int .u8 0)) ∧ Below w.heap.size w wr) (fun _ kv _ => 7 - (intOf kv).toNat)
  case atStart => exact ⟨0, by omega, rfl, own_eq HO.out rfl rfl, hb1⟩
  case round =>
    obtain ⟨k, hk, rfl, hown, hbw⟩ := hrel
    have HN := Lib.hid hown
    have hbs := hbw.size
    clear hown HO hb1
    by_cases hkz : k < 6
    · go_wp2_with (first | (at_builtin; refine wpList_append_own_at _ rfl (.tmp 58) (.tmp 59) 22 rfl w.heap.size 5 i0 _ 1 1 Tryd.underlying22 hi0 hz0 hz1 hz2 rfl (by omega) _ (1 + k) _ rfl (HN.out.alloc _) ⟨_, 0, none⟩ 1 1 _ rfl rfl (cells_new _ _ _) (by simp [Value.oneCell']) (by simp only [maxLen]; omega) (by omega) (by simp; omega) ?_; intro v' w1 hown1 hg1 _ _))
      go_roundw
      case rel => exact ⟨k + 1, by omega, by go_num, own_eq hown1 (by omega) (by rw [List.cons_append, zeros_one]), below_own hbw HN.out hg1⟩
      case measure => simp [intOf]; omega
    · obtain rfl : k = 6 := by omega
      go_wp2_with fail
      go_loopw [0, 63] (fun bv kv w3 => ∃ j : Nat, j ≤ 1 ∧ kv = .int .i64 j ∧ w3.ownsRow w.heap.size 5 1 bv (7 + j) ((.int .u8 192 :: List.replicate 6 (.int .u8 0)) ++ wl1 i j) ∧ Below w.heap.size w w3) (fun _ kv _ => 2 - (intOf kv).toNat)
      case atStart => exact ⟨0, by omega, rfl, own_eq HN.out rfl (by simp [wl1]), hbw⟩
      case round =>
        obtain ⟨j, hj, rfl, hown, hbw3⟩ := hrel
        have HM := Lib.hid hown
        have hbs3 := hbw3.size
        clear hown HN hbw hbs
        rcases (show j = 0 ∨ j = 1 by omega) with rfl | rfl
        · go_wp2_with (first | (at_builtin; refine wpList_append_own_at _ rfl (.tmp 66) (.tmp 75) 22 rfl w.heap.size 5 i0 _ 1 1 Tryd.underlying22 hi0 hz0 hz1 hz2 rfl (by omega) _ (7 + 0) _ rfl (HM.out.alloc _) ⟨_, 0, none⟩ 1 1 _ rfl rfl (cells_new _ _ _) (by simp [Value.oneCell']) (by simp only [maxLen]; omega) (by omega) (by simp; omega) ?_; intro v' w1 hown1 hg1 _ _))
          go_roundw
          case rel => (repeat apply Exists.intro); exact ⟨⟨1, by omega, rfl, own_eq hown1 (by omega) (by simp [wl1]), below_own hbw3 HM.out hg1⟩, rfl⟩
          case measure => simp [intOf]
        · go_wp2_with fail
          go_ret
          refine ⟨_, rfl, own_eq HM.out rfl ?_, hbw3⟩
          rw [vnB8 i (by omega)]
          simp only [wl1, List.replicate, List.cons_append, List.nil_append, List.cons.injEq, Value.int.injEq, true_and, and_true]
          omega

set_option maxHeartbeats 4000000 in
theorem with_2_4 (i : Nat) (w : World) (h1 : 63 < i) (h2 : i < 16384) : Calls Tryd.prog 23 #[.slice none 0 0, .int .u64 i, .int .i64 4] w (New w 4 (bcells (vnBytes i 4))) := by
  obtain ⟨i0, hi0, hz0, hz1, hz2⟩ := info_parts info5
  have hl : vnLen i = 2 := by rcases vnLen_cases i with ⟨e, h1⟩ | ⟨e, h1, h2⟩ | ⟨e, h1, h2⟩ | ⟨e, h1⟩ <;> omega
  have hc := len_any i w (by omega)
  rw [hl] at hc
  have HC := Lib.hid hc
  clear hc hl
  go_enter Tryd.func23, Tryd.ntmps23
  go_wp2_with (first | (go_at_call 22; refine HC.out.mono ?_; rintro e w' ⟨rfl, rfl⟩) | (at_builtin; refine wpList_append_own_at _ rfl (.tmp 44) (.tmp 45) 22 rfl w.heap.size 5 i0 _ 1 1 Tryd.underlying22 hi0 hz0 hz1 hz2 rfl (by omega) (.slice none 0 0) 0 [] rfl (World.ownsRow_nil _ _ _ _) ⟨w.heap.size, 0, none⟩ 1 1 _ rfl rfl (cells_new _ _ _) (by simp [Value.oneCell']) (by simp only [maxLen]; omega) (by omega) (by simp) ?_; intro v' w1 hown1 hg1 _ _))
  have hb1 : Below w.heap.size w w1 := below_own (Below.refl _ _) (World.ownsRow_nil _ _ _ _) hg1
  have HO := Lib.hid hown1
  clear hown1 hg1
  go_loopw [0, 56] (fun bv kv wr => ∃ k : Nat, k ≤ 1 ∧ kv = .int .i64 k ∧ wr.ownsRow w.heap.size 5 1 bv (1 + k) (.int .u8 128 :: List.replicate k (.int .u8 0)) ∧ Below w.heap.size w wr) (fun _ kv _ => 2 - (intOf kv).toNat)
  case atStart => exact ⟨0, by omega, rfl, own_eq HO.out rfl rfl, hb1⟩
  case round =>
    obtain ⟨k, hk, rfl, hown, hbw⟩ := hrel
    have HN := Lib.hid hown
    have hbs := hbw.size
    clear hown HO hb1
    by_cases hkz : k < 1
    · go_wp2_with (first | (at_builtin; refine wpList_append_own_at _ rfl (.tmp 58) (.tmp 59) 22 rfl w.heap.size 5 i0 _ 1 1 Tryd.underlying22 hi0 hz0 hz1 hz2 rfl (by omega) _ (1 + k) _ rfl (HN.out.alloc _) ⟨_, 0, none⟩ 1 1 _ rfl rfl (cells_new _ _ _) (by simp [Value.oneCell']) (by simp only [maxLen]; omega) (by omega) (by simp; omega) ?_; intro v' w1 hown1 hg1 _ _))
      go_roundw
      case rel => exact ⟨k + 1, by omega, by go_num, own_eq hown1 (by omega) (by rw [List.cons_append, zeros_one]), below_own hbw HN.out hg1⟩
      case measure => simp [intOf]; omega
    · obtain rfl : k = 1 := by omega
      go_wp2_with fail
      go_loopw [0, 63] (fun bv kv w3 => ∃ j : Nat, j ≤ 2 ∧ kv = .int .i64 j ∧ w3.ownsRow w.heap.size 5 1 bv (2 + j) ((.int .u8 128 :: List.replicate 1 (.int .u8 0)) ++ wl2 i j) ∧ Below w.heap.size w w3) (fun _ kv _ => 3 - (intOf kv).toNat)
      case atStart => exact ⟨0, by omega, rfl, own_eq HN.out rfl (by simp [wl2]), hbw⟩
      case round =>
        obtain ⟨j, hj, rfl, hown, hbw3⟩ := hrel
        have HM := Lib.hid hown
        have hbs3 := hbw3.size
        clear hown HN hbw hbs
        rcases (show j = 0 ∨ j = 1 ∨ j = 2 by omega) with rfl | rfl | rfl
        · go_wp2_with (first | (at_builtin; refine wpList_append_own_at _ rfl (.tmp 66) (.tmp 75) 22 rfl w.heap.size 5 i0 _ 1 1 Tryd.underlying22 hi0 hz0 hz1 hz2 rfl (by omega) _ (2 + 0) _ rfl (HM.out.alloc _) ⟨_, 0, none⟩ 1 1 _ rfl rfl (cells_new _ _ _) (by simp [Value.oneCell']) (by simp only [maxLen]; omega) (by omega) (by simp; omega) ?_; intro v' w1 hown1 hg1 _ _))
          go_roundw
          case rel => (repeat apply Exists.intro); exact ⟨⟨1, by omega, rfl, own_eq hown1 (by omega) (by simp [wl2]), below_own hbw3 HM.out hg1⟩, rfl⟩
          case measure => simp [intOf]
        · go_wp2_with (first | (at_builtin; refine wpList_append_own_at _ rfl (.tmp 66) (.tmp 75) 22 rfl w.heap.size 5 i0 _ 1 1 Tryd.underlying22 hi0 hz0 hz1 hz2 rfl (by omega) _ (2 + 1) _ rfl (HM.out.alloc _) ⟨_, 0, none⟩ 1 1 _ rfl rfl (cells_new _ _ _) (by simp [Value.oneCell']) (by simp only [maxLen]; omega) (by omega) (by simp; omega) ?_; intro v' w1 hown1 hg1 _ _))
          go_roundw
          case rel => (repeat apply Exists.intro); exact ⟨⟨2, by omega, rfl, own_eq hown1 (by omega) (by simp [wl2]), below_own hbw3 HM.out hg1⟩, rfl⟩
          case measure => simp [intOf]
        · go_wp2_with fail
          go_ret
          refine ⟨_, rfl, own_eq HM.out rfl ?_, hbw3⟩
          rw [vnB4 i (by omega)]
          simp only [wl2, List.replicate, List.cons_append, List.nil_append, List.cons.injEq, Value.int.injEq, true_and, and_true]
          omega

set_option maxHeartbeats 4000000 in
theorem with_2_8 (i : Nat) (w : World) (h1 : 63 < i) (h2 : i < 16384) : Calls Tryd.prog 23 #[.slice none 0 0, .int .u64 i, .int .i64 8] w (New w 8 (bcells (vnBytes i 8))) := by
  obtain ⟨i0, hi0, hz0, hz1, hz2⟩ := info_parts info5
  have hl : vnLen i = 2 := by rcases vnLen_cases i with ⟨e, h1⟩ | ⟨e, h1, h2⟩ | ⟨e, h1, h2⟩ | ⟨e, h1⟩ <;> omega
  have hc := len_any i w (by omega)
  rw [hl] at hc
  have HC := Lib.hid hc
  clear hc hl
  go_enter Tryd.func23, Tryd.ntmps23
  go_wp2_with (first | (go_at_call 22; refine HC.out.mono ?_; rintro e w' ⟨rfl, rfl⟩) | (at_builtin; refine wpList_append_own_at _ rfl (.tmp 49) (.tmp 50) 22 rfl w.heap.size 5 i0 _ 1 1 Tryd.underlying22 hi0 hz0 hz1 hz2 rfl (by omega) (.slice none 0 0) 0 [] rfl (World.ownsRow_nil _ _ _ _) ⟨w.heap.size, 0, none⟩ 1 1 _ rfl rfl (cells_new _ _ _) (by simp [Value.oneCell']) (by simp only [maxLen]; omega) (by omega) (by simp) ?_; intro v' w1 hown1 hg1 _ _))
  have hb1 : Below w.heap.size w w1 := below_own (Below.refl _ _) (World.ownsRow_nil _ _ _ _) hg1
  have HO := Lib.hid hown1
  clear hown1 hg1
  go_loopw [0, 56] (fun bv kv wr => ∃ k : Nat, k ≤ 5 ∧ kv = .int .i64 k ∧ wr.ownsRow w.heap.size 5 1 bv (1 + k) (.int .u8 192 :: List.replicate k (.int .u8 0)) ∧ Below w.heap.size w wr) (fun _ kv _ => 6 - (intOf kv).toNat)
  case atStart => exact ⟨0, by omega, rfl, own_eq HO.out rfl rfl, hb1⟩
  case round =>
    obtain ⟨k, hk, rfl, hown, hbw⟩ := hrel
    have HN := Lib.hid hown
    have hbs := hbw.size
    clear hown HO hb1
    by_cases hkz : k < 5
    · go_wp2_with (first | (at_builtin; refine wpList_append_own_at _ rfl (.tmp 58) (.tmp 59) 22 rfl w.heap.size 5 i0 _ 1 1 Tryd.underlying22 hi0 hz0 hz1 hz2 rfl (by omega) _ (1 + k) _ rfl (HN.out.alloc _) ⟨_, 0, none⟩ 1 1 _ rfl rfl (cells_new _ _ _) (by simp [Value.oneCell']) (by simp only [maxLen]; omega) (by omega) (by simp; omega) ?_; intro v' w1 hown1 hg1 _ _))
      go_roundw
      case rel => exact ⟨k + 1, by omega, by go_num, own_eq hown1 (by omega) (by rw [List.cons_append, zeros_one]), below_own hbw HN.out hg1⟩
      case measure => simp [intOf]; omega
    · obtain rfl : k = 5 := by omega
      go_wp2_with fail
      go_loopw [0, 63] (fun bv kv w3 => ∃ j : Nat, j ≤ 2 ∧ kv = .int .i64 j ∧ w3.ownsRow w.heap.size 5 1 bv (6 + j) ((.int .u8 192 :: List.replicate 5 (.int .u8 0)) ++ wl2 i j) ∧ Below w.heap.size w w3) (fun _ kv _ => 3 - (intOf kv).toNat)
      case atStart => exact ⟨0, by omega, rfl, own_eq HN.out rfl (by simp [wl2]), hbw⟩
      case round =>
        obtain ⟨j, hj, rfl, hown, hbw3⟩ := hrel
        have HM := Lib.hid hown
        have hbs3 := hbw3.size
        clear hown HN hbw hbs
        rcases (show j = 0 ∨ j = 1 ∨ j = 2 by omega) with rfl | rfl | rfl
        · go_wp2_with (first | (at_builtin; refine wpList_append_own_at _ rfl (.tmp 66) (.tmp 75) 22 rfl w.heap.size 5 i0 _ 1 1 Tryd.underlying22 hi0 hz0 hz1 hz2 rfl (by omega) _ (6 + 0) _ rfl (HM.out.alloc _) ⟨_, 0, none⟩ 1 1 _ rfl rfl (cells_new _ _ _) (by simp [Value.oneCell']) (by simp only [maxLen]; omega) (by omega) (by simp; omega) ?_; intro v' w1 hown1 hg1 _ _))
          go_roundw
          case rel => (repeat apply Exists.intro); exact ⟨⟨1, by omega, rfl, own_eq hown1 (by omega) (by simp [wl2]), below_own hbw3 HM.out hg1⟩, rfl⟩
          case measure => simp [intOf]
        · go_wp2_with (first | (at_builtin; refine wpList_append_own_at _ rfl (.tmp 66) (.tmp 75) 22 rfl w.heap.size 5 i0 _ 1 1 Tryd.underlying22 hi0 hz0 hz1 hz2 rfl (by omega) _ (6 + 1) _ rfl (HM.out.alloc _) ⟨_, 0, none⟩ 1 1 _ rfl rfl (cells_new _ _ _) (by simp [Value.oneCell']) (by simp only [maxLen]; omega) (by omega) (by simp; omega) ?_; intro v' w1 hown1 hg1 _ _))
          go_roundw
          case rel => (repeat apply Exists.intro); exact ⟨⟨2, by omega, rfl, own_eq hown1 (by omega) (by simp [wl2]), below_own hbw3 HM.out hg1⟩, rfl⟩
          case measure => simp [intOf]
        · go_wp2_with fail
          go_ret
          refine ⟨_, rfl, own_eq HM.out rfl ?_, hbw3⟩
          rw [vnB8 i (by omega)]
          simp only [wl2, List.replicate, List.cons_append, List.nil_append, List.cons.injEq, Value.int.injEq, true_and, and_true]
          omega

set_option maxHeartbeats 4000000 in
theorem with_4_8 (i : Nat) (w : World) (h1 : 16383 < i) (h2 : i < 1073741824) : Calls Tryd.prog 23 #[.slice none 0 0, .int .u64 i, .int .i64 8] w (New w 8 (bcells (vnBytes i 8))) := by
  obtain ⟨i0, hi0, hz0, hz1, hz2⟩ := info_parts info5
  have hl : vnLen i = 4 := by rcases vnLen_cases i with ⟨e, h1⟩ | ⟨e, h1, h2⟩ | ⟨e, h1, h2⟩ | ⟨e, h1⟩ <;> omega
  have hc := len_any i w (by omega)
  rw [hl] at hc
  have HC := Lib.hid hc
  clear hc hl
  go_enter Tryd.func23, Tryd.ntmps23
  go_wp2_with (first | (go_at_call 22; refine HC.out.mono ?_; rintro e w' ⟨rfl, rfl⟩) | (at_builtin; refine wpList_append_own_at _ rfl (.tmp 49) (.tmp 50) 22 rfl w.heap.size 5 i0 _ 1 1 Tryd.underlying22 hi0 hz0 hz1 hz2 rfl (by omega) (.slice none 0 0) 0 [] rfl (World.ownsRow_nil _ _ _ _) ⟨w.heap.size, 0, none⟩ 1 1 _ rfl rfl (cells_new _ _ _) (by simp [Value.oneCell']) (by simp only [maxLen]; omega) (by omega) (by simp) ?_; intro v' w1 hown1 hg1 _ _))
  have hb1 : Below w.heap.size w w1 := below_own (Below.refl _ _) (World.ownsRow_nil _ _ _ _) hg1
  have HO := Lib.hid hown1
  clear hown1 hg1
  go_loopw [0, 56] (fun bv kv wr => ∃ k : Nat, k ≤ 3 ∧ kv = .int .i64 k ∧ wr.ownsRow w.heap.size 5 1 bv (1 + k) (.int .u8 192 :: List.replicate k (.int .u8 0)) ∧ Below w.heap.size w wr) (fun _ kv _ => 4 - (intOf kv).toNat)
  case atStart => exact ⟨0, by omega, rfl, own_eq HO.out rfl rfl, hb1⟩
  case round =>
    obtain ⟨k, hk, rfl, hown, hbw⟩ := hrel
    have HN := Lib.hid hown
    have hbs := hbw.size
    clear hown HO hb1
    by_cases hkz : k < 3
    · go_wp2_with (first | (at_builtin; refine wpList_append_own_at _ rfl (.tmp 58) (.tmp 59) 22 rfl w.heap.size 5 i0 _ 1 1 Tryd.underlying22 hi0 hz0 hz1 hz2 rfl (by omega) _ (1 + k) _ rfl (HN.out.alloc _) ⟨_, 0, none⟩ 1 1 _ rfl rfl (cells_new _ _ _) (by simp [Value.oneCell']) (by simp only [maxLen]; omega) (by omega) (by simp; omega) ?_; intro v' w1 hown1 hg1 _ _))
      go_roundw
      case rel => exact ⟨k + 1, by omega, by go_num, own_eq hown1 (by omega) (by rw [List.cons_append, zeros_one]), below_own hbw HN.out hg1⟩
      case measure => simp [intOf]; omega
    · obtain rfl : k = 3 := by omega
      go_wp2_with fail
      go_loopw [0, 63] (fun bv kv w3 => ∃ j : Nat, j ≤ 4 ∧ kv = .int .i64 j ∧ w3.ownsRow w.heap.size 5 1 bv (4 + j) ((.int .u8 192 :: List.replicate 3 (.int .u8 0)) ++ wl4 i j) ∧ Below w.heap.size w w3) (fun _ kv _ => 5 - (intOf kv).toNat)
      case atStart => exact ⟨0, by omega, rfl, own_eq HN.out rfl (by simp [wl4]), hbw⟩
      case round =>
        obtain ⟨j, hj, rfl, hown, hbw3⟩ := hrel
        have HM := Lib.hid hown
        have hbs3 := hbw3.size
        clear hown HN hbw hbs
        rcases (show j = 0 ∨ j = 1 ∨ j = 2 ∨ j = 3 ∨ j = 4 by omega) with rfl | rfl | rfl | rfl | rfl
        · go_wp2_with (first | (at_builtin; refine wpList_append_own_at _ rfl (.tmp 66) (.tmp 75) 22 rfl w.heap.size 5 i0 _ 1 1 Tryd.underlying22 hi0 hz0 hz1 hz2 rfl (by omega) _ (4 + 0) _ rfl (HM.out.alloc _) ⟨_, 0, none⟩ 1 1 _ rfl rfl (cells_new _ _ _) (by simp [Value.oneCell']) (by simp only [maxLen]; omega) (by omega) (by simp; omega) ?_; intro v' w1 hown1 hg1 _ _))
          go_roundw
          case rel => (repeat apply Exists.intro); exact ⟨⟨1, by omega, rfl, own_eq hown1 (by omega) (by simp [wl4]), below_own hbw3 HM.out hg1⟩, rfl⟩
          case measure => simp [intOf]
        · go_wp2_with (first | (at_builtin; refine wpList_append_own_at _ rfl (.tmp 66) (.tmp 75) 22 rfl w.heap.size 5 i0 _ 1 1 Tryd.underlying22 hi0 hz0 hz1 hz2 rfl (by omega) _ (4 + 1) _ rfl (HM.out.alloc _) ⟨_, 0, none⟩ 1 1 _ rfl rfl (cells_new _ _ _) (by simp [Value.oneCell']) (by simp only [maxLen]; omega) (by omega) (by simp; omega) ?_; intro v' w1 hown1 hg1 _ _))
          go_roundw
          case rel => (repeat apply Exists.intro); exact ⟨⟨2, by omega, rfl, own_eq hown1 (by omega) (by simp [wl4]), below_own hbw3 HM.out hg1⟩, rfl⟩
          case measure => simp [intOf]
        · go_wp2_with (first | (at_builtin; refine wpList_append_own_at _ rfl (.tmp 66) (.tmp 75) 22 rfl w.heap.size 5 i0 _ 1 1 Tryd.underlying22 hi0 hz0 hz1 hz2 rfl (by omega) _ (4 + 2) _ rfl (HM.out.alloc _) ⟨_, 0, none⟩ 1 1 _ rfl rfl (cells_new _ _ _) (by simp [Value.oneCell']) (by simp only [maxLen]; omega) (by omega) (by simp; omega) ?_; intro v' w1 hown1 hg1 _ _))
          go_roundw
          case rel => (repeat apply Exists.intro); exact ⟨⟨3, by omega, rfl, own_eq hown1 (by omega) (by simp [wl4]), below_own hbw3 HM.out hg1⟩, rfl⟩
          case measure => simp [intOf]
        · go_wp2_with (first | (at_builtin; refine wpList_append_own_at _ rfl (.tmp 66) (.tmp 75) 22 rfl w.heap.size 5 i0 _ 1 1 Tryd.underlying22 hi0 hz0 hz1 hz2 rfl (by omega) _ (4 + 3) _ rfl (HM.out.alloc _) ⟨_, 0, none⟩ 1 1 _ rfl rfl (cells_new _ _ _) (by simp [Value.oneCell']) (by simp only [maxLen]; omega) (by omega) (by simp; omega) ?_; intro v' w1 hown1 hg1 _ _))
          go_roundw
          case rel => (repeat apply Exists.intro); exact ⟨⟨4, by omega, rfl, own_eq hown1 (by omega) (by simp [wl4]), below_own hbw3 HM.out hg1⟩, rfl⟩
          case measure => simp [intOf]
        · go_wp2_with fail
          go_ret
          refine ⟨_, rfl, own_eq HM.out rfl ?_, hbw3⟩
          rw [vnB8 i (by omega)]
          simp only [wl4, List.replicate, List.cons_append, List.nil_append, List.cons.injEq, Value.int.injEq, true_and, and_true]
          omega
end Go.Proofs.YtpegafbcfpedoaaDoor
