/- spec.VNBytes: the bytes of a number in 1, 2, 4 or 8 bytes. -/
import Derived.Test.YtpegafbcfpedoaaDoorT6
namespace Go.Proofs.YtpegafbcfpedoaaDoor
open Go.RowKit
set_option linter.unusedVariables false

theorem u8_or0 (x : Int) (h0 : 0 ≤ x) (h : x < 64) : bits .or .u8 x 0 = x := by
  rw [bits_join_low .u8 8 (by decide) (fun n h0 h1 => IntWalk.u8_in n (by omega)) 6 x 0 h0 (by omega) (by omega) (by omega) (by omega) (by omega)]
  omega
/-- a new row of bytes -/
def New (w : World) (n : Nat) (xs : List Value) (e : Ending) (w' : World) : Prop :=
  ∃ v', e = .returned v' ∧ w'.ownsRow w.heap.size 5 1 v' n xs ∧ Below w.heap.size w w'
theorem New.of_alloc {w : World} {n : Nat} {cs : List Value} {ys : List Value} (hn : n ≤ maxLen) (hl : cs.length = n) (h : cs = ys) : New w n ys (.returned (.slice (some ⟨w.heap.size, 0, none⟩) n n)) (w.alloc (.cells cs.toArray 5)) := by
  subst h
  exact ⟨_, rfl, World.ownsRow_lit w cs.toArray n (Nat.le_refl _) hn (by simpa using hl), (Below.refl _ _).alloc (Nat.le_refl _) _⟩

def vb1 (i : Int) : Nat → Int × List Value
  | 0 => (i, [.int .u8 0])
  | _ => (i / 256, [.int .u8 (i)])

set_option maxHeartbeats 4000000 in
theorem bytes_1 (i : Nat) (w : World) (h : i < 64) : Calls Tryd.prog 13 #[.int .u64 i, .int .i64 1] w (New w 1 (bcells (vnBytes i 1))) := by
  have hmk : ∀ w, (Instr.makeSlice 22 (.int .i64 1) (.int .i64 1)).run Tryd.prog w = .ok (.slice (some ⟨w.heap.size, 0, none⟩) 1 1) (w.alloc (.cells #[.int .u8 0] 5)) := fun _ => by kernel_rfl
  go_enter Tryd.func13, Tryd.ntmps13
  go_wp2
  go_loopw [0, 6] (fun nn ii wr => ∃ j : Nat, j ≤ 1 ∧ ii = .int .i64 (1 - 1 - (j : Int)) ∧ nn = .int .u64 (vb1 i j).1 ∧ wr = w.alloc (.cells (vb1 i j).2.toArray 5)) (fun _ ii _ => (intOf ii + 1).toNat)
  case atStart => exact ⟨0, by omega, rfl, rfl, rfl⟩
  case round =>
    obtain ⟨j, hj, rfl, hn, hw⟩ := hrel
    rcases (show j = 0 ∨ j = 1 by omega) with rfl | rfl
    all_goals simp only [vb1] at hn hw
    all_goals subst hn hw
    · go_wp2
      refine ⟨⟨1, by omega, rfl, ?_, rfl⟩, by simp [intOf]⟩
      first | (simp only [vb1]; done) | (simp only [vb1]; exact u64_eq (by omega))
    · go_wp2
      go_loop [7] (fun k => ∃ j : Nat, j ≤ 0 ∧ k = .int .i64 j) (fun k => 4 - (intOf k).toNat)
      case atStart => exact ⟨0, by omega, rfl⟩
      case round =>
        obtain ⟨k, hk, rfl⟩ := hrel
        obtain rfl : k = 0 := by omega
        go_wp2
        go_ret
        refine New.of_alloc (by decide) rfl ?_
        rw [vnB1 i (by omega), u8_or0 _ (by omega) (by omega)]

def vb2 (i : Int) : Nat → Int × List Value
  | 0 => (i, [.int .u8 0, .int .u8 0])
  | 1 => (i / 256, [.int .u8 0, .int .u8 (i % 256)])
  | _ => (i / 65536, [.int .u8 (i / 256), .int .u8 (i % 256)])

set_option maxHeartbeats 4000000 in
theorem bytes_2 (i : Nat) (w : World) (h : i < 16384) : Calls Tryd.prog 13 #[.int .u64 i, .int .i64 2] w (New w 2 (bcells (vnBytes i 2))) := by
  have hmk : ∀ w, (Instr.makeSlice 22 (.int .i64 2) (.int .i64 2)).run Tryd.prog w = .ok (.slice (some ⟨w.heap.size, 0, none⟩) 2 2) (w.alloc (.cells #[.int .u8 0, .int .u8 0] 5)) := fun _ => by kernel_rfl
  go_enter Tryd.func13, Tryd.ntmps13
  go_wp2
  go_loopw [0, 6] (fun nn ii wr => ∃ j : Nat, j ≤ 2 ∧ ii = .int .i64 (2 - 1 - (j : Int)) ∧ nn = .int .u64 (vb2 i j).1 ∧ wr = w.alloc (.cells (vb2 i j).2.toArray 5)) (fun _ ii _ => (intOf ii + 1).toNat)
  case atStart => exact ⟨0, by omega, rfl, rfl, rfl⟩
  case round =>
    obtain ⟨j, hj, rfl, hn, hw⟩ := hrel
    rcases (show j = 0 ∨ j = 1 ∨ j = 2 by omega) with rfl | rfl | rfl
    all_goals simp only [vb2] at hn hw
    all_goals subst hn hw
    · go_wp2
      refine ⟨⟨1, by omega, rfl, ?_, rfl⟩, by simp [intOf]⟩
      first | (simp only [vb2]; done) | (simp only [vb2]; exact u64_eq (by omega))
    · go_wp2
      refine ⟨⟨2, by omega, rfl, ?_, rfl⟩, by simp [intOf]⟩
      first | (simp only [vb2]; done) | (simp only [vb2]; exact u64_eq (by omega))
    · go_wp2
      go_loop [7] (fun k => ∃ j : Nat, j ≤ 1 ∧ k = .int .i64 j) (fun k => 4 - (intOf k).toNat)
      case atStart => exact ⟨0, by omega, rfl⟩
      case round =>
        obtain ⟨k, hk, rfl⟩ := hrel
        rcases (show k = 0 ∨ k = 1 by omega) with rfl | rfl
        · go_wp2
          exact ⟨⟨1, by omega, rfl⟩, by simp [intOf]⟩
        · go_wp2
          go_ret
          refine New.of_alloc (by decide) rfl ?_
          rw [vnB2 i (by omega), u8_or64 _ (by omega) (by omega)]

def vb4 (i : Int) : Nat → Int × List Value
  | 0 => (i, [.int .u8 0, .int .u8 0, .int .u8 0, .int .u8 0])
  | 1 => (i / 256, [.int .u8 0, .int .u8 0, .int .u8 0, .int .u8 (i % 256)])
  | 2 => (i / 65536, [.int .u8 0, .int .u8 0, .int .u8 (i / 256 % 256), .int .u8 (i % 256)])
  | 3 => (i / 16777216, [.int .u8 0, .int .u8 (i / 65536 % 256), .int .u8 (i / 256 % 256), .int .u8 (i % 256)])
  | _ => (i / 4294967296, [.int .u8 (i / 16777216), .int .u8 (i / 65536 % 256), .int .u8 (i / 256 % 256), .int .u8 (i % 256)])

set_option maxHeartbeats 4000000 in
theorem bytes_4 (i : Nat) (w : World) (h : i < 1073741824) : Calls Tryd.prog 13 #[.int .u64 i, .int .i64 4] w (New w 4 (bcells (vnBytes i 4))) := by
  have hmk : ∀ w, (Instr.makeSlice 22 (.int .i64 4) (.int .i64 4)).run Tryd.prog w = .ok (.slice (some ⟨w.heap.size, 0, none⟩) 4 4) (w.alloc (.cells #[.int .u8 0, .int .u8 0, .int .u8 0, .int .u8 0] 5)) := fun _ => by kernel_rfl
  go_enter Tryd.func13, Tryd.ntmps13
  go_wp2
  go_loopw [0, 6] (fun nn ii wr => ∃ j : Nat, j ≤ 4 ∧ ii = .int .i64 (4 - 1 - (j : Int)) ∧ nn = .int .u64 (vb4 i j).1 ∧ wr = w.alloc (.cells (vb4 i j).2.toArray 5)) (fun _ ii _ => (intOf ii + 1).toNat)
  case atStart => exact ⟨0, by omega, rfl, rfl, rfl⟩
  case round =>
    obtain ⟨j, hj, rfl, hn, hw⟩ := hrel
    rcases (show j = 0 ∨ j = 1 ∨ j = 2 ∨ j = 3 ∨ j = 4 by omega) with rfl | rfl | rfl | rfl | rfl
    all_goals simp only [vb4] at hn hw
    all_goals subst hn hw
    · go_wp2
      refine ⟨⟨1, by omega, rfl, ?_, rfl⟩, by simp [intOf]⟩
      first | (simp only [vb4]; done) | (simp only [vb4]; exact u64_eq (by omega))
    · go_wp2
      refine ⟨⟨2, by omega, rfl, ?_, rfl⟩, by simp [intOf]⟩
      first | (simp only [vb4]; done) | (simp only [vb4]; exact u64_eq (by omega))
    · go_wp2
      refine ⟨⟨3, by omega, rfl, ?_, rfl⟩, by simp [intOf]⟩
      first | (simp only [vb4]; done) | (simp only [vb4]; exact u64_eq (by omega))
    · go_wp2
      refine ⟨⟨4, by omega, rfl, ?_, rfl⟩, by simp [intOf]⟩
      first | (simp only [vb4]; done) | (simp only [vb4]; exact u64_eq (by omega))
    · go_wp2
      go_loop [7] (fun k => ∃ j : Nat, j ≤ 2 ∧ k = .int .i64 j) (fun k => 4 - (intOf k).toNat)
      case atStart => exact ⟨0, by omega, rfl⟩
      case round =>
        obtain ⟨k, hk, rfl⟩ := hrel
        rcases (show k = 0 ∨ k = 1 ∨ k = 2 by omega) with rfl | rfl | rfl
        · go_wp2
          exact ⟨⟨1, by omega, rfl⟩, by simp [intOf]⟩
        · go_wp2
          exact ⟨⟨2, by omega, rfl⟩, by simp [intOf]⟩
        · go_wp2
          go_ret
          refine New.of_alloc (by decide) rfl ?_
          rw [vnB4 i (by omega), u8_or128 _ (by omega) (by omega)]

def vb8 (i : Int) : Nat → Int × List Value
  | 0 => (i, [.int .u8 0, .int .u8 0, .int .u8 0, .int .u8 0, .int .u8 0, .int .u8 0, .int .u8 0, .int .u8 0])
  | 1 => (i / 256, [.int .u8 0, .int .u8 0, .int .u8 0, .int .u8 0, .int .u8 0, .int .u8 0, .int .u8 0, .int .u8 (i % 256)])
  | 2 => (i / 65536, [.int .u8 0, .int .u8 0, .int .u8 0, .int .u8 0, .int .u8 0, .int .u8 0, .int .u8 (i / 256 % 256), .int .u8 (i % 256)])
  | 3 => (i / 16777216, [.int .u8 0, .int .u8 0, .int .u8 0, .int .u8 0, .int .u8 0, .int .u8 (i / 65536 % 256), .int .u8 (i / 256 % 256), .int .u8 (i % 256)])
  | 4 => (i / 4294967296, [.int .u8 0, .int .u8 0, .int .u8 0, .int .u8 0, .int .u8 (i / 16777216 % 256), .int .u8 (i / 65536 % 256), .int .u8 (i / 256 % 256), .int .u8 (i % 256)])
  | 5 => (i / 1099511627776, [.int .u8 0, .int .u8 0, .int .u8 0, .int .u8 (i / 4294967296 % 256), .int .u8 (i / 16777216 % 256), .int .u8 (i / 65536 % 256), .int .u8 (i / 256 % 256), .int .u8 (i % 256)])
  | 6 => (i / 281474976710656, [.int .u8 0, .int .u8 0, .int .u8 (i / 1099511627776 % 256), .int .u8 (i / 4294967296 % 256), .int .u8 (i / 16777216 % 256), .int .u8 (i / 65536 % 256), .int .u8 (i / 256 % 256), .int .u8 (i % 256)])
  | 7 => (i / 72057594037927936, [.int .u8 0, .int .u8 (i / 281474976710656 % 256), .int .u8 (i / 1099511627776 % 256), .int .u8 (i / 4294967296 % 256), .int .u8 (i / 16777216 % 256), .int .u8 (i / 65536 % 256), .int .u8 (i / 256 % 256), .int .u8 (i % 256)])
  | _ => (i / 18446744073709551616, [.int .u8 (i / 72057594037927936), .int .u8 (i / 281474976710656 % 256), .int .u8 (i / 1099511627776 % 256), .int .u8 (i / 4294967296 % 256), .int .u8 (i / 16777216 % 256), .int .u8 (i / 65536 % 256), .int .u8 (i / 256 % 256), .int .u8 (i % 256)])

set_option maxHeartbeats 4000000 in
theorem bytes_8 (i : Nat) (w : World) (h : i < 4611686018427387904) : Calls Tryd.prog 13 #[.int .u64 i, .int .i64 8] w (New w 8 (bcells (vnBytes i 8))) := by
  have hmk : ∀ w, (Instr.makeSlice 22 (.int .i64 8) (.int .i64 8)).run Tryd.prog w = .ok (.slice (some ⟨w.heap.size, 0, none⟩) 8 8) (w.alloc (.cells #[.int .u8 0, .int .u8 0, .int .u8 0, .int .u8 0, .int .u8 0, .int .u8 0, .int .u8 0, .int .u8 0] 5)) := fun _ => by kernel_rfl
  go_enter Tryd.func13, Tryd.ntmps13
  go_wp2
  go_loopw [0, 6] (fun nn ii wr => ∃ j : Nat, j ≤ 8 ∧ ii = .int .i64 (8 - 1 - (j : Int)) ∧ nn = .int .u64 (vb8 i j).1 ∧ wr = w.alloc (.cells (vb8 i j).2.toArray 5)) (fun _ ii _ => (intOf ii + 1).toNat)
  case atStart => exact ⟨0, by omega, rfl, rfl, rfl⟩
  case round =>
    obtain ⟨j, hj, rfl, hn, hw⟩ := hrel
    rcases (show j = 0 ∨ j = 1 ∨ j = 2 ∨ j = 3 ∨ j = 4 ∨ j = 5 ∨ j = 6 ∨ j = 7 ∨ j = 8 by omega) with rfl | rfl | rfl | rfl | rfl | rfl | rfl | rfl | rfl
    all_goals simp only [vb8] at hn hw
    all_goals subst hn hw
    · go_wp2
      refine ⟨⟨1, by omega, rfl, ?_, rfl⟩, by simp [intOf]⟩
      first | (simp only [vb8]; done) | (simp only [vb8]; exact u64_eq (by omega))
    · go_wp2
      refine ⟨⟨2, by omega, rfl, ?_, rfl⟩, by simp [intOf]⟩
      first | (simp only [vb8]; done) | (simp only [vb8]; exact u64_eq (by omega))
    · go_wp2
      refine ⟨⟨3, by omega, rfl, ?_, rfl⟩, by simp [intOf]⟩
      first | (simp only [vb8]; done) | (simp only [vb8]; exact u64_eq (by omega))
    · go_wp2
      refine ⟨⟨4, by omega, rfl, ?_, rfl⟩, by simp [intOf]⟩
      first | (simp only [vb8]; done) | (simp only [vb8]; exact u64_eq (by omega))
    · go_wp2
      refine ⟨⟨5, by omega, rfl, ?_, rfl⟩, by simp [intOf]⟩
      first | (simp only [vb8]; done) | (simp only [vb8]; exact u64_eq (by omega))
    · go_wp2
      refine ⟨⟨6, by omega, rfl, ?_, rfl⟩, by simp [intOf]⟩
      first | (simp only [vb8]; done) | (simp only [vb8]; exact u64_eq (by omega))
    · go_wp2
      refine ⟨⟨7, by omega, rfl, ?_, rfl⟩, by simp [intOf]⟩
      first | (simp only [vb8]; done) | (simp only [vb8]; exact u64_eq (by omega))
    · go_wp2
      refine ⟨⟨8, by omega, rfl, ?_, rfl⟩, by simp [intOf]⟩
      first | (simp only [vb8]; done) | (simp only [vb8]; exact u64_eq (by omega))
    · go_wp2
      go_loop [7] (fun k => ∃ j : Nat, j ≤ 3 ∧ k = .int .i64 j) (fun k => 4 - (intOf k).toNat)
      case atStart => exact ⟨0, by omega, rfl⟩
      case round =>
        obtain ⟨k, hk, rfl⟩ := hrel
        rcases (show k = 0 ∨ k = 1 ∨ k = 2 ∨ k = 3 by omega) with rfl | rfl | rfl | rfl
        · go_wp2
          exact ⟨⟨1, by omega, rfl⟩, by simp [intOf]⟩
        · go_wp2
          exact ⟨⟨2, by omega, rfl⟩, by simp [intOf]⟩
        · go_wp2
          exact ⟨⟨3, by omega, rfl⟩, by simp [intOf]⟩
        · go_wp2
          go_ret
          refine New.of_alloc (by decide) rfl ?_
          rw [vnB8 i (by omega), u8_or192 _ (by omega) (by omega)]
end Go.Proofs.YtpegafbcfpedoaaDoor
