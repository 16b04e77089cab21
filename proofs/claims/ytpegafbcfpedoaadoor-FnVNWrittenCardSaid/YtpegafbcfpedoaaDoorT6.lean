/- quicvarint.Append, Len, AppendWithLen; spec.VNLen, VNBytes: the bytes of a number below 2^62. -/
import Derived.Test.YtpegafbcfpedoaaDoorT5
namespace Go.Proofs.YtpegafbcfpedoaaDoor
open Go.RowKit
set_option linter.unusedVariables false

theorem info5 : (Tryd.prog.info? 5).map (fun i => (i.zero, i.size, i.bytes)) = some (some (.int .u8 0), 1, 1) := by kernel_rfl

/-- the bytes of a number in L bytes (1, 2, 4 or 8), with two bits ahead that say how many -/
def vnBytes (n L : Nat) : List UInt8 := Lib.beBytes L (n + (if L = 2 then 16384 else if L = 4 then 2147483648 else if L = 8 then 13835058055282163712 else 0))
def vnLen (n : Nat) : Nat := if n < 64 then 1 else if n < 16384 then 2 else if n < 1073741824 then 4 else 8

theorem cells_new (w : World) (cs : List Value) (t : TypeId) : ∀ j u, cs[j]? = some u → (w.alloc (.cells cs.toArray t)).cell? ((⟨w.heap.size, 0, none⟩ : Addr).add j) = some u := by
  intro j u hj
  rw [Addr.add_lit, Nat.zero_add]
  rw [cell_of_row _ w.heap.size j cs.toArray t (0, 0) (heap_alloc_new w _)]
  simpa using hj

/-- what an append leaves: the row is longer, and no other block has turned -/
def App (w : World) (base : Nat) (v : Value) (n : Nat) (xs : List Value) (e : Ending) (w' : World) : Prop :=
  ∃ v', e = .returned v' ∧ w'.ownsRow base 5 1 v' n xs ∧ w.grownBy w' v.ownBlock ∧ (v'.ownBlock = v.ownBlock ∨ ∃ g, v'.ownBlock = some g ∧ w.heap.size ≤ g)

theorem vnB1 (n : Nat) (h : n < 64) : bcells (vnBytes n 1) = [.int .u8 (n : Int)] := by
  simp [bcells, vnBytes, Lib.beBytes, Lib.leBytes]
  omega
theorem vnB2 (n : Nat) (h : n < 16384) : bcells (vnBytes n 2) = [.int .u8 ((n : Int) / 256 + 64), .int .u8 ((n : Int) % 256)] := by
  simp [bcells, vnBytes, Lib.beBytes, Lib.leBytes]
  omega
theorem vnB4 (n : Nat) (h : n < 1073741824) : bcells (vnBytes n 4) = [.int .u8 ((n : Int) / 16777216 + 128), .int .u8 ((n : Int) / 65536 % 256), .int .u8 ((n : Int) / 256 % 256), .int .u8 ((n : Int) % 256)] := by
  simp [bcells, vnBytes, Lib.beBytes, Lib.leBytes]
  omega
theorem vnB8 (n : Nat) (h : n < 4611686018427387904) : bcells (vnBytes n 8) = [.int .u8 ((n : Int) / 72057594037927936 + 192), .int .u8 ((n : Int) / 281474976710656 % 256), .int .u8 ((n : Int) / 1099511627776 % 256), .int .u8 ((n : Int) / 4294967296 % 256), .int .u8 ((n : Int) / 16777216 % 256), .int .u8 ((n : Int) / 65536 % 256), .int .u8 ((n : Int) / 256 % 256), .int .u8 ((n : Int) % 256)] := by
  simp [bcells, vnBytes, Lib.beBytes, Lib.leBytes]
  omega

theorem u8_or64 (x : Int) (h0 : 0 ≤ x) (h : x < 64) : bits .or .u8 x 64 = x + 64 := bits_join_low .u8 8 (by decide) (fun n h0 h1 => IntWalk.u8_in n (by omega)) 6 x 64 h0 (by omega) (by omega) (by omega) (by omega) (by omega)
theorem u8_or128 (x : Int) (h0 : 0 ≤ x) (h : x < 64) : bits .or .u8 x 128 = x + 128 := bits_join_low .u8 8 (by decide) (fun n h0 h1 => IntWalk.u8_in n (by omega)) 6 x 128 h0 (by omega) (by omega) (by omega) (by omega) (by omega)
theorem u8_or192 (x : Int) (h0 : 0 ≤ x) (h : x < 64) : bits .or .u8 x 192 = x + 192 := bits_join_low .u8 8 (by decide) (fun n h0 h1 => IntWalk.u8_in n (by omega)) 6 x 192 h0 (by omega) (by omega) (by omega) (by omega) (by omega)
theorem App.make {w : World} {base : Nat} {v v' : Value} {m k : Nat} {xs news ys : List Value} {w1 : World} {o : Obj} (hown : w1.ownsRow base 5 1 v' (m + k) (xs ++ news)) (hg : (w.alloc o).grownBy w1 v.ownBlock)
    (hat : v'.ownBlock = v.ownBlock ∨ v'.ownBlock = some (w.alloc o).heap.size) (hn : news = ys) : App w base v (m + k) (xs ++ ys) (.returned v') w1 := by
  subst hn
  refine ⟨v', rfl, hown, World.grownBy.trans (World.grownBy_alloc w o _) hg, hat.imp id fun h => ⟨_, h, by simp⟩⟩

set_option maxHeartbeats 1000000 in
theorem append_1 (base : Nat) (v : Value) (m : Nat) (xs : List Value) (i : Nat) (w : World) (hown : w.ownsRow base 5 1 v m xs) (hb : base ≤ w.heap.size) (hm : m ≤ 1099511627776) (h2 : i ≤ 63) :
    Calls Tryd.prog 21 #[v, .int .u64 i] w (App w base v (m + 1) (xs ++ bcells (vnBytes i 1))) := by
  obtain ⟨i0, hi0, hz0, hz1, hz2⟩ := info_parts info5
  go_enter Tryd.func21, Tryd.ntmps21
  go_wp2_with (first | (at_builtin; refine wpList_append_own_at _ rfl (.tmp 7) (.tmp 10) 22 rfl base 5 i0 _ 1 1 Tryd.underlying22 hi0 hz0 hz1 hz2 rfl (by omega) v m xs rfl (hown.alloc _) ⟨w.heap.size, 0, none⟩ 1 1 _ rfl rfl (cells_new _ _ _) (by simp [Value.oneCell']) (by simp only [maxLen]; omega) (by omega) (by simp; omega) ?_; intro v' w1 hown1 hg1 _ hat))
  go_ret
  refine App.make hown1 hg1 hat ?_
  rw [vnB1 i (by omega)]

set_option maxHeartbeats 1000000 in
theorem append_2 (base : Nat) (v : Value) (m : Nat) (xs : List Value) (i : Nat) (w : World) (hown : w.ownsRow base 5 1 v m xs) (hb : base ≤ w.heap.size) (hm : m ≤ 1099511627776) (h1 : 63 < i) (h2 : i ≤ 16383) :
    Calls Tryd.prog 21 #[v, .int .u64 i] w (App w base v (m + 2) (xs ++ bcells (vnBytes i 2))) := by
  obtain ⟨i0, hi0, hz0, hz1, hz2⟩ := info_parts info5
  go_enter Tryd.func21, Tryd.ntmps21
  go_wp2_with (first | (at_builtin; refine wpList_append_own_at _ rfl (.tmp 14) (.tmp 21) 22 rfl base 5 i0 _ 1 1 Tryd.underlying22 hi0 hz0 hz1 hz2 rfl (by omega) v m xs rfl (hown.alloc _) ⟨w.heap.size, 0, none⟩ 2 2 _ rfl rfl (cells_new _ _ _) (by simp [Value.oneCell']) (by simp only [maxLen]; omega) (by omega) (by simp; omega) ?_; intro v' w1 hown1 hg1 _ hat))
  go_ret
  refine App.make hown1 hg1 hat ?_
  rw [vnB2 i (by omega)]
  rw [u8_or64 _ (by omega) (by omega)]

set_option maxHeartbeats 1000000 in
theorem append_4 (base : Nat) (v : Value) (m : Nat) (xs : List Value) (i : Nat) (w : World) (hown : w.ownsRow base 5 1 v m xs) (hb : base ≤ w.heap.size) (hm : m ≤ 1099511627776) (h1 : 16383 < i) (h2 : i ≤ 1073741823) :
    Calls Tryd.prog 21 #[v, .int .u64 i] w (App w base v (m + 4) (xs ++ bcells (vnBytes i 4))) := by
  obtain ⟨i0, hi0, hz0, hz1, hz2⟩ := info_parts info5
  go_enter Tryd.func21, Tryd.ntmps21
  go_wp2_with (first | (at_builtin; refine wpList_append_own_at _ rfl (.tmp 25) (.tmp 38) 22 rfl base 5 i0 _ 1 1 Tryd.underlying22 hi0 hz0 hz1 hz2 rfl (by omega) v m xs rfl (hown.alloc _) ⟨w.heap.size, 0, none⟩ 4 4 _ rfl rfl (cells_new _ _ _) (by simp [Value.oneCell']) (by simp only [maxLen]; omega) (by omega) (by simp; omega) ?_; intro v' w1 hown1 hg1 _ hat))
  go_ret
  refine App.make hown1 hg1 hat ?_
  rw [vnB4 i (by omega)]
  rw [u8_or128 _ (by omega) (by omega)]

set_option maxHeartbeats 1000000 in
theorem append_8 (base : Nat) (v : Value) (m : Nat) (xs : List Value) (i : Nat) (w : World) (hown : w.ownsRow base 5 1 v m xs) (hb : base ≤ w.heap.size) (hm : m ≤ 1099511627776) (h1 : 1073741823 < i) (h2 : i ≤ 4611686018427387903) :
    Calls Tryd.prog 21 #[v, .int .u64 i] w (App w base v (m + 8) (xs ++ bcells (vnBytes i 8))) := by
  obtain ⟨i0, hi0, hz0, hz1, hz2⟩ := info_parts info5
  go_enter Tryd.func21, Tryd.ntmps21
  go_wp2_with (first | (at_builtin; refine wpList_append_own_at _ rfl (.tmp 42) (.tmp 67) 22 rfl base 5 i0 _ 1 1 Tryd.underlying22 hi0 hz0 hz1 hz2 rfl (by omega) v m xs rfl (hown.alloc _) ⟨w.heap.size, 0, none⟩ 8 8 _ rfl rfl (cells_new _ _ _) (by simp [Value.oneCell']) (by simp only [maxLen]; omega) (by omega) (by simp; omega) ?_; intro v' w1 hown1 hg1 _ hat))
  go_ret
  refine App.make hown1 hg1 hat ?_
  rw [vnB8 i (by omega)]
  rw [u8_or192 _ (by omega) (by omega)]

theorem vnLen_cases (i : Nat) : (vnLen i = 1 ∧ i ≤ 63) ∨ (vnLen i = 2 ∧ 63 < i ∧ i ≤ 16383) ∨ (vnLen i = 4 ∧ 16383 < i ∧ i ≤ 1073741823) ∨ (vnLen i = 8 ∧ 1073741823 < i) := by
  unfold vnLen
  split
  · omega
  · split
    · omega
    · split <;> omega
theorem append_any (base : Nat) (v : Value) (m : Nat) (xs : List Value) (i : Nat) (w : World) (hown : w.ownsRow base 5 1 v m xs) (hb : base ≤ w.heap.size) (hm : m ≤ 1099511627776) (h : i < 4611686018427387904) :
    Calls Tryd.prog 21 #[v, .int .u64 i] w (App w base v (m + vnLen i) (xs ++ bcells (vnBytes i (vnLen i)))) := by
  rcases vnLen_cases i with ⟨e, h1⟩ | ⟨e, h1, h2⟩ | ⟨e, h1, h2⟩ | ⟨e, h1⟩
  all_goals rw [e]
  · exact append_1 base v m xs i w hown hb hm h1
  · exact append_2 base v m xs i w hown hb hm h1 h2
  · exact append_4 base v m xs i w hown hb hm h1 h2
  · exact append_8 base v m xs i w hown hb hm h1 (by omega)

theorem len_any (i : Nat) (w : World) (h : i < 4611686018427387904) : Calls Tryd.prog 22 #[.int .u64 i] w fun e w' => e = .returned (.int .i64 (vnLen i)) ∧ w = w' := by
  rcases vnLen_cases i with ⟨e, h1⟩ | ⟨e, h1, h2⟩ | ⟨e, h1, h2⟩ | ⟨e, h1⟩
  all_goals rw [e]
  · go_enter Tryd.func22, Tryd.ntmps22
    go_wp2
    go_ret
    exact ⟨rfl, rfl⟩
  · go_enter Tryd.func22, Tryd.ntmps22
    go_wp2
    go_ret
    exact ⟨rfl, rfl⟩
  · go_enter Tryd.func22, Tryd.ntmps22
    go_wp2
    go_ret
    exact ⟨rfl, rfl⟩
  · go_enter Tryd.func22, Tryd.ntmps22
    go_wp2
    go_ret
    exact ⟨rfl, rfl⟩

theorem vnlen_1 (i : Nat) (w : World) (h2 : i ≤ 63) : Calls Tryd.prog 9 #[.int .u64 i] w fun e w' => e = .returned (.int .i64 1) ∧ Below w.heap.size w w' := by
  have t0 : decide ((i : Int) < 64) = true := by simp; omega
  clear h2
  go_enter Tryd.func9, Tryd.ntmps9
  go_wp2
  go_loop [4, 7] (fun _ k => ∃ j : Nat, j ≤ 0 ∧ k = .int .i64 j) (fun _ k => 5 - (intOf k).toNat)
  case atStart => exact ⟨0, by omega, rfl⟩
  case round =>
    obtain ⟨k, hk, rfl⟩ := hrel
    obtain rfl : k = 0 := by omega
    go_wp2
    go_ret
    exact ⟨rfl, (Below.refl _ _).alloc (Nat.le_refl _) _⟩
theorem vnlen_2 (i : Nat) (w : World) (h1 : 63 < i) (h2 : i ≤ 16383) : Calls Tryd.prog 9 #[.int .u64 i] w fun e w' => e = .returned (.int .i64 2) ∧ Below w.heap.size w w' := by
  have t0 : decide ((i : Int) < 64) = false := by simp; omega
  have t1 : decide ((i : Int) < 16384) = true := by simp; omega
  clear h1 h2
  go_enter Tryd.func9, Tryd.ntmps9
  go_wp2
  go_loop [4, 7] (fun _ k => ∃ j : Nat, j ≤ 1 ∧ k = .int .i64 j) (fun _ k => 5 - (intOf k).toNat)
  case atStart => exact ⟨0, by omega, rfl⟩
  case round =>
    obtain ⟨k, hk, rfl⟩ := hrel
    rcases (show k = 0 ∨ k = 1 by omega) with rfl | rfl
    · go_wp2
      go_round
      case rel => exact ⟨1, by omega, rfl⟩
      case measure => simp [intOf]
    · go_wp2
      go_ret
      exact ⟨rfl, (Below.refl _ _).alloc (Nat.le_refl _) _⟩
theorem vnlen_4 (i : Nat) (w : World) (h1 : 16383 < i) (h2 : i ≤ 1073741823) : Calls Tryd.prog 9 #[.int .u64 i] w fun e w' => e = .returned (.int .i64 4) ∧ Below w.heap.size w w' := by
  have t0 : decide ((i : Int) < 64) = false := by simp; omega
  have t1 : decide ((i : Int) < 16384) = false := by simp; omega
  have t2 : decide ((i : Int) < 1073741824) = true := by simp; omega
  clear h1 h2
  go_enter Tryd.func9, Tryd.ntmps9
  go_wp2
  go_loop [4, 7] (fun _ k => ∃ j : Nat, j ≤ 2 ∧ k = .int .i64 j) (fun _ k => 5 - (intOf k).toNat)
  case atStart => exact ⟨0, by omega, rfl⟩
  case round =>
    obtain ⟨k, hk, rfl⟩ := hrel
    rcases (show k = 0 ∨ k = 1 ∨ k = 2 by omega) with rfl | rfl | rfl
    · go_wp2
      go_round
      case rel => exact ⟨1, by omega, rfl⟩
      case measure => simp [intOf]
    · go_wp2
      go_round
      case rel => exact ⟨2, by omega, rfl⟩
      case measure => simp [intOf]
    · go_wp2
      go_ret
      exact ⟨rfl, (Below.refl _ _).alloc (Nat.le_refl _) _⟩
theorem vnlen_8 (i : Nat) (w : World) (h1 : 1073741823 < i) (h2 : i ≤ 4611686018427387903) : Calls Tryd.prog 9 #[.int .u64 i] w fun e w' => e = .returned (.int .i64 8) ∧ Below w.heap.size w w' := by
  have t0 : decide ((i : Int) < 64) = false := by simp; omega
  have t1 : decide ((i : Int) < 16384) = false := by simp; omega
  have t2 : decide ((i : Int) < 1073741824) = false := by simp; omega
  have t3 : decide ((i : Int) < 4611686018427387904) = true := by simp; omega
  clear h1 h2
  go_enter Tryd.func9, Tryd.ntmps9
  go_wp2
  go_loop [4, 7] (fun _ k => ∃ j : Nat, j ≤ 3 ∧ k = .int .i64 j) (fun _ k => 5 - (intOf k).toNat)
  case atStart => exact ⟨0, by omega, rfl⟩
  case round =>
    obtain ⟨k, hk, rfl⟩ := hrel
    rcases (show k = 0 ∨ k = 1 ∨ k = 2 ∨ k = 3 by omega) with rfl | rfl | rfl | rfl
    · go_wp2
      go_round
      case rel => exact ⟨1, by omega, rfl⟩
      case measure => simp [intOf]
    · go_wp2
      go_round
      case rel => exact ⟨2, by omega, rfl⟩
      case measure => simp [intOf]
    · go_wp2
      go_round
      case rel => exact ⟨3, by omega, rfl⟩
      case measure => simp [intOf]
    · go_wp2
      go_ret
      exact ⟨rfl, (Below.refl _ _).alloc (Nat.le_refl _) _⟩
theorem vnlen_any (i : Nat) (w : World) (h : i < 4611686018427387904) : Calls Tryd.prog 9 #[.int .u64 i] w fun e w' => e = .returned (.int .i64 (vnLen i)) ∧ Below w.heap.size w w' := by
  rcases vnLen_cases i with ⟨e, h1⟩ | ⟨e, h1, h2⟩ | ⟨e, h1, h2⟩ | ⟨e, h1⟩
  all_goals rw [e]
  · exact vnlen_1 i w h1
  · exact vnlen_2 i w h1 h2
  · exact vnlen_4 i w h1 h2
  · exact vnlen_8 i w h1 (by omega)
end Go.Proofs.YtpegafbcfpedoaaDoor
