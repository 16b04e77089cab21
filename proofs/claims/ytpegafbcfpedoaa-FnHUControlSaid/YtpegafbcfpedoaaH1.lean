/- quicvarint.Append, Len; the bytes of a number below 2^62, and what they read as. -/
import Derived.Test.YtpegafbcfpedoaaProg
import Derived.Test.YtpegafbcfpedoaaMem2
import Derived.WalkLawsBesides
import Derived.WalkSpells
import Derived.Outline
import Derived.Lib.EndianBits
import Derived.BigQuiet
import Derived.Lib.Hide
import Derived.Handy
namespace Go.Proofs.Ytpegafbcfpedoaa
open Go.RowKit
set_option linter.unusedVariables false
set_option maxRecDepth 100000

/-- what the first k bytes spell, without the two highest bits of the first -/
def vnVal (bs : List UInt8) (k : Nat) : Nat := Lib.beFrom ((bs.headD 0).toNat % 64) ((bs.drop 1).take (k - 1))

/-- how many bytes the number at the beginning has; 0: they are too few -/
def vnUsed (bs : List UInt8) : Nat := match bs with
  | [] => 0
  | x :: r => if r.length + 1 < 2 ^ (x.toNat / 64) then 0 else 2 ^ (x.toNat / 64)
def vnNum (bs : List UInt8) : Nat := if vnUsed bs = 0 then 0 else vnVal bs (vnUsed bs)

theorem beFrom_append (l r : List UInt8) : ∀ a, Lib.beFrom a (l ++ r) = Lib.beFrom (Lib.beFrom a l) r := by
  induction l with
  | nil => intro a; rfl
  | cons x l ih => intro a; simp only [List.cons_append, Lib.beFrom, ih]
theorem vnVal_succ (bs : List UInt8) (k : Nat) (hk : 1 ≤ k) (h : k < bs.length) : vnVal bs (k + 1) = vnVal bs k * 256 + (bs[k]).toNat := by
  unfold vnVal
  obtain ⟨j, rfl⟩ : ∃ j, k = j + 1 := ⟨k - 1, by omega⟩
  have hl : j < (bs.drop 1).length := by simp; omega
  rw [show j + 1 + 1 - 1 = j + 1 by omega, show j + 1 - 1 = j by omega, List.take_succ_eq_append_getElem hl, beFrom_append]
  simp [Lib.beFrom]
theorem vnVal_one (bs : List UInt8) : vnVal bs 1 = (bs.headD 0).toNat % 64 := by simp [vnVal, Lib.beFrom]
theorem beFrom_lt (l : List UInt8) : ∀ a, Lib.beFrom a l < (a + 1) * 256 ^ l.length := by
  induction l with
  | nil => intro a; simp [Lib.beFrom]
  | cons x l ih =>
    intro a
    have h1 := ih (a * 256 + x.toNat)
    have h2 := x.toNat_lt
    simp only [Lib.beFrom, List.length_cons, Nat.pow_succ]
    calc _ < _ := h1
      _ ≤ (a + 1) * 256 * 256 ^ l.length := Nat.mul_le_mul_right _ (by omega)
      _ = _ := by rw [Nat.mul_assoc, Nat.mul_comm 256]
theorem vnVal_lt (bs : List UInt8) (k : Nat) : vnVal bs k < 64 * 256 ^ (k - 1) := by
  have h := beFrom_lt ((bs.drop 1).take (k - 1)) ((bs.headD 0).toNat % 64)
  have h2 : 256 ^ ((bs.drop 1).take (k - 1)).length ≤ 256 ^ (k - 1) := Nat.pow_le_pow_right (by omega) (List.length_take_le _ _)
  have h3 : ((bs.headD 0).toNat % 64 + 1) * 256 ^ ((bs.drop 1).take (k - 1)).length ≤ 64 * 256 ^ (k - 1) := Nat.mul_le_mul (by omega) h2
  unfold vnVal
  omega
theorem vnVal_round (bs : List UInt8) (k : Nat) (hk1 : 1 ≤ k) (hk : k < bs.length) (hv : vnVal bs k < 18014398509481984) :
    bits BinOp.or IntKind.u64 ((vnVal bs k : Int) * 256) ((bs[k]).toNat : Int) = ((vnVal bs (k + 1) : Nat) : Int) := by
  have hb : (bs[k]).toNat < 256 := (bs[k]).toNat_lt
  rw [vnVal_succ bs k hk1 hk]
  rw [bits_join .u64 64 (by decide) wraps_u64 8 _ _ (by omega) (by omega) (by omega) (by omega) (by omega) (by omega)]
  omega
theorem ret2 {a b c d : Int} (h1 : a = c) (h2 : b = d) : Ending.returned (.tuple #[.int .u64 a, .int .i64 b]) = .returned (.tuple #[.int .u64 c, .int .i64 d]) := by rw [h1, h2]
theorem i64_eq {a b : Int} (h : a = b) : Value.int .i64 a = .int .i64 b := by rw [h]
theorem u64_eq {a b : Int} (h : a = b) : Value.int .u64 a = .int .u64 b := by rw [h]

theorem vnUsed_cons (bs : List UInt8) (hn : 0 < bs.length) : vnUsed bs = if bs.length < 2 ^ ((bs[0]).toNat / 64) then 0 else 2 ^ ((bs[0]).toNat / 64) := by
  cases bs with
  | nil => simp at hn
  | cons x r => rfl
theorem vnNum_of (bs : List UInt8) (u : Nat) (h : vnUsed bs = u) (hu : u ≠ 0) : vnNum bs = vnVal bs u := by unfold vnNum; rw [if_neg (by omega), h]
theorem vnNum_zero (bs : List UInt8) (h : vnUsed bs = 0) : vnNum bs = 0 := by unfold vnNum; rw [if_pos h]

theorem info5 : (Try.prog.info? 5).map (fun i => (i.zero, i.size, i.bytes)) = some (some (.int .u8 0), 1, 1) := by kernel_rfl

/-- the bytes of a number in L bytes (1, 2, 4 or 8), with two bits ahead that say how many -/
def vnBytes (n L : Nat) : List UInt8 := Lib.beBytes L (n + (if L = 2 then 16384 else if L = 4 then 2147483648 else if L = 8 then 13835058055282163712 else 0))
def vnLen (n : Nat) : Nat := if n < 64 then 1 else if n < 16384 then 2 else if n < 1073741824 then 4 else 8

theorem cells_new (w : World) (cs : List Value) (t : TypeId) : ∀ j u, cs[j]? = some u → (w.alloc (.cells cs.toArray t)).cell? ((⟨w.heap.size, 0, none⟩ : Addr).add j) = some u := by
  intro j u hj
  rw [Addr.add_lit, Nat.zero_add]
  rw [cell_of_row _ w.heap.size j cs.toArray t (0, 0) (heap_alloc_new w _)]
  simpa using hj

/-- what an append leaves: the row is longer, and no other block has turned -/
def App (w : World) (base : Nat) (v : Value) (n : Nat) (xs : List Value) (e : Ending) (w' : World) : Prop :=
  ∃ v', e = .returned v' ∧ w'.ownsRow base 5 1 v' n xs ∧ w.grownBy w' v.ownBlock ∧ (v'.ownBlock = v.ownBlock ∨ ∃ g, v'.ownBlock = some g ∧ w.heap.size ≤ g)

theorem vnB1 (n : Nat) (h : n < 64) : bcells (vnBytes n 1) = [.int .u8 (n : Int)] := by
  simp [bcells, vnBytes, Lib.beBytes, Lib.leBytes]
  omega
theorem vnB2 (n : Nat) (h : n < 16384) : bcells (vnBytes n 2) = [.int .u8 ((n : Int) / 256 + 64), .int .u8 ((n : Int) % 256)] := by
  simp [bcells, vnBytes, Lib.beBytes, Lib.leBytes]
  omega
theorem vnB4 (n : Nat) (h : n < 1073741824) : bcells (vnBytes n 4) = [.int .u8 ((n : Int) / 16777216 + 128), .int .u8 ((n : Int) / 65536 % 256), .int .u8 ((n : Int) / 256 % 256), .int .u8 ((n : Int) % 256)] := by
  simp [bcells, vnBytes, Lib.beBytes, Lib.leBytes]
  omega
theorem vnB8 (n : Nat) (h : n < 4611686018427387904) : bcells (vnBytes n 8) = [.int .u8 ((n : Int) / 72057594037927936 + 192), .int .u8 ((n : Int) / 281474976710656 % 256), .int .u8 ((n : Int) / 1099511627776 % 256), .int .u8 ((n : Int) / 4294967296 % 256), .int .u8 ((n : Int) / 16777216 % 256), .int .u8 ((n : Int) / 65536 % 256), .int .u8 ((n : Int) / 256 % 256), .int .u8 ((n : Int) % 256)] := by
  simp [bcells, vnBytes, Lib.beBytes, Lib.leBytes]
  omega

theorem u8_or64 (x : Int) (h0 : 0 ≤ x) (h : x < 64) : bits .or .u8 x 64 = x + 64 := bits_join_low .u8 8 (by decide) (fun n h0 h1 => IntWalk.u8_in n (by omega)) 6 x 64 h0 (by omega) (by omega) (by omega) (by omega) (by omega)
theorem u8_or128 (x : Int) (h0 : 0 ≤ x) (h : x < 64) : bits .or .u8 x 128 = x + 128 := bits_join_low .u8 8 (by decide) (fun n h0 h1 => IntWalk.u8_in n (by omega)) 6 x 128 h0 (by omega) (by omega) (by omega) (by omega) (by omega)
theorem u8_or192 (x : Int) (h0 : 0 ≤ x) (h : x < 64) : bits .or .u8 x 192 = x + 192 := bits_join_low .u8 8 (by decide) (fun n h0 h1 => IntWalk.u8_in n (by omega)) 6 x 192 h0 (by omega) (by omega) (by omega) (by omega) (by omega)
theorem App.make {w : World} {base : Nat} {v v' : Value} {m k : Nat} {xs news ys : List Value} {w1 : World} {o : Obj} (hown : w1.ownsRow base 5 1 v' (m + k) (xs ++ news)) (hg : (w.alloc o).grownBy w1 v.ownBlock)
    (hat : v'.ownBlock = v.ownBlock ∨ v'.ownBlock = some (w.alloc o).heap.size) (hn : news = ys) : App w base v (m + k) (xs ++ ys) (.returned v') w1 := by
  subst hn
  refine ⟨v', rfl, hown, World.grownBy.trans (World.grownBy_alloc w o _) hg, hat.imp id fun h => ⟨_, h, by simp⟩⟩

set_option maxHeartbeats 1000000 in
theorem append_1 (base : Nat) (v : Value) (m : Nat) (xs : List Value) (i : Nat) (w : World) (hown : w.ownsRow base 5 1 v m xs) (hb : base ≤ w.heap.size) (hm : m ≤ 1099511627776) (h2 : i ≤ 63) :
    Calls Try.prog 24 #[v, .int .u64 i] w (App w base v (m + 1) (xs ++ bcells (vnBytes i 1))) := by
  obtain ⟨i0, hi0, hz0, hz1, hz2⟩ := info_parts info5
  go_enter Try.func24, Try.ntmps24
  go_wp2_with (first | (at_builtin; refine wpList_append_own_at _ rfl (.tmp 7) (.tmp 10) 22 rfl base 5 i0 _ 1 1 Try.underlying22 hi0 hz0 hz1 hz2 rfl (by omega) v m xs rfl (hown.alloc _) ⟨w.heap.size, 0, none⟩ 1 1 _ rfl rfl (cells_new _ _ _) (by simp [Value.oneCell']) (by simp only [maxLen]; omega) (by omega) (by simp; omega) ?_; intro v' w1 hown1 hg1 _ hat))
  go_ret
  refine App.make hown1 hg1 hat ?_
  rw [vnB1 i (by omega)]

set_option maxHeartbeats 1000000 in
theorem append_2 (base : Nat) (v : Value) (m : Nat) (xs : List Value) (i : Nat) (w : World) (hown : w.ownsRow base 5 1 v m xs) (hb : base ≤ w.heap.size) (hm : m ≤ 1099511627776) (h1 : 63 < i) (h2 : i ≤ 16383) :
    Calls Try.prog 24 #[v, .int .u64 i] w (App w base v (m + 2) (xs ++ bcells (vnBytes i 2))) := by
  obtain ⟨i0, hi0, hz0, hz1, hz2⟩ := info_parts info5
  go_enter Try.func24, Try.ntmps24
  go_wp2_with (first | (at_builtin; refine wpList_append_own_at _ rfl (.tmp 14) (.tmp 21) 22 rfl base 5 i0 _ 1 1 Try.underlying22 hi0 hz0 hz1 hz2 rfl (by omega) v m xs rfl (hown.alloc _) ⟨w.heap.size, 0, none⟩ 2 2 _ rfl rfl (cells_new _ _ _) (by simp [Value.oneCell']) (by simp only [maxLen]; omega) (by omega) (by simp; omega) ?_; intro v' w1 hown1 hg1 _ hat))
  go_ret
  refine App.make hown1 hg1 hat ?_
  rw [vnB2 i (by omega)]
  rw [u8_or64 _ (by omega) (by omega)]

set_option maxHeartbeats 1000000 in
theorem append_4 (base : Nat) (v : Value) (m : Nat) (xs : List Value) (i : Nat) (w : World) (hown : w.ownsRow base 5 1 v m xs) (hb : base ≤ w.heap.size) (hm : m ≤ 1099511627776) (h1 : 16383 < i) (h2 : i ≤ 1073741823) :
    Calls Try.prog 24 #[v, .int .u64 i] w (App w base v (m + 4) (xs ++ bcells (vnBytes i 4))) := by
  obtain ⟨i0, hi0, hz0, hz1, hz2⟩ := info_parts info5
  go_enter Try.func24, Try.ntmps24
  go_wp2_with (first | (at_builtin; refine wpList_append_own_at _ rfl (.tmp 25) (.tmp 38) 22 rfl base 5 i0 _ 1 1 Try.underlying22 hi0 hz0 hz1 hz2 rfl (by omega) v m xs rfl (hown.alloc _) ⟨w.heap.size, 0, none⟩ 4 4 _ rfl rfl (cells_new _ _ _) (by simp [Value.oneCell']) (by simp only [maxLen]; omega) (by omega) (by simp; omega) ?_; intro v' w1 hown1 hg1 _ hat))
  go_ret
  refine App.make hown1 hg1 hat ?_
  rw [vnB4 i (by omega)]
  rw [u8_or128 _ (by omega) (by omega)]

set_option maxHeartbeats 1000000 in
theorem append_8 (base : Nat) (v : Value) (m : Nat) (xs : List Value) (i : Nat) (w : World) (hown : w.ownsRow base 5 1 v m xs) (hb : base ≤ w.heap.size) (hm : m ≤ 1099511627776) (h1 : 1073741823 < i) (h2 : i ≤ 4611686018427387903) :
    Calls Try.prog 24 #[v, .int .u64 i] w (App w base v (m + 8) (xs ++ bcells (vnBytes i 8))) := by
  obtain ⟨i0, hi0, hz0, hz1, hz2⟩ := info_parts info5
  go_enter Try.func24, Try.ntmps24
  go_wp2_with (first | (at_builtin; refine wpList_append_own_at _ rfl (.tmp 42) (.tmp 67) 22 rfl base 5 i0 _ 1 1 Try.underlying22 hi0 hz0 hz1 hz2 rfl (by omega) v m xs rfl (hown.alloc _) ⟨w.heap.size, 0, none⟩ 8 8 _ rfl rfl (cells_new _ _ _) (by simp [Value.oneCell']) (by simp only [maxLen]; omega) (by omega) (by simp; omega) ?_; intro v' w1 hown1 hg1 _ hat))
  go_ret
  refine App.make hown1 hg1 hat ?_
  rw [vnB8 i (by omega)]
  rw [u8_or192 _ (by omega) (by omega)]

theorem vnLen_cases (i : Nat) : (vnLen i = 1 ∧ i ≤ 63) ∨ (vnLen i = 2 ∧ 63 < i ∧ i ≤ 16383) ∨ (vnLen i = 4 ∧ 16383 < i ∧ i ≤ 1073741823) ∨ (vnLen i = 8 ∧ 1073741823 < i) := by
  unfold vnLen
  split
  · omega
  · split
    · omega
    · split <;> omega
theorem append_any (base : Nat) (v : Value) (m : Nat) (xs : List Value) (i : Nat) (w : World) (hown : w.ownsRow base 5 1 v m xs) (hb : base ≤ w.heap.size) (hm : m ≤ 1099511627776) (h : i < 4611686018427387904) :
    Calls Try.prog 24 #[v, .int .u64 i] w (App w base v (m + vnLen i) (xs ++ bcells (vnBytes i (vnLen i)))) := by
  rcases vnLen_cases i with ⟨e, h1⟩ | ⟨e, h1, h2⟩ | ⟨e, h1, h2⟩ | ⟨e, h1⟩
  all_goals rw [e]
  · exact append_1 base v m xs i w hown hb hm h1
  · exact append_2 base v m xs i w hown hb hm h1 h2
  · exact append_4 base v m xs i w hown hb hm h1 h2
  · exact append_8 base v m xs i w hown hb hm h1 (by omega)

theorem len_any (i : Nat) (w : World) (h : i < 4611686018427387904) : Calls Try.prog 25 #[.int .u64 i] w fun e w' => e = .returned (.int .i64 (vnLen i)) ∧ w = w' := by
  rcases vnLen_cases i with ⟨e, h1⟩ | ⟨e, h1, h2⟩ | ⟨e, h1, h2⟩ | ⟨e, h1⟩
  all_goals rw [e]
  · go_enter Try.func25, Try.ntmps25
    go_wp2
    go_ret
    exact ⟨rfl, rfl⟩
  · go_enter Try.func25, Try.ntmps25
    go_wp2
    go_ret
    exact ⟨rfl, rfl⟩
  · go_enter Try.func25, Try.ntmps25
    go_wp2
    go_ret
    exact ⟨rfl, rfl⟩
  · go_enter Try.func25, Try.ntmps25
    go_wp2
    go_ret
    exact ⟨rfl, rfl⟩

def vnBound (K : Nat) : Nat := if K = 1 then 64 else if K = 2 then 16384 else if K = 4 then 1073741824 else 4611686018427387904

theorem u8mod (x : Nat) : ((x % 256).toUInt8).toNat = x % 256 := Lib.toUInt8_mod x
theorem vnBytes_len (m K : Nat) : (vnBytes m K).length = K := by unfold vnBytes; rw [Lib.beBytes_length]

theorem vnBytes_eq1 (m : Nat) : vnBytes m 1 = [((m + 0) % 256).toUInt8] := rfl
theorem vnBytes_read1 (m : Nat) (tl : List UInt8) (h : m < 64) : vnUsed (vnBytes m 1 ++ tl) = 1 ∧ vnNum (vnBytes m 1 ++ tl) = m := by
  rw [vnBytes_eq1]
  have hu : vnUsed ([((m + 0) % 256).toUInt8] ++ tl) = 1 := by
    simp only [List.nil_append, List.cons_append, vnUsed, u8mod]
    rw [show (m + 0) % 256 / 64 = 0 by omega, if_neg (by first | omega | (simp only [List.length_cons]; omega))]
  refine ⟨hu, ?_⟩
  rw [vnNum_of _ _ hu (by omega)]
  simp only [List.nil_append, List.cons_append, vnVal, List.headD_cons, u8mod, List.drop_succ_cons, List.drop_zero, Nat.reduceSub, List.take_zero, Lib.beFrom]
  omega
theorem vnBytes_eq2 (m : Nat) : vnBytes m 2 = [((m + 16384) / 256 % 256).toUInt8, ((m + 16384) % 256).toUInt8] := rfl
theorem vnBytes_read2 (m : Nat) (tl : List UInt8) (h : m < 16384) : vnUsed (vnBytes m 2 ++ tl) = 2 ∧ vnNum (vnBytes m 2 ++ tl) = m := by
  rw [vnBytes_eq2]
  have hu : vnUsed ([((m + 16384) / 256 % 256).toUInt8, ((m + 16384) % 256).toUInt8] ++ tl) = 2 := by
    simp only [List.nil_append, List.cons_append, vnUsed, u8mod]
    rw [show (m + 16384) / 256 % 256 / 64 = 1 by omega, if_neg (by first | omega | (simp only [List.length_cons]; omega))]
  refine ⟨hu, ?_⟩
  rw [vnNum_of _ _ hu (by omega)]
  simp only [List.nil_append, List.cons_append, vnVal, List.headD_cons, u8mod, List.drop_succ_cons, List.drop_zero, Nat.reduceSub, List.take_succ_cons, List.take_zero, Lib.beFrom]
  omega
theorem vnBytes_eq4 (m : Nat) : vnBytes m 4 = [((m + 2147483648) / 256 / 256 / 256 % 256).toUInt8, ((m + 2147483648) / 256 / 256 % 256).toUInt8, ((m + 2147483648) / 256 % 256).toUInt8, ((m + 2147483648) % 256).toUInt8] := rfl
theorem vnBytes_read4 (m : Nat) (tl : List UInt8) (h : m < 1073741824) : vnUsed (vnBytes m 4 ++ tl) = 4 ∧ vnNum (vnBytes m 4 ++ tl) = m := by
  rw [vnBytes_eq4]
  have hu : vnUsed ([((m + 2147483648) / 256 / 256 / 256 % 256).toUInt8, ((m + 2147483648) / 256 / 256 % 256).toUInt8, ((m + 2147483648) / 256 % 256).toUInt8, ((m + 2147483648) % 256).toUInt8] ++ tl) = 4 := by
    simp only [List.nil_append, List.cons_append, vnUsed, u8mod]
    rw [show (m + 2147483648) / 256 / 256 / 256 % 256 / 64 = 2 by omega, if_neg (by first | omega | (simp only [List.length_cons]; omega))]
  refine ⟨hu, ?_⟩
  rw [vnNum_of _ _ hu (by omega)]
  simp only [List.nil_append, List.cons_append, vnVal, List.headD_cons, u8mod, List.drop_succ_cons, List.drop_zero, Nat.reduceSub, List.take_succ_cons, List.take_zero, Lib.beFrom]
  omega
theorem vnBytes_eq8 (m : Nat) : vnBytes m 8 = [((m + 13835058055282163712) / 256 / 256 / 256 / 256 / 256 / 256 / 256 % 256).toUInt8, ((m + 13835058055282163712) / 256 / 256 / 256 / 256 / 256 / 256 % 256).toUInt8, ((m + 13835058055282163712) / 256 / 256 / 256 / 256 / 256 % 256).toUInt8, ((m + 13835058055282163712) / 256 / 256 / 256 / 256 % 256).toUInt8, ((m + 13835058055282163712) / 256 / 256 / 256 % 256).toUInt8, ((m + 13835058055282163712) / 256 / 256 % 256).toUInt8, ((m + 13835058055282163712) / 256 % 256).toUInt8, ((m + 13835058055282163712) % 256).toUInt8] := rfl
theorem vnBytes_read8 (m : Nat) (tl : List UInt8) (h : m < 4611686018427387904) : vnUsed (vnBytes m 8 ++ tl) = 8 ∧ vnNum (vnBytes m 8 ++ tl) = m := by
  rw [vnBytes_eq8]
  have hu : vnUsed ([((m + 13835058055282163712) / 256 / 256 / 256 / 256 / 256 / 256 / 256 % 256).toUInt8, ((m + 13835058055282163712) / 256 / 256 / 256 / 256 / 256 / 256 % 256).toUInt8, ((m + 13835058055282163712) / 256 / 256 / 256 / 256 / 256 % 256).toUInt8, ((m + 13835058055282163712) / 256 / 256 / 256 / 256 % 256).toUInt8, ((m + 13835058055282163712) / 256 / 256 / 256 % 256).toUInt8, ((m + 13835058055282163712) / 256 / 256 % 256).toUInt8, ((m + 13835058055282163712) / 256 % 256).toUInt8, ((m + 13835058055282163712) % 256).toUInt8] ++ tl) = 8 := by
    simp only [List.nil_append, List.cons_append, vnUsed, u8mod]
    rw [show (m + 13835058055282163712) / 256 / 256 / 256 / 256 / 256 / 256 / 256 % 256 / 64 = 3 by omega, if_neg (by first | omega | (simp only [List.length_cons]; omega))]
  refine ⟨hu, ?_⟩
  rw [vnNum_of _ _ hu (by omega)]
  simp only [List.nil_append, List.cons_append, vnVal, List.headD_cons, u8mod, List.drop_succ_cons, List.drop_zero, Nat.reduceSub, List.take_succ_cons, List.take_zero, Lib.beFrom]
  omega
theorem vnBytes_read (m K : Nat) (tl : List UInt8) (hK : K = 1 ∨ K = 2 ∨ K = 4 ∨ K = 8) (h : m < vnBound K) : vnUsed (vnBytes m K ++ tl) = K ∧ vnNum (vnBytes m K ++ tl) = m := by
  rcases hK with rfl | rfl | rfl | rfl
  · exact vnBytes_read1 m tl h
  · exact vnBytes_read2 m tl h
  · exact vnBytes_read4 m tl h
  · exact vnBytes_read8 m tl h

theorem vnLen_ok (m : Nat) (h : m < 4611686018427387904) : (vnLen m = 1 ∨ vnLen m = 2 ∨ vnLen m = 4 ∨ vnLen m = 8) ∧ m < vnBound (vnLen m) := by
  rcases vnLen_cases m with ⟨e, h1⟩ | ⟨e, h1, h2⟩ | ⟨e, h1, h2⟩ | ⟨e, h1⟩
  all_goals rw [e]; simp [vnBound]; omega
theorem vnBound_mono (m K : Nat) (h : m < 4611686018427387904) (hK : K = 1 ∨ K = 2 ∨ K = 4 ∨ K = 8) (hle : vnLen m ≤ K) : m < vnBound K := by
  rcases vnLen_cases m with ⟨e, h1⟩ | ⟨e, h1, h2⟩ | ⟨e, h1, h2⟩ | ⟨e, h1⟩ <;> rcases hK with rfl | rfl | rfl | rfl <;> simp [vnBound] <;> omega
end Go.Proofs.Ytpegafbcfpedoaa
