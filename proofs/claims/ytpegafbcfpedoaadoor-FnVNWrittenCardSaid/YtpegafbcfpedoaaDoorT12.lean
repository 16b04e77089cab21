/- laws.FnVNWritten: it returns true for any number, any length, any bytes behind. -/
import Derived.Test.YtpegafbcfpedoaaDoorT11
namespace Go.Proofs.YtpegafbcfpedoaaDoor
open Go.RowKit
set_option linter.unusedVariables false

theorem written_big (N : Nat) (l : Nat) (A : Option Addr) (n c : Nat) (w : World) (hn : 2147483647 < n) : Calls Tryd.prog 4 #[.int .u64 N, .int .u8 l, .slice A n c] w fun e w' => e = .returned (.bool true) ∧ Below w.heap.size w w' := by
  go_enter Tryd.func4, Tryd.ntmps4
  go_wp2_with fail
  go_ret
  exact ⟨rfl, Below.refl _ _⟩

theorem New.parts {w w' : World} {n : Nat} {bs : List UInt8} {e : Ending} (h : New w n (bcells bs) e w') (h0 : 0 < n) :
    ∃ g cap, e = .returned (.slice (some ⟨g, 0, none⟩) n cap) ∧ Reads w' w'.heap.size 1 (some ⟨g, 0, none⟩) n (bcells bs) ∧ w'.ownsRow w.heap.size 5 1 (.slice (some ⟨g, 0, none⟩) n cap) n (bcells bs) ∧ Below w.heap.size w w' := by
  obtain ⟨v, rfl, ho, hb⟩ := h
  obtain ⟨g, cap, rfl, _, _⟩ := ho.form h0
  exact ⟨g, cap, rfl, Reads.of_own ho, ho, hb⟩
theorem Made.parts {w w' : World} {n : Nat} {bs : List UInt8} {e : Ending} (h : Made w n (bcells bs) e w') (h0 : 0 < n) :
    ∃ g cap, e = .returned (.tuple #[.slice (some ⟨g, 0, none⟩) n cap, .bool true]) ∧ Reads w' w'.heap.size 1 (some ⟨g, 0, none⟩) n (bcells bs) ∧ w'.ownsRow w.heap.size 5 1 (.slice (some ⟨g, 0, none⟩) n cap) n (bcells bs) ∧ Below w.heap.size w w' := by
  obtain ⟨v, rfl, ho, hb⟩ := h
  obtain ⟨g, cap, rfl, _, _⟩ := ho.form h0
  exact ⟨g, cap, rfl, Reads.of_own ho, ho, hb⟩

theorem clone_any (g n c : Nat) (bs : List UInt8) (w : World) (B : Nat) (hr : Reads w B 1 (some ⟨g, 0, none⟩) n (bcells bs)) (hB : B ≤ w.heap.size) (hn : n ≤ 1099511627776) :
    Calls Tryd.prog 15 #[.slice (some ⟨g, 0, none⟩) n c] w (New w n (bcells bs)) := by
  obtain ⟨i0, hi0, hz0, hz1, hz2⟩ := info_parts info5
  have q22 : ∀ (w : World) (a : Option Addr) (n c n' c' : Nat), (binOp .eql 22 (.slice a n c) (.slice none n' c')).run Tryd.prog w = .ok (.bool a.isNone) w := fun w a n c n' c' => Lib.run_eql_slice_nil w _ _ a n c n' c' Tryd.underlying22
  go_enter Tryd.func15, Tryd.ntmps15
  go_wp2_with (first | (at_builtin; refine wpList_append_any _ rfl (.tmp 5) (.tmp 6) 22 rfl w.heap.size 5 i0 _ 1 1 Tryd.underlying22 hi0 hz0 hz1 hz2 rfl (by omega) _ 0 [] rfl (World.ownsRow_lit w #[] 0 (Nat.le_refl _) (by simp [maxLen]) rfl) B _ n c (bcells bs) rfl (hr.alloc hB _) (by simp [bcells, Value.oneCell']) (by simp only [maxLen]; omega) (by omega) (by simp) ?_; intro v' w1 hown1 hg1 hat))
  go_ret
  refine ⟨_, rfl, own_eq hown1 (by omega) (by simp), ?_⟩
  exact ((Below.refl w.heap.size w).alloc (Nat.le_refl _) _).grown hg1 (by simp) (fun k e => by cases e; exact Nat.le_refl _)

theorem New.next {w w1 w2 : World} {n m : Nat} {xs ys : List Value} {v v' : Value} (ho : w1.ownsRow w.heap.size 5 1 v n xs) (hb : Below w.heap.size w w1) (ho2 : w2.ownsRow w.heap.size 5 1 v' m ys) (hg : w1.grownBy w2 v.ownBlock) :
    Below w.heap.size w w2 := hb.grown hg hb.size (fun k e => (ho.lt k e).1)

theorem bcells_app (a b : List UInt8) : bcells a ++ bcells b = bcells (a ++ b) := by simp [bcells]
theorem own_form {w : World} {B n : Nat} {v : Value} {xs : List Value} (h : w.ownsRow B 5 1 v n xs) (h0 : 0 < n) : ∃ g cap, v = .slice (some ⟨g, 0, none⟩) n cap := by
  obtain ⟨g, cap, e, _, _⟩ := h.form h0
  exact ⟨g, cap, e⟩
theorem bcells_one (bs : List UInt8) : ∀ u ∈ bcells bs, u.oneCell' = true := by
  intro u hu
  obtain ⟨b, _, rfl⟩ := List.mem_map.1 hu
  rfl

set_option maxHeartbeats 4000000 in
theorem written_le0_20 (N : Nat) (m : Nat) (l : Nat) (A : Option Addr) (n c : Nat) (bs : List UInt8) (w : World) (hr : Reads w w.heap.size 1 A n (bcells bs)) (hcap : n ≤ c) (hcap2 : c ≤ 9223372036854775807) (hn : n ≤ 2147483647) (hN : N < 18446744073709551616) (hm : N % 4611686018427387904 = m) (hl : l < 256) (hq : (l : Int) % 4 = 0) (hle : vnLen m ≤ 1) (hk : 20 < n) (t0 t1 : TypeId) (v0 v1 : Value)
    (g0 : w.cell? ⟨0, 0, none⟩ = some (.iface t0 v0)) (g1 : w.cell? ⟨1, 0, none⟩ = some (.iface t1 v1)) :
    Calls Tryd.prog 4 #[.int .u64 N, .int .u8 l, .slice A n c] w fun e w' => e = .returned (.bool true) ∧ Below w.heap.size w w' := by
  obtain ⟨i0, hi0, hz0, hz1, hz2⟩ := info_parts info5
  have hA := u64_and62 N hN
  rw [hm] at hA
  have hmb : m < 4611686018427387904 := by omega
  obtain ⟨hK, hmB⟩ := vnLen_ok m hmb
  have hKp : 1 ≤ vnLen m ∧ vnLen m ≤ 8 := by omega
  have HR := Lib.hid (hr.take (k := 20) (by omega))
  have H0 := Lib.hid g0
  have H1 := Lib.hid g1
  have HK := Lib.hid hK
  clear hr g0 g1 hm hK
  go_enter Tryd.func4, Tryd.ntmps4
  go_wp2_with fail
  refine (vnlen_any m _ hmb).mono ?_
  rintro e w1 ⟨rfl, hb1⟩
  go_wp2_with fail
  refine (vnappend_any m _ hmb).mono ?_
  intro e w2 hmade
  obtain ⟨ga, ca, rfl, hra, -, hb2⟩ := hmade.parts (by omega)
  clear hmade
  have hb := below_step hb1 hb2
  clear hb1 hb2
  go_wp2_with fail
  refine (vnlen2_any m _ hmb).mono ?_
  rintro e w3 ⟨rfl, hb3⟩
  have hra := reads_old hra hb3
  have hb := below_step hb hb3
  clear hb3
  go_wp2_with fail
  refine (bytes_any m _ _ HK.out hmB).mono ?_
  intro e w4 hnew
  obtain ⟨gb, cb, rfl, hrb, -, hb4⟩ := hnew.parts (by omega)
  have hra := reads_old hra hb4
  have hb := below_step hb hb4
  clear hb4 hnew
  go_wp2_with fail
  refine (equal_any _ _ _ _ _ _ _ _ _ _ _ hra hrb).mono ?_
  rintro e w5 ⟨rfl, rfl⟩
  clear hrb
  go_wp2_with fail
  refine (vnwith_any m 1 _ hmb (by omega) hle).mono ?_
  intro e w5 hmade
  obtain ⟨gx, cx, rfl, hra, -, hb5⟩ := hmade.parts (by omega)
  have hb := below_step hb hb5
  clear hb5 hmade
  go_wp2_with fail
  refine (bytes_any m _ _ (by omega) (vnBound_mono m 1 hmb (by omega) hle)).mono ?_
  intro e w6 hnew
  obtain ⟨gb, cb, rfl, hrb, -, hb4⟩ := hnew.parts (by omega)
  have hra := reads_old hra hb4
  have hb := below_step hb hb4
  clear hb4 hnew
  go_wp2_with fail
  refine (equal_any _ _ _ _ _ _ _ _ _ _ _ hra hrb).mono ?_
  rintro e w7 ⟨rfl, rfl⟩
  clear hrb
  have hKK : 1 ≤ 1 ∧ 1 ≤ 8 := by omega
  have hrd := vnBytes_read m (1) (bs.take (20)) (by omega) (by exact vnBound_mono m 1 hmb (by omega) hle)
  have HU := Lib.hid hrd.1
  have HN := Lib.hid hrd.2
  clear hrd hmB
  go_wp2_with fail
  refine (clone_any _ _ _ _ _ _ hra (Nat.le_refl _) (by omega)).mono ?_
  intro e w7 hnew
  obtain ⟨v3, rfl, ho3, hb7⟩ := hnew
  have hsz := hb7.size
  have hb7' := below_step hb hb7
  go_wp2_with (first | (at_builtin; refine wpList_append_any _ rfl (.tmp 88) (.tmp 89) 22 rfl _ 5 i0 _ 1 1 Tryd.underlying22 hi0 hz0 hz1 hz2 rfl (by omega) v3 (1) _ rfl ho3 w.heap.size A (20) c _ rfl (HR.out.below hb7') (bcells_one _) (by simp only [maxLen]; omega) (by omega) hsz ?_; intro v4 w8 ho4 hg4 _))
  have hb8 : Below w.heap.size w w8 := hb7'.grown hg4 hb7'.size (fun j e => Nat.le_trans hb.size (ho3.lt j e).1)
  have hra8 := ((hra.below hb7).grown hg4 hsz (fun j e => (ho3.lt j e).1)).more (Nat.le_trans hsz hg4.size)
  obtain ⟨g4, c4, hv4⟩ := own_form ho4 (by omega)
  rw [hv4] at ho4 ⊢
  rw [bcells_app] at ho4
  have hr8 := Reads.of_own ho4
  clear hra hb hsz hb7 hb7' ho3 hg4 hv4 ho4
  have hra := hra8
  have hb := hb8
  clear hra8 hb8
  go_wp2_with fail
  have hp := vnparse_any _ _ c4 _ _ hr8 t0 t1 v0 v1 (glob_old H0.out hb) (glob_old H1.out hb)
  rw [HU.out, HN.out] at hp
  refine hp.mono ?_
  rintro e w9 ⟨rfl, hb9⟩
  have hra := reads_old hra hb9
  have hb := below_step hb hb9
  clear hb9 hr8 hp
  go_wp2_with fail
  refine (clone_any _ _ _ _ _ _ hra (Nat.le_refl _) (by omega)).mono ?_
  intro e w7 hnew
  obtain ⟨v3, rfl, ho3, hb7⟩ := hnew
  have hsz := hb7.size
  have hb7' := below_step hb hb7
  go_wp2_with (first | (at_builtin; refine wpList_append_any _ rfl (.tmp 97) (.tmp 98) 22 rfl _ 5 i0 _ 1 1 Tryd.underlying22 hi0 hz0 hz1 hz2 rfl (by omega) v3 (1) _ rfl ho3 w.heap.size A (20) c _ rfl (HR.out.below hb7') (bcells_one _) (by simp only [maxLen]; omega) (by omega) hsz ?_; intro v4 w8 ho4 hg4 _))
  have hb8 : Below w.heap.size w w8 := hb7'.grown hg4 hb7'.size (fun j e => Nat.le_trans hb.size (ho3.lt j e).1)
  have hra8 := ((hra.below hb7).grown hg4 hsz (fun j e => (ho3.lt j e).1)).more (Nat.le_trans hsz hg4.size)
  obtain ⟨g4, c4, hv4⟩ := own_form ho4 (by omega)
  rw [hv4] at ho4 ⊢
  rw [bcells_app] at ho4
  have hr8 := Reads.of_own ho4
  clear hra hb hsz hb7 hb7' ho3 hg4 hv4 ho4
  have hra := hra8
  have hb := hb8
  clear hra8 hb8
  go_wp2_with fail
  refine (vnread_any _ _ c4 _ _ hr8 (by omega) t0 v0 (glob_old H0.out hb)).mono ?_
  rintro e w9 ⟨hv, hb9⟩
  have hb := below_step hb hb9
  clear hb9 hr8 hra
  have he : e = .returned (.tuple #[.int .u64 m, .int .i64 (20 : Nat), .bool true]) := by
    rcases hv with ⟨_, rfl⟩ | ⟨h0, _⟩
    · rw [HU.out, HN.out, show 1 + 20 - 1 = 20 from by omega]
    · rw [HU.out] at h0; omega
  subst he
  clear hv
  have HA := Lib.hid (vnawake w9 t0 v0 (glob_old H0.out hb))
  go_wp2_with (first | (go_at_call 5; refine HA.out.mono ?_; rintro e w10 ⟨rfl, hb10⟩))
  go_ret
  exact ⟨rfl, below_step hb hb10⟩

set_option maxHeartbeats 4000000 in
theorem written_le0_n (N : Nat) (m : Nat) (l : Nat) (A : Option Addr) (n c : Nat) (bs : List UInt8) (w : World) (hr : Reads w w.heap.size 1 A n (bcells bs)) (hcap : n ≤ c) (hcap2 : c ≤ 9223372036854775807) (hn : n ≤ 2147483647) (hN : N < 18446744073709551616) (hm : N % 4611686018427387904 = m) (hl : l < 256) (hq : (l : Int) % 4 = 0) (hle : vnLen m ≤ 1) (hk : n ≤ 20) (t0 t1 : TypeId) (v0 v1 : Value)
    (g0 : w.cell? ⟨0, 0, none⟩ = some (.iface t0 v0)) (g1 : w.cell? ⟨1, 0, none⟩ = some (.iface t1 v1)) :
    Calls Tryd.prog 4 #[.int .u64 N, .int .u8 l, .slice A n c] w fun e w' => e = .returned (.bool true) ∧ Below w.heap.size w w' := by
  obtain ⟨i0, hi0, hz0, hz1, hz2⟩ := info_parts info5
  have hA := u64_and62 N hN
  rw [hm] at hA
  have hmb : m < 4611686018427387904 := by omega
  obtain ⟨hK, hmB⟩ := vnLen_ok m hmb
  have hKp : 1 ≤ vnLen m ∧ vnLen m ≤ 8 := by omega
  have HR := Lib.hid (hr.take (k := n) (by omega))
  have H0 := Lib.hid g0
  have H1 := Lib.hid g1
  have HK := Lib.hid hK
  clear hr g0 g1 hm hK
  go_enter Tryd.func4, Tryd.ntmps4
  go_wp2_with fail
  refine (vnlen_any m _ hmb).mono ?_
  rintro e w1 ⟨rfl, hb1⟩
  go_wp2_with fail
  refine (vnappend_any m _ hmb).mono ?_
  intro e w2 hmade
  obtain ⟨ga, ca, rfl, hra, -, hb2⟩ := hmade.parts (by omega)
  clear hmade
  have hb := below_step hb1 hb2
  clear hb1 hb2
  go_wp2_with fail
  refine (vnlen2_any m _ hmb).mono ?_
  rintro e w3 ⟨rfl, hb3⟩
  have hra := reads_old hra hb3
  have hb := below_step hb hb3
  clear hb3
  go_wp2_with fail
  refine (bytes_any m _ _ HK.out hmB).mono ?_
  intro e w4 hnew
  obtain ⟨gb, cb, rfl, hrb, -, hb4⟩ := hnew.parts (by omega)
  have hra := reads_old hra hb4
  have hb := below_step hb hb4
  clear hb4 hnew
  go_wp2_with fail
  refine (equal_any _ _ _ _ _ _ _ _ _ _ _ hra hrb).mono ?_
  rintro e w5 ⟨rfl, rfl⟩
  clear hrb
  go_wp2_with fail
  refine (vnwith_any m 1 _ hmb (by omega) hle).mono ?_
  intro e w5 hmade
  obtain ⟨gx, cx, rfl, hra, -, hb5⟩ := hmade.parts (by omega)
  have hb := below_step hb hb5
  clear hb5 hmade
  go_wp2_with fail
  refine (bytes_any m _ _ (by omega) (vnBound_mono m 1 hmb (by omega) hle)).mono ?_
  intro e w6 hnew
  obtain ⟨gb, cb, rfl, hrb, -, hb4⟩ := hnew.parts (by omega)
  have hra := reads_old hra hb4
  have hb := below_step hb hb4
  clear hb4 hnew
  go_wp2_with fail
  refine (equal_any _ _ _ _ _ _ _ _ _ _ _ hra hrb).mono ?_
  rintro e w7 ⟨rfl, rfl⟩
  clear hrb
  have hKK : 1 ≤ 1 ∧ 1 ≤ 8 := by omega
  have hrd := vnBytes_read m (1) (bs.take (n)) (by omega) (by exact vnBound_mono m 1 hmb (by omega) hle)
  have HU := Lib.hid hrd.1
  have HN := Lib.hid hrd.2
  clear hrd hmB
  go_wp2_with fail
  refine (clone_any _ _ _ _ _ _ hra (Nat.le_refl _) (by omega)).mono ?_
  intro e w7 hnew
  obtain ⟨v3, rfl, ho3, hb7⟩ := hnew
  have hsz := hb7.size
  have hb7' := below_step hb hb7
  go_wp2_with (first | (at_builtin; refine wpList_append_any _ rfl (.tmp 88) (.tmp 89) 22 rfl _ 5 i0 _ 1 1 Tryd.underlying22 hi0 hz0 hz1 hz2 rfl (by omega) v3 (1) _ rfl ho3 w.heap.size A (n) c _ rfl (HR.out.below hb7') (bcells_one _) (by simp only [maxLen]; omega) (by omega) hsz ?_; intro v4 w8 ho4 hg4 _))
  have hb8 : Below w.heap.size w w8 := hb7'.grown hg4 hb7'.size (fun j e => Nat.le_trans hb.size (ho3.lt j e).1)
  have hra8 := ((hra.below hb7).grown hg4 hsz (fun j e => (ho3.lt j e).1)).more (Nat.le_trans hsz hg4.size)
  obtain ⟨g4, c4, hv4⟩ := own_form ho4 (by omega)
  rw [hv4] at ho4 ⊢
  rw [bcells_app] at ho4
  have hr8 := Reads.of_own ho4
  clear hra hb hsz hb7 hb7' ho3 hg4 hv4 ho4
  have hra := hra8
  have hb := hb8
  clear hra8 hb8
  go_wp2_with fail
  have hp := vnparse_any _ _ c4 _ _ hr8 t0 t1 v0 v1 (glob_old H0.out hb) (glob_old H1.out hb)
  rw [HU.out, HN.out] at hp
  refine hp.mono ?_
  rintro e w9 ⟨rfl, hb9⟩
  have hra := reads_old hra hb9
  have hb := below_step hb hb9
  clear hb9 hr8 hp
  go_wp2_with fail
  refine (clone_any _ _ _ _ _ _ hra (Nat.le_refl _) (by omega)).mono ?_
  intro e w7 hnew
  obtain ⟨v3, rfl, ho3, hb7⟩ := hnew
  have hsz := hb7.size
  have hb7' := below_step hb hb7
  go_wp2_with (first | (at_builtin; refine wpList_append_any _ rfl (.tmp 97) (.tmp 98) 22 rfl _ 5 i0 _ 1 1 Tryd.underlying22 hi0 hz0 hz1 hz2 rfl (by omega) v3 (1) _ rfl ho3 w.heap.size A (n) c _ rfl (HR.out.below hb7') (bcells_one _) (by simp only [maxLen]; omega) (by omega) hsz ?_; intro v4 w8 ho4 hg4 _))
  have hb8 : Below w.heap.size w w8 := hb7'.grown hg4 hb7'.size (fun j e => Nat.le_trans hb.size (ho3.lt j e).1)
  have hra8 := ((hra.below hb7).grown hg4 hsz (fun j e => (ho3.lt j e).1)).more (Nat.le_trans hsz hg4.size)
  obtain ⟨g4, c4, hv4⟩ := own_form ho4 (by omega)
  rw [hv4] at ho4 ⊢
  rw [bcells_app] at ho4
  have hr8 := Reads.of_own ho4
  clear hra hb hsz hb7 hb7' ho3 hg4 hv4 ho4
  have hra := hra8
  have hb := hb8
  clear hra8 hb8
  go_wp2_with fail
  refine (vnread_any _ _ c4 _ _ hr8 (by omega) t0 v0 (glob_old H0.out hb)).mono ?_
  rintro e w9 ⟨hv, hb9⟩
  have hb := below_step hb hb9
  clear hb9 hr8 hra
  have he : e = .returned (.tuple #[.int .u64 m, .int .i64 (n : Nat), .bool true]) := by
    rcases hv with ⟨_, rfl⟩ | ⟨h0, _⟩
    · rw [HU.out, HN.out, show 1 + n - 1 = n from by omega]
    · rw [HU.out] at h0; omega
  subst he
  clear hv
  have HA := Lib.hid (vnawake w9 t0 v0 (glob_old H0.out hb))
  go_wp2_with (first | (go_at_call 5; refine HA.out.mono ?_; rintro e w10 ⟨rfl, hb10⟩))
  go_ret
  exact ⟨rfl, below_step hb hb10⟩

set_option maxHeartbeats 4000000 in
theorem written_gt0_20 (N : Nat) (m : Nat) (l : Nat) (A : Option Addr) (n c : Nat) (bs : List UInt8) (w : World) (hr : Reads w w.heap.size 1 A n (bcells bs)) (hcap : n ≤ c) (hcap2 : c ≤ 9223372036854775807) (hn : n ≤ 2147483647) (hN : N < 18446744073709551616) (hm : N % 4611686018427387904 = m) (hl : l < 256) (hq : (l : Int) % 4 = 0) (hle : 1 < vnLen m) (hk : 20 < n) (t0 t1 : TypeId) (v0 v1 : Value)
    (g0 : w.cell? ⟨0, 0, none⟩ = some (.iface t0 v0)) (g1 : w.cell? ⟨1, 0, none⟩ = some (.iface t1 v1)) :
    Calls Tryd.prog 4 #[.int .u64 N, .int .u8 l, .slice A n c] w fun e w' => e = .returned (.bool true) ∧ Below w.heap.size w w' := by
  obtain ⟨i0, hi0, hz0, hz1, hz2⟩ := info_parts info5
  have hA := u64_and62 N hN
  rw [hm] at hA
  have hmb : m < 4611686018427387904 := by omega
  obtain ⟨hK, hmB⟩ := vnLen_ok m hmb
  have hKp : 1 ≤ vnLen m ∧ vnLen m ≤ 8 := by omega
  have HR := Lib.hid (hr.take (k := 20) (by omega))
  have H0 := Lib.hid g0
  have H1 := Lib.hid g1
  have HK := Lib.hid hK
  clear hr g0 g1 hm hK
  go_enter Tryd.func4, Tryd.ntmps4
  go_wp2_with fail
  refine (vnlen_any m _ hmb).mono ?_
  rintro e w1 ⟨rfl, hb1⟩
  go_wp2_with fail
  refine (vnappend_any m _ hmb).mono ?_
  intro e w2 hmade
  obtain ⟨ga, ca, rfl, hra, -, hb2⟩ := hmade.parts (by omega)
  clear hmade
  have hb := below_step hb1 hb2
  clear hb1 hb2
  go_wp2_with fail
  refine (vnlen2_any m _ hmb).mono ?_
  rintro e w3 ⟨rfl, hb3⟩
  have hra := reads_old hra hb3
  have hb := below_step hb hb3
  clear hb3
  go_wp2_with fail
  refine (bytes_any m _ _ HK.out hmB).mono ?_
  intro e w4 hnew
  obtain ⟨gb, cb, rfl, hrb, -, hb4⟩ := hnew.parts (by omega)
  have hra := reads_old hra hb4
  have hb := below_step hb hb4
  clear hb4 hnew
  go_wp2_with fail
  refine (equal_any _ _ _ _ _ _ _ _ _ _ _ hra hrb).mono ?_
  rintro e w5 ⟨rfl, rfl⟩
  clear hrb
  have hKK : 1 ≤ vnLen m ∧ vnLen m ≤ 8 := by omega
  have hrd := vnBytes_read m (vnLen m) (bs.take (20)) (by exact HK.out) (by exact hmB)
  have HU := Lib.hid hrd.1
  have HN := Lib.hid hrd.2
  clear hrd hmB
  go_wp2_with fail
  refine (clone_any _ _ _ _ _ _ hra (Nat.le_refl _) (by omega)).mono ?_
  intro e w7 hnew
  obtain ⟨v3, rfl, ho3, hb7⟩ := hnew
  have hsz := hb7.size
  have hb7' := below_step hb hb7
  go_wp2_with (first | (at_builtin; refine wpList_append_any _ rfl (.tmp 88) (.tmp 89) 22 rfl _ 5 i0 _ 1 1 Tryd.underlying22 hi0 hz0 hz1 hz2 rfl (by omega) v3 (vnLen m) _ rfl ho3 w.heap.size A (20) c _ rfl (HR.out.below hb7') (bcells_one _) (by simp only [maxLen]; omega) (by omega) hsz ?_; intro v4 w8 ho4 hg4 _))
  have hb8 : Below w.heap.size w w8 := hb7'.grown hg4 hb7'.size (fun j e => Nat.le_trans hb.size (ho3.lt j e).1)
  have hra8 := ((hra.below hb7).grown hg4 hsz (fun j e => (ho3.lt j e).1)).more (Nat.le_trans hsz hg4.size)
  obtain ⟨g4, c4, hv4⟩ := own_form ho4 (by omega)
  rw [hv4] at ho4 ⊢
  rw [bcells_app] at ho4
  have hr8 := Reads.of_own ho4
  clear hra hb hsz hb7 hb7' ho3 hg4 hv4 ho4
  have hra := hra8
  have hb := hb8
  clear hra8 hb8
  go_wp2_with fail
  have hp := vnparse_any _ _ c4 _ _ hr8 t0 t1 v0 v1 (glob_old H0.out hb) (glob_old H1.out hb)
  rw [HU.out, HN.out] at hp
  refine hp.mono ?_
  rintro e w9 ⟨rfl, hb9⟩
  have hra := reads_old hra hb9
  have hb := below_step hb hb9
  clear hb9 hr8 hp
  go_wp2_with fail
  refine (clone_any _ _ _ _ _ _ hra (Nat.le_refl _) (by omega)).mono ?_
  intro e w7 hnew
  obtain ⟨v3, rfl, ho3, hb7⟩ := hnew
  have hsz := hb7.size
  have hb7' := below_step hb hb7
  go_wp2_with (first | (at_builtin; refine wpList_append_any _ rfl (.tmp 97) (.tmp 98) 22 rfl _ 5 i0 _ 1 1 Tryd.underlying22 hi0 hz0 hz1 hz2 rfl (by omega) v3 (vnLen m) _ rfl ho3 w.heap.size A (20) c _ rfl (HR.out.below hb7') (bcells_one _) (by simp only [maxLen]; omega) (by omega) hsz ?_; intro v4 w8 ho4 hg4 _))
  have hb8 : Below w.heap.size w w8 := hb7'.grown hg4 hb7'.size (fun j e => Nat.le_trans hb.size (ho3.lt j e).1)
  have hra8 := ((hra.below hb7).grown hg4 hsz (fun j e => (ho3.lt j e).1)).more (Nat.le_trans hsz hg4.size)
  obtain ⟨g4, c4, hv4⟩ := own_form ho4 (by omega)
  rw [hv4] at ho4 ⊢
  rw [bcells_app] at ho4
  have hr8 := Reads.of_own ho4
  clear hra hb hsz hb7 hb7' ho3 hg4 hv4 ho4
  have hra := hra8
  have hb := hb8
  clear hra8 hb8
  go_wp2_with fail
  refine (vnread_any _ _ c4 _ _ hr8 (by omega) t0 v0 (glob_old H0.out hb)).mono ?_
  rintro e w9 ⟨hv, hb9⟩
  have hb := below_step hb hb9
  clear hb9 hr8 hra
  have he : e = .returned (.tuple #[.int .u64 m, .int .i64 (20 : Nat), .bool true]) := by
    rcases hv with ⟨_, rfl⟩ | ⟨h0, _⟩
    · rw [HU.out, HN.out, show vnLen m + 20 - vnLen m = 20 from by omega]
    · rw [HU.out] at h0; omega
  subst he
  clear hv
  have HA := Lib.hid (vnawake w9 t0 v0 (glob_old H0.out hb))
  go_wp2_with (first | (go_at_call 5; refine HA.out.mono ?_; rintro e w10 ⟨rfl, hb10⟩))
  go_ret
  exact ⟨rfl, below_step hb hb10⟩

set_option maxHeartbeats 4000000 in
theorem written_gt0_n (N : Nat) (m : Nat) (l : Nat) (A : Option Addr) (n c : Nat) (bs : List UInt8) (w : World) (hr : Reads w w.heap.size 1 A n (bcells bs)) (hcap : n ≤ c) (hcap2 : c ≤ 9223372036854775807) (hn : n ≤ 2147483647) (hN : N < 18446744073709551616) (hm : N % 4611686018427387904 = m) (hl : l < 256) (hq : (l : Int) % 4 = 0) (hle : 1 < vnLen m) (hk : n ≤ 20) (t0 t1 : TypeId) (v0 v1 : Value)
    (g0 : w.cell? ⟨0, 0, none⟩ = some (.iface t0 v0)) (g1 : w.cell? ⟨1, 0, none⟩ = some (.iface t1 v1)) :
    Calls Tryd.prog 4 #[.int .u64 N, .int .u8 l, .slice A n c] w fun e w' => e = .returned (.bool true) ∧ Below w.heap.size w w' := by
  obtain ⟨i0, hi0, hz0, hz1, hz2⟩ := info_parts info5
  have hA := u64_and62 N hN
  rw [hm] at hA
  have hmb : m < 4611686018427387904 := by omega
  obtain ⟨hK, hmB⟩ := vnLen_ok m hmb
  have hKp : 1 ≤ vnLen m ∧ vnLen m ≤ 8 := by omega
  have HR := Lib.hid (hr.take (k := n) (by omega))
  have H0 := Lib.hid g0
  have H1 := Lib.hid g1
  have HK := Lib.hid hK
  clear hr g0 g1 hm hK
  go_enter Tryd.func4, Tryd.ntmps4
  go_wp2_with fail
  refine (vnlen_any m _ hmb).mono ?_
  rintro e w1 ⟨rfl, hb1⟩
  go_wp2_with fail
  refine (vnappend_any m _ hmb).mono ?_
  intro e w2 hmade
  obtain ⟨ga, ca, rfl, hra, -, hb2⟩ := hmade.parts (by omega)
  clear hmade
  have hb := below_step hb1 hb2
  clear hb1 hb2
  go_wp2_with fail
  refine (vnlen2_any m _ hmb).mono ?_
  rintro e w3 ⟨rfl, hb3⟩
  have hra := reads_old hra hb3
  have hb := below_step hb hb3
  clear hb3
  go_wp2_with fail
  refine (bytes_any m _ _ HK.out hmB).mono ?_
  intro e w4 hnew
  obtain ⟨gb, cb, rfl, hrb, -, hb4⟩ := hnew.parts (by omega)
  have hra := reads_old hra hb4
  have hb := below_step hb hb4
  clear hb4 hnew
  go_wp2_with fail
  refine (equal_any _ _ _ _ _ _ _ _ _ _ _ hra hrb).mono ?_
  rintro e w5 ⟨rfl, rfl⟩
  clear hrb
  have hKK : 1 ≤ vnLen m ∧ vnLen m ≤ 8 := by omega
  have hrd := vnBytes_read m (vnLen m) (bs.take (n)) (by exact HK.out) (by exact hmB)
  have HU := Lib.hid hrd.1
  have HN := Lib.hid hrd.2
  clear hrd hmB
  go_wp2_with fail
  refine (clone_any _ _ _ _ _ _ hra (Nat.le_refl _) (by omega)).mono ?_
  intro e w7 hnew
  obtain ⟨v3, rfl, ho3, hb7⟩ := hnew
  have hsz := hb7.size
  have hb7' := below_step hb hb7
  go_wp2_with (first | (at_builtin; refine wpList_append_any _ rfl (.tmp 88) (.tmp 89) 22 rfl _ 5 i0 _ 1 1 Tryd.underlying22 hi0 hz0 hz1 hz2 rfl (by omega) v3 (vnLen m) _ rfl ho3 w.heap.size A (n) c _ rfl (HR.out.below hb7') (bcells_one _) (by simp only [maxLen]; omega) (by omega) hsz ?_; intro v4 w8 ho4 hg4 _))
  have hb8 : Below w.heap.size w w8 := hb7'.grown hg4 hb7'.size (fun j e => Nat.le_trans hb.size (ho3.lt j e).1)
  have hra8 := ((hra.below hb7).grown hg4 hsz (fun j e => (ho3.lt j e).1)).more (Nat.le_trans hsz hg4.size)
  obtain ⟨g4, c4, hv4⟩ := own_form ho4 (by omega)
  rw [hv4] at ho4 ⊢
  rw [bcells_app] at ho4
  have hr8 := Reads.of_own ho4
  clear hra hb hsz hb7 hb7' ho3 hg4 hv4 ho4
  have hra := hra8
  have hb := hb8
  clear hra8 hb8
  go_wp2_with fail
  have hp := vnparse_any _ _ c4 _ _ hr8 t0 t1 v0 v1 (glob_old H0.out hb) (glob_old H1.out hb)
  rw [HU.out, HN.out] at hp
  refine hp.mono ?_
  rintro e w9 ⟨rfl, hb9⟩
  have hra := reads_old hra hb9
  have hb := below_step hb hb9
  clear hb9 hr8 hp
  go_wp2_with fail
  refine (clone_any _ _ _ _ _ _ hra (Nat.le_refl _) (by omega)).mono ?_
  intro e w7 hnew
  obtain ⟨v3, rfl, ho3, hb7⟩ := hnew
  have hsz := hb7.size
  have hb7' := below_step hb hb7
  go_wp2_with (first | (at_builtin; refine wpList_append_any _ rfl (.tmp 97) (.tmp 98) 22 rfl _ 5 i0 _ 1 1 Tryd.underlying22 hi0 hz0 hz1 hz2 rfl (by omega) v3 (vnLen m) _ rfl ho3 w.heap.size A (n) c _ rfl (HR.out.below hb7') (bcells_one _) (by simp only [maxLen]; omega) (by omega) hsz ?_; intro v4 w8 ho4 hg4 _))
  have hb8 : Below w.heap.size w w8 := hb7'.grown hg4 hb7'.size (fun j e => Nat.le_trans hb.size (ho3.lt j e).1)
  have hra8 := ((hra.below hb7).grown hg4 hsz (fun j e => (ho3.lt j e).1)).more (Nat.le_trans hsz hg4.size)
  obtain ⟨g4, c4, hv4⟩ := own_form ho4 (by omega)
  rw [hv4] at ho4 ⊢
  rw [bcells_app] at ho4
  have hr8 := Reads.of_own ho4
  clear hra hb hsz hb7 hb7' ho3 hg4 hv4 ho4
  have hra := hra8
  have hb := hb8
  clear hra8 hb8
  go_wp2_with fail
  refine (vnread_any _ _ c4 _ _ hr8 (by omega) t0 v0 (glob_old H0.out hb)).mono ?_
  rintro e w9 ⟨hv, hb9⟩
  have hb := below_step hb hb9
  clear hb9 hr8 hra
  have he : e = .returned (.tuple #[.int .u64 m, .int .i64 (n : Nat), .bool true]) := by
    rcases hv with ⟨_, rfl⟩ | ⟨h0, _⟩
    · rw [HU.out, HN.out, show vnLen m + n - vnLen m = n from by omega]
    · rw [HU.out] at h0; omega
  subst he
  clear hv
  have HA := Lib.hid (vnawake w9 t0 v0 (glob_old H0.out hb))
  go_wp2_with (first | (go_at_call 5; refine HA.out.mono ?_; rintro e w10 ⟨rfl, hb10⟩))
  go_ret
  exact ⟨rfl, below_step hb hb10⟩

set_option maxHeartbeats 4000000 in
theorem written_le1_20 (N : Nat) (m : Nat) (l : Nat) (A : Option Addr) (n c : Nat) (bs : List UInt8) (w : World) (hr : Reads w w.heap.size 1 A n (bcells bs)) (hcap : n ≤ c) (hcap2 : c ≤ 9223372036854775807) (hn : n ≤ 2147483647) (hN : N < 18446744073709551616) (hm : N % 4611686018427387904 = m) (hl : l < 256) (hq : (l : Int) % 4 = 1) (hle : vnLen m ≤ 2) (hk : 20 < n) (t0 t1 : TypeId) (v0 v1 : Value)
    (g0 : w.cell? ⟨0, 0, none⟩ = some (.iface t0 v0)) (g1 : w.cell? ⟨1, 0, none⟩ = some (.iface t1 v1)) :
    Calls Tryd.prog 4 #[.int .u64 N, .int .u8 l, .slice A n c] w fun e w' => e = .returned (.bool true) ∧ Below w.heap.size w w' := by
  obtain ⟨i0, hi0, hz0, hz1, hz2⟩ := info_parts info5
  have hA := u64_and62 N hN
  rw [hm] at hA
  have hmb : m < 4611686018427387904 := by omega
  obtain ⟨hK, hmB⟩ := vnLen_ok m hmb
  have hKp : 1 ≤ vnLen m ∧ vnLen m ≤ 8 := by omega
  have HR := Lib.hid (hr.take (k := 20) (by omega))
  have H0 := Lib.hid g0
  have H1 := Lib.hid g1
  have HK := Lib.hid hK
  clear hr g0 g1 hm hK
  go_enter Tryd.func4, Tryd.ntmps4
  go_wp2_with fail
  refine (vnlen_any m _ hmb).mono ?_
  rintro e w1 ⟨rfl, hb1⟩
  go_wp2_with fail
  refine (vnappend_any m _ hmb).mono ?_
  intro e w2 hmade
  obtain ⟨ga, ca, rfl, hra, -, hb2⟩ := hmade.parts (by omega)
  clear hmade
  have hb := below_step hb1 hb2
  clear hb1 hb2
  go_wp2_with fail
  refine (vnlen2_any m _ hmb).mono ?_
  rintro e w3 ⟨rfl, hb3⟩
  have hra := reads_old hra hb3
  have hb := below_step hb hb3
  clear hb3
  go_wp2_with fail
  refine (bytes_any m _ _ HK.out hmB).mono ?_
  intro e w4 hnew
  obtain ⟨gb, cb, rfl, hrb, -, hb4⟩ := hnew.parts (by omega)
  have hra := reads_old hra hb4
  have hb := below_step hb hb4
  clear hb4 hnew
  go_wp2_with fail
  refine (equal_any _ _ _ _ _ _ _ _ _ _ _ hra hrb).mono ?_
  rintro e w5 ⟨rfl, rfl⟩
  clear hrb
  go_wp2_with fail
  refine (vnwith_any m 2 _ hmb (by omega) hle).mono ?_
  intro e w5 hmade
  obtain ⟨gx, cx, rfl, hra, -, hb5⟩ := hmade.parts (by omega)
  have hb := below_step hb hb5
  clear hb5 hmade
  go_wp2_with fail
  refine (bytes_any m _ _ (by omega) (vnBound_mono m 2 hmb (by omega) hle)).mono ?_
  intro e w6 hnew
  obtain ⟨gb, cb, rfl, hrb, -, hb4⟩ := hnew.parts (by omega)
  have hra := reads_old hra hb4
  have hb := below_step hb hb4
  clear hb4 hnew
  go_wp2_with fail
  refine (equal_any _ _ _ _ _ _ _ _ _ _ _ hra hrb).mono ?_
  rintro e w7 ⟨rfl, rfl⟩
  clear hrb
  have hKK : 1 ≤ 2 ∧ 2 ≤ 8 := by omega
  have hrd := vnBytes_read m (2) (bs.take (20)) (by omega) (by exact vnBound_mono m 2 hmb (by omega) hle)
  have HU := Lib.hid hrd.1
  have HN := Lib.hid hrd.2
  clear hrd hmB
  go_wp2_with fail
  refine (clone_any _ _ _ _ _ _ hra (Nat.le_refl _) (by omega)).mono ?_
  intro e w7 hnew
  obtain ⟨v3, rfl, ho3, hb7⟩ := hnew
  have hsz := hb7.size
  have hb7' := below_step hb hb7
  go_wp2_with (first | (at_builtin; refine wpList_append_any _ rfl (.tmp 88) (.tmp 89) 22 rfl _ 5 i0 _ 1 1 Tryd.underlying22 hi0 hz0 hz1 hz2 rfl (by omega) v3 (2) _ rfl ho3 w.heap.size A (20) c _ rfl (HR.out.below hb7') (bcells_one _) (by simp only [maxLen]; omega) (by omega) hsz ?_; intro v4 w8 ho4 hg4 _))
  have hb8 : Below w.heap.size w w8 := hb7'.grown hg4 hb7'.size (fun j e => Nat.le_trans hb.size (ho3.lt j e).1)
  have hra8 := ((hra.below hb7).grown hg4 hsz (fun j e => (ho3.lt j e).1)).more (Nat.le_trans hsz hg4.size)
  obtain ⟨g4, c4, hv4⟩ := own_form ho4 (by omega)
  rw [hv4] at ho4 ⊢
  rw [bcells_app] at ho4
  have hr8 := Reads.of_own ho4
  clear hra hb hsz hb7 hb7' ho3 hg4 hv4 ho4
  have hra := hra8
  have hb := hb8
  clear hra8 hb8
  go_wp2_with fail
  have hp := vnparse_any _ _ c4 _ _ hr8 t0 t1 v0 v1 (glob_old H0.out hb) (glob_old H1.out hb)
  rw [HU.out, HN.out] at hp
  refine hp.mono ?_
  rintro e w9 ⟨rfl, hb9⟩
  have hra := reads_old hra hb9
  have hb := below_step hb hb9
  clear hb9 hr8 hp
  go_wp2_with fail
  refine (clone_any _ _ _ _ _ _ hra (Nat.le_refl _) (by omega)).mono ?_
  intro e w7 hnew
  obtain ⟨v3, rfl, ho3, hb7⟩ := hnew
  have hsz := hb7.size
  have hb7' := below_step hb hb7
  go_wp2_with (first | (at_builtin; refine wpList_append_any _ rfl (.tmp 97) (.tmp 98) 22 rfl _ 5 i0 _ 1 1 Tryd.underlying22 hi0 hz0 hz1 hz2 rfl (by omega) v3 (2) _ rfl ho3 w.heap.size A (20) c _ rfl (HR.out.below hb7') (bcells_one _) (by simp only [maxLen]; omega) (by omega) hsz ?_; intro v4 w8 ho4 hg4 _))
  have hb8 : Below w.heap.size w w8 := hb7'.grown hg4 hb7'.size (fun j e => Nat.le_trans hb.size (ho3.lt j e).1)
  have hra8 := ((hra.below hb7).grown hg4 hsz (fun j e => (ho3.lt j e).1)).more (Nat.le_trans hsz hg4.size)
  obtain ⟨g4, c4, hv4⟩ := own_form ho4 (by omega)
  rw [hv4] at ho4 ⊢
  rw [bcells_app] at ho4
  have hr8 := Reads.of_own ho4
  clear hra hb hsz hb7 hb7' ho3 hg4 hv4 ho4
  have hra := hra8
  have hb := hb8
  clear hra8 hb8
  go_wp2_with fail
  refine (vnread_any _ _ c4 _ _ hr8 (by omega) t0 v0 (glob_old H0.out hb)).mono ?_
  rintro e w9 ⟨hv, hb9⟩
  have hb := below_step hb hb9
  clear hb9 hr8 hra
  have he : e = .returned (.tuple #[.int .u64 m, .int .i64 (20 : Nat), .bool true]) := by
    rcases hv with ⟨_, rfl⟩ | ⟨h0, _⟩
    · rw [HU.out, HN.out, show 2 + 20 - 2 = 20 from by omega]
    · rw [HU.out] at h0; omega
  subst he
  clear hv
  have HA := Lib.hid (vnawake w9 t0 v0 (glob_old H0.out hb))
  go_wp2_with (first | (go_at_call 5; refine HA.out.mono ?_; rintro e w10 ⟨rfl, hb10⟩))
  go_ret
  exact ⟨rfl, below_step hb hb10⟩

set_option maxHeartbeats 4000000 in
theorem written_le1_n (N : Nat) (m : Nat) (l : Nat) (A : Option Addr) (n c : Nat) (bs : List UInt8) (w : World) (hr : Reads w w.heap.size 1 A n (bcells bs)) (hcap : n ≤ c) (hcap2 : c ≤ 9223372036854775807) (hn : n ≤ 2147483647) (hN : N < 18446744073709551616) (hm : N % 4611686018427387904 = m) (hl : l < 256) (hq : (l : Int) % 4 = 1) (hle : vnLen m ≤ 2) (hk : n ≤ 20) (t0 t1 : TypeId) (v0 v1 : Value)
    (g0 : w.cell? ⟨0, 0, none⟩ = some (.iface t0 v0)) (g1 : w.cell? ⟨1, 0, none⟩ = some (.iface t1 v1)) :
    Calls Tryd.prog 4 #[.int .u64 N, .int .u8 l, .slice A n c] w fun e w' => e = .returned (.bool true) ∧ Below w.heap.size w w' := by
  obtain ⟨i0, hi0, hz0, hz1, hz2⟩ := info_parts info5
  have hA := u64_and62 N hN
  rw [hm] at hA
  have hmb : m < 4611686018427387904 := by omega
  obtain ⟨hK, hmB⟩ := vnLen_ok m hmb
  have hKp : 1 ≤ vnLen m ∧ vnLen m ≤ 8 := by omega
  have HR := Lib.hid (hr.take (k := n) (by omega))
  have H0 := Lib.hid g0
  have H1 := Lib.hid g1
  have HK := Lib.hid hK
  clear hr g0 g1 hm hK
  go_enter Tryd.func4, Tryd.ntmps4
  go_wp2_with fail
  refine (vnlen_any m _ hmb).mono ?_
  rintro e w1 ⟨rfl, hb1⟩
  go_wp2_with fail
  refine (vnappend_any m _ hmb).mono ?_
  intro e w2 hmade
  obtain ⟨ga, ca, rfl, hra, -, hb2⟩ := hmade.parts (by omega)
  clear hmade
  have hb := below_step hb1 hb2
  clear hb1 hb2
  go_wp2_with fail
  refine (vnlen2_any m _ hmb).mono ?_
  rintro e w3 ⟨rfl, hb3⟩
  have hra := reads_old hra hb3
  have hb := below_step hb hb3
  clear hb3
  go_wp2_with fail
  refine (bytes_any m _ _ HK.out hmB).mono ?_
  intro e w4 hnew
  obtain ⟨gb, cb, rfl, hrb, -, hb4⟩ := hnew.parts (by omega)
  have hra := reads_old hra hb4
  have hb := below_step hb hb4
  clear hb4 hnew
  go_wp2_with fail
  refine (equal_any _ _ _ _ _ _ _ _ _ _ _ hra hrb).mono ?_
  rintro e w5 ⟨rfl, rfl⟩
  clear hrb
  go_wp2_with fail
  refine (vnwith_any m 2 _ hmb (by omega) hle).mono ?_
  intro e w5 hmade
  obtain ⟨gx, cx, rfl, hra, -, hb5⟩ := hmade.parts (by omega)
  have hb := below_step hb hb5
  clear hb5 hmade
  go_wp2_with fail
  refine (bytes_any m _ _ (by omega) (vnBound_mono m 2 hmb (by omega) hle)).mono ?_
  intro e w6 hnew
  obtain ⟨gb, cb, rfl, hrb, -, hb4⟩ := hnew.parts (by omega)
  have hra := reads_old hra hb4
  have hb := below_step hb hb4
  clear hb4 hnew
  go_wp2_with fail
  refine (equal_any _ _ _ _ _ _ _ _ _ _ _ hra hrb).mono ?_
  rintro e w7 ⟨rfl, rfl⟩
  clear hrb
  have hKK : 1 ≤ 2 ∧ 2 ≤ 8 := by omega
  have hrd := vnBytes_read m (2) (bs.take (n)) (by omega) (by exact vnBound_mono m 2 hmb (by omega) hle)
  have HU := Lib.hid hrd.1
  have HN := Lib.hid hrd.2
  clear hrd hmB
  go_wp2_with fail
  refine (clone_any _ _ _ _ _ _ hra (Nat.le_refl _) (by omega)).mono ?_
  intro e w7 hnew
  obtain ⟨v3, rfl, ho3, hb7⟩ := hnew
  have hsz := hb7.size
  have hb7' := below_step hb hb7
  go_wp2_with (first | (at_builtin; refine wpList_append_any _ rfl (.tmp 88) (.tmp 89) 22 rfl _ 5 i0 _ 1 1 Tryd.underlying22 hi0 hz0 hz1 hz2 rfl (by omega) v3 (2) _ rfl ho3 w.heap.size A (n) c _ rfl (HR.out.below hb7') (bcells_one _) (by simp only [maxLen]; omega) (by omega) hsz ?_; intro v4 w8 ho4 hg4 _))
  have hb8 : Below w.heap.size w w8 := hb7'.grown hg4 hb7'.size (fun j e => Nat.le_trans hb.size (ho3.lt j e).1)
  have hra8 := ((hra.below hb7).grown hg4 hsz (fun j e => (ho3.lt j e).1)).more (Nat.le_trans hsz hg4.size)
  obtain ⟨g4, c4, hv4⟩ := own_form ho4 (by omega)
  rw [hv4] at ho4 ⊢
  rw [bcells_app] at ho4
  have hr8 := Reads.of_own ho4
  clear hra hb hsz hb7 hb7' ho3 hg4 hv4 ho4
  have hra := hra8
  have hb := hb8
  clear hra8 hb8
  go_wp2_with fail
  have hp := vnparse_any _ _ c4 _ _ hr8 t0 t1 v0 v1 (glob_old H0.out hb) (glob_old H1.out hb)
  rw [HU.out, HN.out] at hp
  refine hp.mono ?_
  rintro e w9 ⟨rfl, hb9⟩
  have hra := reads_old hra hb9
  have hb := below_step hb hb9
  clear hb9 hr8 hp
  go_wp2_with fail
  refine (clone_any _ _ _ _ _ _ hra (Nat.le_refl _) (by omega)).mono ?_
  intro e w7 hnew
  obtain ⟨v3, rfl, ho3, hb7⟩ := hnew
  have hsz := hb7.size
  have hb7' := below_step hb hb7
  go_wp2_with (first | (at_builtin; refine wpList_append_any _ rfl (.tmp 97) (.tmp 98) 22 rfl _ 5 i0 _ 1 1 Tryd.underlying22 hi0 hz0 hz1 hz2 rfl (by omega) v3 (2) _ rfl ho3 w.heap.size A (n) c _ rfl (HR.out.below hb7') (bcells_one _) (by simp only [maxLen]; omega) (by omega) hsz ?_; intro v4 w8 ho4 hg4 _))
  have hb8 : Below w.heap.size w w8 := hb7'.grown hg4 hb7'.size (fun j e => Nat.le_trans hb.size (ho3.lt j e).1)
  have hra8 := ((hra.below hb7).grown hg4 hsz (fun j e => (ho3.lt j e).1)).more (Nat.le_trans hsz hg4.size)
  obtain ⟨g4, c4, hv4⟩ := own_form ho4 (by omega)
  rw [hv4] at ho4 ⊢
  rw [bcells_app] at ho4
  have hr8 := Reads.of_own ho4
  clear hra hb hsz hb7 hb7' ho3 hg4 hv4 ho4
  have hra := hra8
  have hb := hb8
  clear hra8 hb8
  go_wp2_with fail
  refine (vnread_any _ _ c4 _ _ hr8 (by omega) t0 v0 (glob_old H0.out hb)).mono ?_
  rintro e w9 ⟨hv, hb9⟩
  have hb := below_step hb hb9
  clear hb9 hr8 hra
  have he : e = .returned (.tuple #[.int .u64 m, .int .i64 (n : Nat), .bool true]) := by
    rcases hv with ⟨_, rfl⟩ | ⟨h0, _⟩
    · rw [HU.out, HN.out, show 2 + n - 2 = n from by omega]
    · rw [HU.out] at h0; omega
  subst he
  clear hv
  have HA := Lib.hid (vnawake w9 t0 v0 (glob_old H0.out hb))
  go_wp2_with (first | (go_at_call 5; refine HA.out.mono ?_; rintro e w10 ⟨rfl, hb10⟩))
  go_ret
  exact ⟨rfl, below_step hb hb10⟩

set_option maxHeartbeats 4000000 in
theorem written_gt1_20 (N : Nat) (m : Nat) (l : Nat) (A : Option Addr) (n c : Nat) (bs : List UInt8) (w : World) (hr : Reads w w.heap.size 1 A n (bcells bs)) (hcap : n ≤ c) (hcap2 : c ≤ 9223372036854775807) (hn : n ≤ 2147483647) (hN : N < 18446744073709551616) (hm : N % 4611686018427387904 = m) (hl : l < 256) (hq : (l : Int) % 4 = 1) (hle : 2 < vnLen m) (hk : 20 < n) (t0 t1 : TypeId) (v0 v1 : Value)
    (g0 : w.cell? ⟨0, 0, none⟩ = some (.iface t0 v0)) (g1 : w.cell? ⟨1, 0, none⟩ = some (.iface t1 v1)) :
    Calls Tryd.prog 4 #[.int .u64 N, .int .u8 l, .slice A n c] w fun e w' => e = .returned (.bool true) ∧ Below w.heap.size w w' := by
  obtain ⟨i0, hi0, hz0, hz1, hz2⟩ := info_parts info5
  have hA := u64_and62 N hN
  rw [hm] at hA
  have hmb : m < 4611686018427387904 := by omega
  obtain ⟨hK, hmB⟩ := vnLen_ok m hmb
  have hKp : 1 ≤ vnLen m ∧ vnLen m ≤ 8 := by omega
  have HR := Lib.hid (hr.take (k := 20) (by omega))
  have H0 := Lib.hid g0
  have H1 := Lib.hid g1
  have HK := Lib.hid hK
  clear hr g0 g1 hm hK
  go_enter Tryd.func4, Tryd.ntmps4
  go_wp2_with fail
  refine (vnlen_any m _ hmb).mono ?_
  rintro e w1 ⟨rfl, hb1⟩
  go_wp2_with fail
  refine (vnappend_any m _ hmb).mono ?_
  intro e w2 hmade
  obtain ⟨ga, ca, rfl, hra, -, hb2⟩ := hmade.parts (by omega)
  clear hmade
  have hb := below_step hb1 hb2
  clear hb1 hb2
  go_wp2_with fail
  refine (vnlen2_any m _ hmb).mono ?_
  rintro e w3 ⟨rfl, hb3⟩
  have hra := reads_old hra hb3
  have hb := below_step hb hb3
  clear hb3
  go_wp2_with fail
  refine (bytes_any m _ _ HK.out hmB).mono ?_
  intro e w4 hnew
  obtain ⟨gb, cb, rfl, hrb, -, hb4⟩ := hnew.parts (by omega)
  have hra := reads_old hra hb4
  have hb := below_step hb hb4
  clear hb4 hnew
  go_wp2_with fail
  refine (equal_any _ _ _ _ _ _ _ _ _ _ _ hra hrb).mono ?_
  rintro e w5 ⟨rfl, rfl⟩
  clear hrb
  have hKK : 1 ≤ vnLen m ∧ vnLen m ≤ 8 := by omega
  have hrd := vnBytes_read m (vnLen m) (bs.take (20)) (by exact HK.out) (by exact hmB)
  have HU := Lib.hid hrd.1
  have HN := Lib.hid hrd.2
  clear hrd hmB
  go_wp2_with fail
  refine (clone_any _ _ _ _ _ _ hra (Nat.le_refl _) (by omega)).mono ?_
  intro e w7 hnew
  obtain ⟨v3, rfl, ho3, hb7⟩ := hnew
  have hsz := hb7.size
  have hb7' := below_step hb hb7
  go_wp2_with (first | (at_builtin; refine wpList_append_any _ rfl (.tmp 88) (.tmp 89) 22 rfl _ 5 i0 _ 1 1 Tryd.underlying22 hi0 hz0 hz1 hz2 rfl (by omega) v3 (vnLen m) _ rfl ho3 w.heap.size A (20) c _ rfl (HR.out.below hb7') (bcells_one _) (by simp only [maxLen]; omega) (by omega) hsz ?_; intro v4 w8 ho4 hg4 _))
  have hb8 : Below w.heap.size w w8 := hb7'.grown hg4 hb7'.size (fun j e => Nat.le_trans hb.size (ho3.lt j e).1)
  have hra8 := ((hra.below hb7).grown hg4 hsz (fun j e => (ho3.lt j e).1)).more (Nat.le_trans hsz hg4.size)
  obtain ⟨g4, c4, hv4⟩ := own_form ho4 (by omega)
  rw [hv4] at ho4 ⊢
  rw [bcells_app] at ho4
  have hr8 := Reads.of_own ho4
  clear hra hb hsz hb7 hb7' ho3 hg4 hv4 ho4
  have hra := hra8
  have hb := hb8
  clear hra8 hb8
  go_wp2_with fail
  have hp := vnparse_any _ _ c4 _ _ hr8 t0 t1 v0 v1 (glob_old H0.out hb) (glob_old H1.out hb)
  rw [HU.out, HN.out] at hp
  refine hp.mono ?_
  rintro e w9 ⟨rfl, hb9⟩
  have hra := reads_old hra hb9
  have hb := below_step hb hb9
  clear hb9 hr8 hp
  go_wp2_with fail
  refine (clone_any _ _ _ _ _ _ hra (Nat.le_refl _) (by omega)).mono ?_
  intro e w7 hnew
  obtain ⟨v3, rfl, ho3, hb7⟩ := hnew
  have hsz := hb7.size
  have hb7' := below_step hb hb7
  go_wp2_with (first | (at_builtin; refine wpList_append_any _ rfl (.tmp 97) (.tmp 98) 22 rfl _ 5 i0 _ 1 1 Tryd.underlying22 hi0 hz0 hz1 hz2 rfl (by omega) v3 (vnLen m) _ rfl ho3 w.heap.size A (20) c _ rfl (HR.out.below hb7') (bcells_one _) (by simp only [maxLen]; omega) (by omega) hsz ?_; intro v4 w8 ho4 hg4 _))
  have hb8 : Below w.heap.size w w8 := hb7'.grown hg4 hb7'.size (fun j e => Nat.le_trans hb.size (ho3.lt j e).1)
  have hra8 := ((hra.below hb7).grown hg4 hsz (fun j e => (ho3.lt j e).1)).more (Nat.le_trans hsz hg4.size)
  obtain ⟨g4, c4, hv4⟩ := own_form ho4 (by omega)
  rw [hv4] at ho4 ⊢
  rw [bcells_app] at ho4
  have hr8 := Reads.of_own ho4
  clear hra hb hsz hb7 hb7' ho3 hg4 hv4 ho4
  have hra := hra8
  have hb := hb8
  clear hra8 hb8
  go_wp2_with fail
  refine (vnread_any _ _ c4 _ _ hr8 (by omega) t0 v0 (glob_old H0.out hb)).mono ?_
  rintro e w9 ⟨hv, hb9⟩
  have hb := below_step hb hb9
  clear hb9 hr8 hra
  have he : e = .returned (.tuple #[.int .u64 m, .int .i64 (20 : Nat), .bool true]) := by
    rcases hv with ⟨_, rfl⟩ | ⟨h0, _⟩
    · rw [HU.out, HN.out, show vnLen m + 20 - vnLen m = 20 from by omega]
    · rw [HU.out] at h0; omega
  subst he
  clear hv
  have HA := Lib.hid (vnawake w9 t0 v0 (glob_old H0.out hb))
  go_wp2_with (first | (go_at_call 5; refine HA.out.mono ?_; rintro e w10 ⟨rfl, hb10⟩))
  go_ret
  exact ⟨rfl, below_step hb hb10⟩

set_option maxHeartbeats 4000000 in
theorem written_gt1_n (N : Nat) (m : Nat) (l : Nat) (A : Option Addr) (n c : Nat) (bs : List UInt8) (w : World) (hr : Reads w w.heap.size 1 A n (bcells bs)) (hcap : n ≤ c) (hcap2 : c ≤ 9223372036854775807) (hn : n ≤ 2147483647) (hN : N < 18446744073709551616) (hm : N % 4611686018427387904 = m) (hl : l < 256) (hq : (l : Int) % 4 = 1) (hle : 2 < vnLen m) (hk : n ≤ 20) (t0 t1 : TypeId) (v0 v1 : Value)
    (g0 : w.cell? ⟨0, 0, none⟩ = some (.iface t0 v0)) (g1 : w.cell? ⟨1, 0, none⟩ = some (.iface t1 v1)) :
    Calls Tryd.prog 4 #[.int .u64 N, .int .u8 l, .slice A n c] w fun e w' => e = .returned (.bool true) ∧ Below w.heap.size w w' := by
  obtain ⟨i0, hi0, hz0, hz1, hz2⟩ := info_parts info5
  have hA := u64_and62 N hN
  rw [hm] at hA
  have hmb : m < 4611686018427387904 := by omega
  obtain ⟨hK, hmB⟩ := vnLen_ok m hmb
  have hKp : 1 ≤ vnLen m ∧ vnLen m ≤ 8 := by omega
  have HR := Lib.hid (hr.take (k := n) (by omega))
  have H0 := Lib.hid g0
  have H1 := Lib.hid g1
  have HK := Lib.hid hK
  clear hr g0 g1 hm hK
  go_enter Tryd.func4, Tryd.ntmps4
  go_wp2_with fail
  refine (vnlen_any m _ hmb).mono ?_
  rintro e w1 ⟨rfl, hb1⟩
  go_wp2_with fail
  refine (vnappend_any m _ hmb).mono ?_
  intro e w2 hmade
  obtain ⟨ga, ca, rfl, hra, -, hb2⟩ := hmade.parts (by omega)
  clear hmade
  have hb := below_step hb1 hb2
  clear hb1 hb2
  go_wp2_with fail
  refine (vnlen2_any m _ hmb).mono ?_
  rintro e w3 ⟨rfl, hb3⟩
  have hra := reads_old hra hb3
  have hb := below_step hb hb3
  clear hb3
  go_wp2_with fail
  refine (bytes_any m _ _ HK.out hmB).mono ?_
  intro e w4 hnew
  obtain ⟨gb, cb, rfl, hrb, -, hb4⟩ := hnew.parts (by omega)
  have hra := reads_old hra hb4
  have hb := below_step hb hb4
  clear hb4 hnew
  go_wp2_with fail
  refine (equal_any _ _ _ _ _ _ _ _ _ _ _ hra hrb).mono ?_
  rintro e w5 ⟨rfl, rfl⟩
  clear hrb
  have hKK : 1 ≤ vnLen m ∧ vnLen m ≤ 8 := by omega
  have hrd := vnBytes_read m (vnLen m) (bs.take (n)) (by exact HK.out) (by exact hmB)
  have HU := Lib.hid hrd.1
  have HN := Lib.hid hrd.2
  clear hrd hmB
  go_wp2_with fail
  refine (clone_any _ _ _ _ _ _ hra (Nat.le_refl _) (by omega)).mono ?_
  intro e w7 hnew
  obtain ⟨v3, rfl, ho3, hb7⟩ := hnew
  have hsz := hb7.size
  have hb7' := below_step hb hb7
  go_wp2_with (first | (at_builtin; refine wpList_append_any _ rfl (.tmp 88) (.tmp 89) 22 rfl _ 5 i0 _ 1 1 Tryd.underlying22 hi0 hz0 hz1 hz2 rfl (by omega) v3 (vnLen m) _ rfl ho3 w.heap.size A (n) c _ rfl (HR.out.below hb7') (bcells_one _) (by simp only [maxLen]; omega) (by omega) hsz ?_; intro v4 w8 ho4 hg4 _))
  have hb8 : Below w.heap.size w w8 := hb7'.grown hg4 hb7'.size (fun j e => Nat.le_trans hb.size (ho3.lt j e).1)
  have hra8 := ((hra.below hb7).grown hg4 hsz (fun j e => (ho3.lt j e).1)).more (Nat.le_trans hsz hg4.size)
  obtain ⟨g4, c4, hv4⟩ := own_form ho4 (by omega)
  rw [hv4] at ho4 ⊢
  rw [bcells_app] at ho4
  have hr8 := Reads.of_own ho4
  clear hra hb hsz hb7 hb7' ho3 hg4 hv4 ho4
  have hra := hra8
  have hb := hb8
  clear hra8 hb8
  go_wp2_with fail
  have hp := vnparse_any _ _ c4 _ _ hr8 t0 t1 v0 v1 (glob_old H0.out hb) (glob_old H1.out hb)
  rw [HU.out, HN.out] at hp
  refine hp.mono ?_
  rintro e w9 ⟨rfl, hb9⟩
  have hra := reads_old hra hb9
  have hb := below_step hb hb9
  clear hb9 hr8 hp
  go_wp2_with fail
  refine (clone_any _ _ _ _ _ _ hra (Nat.le_refl _) (by omega)).mono ?_
  intro e w7 hnew
  obtain ⟨v3, rfl, ho3, hb7⟩ := hnew
  have hsz := hb7.size
  have hb7' := below_step hb hb7
  go_wp2_with (first | (at_builtin; refine wpList_append_any _ rfl (.tmp 97) (.tmp 98) 22 rfl _ 5 i0 _ 1 1 Tryd.underlying22 hi0 hz0 hz1 hz2 rfl (by omega) v3 (vnLen m) _ rfl ho3 w.heap.size A (n) c _ rfl (HR.out.below hb7') (bcells_one _) (by simp only [maxLen]; omega) (by omega) hsz ?_; intro v4 w8 ho4 hg4 _))
  have hb8 : Below w.heap.size w w8 := hb7'.grown hg4 hb7'.size (fun j e => Nat.le_trans hb.size (ho3.lt j e).1)
  have hra8 := ((hra.below hb7).grown hg4 hsz (fun j e => (ho3.lt j e).1)).more (Nat.le_trans hsz hg4.size)
  obtain ⟨g4, c4, hv4⟩ := own_form ho4 (by omega)
  rw [hv4] at ho4 ⊢
  rw [bcells_app] at ho4
  have hr8 := Reads.of_own ho4
  clear hra hb hsz hb7 hb7' ho3 hg4 hv4 ho4
  have hra := hra8
  have hb := hb8
  clear hra8 hb8
  go_wp2_with fail
  refine (vnread_any _ _ c4 _ _ hr8 (by omega) t0 v0 (glob_old H0.out hb)).mono ?_
  rintro e w9 ⟨hv, hb9⟩
  have hb := below_step hb hb9
  clear hb9 hr8 hra
  have he : e = .returned (.tuple #[.int .u64 m, .int .i64 (n : Nat), .bool true]) := by
    rcases hv with ⟨_, rfl⟩ | ⟨h0, _⟩
    · rw [HU.out, HN.out, show vnLen m + n - vnLen m = n from by omega]
    · rw [HU.out] at h0; omega
  subst he
  clear hv
  have HA := Lib.hid (vnawake w9 t0 v0 (glob_old H0.out hb))
  go_wp2_with (first | (go_at_call 5; refine HA.out.mono ?_; rintro e w10 ⟨rfl, hb10⟩))
  go_ret
  exact ⟨rfl, below_step hb hb10⟩

set_option maxHeartbeats 4000000 in
theorem written_le2_20 (N : Nat) (m : Nat) (l : Nat) (A : Option Addr) (n c : Nat) (bs : List UInt8) (w : World) (hr : Reads w w.heap.size 1 A n (bcells bs)) (hcap : n ≤ c) (hcap2 : c ≤ 9223372036854775807) (hn : n ≤ 2147483647) (hN : N < 18446744073709551616) (hm : N % 4611686018427387904 = m) (hl : l < 256) (hq : (l : Int) % 4 = 2) (hle : vnLen m ≤ 4) (hk : 20 < n) (t0 t1 : TypeId) (v0 v1 : Value)
    (g0 : w.cell? ⟨0, 0, none⟩ = some (.iface t0 v0)) (g1 : w.cell? ⟨1, 0, none⟩ = some (.iface t1 v1)) :
    Calls Tryd.prog 4 #[.int .u64 N, .int .u8 l, .slice A n c] w fun e w' => e = .returned (.bool true) ∧ Below w.heap.size w w' := by
  obtain ⟨i0, hi0, hz0, hz1, hz2⟩ := info_parts info5
  have hA := u64_and62 N hN
  rw [hm] at hA
  have hmb : m < 4611686018427387904 := by omega
  obtain ⟨hK, hmB⟩ := vnLen_ok m hmb
  have hKp : 1 ≤ vnLen m ∧ vnLen m ≤ 8 := by omega
  have HR := Lib.hid (hr.take (k := 20) (by omega))
  have H0 := Lib.hid g0
  have H1 := Lib.hid g1
  have HK := Lib.hid hK
  clear hr g0 g1 hm hK
  go_enter Tryd.func4, Tryd.ntmps4
  go_wp2_with fail
  refine (vnlen_any m _ hmb).mono ?_
  rintro e w1 ⟨rfl, hb1⟩
  go_wp2_with fail
  refine (vnappend_any m _ hmb).mono ?_
  intro e w2 hmade
  obtain ⟨ga, ca, rfl, hra, -, hb2⟩ := hmade.parts (by omega)
  clear hmade
  have hb := below_step hb1 hb2
  clear hb1 hb2
  go_wp2_with fail
  refine (vnlen2_any m _ hmb).mono ?_
  rintro e w3 ⟨rfl, hb3⟩
  have hra := reads_old hra hb3
  have hb := below_step hb hb3
  clear hb3
  go_wp2_with fail
  refine (bytes_any m _ _ HK.out hmB).mono ?_
  intro e w4 hnew
  obtain ⟨gb, cb, rfl, hrb, -, hb4⟩ := hnew.parts (by omega)
  have hra := reads_old hra hb4
  have hb := below_step hb hb4
  clear hb4 hnew
  go_wp2_with fail
  refine (equal_any _ _ _ _ _ _ _ _ _ _ _ hra hrb).mono ?_
  rintro e w5 ⟨rfl, rfl⟩
  clear hrb
  go_wp2_with fail
  refine (vnwith_any m 4 _ hmb (by omega) hle).mono ?_
  intro e w5 hmade
  obtain ⟨gx, cx, rfl, hra, -, hb5⟩ := hmade.parts (by omega)
  have hb := below_step hb hb5
  clear hb5 hmade
  go_wp2_with fail
  refine (bytes_any m _ _ (by omega) (vnBound_mono m 4 hmb (by omega) hle)).mono ?_
  intro e w6 hnew
  obtain ⟨gb, cb, rfl, hrb, -, hb4⟩ := hnew.parts (by omega)
  have hra := reads_old hra hb4
  have hb := below_step hb hb4
  clear hb4 hnew
  go_wp2_with fail
  refine (equal_any _ _ _ _ _ _ _ _ _ _ _ hra hrb).mono ?_
  rintro e w7 ⟨rfl, rfl⟩
  clear hrb
  have hKK : 1 ≤ 4 ∧ 4 ≤ 8 := by omega
  have hrd := vnBytes_read m (4) (bs.take (20)) (by omega) (by exact vnBound_mono m 4 hmb (by omega) hle)
  have HU := Lib.hid hrd.1
  have HN := Lib.hid hrd.2
  clear hrd hmB
  go_wp2_with fail
  refine (clone_any _ _ _ _ _ _ hra (Nat.le_refl _) (by omega)).mono ?_
  intro e w7 hnew
  obtain ⟨v3, rfl, ho3, hb7⟩ := hnew
  have hsz := hb7.size
  have hb7' := below_step hb hb7
  go_wp2_with (first | (at_builtin; refine wpList_append_any _ rfl (.tmp 88) (.tmp 89) 22 rfl _ 5 i0 _ 1 1 Tryd.underlying22 hi0 hz0 hz1 hz2 rfl (by omega) v3 (4) _ rfl ho3 w.heap.size A (20) c _ rfl (HR.out.below hb7') (bcells_one _) (by simp only [maxLen]; omega) (by omega) hsz ?_; intro v4 w8 ho4 hg4 _))
  have hb8 : Below w.heap.size w w8 := hb7'.grown hg4 hb7'.size (fun j e => Nat.le_trans hb.size (ho3.lt j e).1)
  have hra8 := ((hra.below hb7).grown hg4 hsz (fun j e => (ho3.lt j e).1)).more (Nat.le_trans hsz hg4.size)
  obtain ⟨g4, c4, hv4⟩ := own_form ho4 (by omega)
  rw [hv4] at ho4 ⊢
  rw [bcells_app] at ho4
  have hr8 := Reads.of_own ho4
  clear hra hb hsz hb7 hb7' ho3 hg4 hv4 ho4
  have hra := hra8
  have hb := hb8
  clear hra8 hb8
  go_wp2_with fail
  have hp := vnparse_any _ _ c4 _ _ hr8 t0 t1 v0 v1 (glob_old H0.out hb) (glob_old H1.out hb)
  rw [HU.out, HN.out] at hp
  refine hp.mono ?_
  rintro e w9 ⟨rfl, hb9⟩
  have hra := reads_old hra hb9
  have hb := below_step hb hb9
  clear hb9 hr8 hp
  go_wp2_with fail
  refine (clone_any _ _ _ _ _ _ hra (Nat.le_refl _) (by omega)).mono ?_
  intro e w7 hnew
  obtain ⟨v3, rfl, ho3, hb7⟩ := hnew
  have hsz := hb7.size
  have hb7' := below_step hb hb7
  go_wp2_with (first | (at_builtin; refine wpList_append_any _ rfl (.tmp 97) (.tmp 98) 22 rfl _ 5 i0 _ 1 1 Tryd.underlying22 hi0 hz0 hz1 hz2 rfl (by omega) v3 (4) _ rfl ho3 w.heap.size A (20) c _ rfl (HR.out.below hb7') (bcells_one _) (by simp only [maxLen]; omega) (by omega) hsz ?_; intro v4 w8 ho4 hg4 _))
  have hb8 : Below w.heap.size w w8 := hb7'.grown hg4 hb7'.size (fun j e => Nat.le_trans hb.size (ho3.lt j e).1)
  have hra8 := ((hra.below hb7).grown hg4 hsz (fun j e => (ho3.lt j e).1)).more (Nat.le_trans hsz hg4.size)
  obtain ⟨g4, c4, hv4⟩ := own_form ho4 (by omega)
  rw [hv4] at ho4 ⊢
  rw [bcells_app] at ho4
  have hr8 := Reads.of_own ho4
  clear hra hb hsz hb7 hb7' ho3 hg4 hv4 ho4
  have hra := hra8
  have hb := hb8
  clear hra8 hb8
  go_wp2_with fail
  refine (vnread_any _ _ c4 _ _ hr8 (by omega) t0 v0 (glob_old H0.out hb)).mono ?_
  rintro e w9 ⟨hv, hb9⟩
  have hb := below_step hb hb9
  clear hb9 hr8 hra
  have he : e = .returned (.tuple #[.int .u64 m, .int .i64 (20 : Nat), .bool true]) := by
    rcases hv with ⟨_, rfl⟩ | ⟨h0, _⟩
    · rw [HU.out, HN.out, show 4 + 20 - 4 = 20 from by omega]
    · rw [HU.out] at h0; omega
  subst he
  clear hv
  have HA := Lib.hid (vnawake w9 t0 v0 (glob_old H0.out hb))
  go_wp2_with (first | (go_at_call 5; refine HA.out.mono ?_; rintro e w10 ⟨rfl, hb10⟩))
  go_ret
  exact ⟨rfl, below_step hb hb10⟩

set_option maxHeartbeats 4000000 in
theorem written_le2_n (N : Nat) (m : Nat) (l : Nat) (A : Option Addr) (n c : Nat) (bs : List UInt8) (w : World) (hr : Reads w w.heap.size 1 A n (bcells bs)) (hcap : n ≤ c) (hcap2 : c ≤ 9223372036854775807) (hn : n ≤ 2147483647) (hN : N < 18446744073709551616) (hm : N % 4611686018427387904 = m) (hl : l < 256) (hq : (l : Int) % 4 = 2) (hle : vnLen m ≤ 4) (hk : n ≤ 20) (t0 t1 : TypeId) (v0 v1 : Value)
    (g0 : w.cell? ⟨0, 0, none⟩ = some (.iface t0 v0)) (g1 : w.cell? ⟨1, 0, none⟩ = some (.iface t1 v1)) :
    Calls Tryd.prog 4 #[.int .u64 N, .int .u8 l, .slice A n c] w fun e w' => e = .returned (.bool true) ∧ Below w.heap.size w w' := by
  obtain ⟨i0, hi0, hz0, hz1, hz2⟩ := info_parts info5
  have hA := u64_and62 N hN
  rw [hm] at hA
  have hmb : m < 4611686018427387904 := by omega
  obtain ⟨hK, hmB⟩ := vnLen_ok m hmb
  have hKp : 1 ≤ vnLen m ∧ vnLen m ≤ 8 := by omega
  have HR := Lib.hid (hr.take (k := n) (by omega))
  have H0 := Lib.hid g0
  have H1 := Lib.hid g1
  have HK := Lib.hid hK
  clear hr g0 g1 hm hK
  go_enter Tryd.func4, Tryd.ntmps4
  go_wp2_with fail
  refine (vnlen_any m _ hmb).mono ?_
  rintro e w1 ⟨rfl, hb1⟩
  go_wp2_with fail
  refine (vnappend_any m _ hmb).mono ?_
  intro e w2 hmade
  obtain ⟨ga, ca, rfl, hra, -, hb2⟩ := hmade.parts (by omega)
  clear hmade
  have hb := below_step hb1 hb2
  clear hb1 hb2
  go_wp2_with fail
  refine (vnlen2_any m _ hmb).mono ?_
  rintro e w3 ⟨rfl, hb3⟩
  have hra := reads_old hra hb3
  have hb := below_step hb hb3
  clear hb3
  go_wp2_with fail
  refine (bytes_any m _ _ HK.out hmB).mono ?_
  intro e w4 hnew
  obtain ⟨gb, cb, rfl, hrb, -, hb4⟩ := hnew.parts (by omega)
  have hra := reads_old hra hb4
  have hb := below_step hb hb4
  clear hb4 hnew
  go_wp2_with fail
  refine (equal_any _ _ _ _ _ _ _ _ _ _ _ hra hrb).mono ?_
  rintro e w5 ⟨rfl, rfl⟩
  clear hrb
  go_wp2_with fail
  refine (vnwith_any m 4 _ hmb (by omega) hle).mono ?_
  intro e w5 hmade
  obtain ⟨gx, cx, rfl, hra, -, hb5⟩ := hmade.parts (by omega)
  have hb := below_step hb hb5
  clear hb5 hmade
  go_wp2_with fail
  refine (bytes_any m _ _ (by omega) (vnBound_mono m 4 hmb (by omega) hle)).mono ?_
  intro e w6 hnew
  obtain ⟨gb, cb, rfl, hrb, -, hb4⟩ := hnew.parts (by omega)
  have hra := reads_old hra hb4
  have hb := below_step hb hb4
  clear hb4 hnew
  go_wp2_with fail
  refine (equal_any _ _ _ _ _ _ _ _ _ _ _ hra hrb).mono ?_
  rintro e w7 ⟨rfl, rfl⟩
  clear hrb
  have hKK : 1 ≤ 4 ∧ 4 ≤ 8 := by omega
  have hrd := vnBytes_read m (4) (bs.take (n)) (by omega) (by exact vnBound_mono m 4 hmb (by omega) hle)
  have HU := Lib.hid hrd.1
  have HN := Lib.hid hrd.2
  clear hrd hmB
  go_wp2_with fail
  refine (clone_any _ _ _ _ _ _ hra (Nat.le_refl _) (by omega)).mono ?_
  intro e w7 hnew
  obtain ⟨v3, rfl, ho3, hb7⟩ := hnew
  have hsz := hb7.size
  have hb7' := below_step hb hb7
  go_wp2_with (first | (at_builtin; refine wpList_append_any _ rfl (.tmp 88) (.tmp 89) 22 rfl _ 5 i0 _ 1 1 Tryd.underlying22 hi0 hz0 hz1 hz2 rfl (by omega) v3 (4) _ rfl ho3 w.heap.size A (n) c _ rfl (HR.out.below hb7') (bcells_one _) (by simp only [maxLen]; omega) (by omega) hsz ?_; intro v4 w8 ho4 hg4 _))
  have hb8 : Below w.heap.size w w8 := hb7'.grown hg4 hb7'.size (fun j e => Nat.le_trans hb.size (ho3.lt j e).1)
  have hra8 := ((hra.below hb7).grown hg4 hsz (fun j e => (ho3.lt j e).1)).more (Nat.le_trans hsz hg4.size)
  obtain ⟨g4, c4, hv4⟩ := own_form ho4 (by omega)
  rw [hv4] at ho4 ⊢
  rw [bcells_app] at ho4
  have hr8 := Reads.of_own ho4
  clear hra hb hsz hb7 hb7' ho3 hg4 hv4 ho4
  have hra := hra8
  have hb := hb8
  clear hra8 hb8
  go_wp2_with fail
  have hp := vnparse_any _ _ c4 _ _ hr8 t0 t1 v0 v1 (glob_old H0.out hb) (glob_old H1.out hb)
  rw [HU.out, HN.out] at hp
  refine hp.mono ?_
  rintro e w9 ⟨rfl, hb9⟩
  have hra := reads_old hra hb9
  have hb := below_step hb hb9
  clear hb9 hr8 hp
  go_wp2_with fail
  refine (clone_any _ _ _ _ _ _ hra (Nat.le_refl _) (by omega)).mono ?_
  intro e w7 hnew
  obtain ⟨v3, rfl, ho3, hb7⟩ := hnew
  have hsz := hb7.size
  have hb7' := below_step hb hb7
  go_wp2_with (first | (at_builtin; refine wpList_append_any _ rfl (.tmp 97) (.tmp 98) 22 rfl _ 5 i0 _ 1 1 Tryd.underlying22 hi0 hz0 hz1 hz2 rfl (by omega) v3 (4) _ rfl ho3 w.heap.size A (n) c _ rfl (HR.out.below hb7') (bcells_one _) (by simp only [maxLen]; omega) (by omega) hsz ?_; intro v4 w8 ho4 hg4 _))
  have hb8 : Below w.heap.size w w8 := hb7'.grown hg4 hb7'.size (fun j e => Nat.le_trans hb.size (ho3.lt j e).1)
  have hra8 := ((hra.below hb7).grown hg4 hsz (fun j e => (ho3.lt j e).1)).more (Nat.le_trans hsz hg4.size)
  obtain ⟨g4, c4, hv4⟩ := own_form ho4 (by omega)
  rw [hv4] at ho4 ⊢
  rw [bcells_app] at ho4
  have hr8 := Reads.of_own ho4
  clear hra hb hsz hb7 hb7' ho3 hg4 hv4 ho4
  have hra := hra8
  have hb := hb8
  clear hra8 hb8
  go_wp2_with fail
  refine (vnread_any _ _ c4 _ _ hr8 (by omega) t0 v0 (glob_old H0.out hb)).mono ?_
  rintro e w9 ⟨hv, hb9⟩
  have hb := below_step hb hb9
  clear hb9 hr8 hra
  have he : e = .returned (.tuple #[.int .u64 m, .int .i64 (n : Nat), .bool true]) := by
    rcases hv with ⟨_, rfl⟩ | ⟨h0, _⟩
    · rw [HU.out, HN.out, show 4 + n - 4 = n from by omega]
    · rw [HU.out] at h0; omega
  subst he
  clear hv
  have HA := Lib.hid (vnawake w9 t0 v0 (glob_old H0.out hb))
  go_wp2_with (first | (go_at_call 5; refine HA.out.mono ?_; rintro e w10 ⟨rfl, hb10⟩))
  go_ret
  exact ⟨rfl, below_step hb hb10⟩

set_option maxHeartbeats 4000000 in
theorem written_gt2_20 (N : Nat) (m : Nat) (l : Nat) (A : Option Addr) (n c : Nat) (bs : List UInt8) (w : World) (hr : Reads w w.heap.size 1 A n (bcells bs)) (hcap : n ≤ c) (hcap2 : c ≤ 9223372036854775807) (hn : n ≤ 2147483647) (hN : N < 18446744073709551616) (hm : N % 4611686018427387904 = m) (hl : l < 256) (hq : (l : Int) % 4 = 2) (hle : 4 < vnLen m) (hk : 20 < n) (t0 t1 : TypeId) (v0 v1 : Value)
    (g0 : w.cell? ⟨0, 0, none⟩ = some (.iface t0 v0)) (g1 : w.cell? ⟨1, 0, none⟩ = some (.iface t1 v1)) :
    Calls Tryd.prog 4 #[.int .u64 N, .int .u8 l, .slice A n c] w fun e w' => e = .returned (.bool true) ∧ Below w.heap.size w w' := by
  obtain ⟨i0, hi0, hz0, hz1, hz2⟩ := info_parts info5
  have hA := u64_and62 N hN
  rw [hm] at hA
  have hmb : m < 4611686018427387904 := by omega
  obtain ⟨hK, hmB⟩ := vnLen_ok m hmb
  have hKp : 1 ≤ vnLen m ∧ vnLen m ≤ 8 := by omega
  have HR := Lib.hid (hr.take (k := 20) (by omega))
  have H0 := Lib.hid g0
  have H1 := Lib.hid g1
  have HK := Lib.hid hK
  clear hr g0 g1 hm hK
  go_enter Tryd.func4, Tryd.ntmps4
  go_wp2_with fail
  refine (vnlen_any m _ hmb).mono ?_
  rintro e w1 ⟨rfl, hb1⟩
  go_wp2_with fail
  refine (vnappend_any m _ hmb).mono ?_
  intro e w2 hmade
  obtain ⟨ga, ca, rfl, hra, -, hb2⟩ := hmade.parts (by omega)
  clear hmade
  have hb := below_step hb1 hb2
  clear hb1 hb2
  go_wp2_with fail
  refine (vnlen2_any m _ hmb).mono ?_
  rintro e w3 ⟨rfl, hb3⟩
  have hra := reads_old hra hb3
  have hb := below_step hb hb3
  clear hb3
  go_wp2_with fail
  refine (bytes_any m _ _ HK.out hmB).mono ?_
  intro e w4 hnew
  obtain ⟨gb, cb, rfl, hrb, -, hb4⟩ := hnew.parts (by omega)
  have hra := reads_old hra hb4
  have hb := below_step hb hb4
  clear hb4 hnew
  go_wp2_with fail
  refine (equal_any _ _ _ _ _ _ _ _ _ _ _ hra hrb).mono ?_
  rintro e w5 ⟨rfl, rfl⟩
  clear hrb
  have hKK : 1 ≤ vnLen m ∧ vnLen m ≤ 8 := by omega
  have hrd := vnBytes_read m (vnLen m) (bs.take (20)) (by exact HK.out) (by exact hmB)
  have HU := Lib.hid hrd.1
  have HN := Lib.hid hrd.2
  clear hrd hmB
  go_wp2_with fail
  refine (clone_any _ _ _ _ _ _ hra (Nat.le_refl _) (by omega)).mono ?_
  intro e w7 hnew
  obtain ⟨v3, rfl, ho3, hb7⟩ := hnew
  have hsz := hb7.size
  have hb7' := below_step hb hb7
  go_wp2_with (first | (at_builtin; refine wpList_append_any _ rfl (.tmp 88) (.tmp 89) 22 rfl _ 5 i0 _ 1 1 Tryd.underlying22 hi0 hz0 hz1 hz2 rfl (by omega) v3 (vnLen m) _ rfl ho3 w.heap.size A (20) c _ rfl (HR.out.below hb7') (bcells_one _) (by simp only [maxLen]; omega) (by omega) hsz ?_; intro v4 w8 ho4 hg4 _))
  have hb8 : Below w.heap.size w w8 := hb7'.grown hg4 hb7'.size (fun j e => Nat.le_trans hb.size (ho3.lt j e).1)
  have hra8 := ((hra.below hb7).grown hg4 hsz (fun j e => (ho3.lt j e).1)).more (Nat.le_trans hsz hg4.size)
  obtain ⟨g4, c4, hv4⟩ := own_form ho4 (by omega)
  rw [hv4] at ho4 ⊢
  rw [bcells_app] at ho4
  have hr8 := Reads.of_own ho4
  clear hra hb hsz hb7 hb7' ho3 hg4 hv4 ho4
  have hra := hra8
  have hb := hb8
  clear hra8 hb8
  go_wp2_with fail
  have hp := vnparse_any _ _ c4 _ _ hr8 t0 t1 v0 v1 (glob_old H0.out hb) (glob_old H1.out hb)
  rw [HU.out, HN.out] at hp
  refine hp.mono ?_
  rintro e w9 ⟨rfl, hb9⟩
  have hra := reads_old hra hb9
  have hb := below_step hb hb9
  clear hb9 hr8 hp
  go_wp2_with fail
  refine (clone_any _ _ _ _ _ _ hra (Nat.le_refl _) (by omega)).mono ?_
  intro e w7 hnew
  obtain ⟨v3, rfl, ho3, hb7⟩ := hnew
  have hsz := hb7.size
  have hb7' := below_step hb hb7
  go_wp2_with (first | (at_builtin; refine wpList_append_any _ rfl (.tmp 97) (.tmp 98) 22 rfl _ 5 i0 _ 1 1 Tryd.underlying22 hi0 hz0 hz1 hz2 rfl (by omega) v3 (vnLen m) _ rfl ho3 w.heap.size A (20) c _ rfl (HR.out.below hb7') (bcells_one _) (by simp only [maxLen]; omega) (by omega) hsz ?_; intro v4 w8 ho4 hg4 _))
  have hb8 : Below w.heap.size w w8 := hb7'.grown hg4 hb7'.size (fun j e => Nat.le_trans hb.size (ho3.lt j e).1)
  have hra8 := ((hra.below hb7).grown hg4 hsz (fun j e => (ho3.lt j e).1)).more (Nat.le_trans hsz hg4.size)
  obtain ⟨g4, c4, hv4⟩ := own_form ho4 (by omega)
  rw [hv4] at ho4 ⊢
  rw [bcells_app] at ho4
  have hr8 := Reads.of_own ho4
  clear hra hb hsz hb7 hb7' ho3 hg4 hv4 ho4
  have hra := hra8
  have hb := hb8
  clear hra8 hb8
  go_wp2_with fail
  refine (vnread_any _ _ c4 _ _ hr8 (by omega) t0 v0 (glob_old H0.out hb)).mono ?_
  rintro e w9 ⟨hv, hb9⟩
  have hb := below_step hb hb9
  clear hb9 hr8 hra
  have he : e = .returned (.tuple #[.int .u64 m, .int .i64 (20 : Nat), .bool true]) := by
    rcases hv with ⟨_, rfl⟩ | ⟨h0, _⟩
    · rw [HU.out, HN.out, show vnLen m + 20 - vnLen m = 20 from by omega]
    · rw [HU.out] at h0; omega
  subst he
  clear hv
  have HA := Lib.hid (vnawake w9 t0 v0 (glob_old H0.out hb))
  go_wp2_with (first | (go_at_call 5; refine HA.out.mono ?_; rintro e w10 ⟨rfl, hb10⟩))
  go_ret
  exact ⟨rfl, below_step hb hb10⟩

set_option maxHeartbeats 4000000 in
theorem written_gt2_n (N : Nat) (m : Nat) (l : Nat) (A : Option Addr) (n c : Nat) (bs : List UInt8) (w : World) (hr : Reads w w.heap.size 1 A n (bcells bs)) (hcap : n ≤ c) (hcap2 : c ≤ 9223372036854775807) (hn : n ≤ 2147483647) (hN : N < 18446744073709551616) (hm : N % 4611686018427387904 = m) (hl : l < 256) (hq : (l : Int) % 4 = 2) (hle : 4 < vnLen m) (hk : n ≤ 20) (t0 t1 : TypeId) (v0 v1 : Value)
    (g0 : w.cell? ⟨0, 0, none⟩ = some (.iface t0 v0)) (g1 : w.cell? ⟨1, 0, none⟩ = some (.iface t1 v1)) :
    Calls Tryd.prog 4 #[.int .u64 N, .int .u8 l, .slice A n c] w fun e w' => e = .returned (.bool true) ∧ Below w.heap.size w w' := by
  obtain ⟨i0, hi0, hz0, hz1, hz2⟩ := info_parts info5
  have hA := u64_and62 N hN
  rw [hm] at hA
  have hmb : m < 4611686018427387904 := by omega
  obtain ⟨hK, hmB⟩ := vnLen_ok m hmb
  have hKp : 1 ≤ vnLen m ∧ vnLen m ≤ 8 := by omega
  have HR := Lib.hid (hr.take (k := n) (by omega))
  have H0 := Lib.hid g0
  have H1 := Lib.hid g1
  have HK := Lib.hid hK
  clear hr g0 g1 hm hK
  go_enter Tryd.func4, Tryd.ntmps4
  go_wp2_with fail
  refine (vnlen_any m _ hmb).mono ?_
  rintro e w1 ⟨rfl, hb1⟩
  go_wp2_with fail
  refine (vnappend_any m _ hmb).mono ?_
  intro e w2 hmade
  obtain ⟨ga, ca, rfl, hra, -, hb2⟩ := hmade.parts (by omega)
  clear hmade
  have hb := below_step hb1 hb2
  clear hb1 hb2
  go_wp2_with fail
  refine (vnlen2_any m _ hmb).mono ?_
  rintro e w3 ⟨rfl, hb3⟩
  have hra := reads_old hra hb3
  have hb := below_step hb hb3
  clear hb3
  go_wp2_with fail
  refine (bytes_any m _ _ HK.out hmB).mono ?_
  intro e w4 hnew
  obtain ⟨gb, cb, rfl, hrb, -, hb4⟩ := hnew.parts (by omega)
  have hra := reads_old hra hb4
  have hb := below_step hb hb4
  clear hb4 hnew
  go_wp2_with fail
  refine (equal_any _ _ _ _ _ _ _ _ _ _ _ hra hrb).mono ?_
  rintro e w5 ⟨rfl, rfl⟩
  clear hrb
  have hKK : 1 ≤ vnLen m ∧ vnLen m ≤ 8 := by omega
  have hrd := vnBytes_read m (vnLen m) (bs.take (n)) (by exact HK.out) (by exact hmB)
  have HU := Lib.hid hrd.1
  have HN := Lib.hid hrd.2
  clear hrd hmB
  go_wp2_with fail
  refine (clone_any _ _ _ _ _ _ hra (Nat.le_refl _) (by omega)).mono ?_
  intro e w7 hnew
  obtain ⟨v3, rfl, ho3, hb7⟩ := hnew
  have hsz := hb7.size
  have hb7' := below_step hb hb7
  go_wp2_with (first | (at_builtin; refine wpList_append_any _ rfl (.tmp 88) (.tmp 89) 22 rfl _ 5 i0 _ 1 1 Tryd.underlying22 hi0 hz0 hz1 hz2 rfl (by omega) v3 (vnLen m) _ rfl ho3 w.heap.size A (n) c _ rfl (HR.out.below hb7') (bcells_one _) (by simp only [maxLen]; omega) (by omega) hsz ?_; intro v4 w8 ho4 hg4 _))
  have hb8 : Below w.heap.size w w8 := hb7'.grown hg4 hb7'.size (fun j e => Nat.le_trans hb.size (ho3.lt j e).1)
  have hra8 := ((hra.below hb7).grown hg4 hsz (fun j e => (ho3.lt j e).1)).more (Nat.le_trans hsz hg4.size)
  obtain ⟨g4, c4, hv4⟩ := own_form ho4 (by omega)
  rw [hv4] at ho4 ⊢
  rw [bcells_app] at ho4
  have hr8 := Reads.of_own ho4
  clear hra hb hsz hb7 hb7' ho3 hg4 hv4 ho4
  have hra := hra8
  have hb := hb8
  clear hra8 hb8
  go_wp2_with fail
  have hp := vnparse_any _ _ c4 _ _ hr8 t0 t1 v0 v1 (glob_old H0.out hb) (glob_old H1.out hb)
  rw [HU.out, HN.out] at hp
  refine hp.mono ?_
  rintro e w9 ⟨rfl, hb9⟩
  have hra := reads_old hra hb9
  have hb := below_step hb hb9
  clear hb9 hr8 hp
  go_wp2_with fail
  refine (clone_any _ _ _ _ _ _ hra (Nat.le_refl _) (by omega)).mono ?_
  intro e w7 hnew
  obtain ⟨v3, rfl, ho3, hb7⟩ := hnew
  have hsz := hb7.size
  have hb7' := below_step hb hb7
  go_wp2_with (first | (at_builtin; refine wpList_append_any _ rfl (.tmp 97) (.tmp 98) 22 rfl _ 5 i0 _ 1 1 Tryd.underlying22 hi0 hz0 hz1 hz2 rfl (by omega) v3 (vnLen m) _ rfl ho3 w.heap.size A (n) c _ rfl (HR.out.below hb7') (bcells_one _) (by simp only [maxLen]; omega) (by omega) hsz ?_; intro v4 w8 ho4 hg4 _))
  have hb8 : Below w.heap.size w w8 := hb7'.grown hg4 hb7'.size (fun j e => Nat.le_trans hb.size (ho3.lt j e).1)
  have hra8 := ((hra.below hb7).grown hg4 hsz (fun j e => (ho3.lt j e).1)).more (Nat.le_trans hsz hg4.size)
  obtain ⟨g4, c4, hv4⟩ := own_form ho4 (by omega)
  rw [hv4] at ho4 ⊢
  rw [bcells_app] at ho4
  have hr8 := Reads.of_own ho4
  clear hra hb hsz hb7 hb7' ho3 hg4 hv4 ho4
  have hra := hra8
  have hb := hb8
  clear hra8 hb8
  go_wp2_with fail
  refine (vnread_any _ _ c4 _ _ hr8 (by omega) t0 v0 (glob_old H0.out hb)).mono ?_
  rintro e w9 ⟨hv, hb9⟩
  have hb := below_step hb hb9
  clear hb9 hr8 hra
  have he : e = .returned (.tuple #[.int .u64 m, .int .i64 (n : Nat), .bool true]) := by
    rcases hv with ⟨_, rfl⟩ | ⟨h0, _⟩
    · rw [HU.out, HN.out, show vnLen m + n - vnLen m = n from by omega]
    · rw [HU.out] at h0; omega
  subst he
  clear hv
  have HA := Lib.hid (vnawake w9 t0 v0 (glob_old H0.out hb))
  go_wp2_with (first | (go_at_call 5; refine HA.out.mono ?_; rintro e w10 ⟨rfl, hb10⟩))
  go_ret
  exact ⟨rfl, below_step hb hb10⟩

set_option maxHeartbeats 4000000 in
theorem written_le3_20 (N : Nat) (m : Nat) (l : Nat) (A : Option Addr) (n c : Nat) (bs : List UInt8) (w : World) (hr : Reads w w.heap.size 1 A n (bcells bs)) (hcap : n ≤ c) (hcap2 : c ≤ 9223372036854775807) (hn : n ≤ 2147483647) (hN : N < 18446744073709551616) (hm : N % 4611686018427387904 = m) (hl : l < 256) (hq : (l : Int) % 4 = 3) (hle : vnLen m ≤ 8) (hk : 20 < n) (t0 t1 : TypeId) (v0 v1 : Value)
    (g0 : w.cell? ⟨0, 0, none⟩ = some (.iface t0 v0)) (g1 : w.cell? ⟨1, 0, none⟩ = some (.iface t1 v1)) :
    Calls Tryd.prog 4 #[.int .u64 N, .int .u8 l, .slice A n c] w fun e w' => e = .returned (.bool true) ∧ Below w.heap.size w w' := by
  obtain ⟨i0, hi0, hz0, hz1, hz2⟩ := info_parts info5
  have hA := u64_and62 N hN
  rw [hm] at hA
  have hmb : m < 4611686018427387904 := by omega
  obtain ⟨hK, hmB⟩ := vnLen_ok m hmb
  have hKp : 1 ≤ vnLen m ∧ vnLen m ≤ 8 := by omega
  have HR := Lib.hid (hr.take (k := 20) (by omega))
  have H0 := Lib.hid g0
  have H1 := Lib.hid g1
  have HK := Lib.hid hK
  clear hr g0 g1 hm hK
  go_enter Tryd.func4, Tryd.ntmps4
  go_wp2_with fail
  refine (vnlen_any m _ hmb).mono ?_
  rintro e w1 ⟨rfl, hb1⟩
  go_wp2_with fail
  refine (vnappend_any m _ hmb).mono ?_
  intro e w2 hmade
  obtain ⟨ga, ca, rfl, hra, -, hb2⟩ := hmade.parts (by omega)
  clear hmade
  have hb := below_step hb1 hb2
  clear hb1 hb2
  go_wp2_with fail
  refine (vnlen2_any m _ hmb).mono ?_
  rintro e w3 ⟨rfl, hb3⟩
  have hra := reads_old hra hb3
  have hb := below_step hb hb3
  clear hb3
  go_wp2_with fail
  refine (bytes_any m _ _ HK.out hmB).mono ?_
  intro e w4 hnew
  obtain ⟨gb, cb, rfl, hrb, -, hb4⟩ := hnew.parts (by omega)
  have hra := reads_old hra hb4
  have hb := below_step hb hb4
  clear hb4 hnew
  go_wp2_with fail
  refine (equal_any _ _ _ _ _ _ _ _ _ _ _ hra hrb).mono ?_
  rintro e w5 ⟨rfl, rfl⟩
  clear hrb
  go_wp2_with fail
  refine (vnwith_any m 8 _ hmb (by omega) hle).mono ?_
  intro e w5 hmade
  obtain ⟨gx, cx, rfl, hra, -, hb5⟩ := hmade.parts (by omega)
  have hb := below_step hb hb5
  clear hb5 hmade
  go_wp2_with fail
  refine (bytes_any m _ _ (by omega) (vnBound_mono m 8 hmb (by omega) hle)).mono ?_
  intro e w6 hnew
  obtain ⟨gb, cb, rfl, hrb, -, hb4⟩ := hnew.parts (by omega)
  have hra := reads_old hra hb4
  have hb := below_step hb hb4
  clear hb4 hnew
  go_wp2_with fail
  refine (equal_any _ _ _ _ _ _ _ _ _ _ _ hra hrb).mono ?_
  rintro e w7 ⟨rfl, rfl⟩
  clear hrb
  have hKK : 1 ≤ 8 ∧ 8 ≤ 8 := by omega
  have hrd := vnBytes_read m (8) (bs.take (20)) (by omega) (by exact vnBound_mono m 8 hmb (by omega) hle)
  have HU := Lib.hid hrd.1
  have HN := Lib.hid hrd.2
  clear hrd hmB
  go_wp2_with fail
  refine (clone_any _ _ _ _ _ _ hra (Nat.le_refl _) (by omega)).mono ?_
  intro e w7 hnew
  obtain ⟨v3, rfl, ho3, hb7⟩ := hnew
  have hsz := hb7.size
  have hb7' := below_step hb hb7
  go_wp2_with (first | (at_builtin; refine wpList_append_any _ rfl (.tmp 88) (.tmp 89) 22 rfl _ 5 i0 _ 1 1 Tryd.underlying22 hi0 hz0 hz1 hz2 rfl (by omega) v3 (8) _ rfl ho3 w.heap.size A (20) c _ rfl (HR.out.below hb7') (bcells_one _) (by simp only [maxLen]; omega) (by omega) hsz ?_; intro v4 w8 ho4 hg4 _))
  have hb8 : Below w.heap.size w w8 := hb7'.grown hg4 hb7'.size (fun j e => Nat.le_trans hb.size (ho3.lt j e).1)
  have hra8 := ((hra.below hb7).grown hg4 hsz (fun j e => (ho3.lt j e).1)).more (Nat.le_trans hsz hg4.size)
  obtain ⟨g4, c4, hv4⟩ := own_form ho4 (by omega)
  rw [hv4] at ho4 ⊢
  rw [bcells_app] at ho4
  have hr8 := Reads.of_own ho4
  clear hra hb hsz hb7 hb7' ho3 hg4 hv4 ho4
  have hra := hra8
  have hb := hb8
  clear hra8 hb8
  go_wp2_with fail
  have hp := vnparse_any _ _ c4 _ _ hr8 t0 t1 v0 v1 (glob_old H0.out hb) (glob_old H1.out hb)
  rw [HU.out, HN.out] at hp
  refine hp.mono ?_
  rintro e w9 ⟨rfl, hb9⟩
  have hra := reads_old hra hb9
  have hb := below_step hb hb9
  clear hb9 hr8 hp
  go_wp2_with fail
  refine (clone_any _ _ _ _ _ _ hra (Nat.le_refl _) (by omega)).mono ?_
  intro e w7 hnew
  obtain ⟨v3, rfl, ho3, hb7⟩ := hnew
  have hsz := hb7.size
  have hb7' := below_step hb hb7
  go_wp2_with (first | (at_builtin; refine wpList_append_any _ rfl (.tmp 97) (.tmp 98) 22 rfl _ 5 i0 _ 1 1 Tryd.underlying22 hi0 hz0 hz1 hz2 rfl (by omega) v3 (8) _ rfl ho3 w.heap.size A (20) c _ rfl (HR.out.below hb7') (bcells_one _) (by simp only [maxLen]; omega) (by omega) hsz ?_; intro v4 w8 ho4 hg4 _))
  have hb8 : Below w.heap.size w w8 := hb7'.grown hg4 hb7'.size (fun j e => Nat.le_trans hb.size (ho3.lt j e).1)
  have hra8 := ((hra.below hb7).grown hg4 hsz (fun j e => (ho3.lt j e).1)).more (Nat.le_trans hsz hg4.size)
  obtain ⟨g4, c4, hv4⟩ := own_form ho4 (by omega)
  rw [hv4] at ho4 ⊢
  rw [bcells_app] at ho4
  have hr8 := Reads.of_own ho4
  clear hra hb hsz hb7 hb7' ho3 hg4 hv4 ho4
  have hra := hra8
  have hb := hb8
  clear hra8 hb8
  go_wp2_with fail
  refine (vnread_any _ _ c4 _ _ hr8 (by omega) t0 v0 (glob_old H0.out hb)).mono ?_
  rintro e w9 ⟨hv, hb9⟩
  have hb := below_step hb hb9
  clear hb9 hr8 hra
  have he : e = .returned (.tuple #[.int .u64 m, .int .i64 (20 : Nat), .bool true]) := by
    rcases hv with ⟨_, rfl⟩ | ⟨h0, _⟩
    · rw [HU.out, HN.out, show 8 + 20 - 8 = 20 from by omega]
    · rw [HU.out] at h0; omega
  subst he
  clear hv
  have HA := Lib.hid (vnawake w9 t0 v0 (glob_old H0.out hb))
  go_wp2_with (first | (go_at_call 5; refine HA.out.mono ?_; rintro e w10 ⟨rfl, hb10⟩))
  go_ret
  exact ⟨rfl, below_step hb hb10⟩

set_option maxHeartbeats 4000000 in
theorem written_le3_n (N : Nat) (m : Nat) (l : Nat) (A : Option Addr) (n c : Nat) (bs : List UInt8) (w : World) (hr : Reads w w.heap.size 1 A n (bcells bs)) (hcap : n ≤ c) (hcap2 : c ≤ 9223372036854775807) (hn : n ≤ 2147483647) (hN : N < 18446744073709551616) (hm : N % 4611686018427387904 = m) (hl : l < 256) (hq : (l : Int) % 4 = 3) (hle : vnLen m ≤ 8) (hk : n ≤ 20) (t0 t1 : TypeId) (v0 v1 : Value)
    (g0 : w.cell? ⟨0, 0, none⟩ = some (.iface t0 v0)) (g1 : w.cell? ⟨1, 0, none⟩ = some (.iface t1 v1)) :
    Calls Tryd.prog 4 #[.int .u64 N, .int .u8 l, .slice A n c] w fun e w' => e = .returned (.bool true) ∧ Below w.heap.size w w' := by
  obtain ⟨i0, hi0, hz0, hz1, hz2⟩ := info_parts info5
  have hA := u64_and62 N hN
  rw [hm] at hA
  have hmb : m < 4611686018427387904 := by omega
  obtain ⟨hK, hmB⟩ := vnLen_ok m hmb
  have hKp : 1 ≤ vnLen m ∧ vnLen m ≤ 8 := by omega
  have HR := Lib.hid (hr.take (k := n) (by omega))
  have H0 := Lib.hid g0
  have H1 := Lib.hid g1
  have HK := Lib.hid hK
  clear hr g0 g1 hm hK
  go_enter Tryd.func4, Tryd.ntmps4
  go_wp2_with fail
  refine (vnlen_any m _ hmb).mono ?_
  rintro e w1 ⟨rfl, hb1⟩
  go_wp2_with fail
  refine (vnappend_any m _ hmb).mono ?_
  intro e w2 hmade
  obtain ⟨ga, ca, rfl, hra, -, hb2⟩ := hmade.parts (by omega)
  clear hmade
  have hb := below_step hb1 hb2
  clear hb1 hb2
  go_wp2_with fail
  refine (vnlen2_any m _ hmb).mono ?_
  rintro e w3 ⟨rfl, hb3⟩
  have hra := reads_old hra hb3
  have hb := below_step hb hb3
  clear hb3
  go_wp2_with fail
  refine (bytes_any m _ _ HK.out hmB).mono ?_
  intro e w4 hnew
  obtain ⟨gb, cb, rfl, hrb, -, hb4⟩ := hnew.parts (by omega)
  have hra := reads_old hra hb4
  have hb := below_step hb hb4
  clear hb4 hnew
  go_wp2_with fail
  refine (equal_any _ _ _ _ _ _ _ _ _ _ _ hra hrb).mono ?_
  rintro e w5 ⟨rfl, rfl⟩
  clear hrb
  go_wp2_with fail
  refine (vnwith_any m 8 _ hmb (by omega) hle).mono ?_
  intro e w5 hmade
  obtain ⟨gx, cx, rfl, hra, -, hb5⟩ := hmade.parts (by omega)
  have hb := below_step hb hb5
  clear hb5 hmade
  go_wp2_with fail
  refine (bytes_any m _ _ (by omega) (vnBound_mono m 8 hmb (by omega) hle)).mono ?_
  intro e w6 hnew
  obtain ⟨gb, cb, rfl, hrb, -, hb4⟩ := hnew.parts (by omega)
  have hra := reads_old hra hb4
  have hb := below_step hb hb4
  clear hb4 hnew
  go_wp2_with fail
  refine (equal_any _ _ _ _ _ _ _ _ _ _ _ hra hrb).mono ?_
  rintro e w7 ⟨rfl, rfl⟩
  clear hrb
  have hKK : 1 ≤ 8 ∧ 8 ≤ 8 := by omega
  have hrd := vnBytes_read m (8) (bs.take (n)) (by omega) (by exact vnBound_mono m 8 hmb (by omega) hle)
  have HU := Lib.hid hrd.1
  have HN := Lib.hid hrd.2
  clear hrd hmB
  go_wp2_with fail
  refine (clone_any _ _ _ _ _ _ hra (Nat.le_refl _) (by omega)).mono ?_
  intro e w7 hnew
  obtain ⟨v3, rfl, ho3, hb7⟩ := hnew
  have hsz := hb7.size
  have hb7' := below_step hb hb7
  go_wp2_with (first | (at_builtin; refine wpList_append_any _ rfl (.tmp 88) (.tmp 89) 22 rfl _ 5 i0 _ 1 1 Tryd.underlying22 hi0 hz0 hz1 hz2 rfl (by omega) v3 (8) _ rfl ho3 w.heap.size A (n) c _ rfl (HR.out.below hb7') (bcells_one _) (by simp only [maxLen]; omega) (by omega) hsz ?_; intro v4 w8 ho4 hg4 _))
  have hb8 : Below w.heap.size w w8 := hb7'.grown hg4 hb7'.size (fun j e => Nat.le_trans hb.size (ho3.lt j e).1)
  have hra8 := ((hra.below hb7).grown hg4 hsz (fun j e => (ho3.lt j e).1)).more (Nat.le_trans hsz hg4.size)
  obtain ⟨g4, c4, hv4⟩ := own_form ho4 (by omega)
  rw [hv4] at ho4 ⊢
  rw [bcells_app] at ho4
  have hr8 := Reads.of_own ho4
  clear hra hb hsz hb7 hb7' ho3 hg4 hv4 ho4
  have hra := hra8
  have hb := hb8
  clear hra8 hb8
  go_wp2_with fail
  have hp := vnparse_any _ _ c4 _ _ hr8 t0 t1 v0 v1 (glob_old H0.out hb) (glob_old H1.out hb)
  rw [HU.out, HN.out] at hp
  refine hp.mono ?_
  rintro e w9 ⟨rfl, hb9⟩
  have hra := reads_old hra hb9
  have hb := below_step hb hb9
  clear hb9 hr8 hp
  go_wp2_with fail
  refine (clone_any _ _ _ _ _ _ hra (Nat.le_refl _) (by omega)).mono ?_
  intro e w7 hnew
  obtain ⟨v3, rfl, ho3, hb7⟩ := hnew
  have hsz := hb7.size
  have hb7' := below_step hb hb7
  go_wp2_with (first | (at_builtin; refine wpList_append_any _ rfl (.tmp 97) (.tmp 98) 22 rfl _ 5 i0 _ 1 1 Tryd.underlying22 hi0 hz0 hz1 hz2 rfl (by omega) v3 (8) _ rfl ho3 w.heap.size A (n) c _ rfl (HR.out.below hb7') (bcells_one _) (by simp only [maxLen]; omega) (by omega) hsz ?_; intro v4 w8 ho4 hg4 _))
  have hb8 : Below w.heap.size w w8 := hb7'.grown hg4 hb7'.size (fun j e => Nat.le_trans hb.size (ho3.lt j e).1)
  have hra8 := ((hra.below hb7).grown hg4 hsz (fun j e => (ho3.lt j e).1)).more (Nat.le_trans hsz hg4.size)
  obtain ⟨g4, c4, hv4⟩ := own_form ho4 (by omega)
  rw [hv4] at ho4 ⊢
  rw [bcells_app] at ho4
  have hr8 := Reads.of_own ho4
  clear hra hb hsz hb7 hb7' ho3 hg4 hv4 ho4
  have hra := hra8
  have hb := hb8
  clear hra8 hb8
  go_wp2_with fail
  refine (vnread_any _ _ c4 _ _ hr8 (by omega) t0 v0 (glob_old H0.out hb)).mono ?_
  rintro e w9 ⟨hv, hb9⟩
  have hb := below_step hb hb9
  clear hb9 hr8 hra
  have he : e = .returned (.tuple #[.int .u64 m, .int .i64 (n : Nat), .bool true]) := by
    rcases hv with ⟨_, rfl⟩ | ⟨h0, _⟩
    · rw [HU.out, HN.out, show 8 + n - 8 = n from by omega]
    · rw [HU.out] at h0; omega
  subst he
  clear hv
  have HA := Lib.hid (vnawake w9 t0 v0 (glob_old H0.out hb))
  go_wp2_with (first | (go_at_call 5; refine HA.out.mono ?_; rintro e w10 ⟨rfl, hb10⟩))
  go_ret
  exact ⟨rfl, below_step hb hb10⟩
end Go.Proofs.YtpegafbcfpedoaaDoor
