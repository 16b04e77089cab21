/- laws.hfMade: byte, number. -/
import Derived.Test.YtpegafbcfpedoaaH1
import Derived.Laws.Closers25b
namespace Go.Proofs.Ytpegafbcfpedoaa
open Go.RowKit
set_option linter.unusedVariables false
set_option maxRecDepth 100000

/-- the maker's state: a block that holds what is left of the argument's bytes -/
structure Mk (w : World) (mb K : Nat) : Prop where
  st : ∃ A n c bs, w.cell? ⟨mb, 0, none⟩ = some (.slice A n c) ∧ Reads w K 1 A n (bcells bs) ∧ n ≤ c ∧ n ≤ 2147483647
  fz : w.frozen? ⟨mb, 0, none⟩ = false
  ge : K ≤ mb
  lt : mb < w.heap.size

section
variable {w w' : World} {mb K : Nat}
theorem Mk.below (h : Mk w mb K) (k : Below w.heap.size w w') : Mk w' mb K where
  st := by
    obtain ⟨A, n, c, bs, h1, h2, h3, h4⟩ := h.st
    exact ⟨A, n, c, bs, (k.cell h.lt).trans h1, h2.keep (fun p hp => k.cell (by have := h.ge; have := h.lt; omega)), h3, h4⟩
  fz := (k.frozen h.lt).trans h.fz
  ge := h.ge
  lt := Nat.lt_of_lt_of_le h.lt k.size
theorem Mk.grown {row : Nat} (h : Mk w mb K) (g : w.grownBy w' (some row)) (hr : K ≤ row) (hne : mb ≠ row) : Mk w' mb K where
  st := by
    obtain ⟨A, n, c, bs, h1, h2, h3, h4⟩ := h.st
    exact ⟨A, n, c, bs, g.cell h1 (by simpa using hne), h2.grown g (by have := h.ge; have := h.lt; omega) (fun k hk => by injection hk with hk; omega), h3, h4⟩
  fz := (g.frozen_far ⟨mb, 0, none⟩ h.lt (by simpa using hne)).trans h.fz
  ge := h.ge
  lt := Nat.lt_of_lt_of_le h.lt g.size
theorem Mk.sets {A : Option Addr} {n c : Nat} {bs : List UInt8} (h : Mk w mb K) (hr : Reads w K 1 A n (bcells bs)) (hc : n ≤ c) (hn : n ≤ 2147483647) : Mk (w.setCell ⟨mb, 0, none⟩ (.slice A n c)) mb K where
  st := by
    obtain ⟨A0, n0, c0, bs0, h1, _⟩ := h.st
    exact ⟨A, n, c, bs, World.cell?_setCell_same _ _ _ h1, hr.setCell h.ge _, hc, hn⟩
  fz := by simpa using h.fz
  ge := h.ge
  lt := by simpa using h.lt
theorem grown_set (w : World) (t i : Nat) (v : Value) : w.grownBy (w.setCell ⟨t, i, none⟩ v) (some t) :=
  ⟨rfl, rfl, rfl, by simp, fun k hk hne => Below.heap_setCell w _ v k (fun e => hne (by rw [e]))⟩
theorem grown_refl (w : World) (row : Option Nat) : w.grownBy w row := World.grownBy.refl w row
end

def BytePost (w : World) (mb K : Nat) (e : Ending) (w' : World) : Prop :=
  ∃ c : Nat, c < 256 ∧ e = .returned (.int .i64 (c : Int)) ∧ Mk w' mb K ∧ w.grownBy w' (some mb)

theorem reads_tail {w : World} {K n b o : Nat} {bs : List UInt8} (h : Reads w K 1 (some ⟨b, o, none⟩) n (bcells bs)) (hn : 0 < n) : Reads w K 1 (some ⟨b, o + 1, none⟩) (n - 1) (bcells bs.tail) := by
  obtain ⟨b', o', e, hb, hl, hc⟩ := h.byte hn
  injection e with e
  injection e with e1 e2
  subst e1 e2
  refine ⟨by rw [bcells_length, List.length_tail]; omega, fun h0 => ⟨_, rfl, hb, fun j u hu => ?_⟩⟩
  have hj : j + 1 < bs.length := by
    have := (List.getElem?_eq_some_iff.1 hu).1
    rw [bcells_length, List.length_tail] at this
    omega
  have hu2 : u = .int .u8 ((bs[j + 1]).toNat : Int) := by
    unfold bcells at hu
    rw [List.getElem?_map, List.getElem?_tail, List.getElem?_eq_getElem hj] at hu
    simpa using hu.symm
  rw [Addr.add_lit, hu2, show o + 1 + j = o + (j + 1) by omega]
  exact hc (j + 1) hj
theorem reads_zero (w : World) (K : Nat) (A : Option Addr) : Reads w K 1 A 0 (bcells []) := ⟨by simp [bcells], fun h => absurd h (by omega)⟩

set_option maxHeartbeats 1000000 in
theorem byte_at (mb K : Nat) (w : World) (h : Mk w mb K) : Calls Try.prog 9 #[.pointer (some ⟨mb, 0, none⟩)] w (BytePost w mb K) := by
  have HM := Lib.hid h
  obtain ⟨⟨A, n, c, bs, h1, h2, h3, h4⟩, fz, ge, lt⟩ := h
  rcases Nat.eq_zero_or_pos n with h0 | hn
  · subst h0
    go_enter Try.func9, Try.ntmps9
    go_wp2_with fail
    go_ret
    exact ⟨0, by omega, rfl, HM.out, grown_refl _ _⟩
  · obtain ⟨b, o, rfl, hb, hl, hc⟩ := h2.byte hn
    obtain ⟨x, h00⟩ : ∃ x : UInt8, w.cell? ⟨b, o, none⟩ = some (.int .u8 (x.toNat : Int)) := ⟨_, hc 0 (by omega)⟩
    have hlt : x.toNat < 256 := x.toNat_lt
    have hne : ((n : Int) == 0) = false := by simp; omega
    have hn' : (0 : Int) < (n : Int) := by omega
    have hT := Lib.hid (reads_tail h2 hn)
    have hH := Lib.hid h2
    clear hc hl h2
    by_cases hc1 : c = 1
    · subst hc1
      obtain rfl : n = 1 := by omega
      go_enter Try.func9, Try.ntmps9
      go_wp2_with fail
      go_ret
      exact ⟨_, hlt, rfl, HM.out.sets (reads_zero w K _) (by omega) (by omega), grown_set _ _ _ _⟩
    · go_enter Try.func9, Try.ntmps9
      go_wp2_with fail
      go_ret
      exact ⟨_, hlt, rfl, HM.out.sets hT.out (by omega) (by omega), grown_set _ _ _ _⟩

def NumberPost (w : World) (mb K : Nat) (e : Ending) (w' : World) : Prop :=
  ∃ m : Nat, m < 4611686018427387904 ∧ e = .returned (.int .u64 (m : Int)) ∧ Mk w' mb K ∧ w.grownBy w' (some mb)

/-- in the loop -/
def NumAt (w : World) (mb K : Nat) (n k : Value) (wr : World) : Prop :=
  ∃ (nv : Int) (kv : Nat), n = .int .u64 nv ∧ k = .int .i64 (kv : Int) ∧ 0 ≤ nv ∧ nv ≤ 18446744073709551615 ∧ kv ≤ 8 ∧ Mk wr mb K ∧ w.grownBy wr (some mb)

theorem number_mask (n : Int) (h0 : 0 ≤ n) (h : n ≤ 18446744073709551615) : ∃ m : Nat, m < 4611686018427387904 ∧ bits .and .u64 n 4611686018427387903 = (m : Int) := by
  have e := bits_mask .u64 64 (by decide) wraps_u64 62 (by omega) n h0 (by omega)
  refine ⟨(n % 4611686018427387904).toNat, by omega, ?_⟩
  rw [show (2 ^ 62 - 1 : Int) = 4611686018427387903 by decide] at e
  rw [e]
  omega

theorem below_new (w : World) (o : Obj) : Below w.heap.size w (w.alloc o) := (Below.refl w.heap.size w).alloc (Nat.le_refl _) _

set_option maxHeartbeats 1000000 in
theorem number_at (mb K : Nat) (w : World) (h : Mk w mb K) : Calls Try.prog 10 #[.pointer (some ⟨mb, 0, none⟩)] w (NumberPost w mb K) := by
  have HM := Lib.hid h
  have lt := h.lt
  have ge := h.ge
  clear h
  go_enter Try.func10, Try.ntmps10
  go_wp2_with fail
  refine (byte_at mb K _ (HM.out.below (below_new w _))).mono ?_
  rintro e w1 ⟨c, hc, rfl, hM1, hg1⟩
  have HL : Hid (∃ kk : Nat, kk ≤ 8 ∧ w1.cell? ⟨w.heap.size, c % 5, none⟩ = some (.int .i64 (kk : Int))) := Lib.hid (by
    have hf := fun j => hg1.cell_far ⟨w.heap.size, j, none⟩ (by simp) (by simp; omega)
    rcases (show c % 5 = 0 ∨ c % 5 = 1 ∨ c % 5 = 2 ∨ c % 5 = 3 ∨ c % 5 = 4 by omega) with hr | hr | hr | hr | hr
    all_goals rw [hr, hf]
    · exact ⟨1, by omega, by simp⟩
    · exact ⟨1, by omega, by simp⟩
    · exact ⟨2, by omega, by simp⟩
    · exact ⟨4, by omega, by simp⟩
    · exact ⟨8, by omega, by simp⟩)
  obtain ⟨kk, hk8, hcell⟩ := HL.out
  have HG1 := Lib.hid ((World.grownBy_alloc w (.cells #[.int .i64 1, .int .i64 1, .int .i64 2, .int .i64 4, .int .i64 8] 3) (some mb)).trans hg1)
  have HM1 := Lib.hid hM1
  clear hg1 hM1 HL HM
  have hr5 : c % 5 < 5 := Nat.mod_lt _ (by omega)
  go_wp2_with fail
  go_loopw [3, 4] (fun n k wr => NumAt w mb K n k wr) (fun _ k _ => (intOf k).toNat)
  case atStart => exact ⟨0, kk, rfl, rfl, by omega, by omega, hk8, HM1.out, HG1.out⟩
  case round =>
    obtain ⟨nv, kv, rfl, rfl, n0, n1, k8, hM, hg⟩ := hrel
    have HM := Lib.hid hM
    have HG := Lib.hid hg
    clear hM hg hcell
    have NB := Lib.hid (And.intro n0 n1)
    clear n0 n1
    rcases Nat.eq_zero_or_pos kv with h0 | hk
    · subst h0
      go_wp2_with fail
      go_ret
      obtain ⟨m, hm, e⟩ := number_mask nv NB.out.1 NB.out.2
      exact ⟨m, hm, by rw [← e]; rfl, HM.out, HG.out⟩
    · have hk' : (0 : Int) < (kv : Int) := by omega
      go_wp2_with fail
      refine (byte_at mb K _ HM.out).mono ?_
      rintro e w2 ⟨d, hd, rfl, hM2, hg2⟩
      have HM2 := Lib.hid hM2
      have HG2 := Lib.hid (HG.out.trans hg2)
      clear hM2 hg2
      go_wp2_with fail
      exact ⟨⟨_, kv - 1, rfl, i64_eq (by omega), bits_lo_u64 _ _ _, bits_hi_u64 _ _ _, by omega, HM2.out, HG2.out⟩, by simp [intOf]; omega⟩
end Go.Proofs.Ytpegafbcfpedoaa
