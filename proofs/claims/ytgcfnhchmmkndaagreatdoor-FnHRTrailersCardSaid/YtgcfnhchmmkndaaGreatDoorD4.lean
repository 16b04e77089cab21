/- hrMade.byte. -/
import Derived.Test.YtgcfnhchmmkndaaGreatDoorC3
namespace Go.Proofs.YtgcfnhchmmkndaaGreatDoor
open Go.RowKit
set_option linter.unusedVariables false
set_option maxRecDepth 100000

/-- the maker's state: a block that holds what is left of the argument's bytes -/
structure Mk (w : World) (mb K : Nat) : Prop where
  st : ∃ A n c bs, w.cell? ⟨mb, 0, none⟩ = some (.slice A n c) ∧ Reads w K 1 A n (bcells bs) ∧ n ≤ c ∧ n ≤ 2147483647
  fz : w.frozen? ⟨mb, 0, none⟩ = false
  ge : K ≤ mb
  lt : mb < w.heap.size

section
variable {w w' : World} {mb K : Nat}
theorem Mk.below (h : Mk w mb K) (k : Below w.heap.size w w') : Mk w' mb K where
  st := by
    obtain ⟨A, n, c, bs, h1, h2, h3, h4⟩ := h.st
    exact ⟨A, n, c, bs, (k.cell h.lt).trans h1, h2.keep (fun p hp => k.cell (by have := h.ge; have := h.lt; omega)), h3, h4⟩
  fz := (k.frozen h.lt).trans h.fz
  ge := h.ge
  lt := Nat.lt_of_lt_of_le h.lt k.size
theorem Mk.grown {row : Nat} (h : Mk w mb K) (g : w.grownBy w' (some row)) (hr : K ≤ row) (hne : mb ≠ row) : Mk w' mb K where
  st := by
    obtain ⟨A, n, c, bs, h1, h2, h3, h4⟩ := h.st
    exact ⟨A, n, c, bs, g.cell h1 (by simpa using hne), h2.grown g (by have := h.ge; have := h.lt; omega) (fun k hk => by injection hk with hk; omega), h3, h4⟩
  fz := (g.frozen_far ⟨mb, 0, none⟩ h.lt (by simpa using hne)).trans h.fz
  ge := h.ge
  lt := Nat.lt_of_lt_of_le h.lt g.size
theorem Mk.sets {A : Option Addr} {n c : Nat} {bs : List UInt8} (h : Mk w mb K) (hr : Reads w K 1 A n (bcells bs)) (hc : n ≤ c) (hn : n ≤ 2147483647) : Mk (w.setCell ⟨mb, 0, none⟩ (.slice A n c)) mb K where
  st := by
    obtain ⟨A0, n0, c0, bs0, h1, _⟩ := h.st
    exact ⟨A, n, c, bs, World.cell?_setCell_same _ _ _ h1, hr.setCell h.ge _, hc, hn⟩
  fz := by simpa using h.fz
  ge := h.ge
  lt := by simpa using h.lt
theorem grown_refl (w : World) (row : Option Nat) : w.grownBy w row := World.grownBy.refl w row
end

def BytePost (w : World) (mb K : Nat) (e : Ending) (w' : World) : Prop :=
  ∃ c : Nat, c < 256 ∧ e = .returned (.int .i64 (c : Int)) ∧ Mk w' mb K ∧ w.grownBy w' (some mb)

theorem reads_tail {w : World} {K n b o : Nat} {bs : List UInt8} (h : Reads w K 1 (some ⟨b, o, none⟩) n (bcells bs)) (hn : 0 < n) : Reads w K 1 (some ⟨b, o + 1, none⟩) (n - 1) (bcells bs.tail) := by
  obtain ⟨b', o', e, hb, hl, hc⟩ := h.byte hn
  injection e with e
  injection e with e1 e2
  subst e1 e2
  refine ⟨by rw [bcells_length, List.length_tail]; omega, fun h0 => ⟨_, rfl, hb, fun j u hu => ?_⟩⟩
  have hj : j + 1 < bs.length := by
    have := (List.getElem?_eq_some_iff.1 hu).1
    rw [bcells_length, List.length_tail] at this
    omega
  have hu2 : u = .int .u8 ((bs[j + 1]).toNat : Int) := by
    unfold bcells at hu
    rw [List.getElem?_map, List.getElem?_tail, List.getElem?_eq_getElem hj] at hu
    simpa using hu.symm
  rw [Addr.add_lit, hu2, show o + 1 + j = o + (j + 1) by omega]
  exact hc (j + 1) hj
theorem reads_zero (w : World) (K : Nat) (A : Option Addr) : Reads w K 1 A 0 (bcells []) := ⟨by simp [bcells], fun h => absurd h (by omega)⟩

set_option maxHeartbeats 1000000 in
theorem byte_at (mb K : Nat) (w : World) (h : Mk w mb K) : Calls Tryz.prog 15 #[.pointer (some ⟨mb, 0, none⟩)] w (BytePost w mb K) := by
  have HM := Lib.hid h
  obtain ⟨⟨A, n, c, bs, h1, h2, h3, h4⟩, fz, ge, lt⟩ := h
  rcases Nat.eq_zero_or_pos n with h0 | hn
  · subst h0
    go_enter Tryz.func15, Tryz.ntmps15
    go_wp2_with fail
    go_ret
    exact ⟨0, by omega, rfl, HM.out, grown_refl _ _⟩
  · obtain ⟨b, o, rfl, hb, hl, hc⟩ := h2.byte hn
    obtain ⟨x, h00⟩ : ∃ x : UInt8, w.cell? ⟨b, o, none⟩ = some (.int .u8 (x.toNat : Int)) := ⟨_, hc 0 (by omega)⟩
    have hlt : x.toNat < 256 := x.toNat_lt
    have hne : ((n : Int) == 0) = false := by simp; omega
    have hn' : (0 : Int) < (n : Int) := by omega
    have hT := Lib.hid (reads_tail h2 hn)
    have hH := Lib.hid h2
    clear hc hl h2
    by_cases hc1 : c = 1
    · subst hc1
      obtain rfl : n = 1 := by omega
      go_enter Tryz.func15, Tryz.ntmps15
      go_wp2_with fail
      go_ret
      exact ⟨_, hlt, rfl, HM.out.sets (reads_zero w K _) (by omega) (by omega), grown_set _ _ _ _⟩
    · go_enter Tryz.func15, Tryz.ntmps15
      go_wp2_with fail
      go_ret
      exact ⟨_, hlt, rfl, HM.out.sets hT.out (by omega) (by omega), grown_set _ _ _ _⟩

end Go.Proofs.YtgcfnhchmmkndaaGreatDoor
