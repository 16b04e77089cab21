/- spec.sfText.item: what it is to be an item; at a number, a truth value, another sign. -/
import Derived.Test.YtdgpfgbocacgeaaDoorP4
namespace Go.Proofs.YtdgpfgbocacgeaaDoor
open Go.RowKit
set_option linter.unusedVariables false

/-- what stands in a text within quotes -/
inductive StrBody : List UInt8 → Prop
  | nil : StrBody []
  | esc (x : UInt8) (r : List UInt8) : (x = 34 ∨ x = 92) → StrBody r → StrBody (92 :: x :: r)
  | plain (x : UInt8) (r : List UInt8) : 32 ≤ x.toNat → x.toNat ≤ 126 → x ≠ 34 → x ≠ 92 → StrBody r → StrBody (x :: r)

theorem StrBody.append {a b : List UInt8} (h : StrBody a) (k : StrBody b) : StrBody (a ++ b) := by
  induction h with
  | nil => exact k
  | esc x r hx _ ih => exact .esc x _ hx ih
  | plain x r h1 h2 h3 h4 _ ih => exact .plain x _ h1 h2 h3 h4 ih

def tokL : List UInt8 := [33, 35, 36, 37, 38, 39, 42, 43, 45, 46, 94, 95, 96, 124, 126, 58, 47]
def tokCh (c : UInt8) : Bool := isAlpha c || isDigit c || contains c tokL

/-- an item as far as it matters -/
def ItemIs (c : List UInt8) (k n : Int) : Prop :=
  NumIs c k n ∨ (k = 0 ∧ ∃ b, c = 34 :: (b ++ [34]) ∧ StrBody b) ∨ (k = 0 ∧ (∃ x r, c = x :: r ∧ (x = 42 ∨ isAlpha x = true)) ∧ ∀ x ∈ c, tokCh x = true) ∨
  (k = 2 ∧ ((n = 0 ∧ c = [63, 48]) ∨ (n = 1 ∧ c = [63, 49])))

def ItemPost (w : World) (t : Nat) (s : ByteArray) (o : Bool) (e : Ending) (w' : World) : Prop :=
  ∃ (k n : Int) (is : Bool) (s' : ByteArray) (o' : Bool), e = .returned (.tuple #[.agg #[iv k, iv n], .bool is]) ∧ Tx w' t s' o' ∧ w.grownBy w' (some t) ∧ (o = true → o' = true) ∧
    (is = true → s'.size < s.size ∧ ∃ c, s.data.toList = c ++ s'.data.toList ∧ ItemIs c k n)

theorem item_end {w wr : World} {t : Nat} {s s' : ByteArray} {o o' : Bool} (k n : Int) (is : Bool) (T' : Tx wr t s' o') (g : w.grownBy wr (some t)) (ht : t ≠ w.heap.size) (ho : o = true → o' = true)
    (himp : is = true → s'.size < s.size ∧ ∃ c, s.data.toList = c ++ s'.data.toList ∧ ItemIs c k n) :
    ItemPost w t s o (.returned (.tuple #[.agg #[iv k, iv n], .bool is])) ((wr.setCell ⟨w.heap.size, 0, none⟩ (iv k)).setCell ⟨w.heap.size, 1, none⟩ (iv n)) :=
  ⟨k, n, is, s', o', rfl, (T'.other _ (Ne.symm ht)).other _ (Ne.symm ht), grown_new (grown_new g _ (Nat.le_refl _)) _ (Nat.le_refl _), ho, himp⟩

theorem numIs_size {c : List UInt8} {k n : Int} {s s' : ByteArray} (h : NumIs c k n) (e : s.data.toList = c ++ s'.data.toList) : s'.size < s.size := by
  have h1 := len_eq s
  have h2 := len_eq s'
  rw [e, List.length_append] at h1
  have : c.length ≠ 0 := by
    intro h0
    exact h.2.1 (List.eq_nil_of_length_eq_zero h0)
  omega

theorem pr_grown {w w' : World} {r t : Nat} {u v : Value} (h : Pr w r u v) (g : w.grownBy w' (some t)) (ht : r ≠ t) : Pr w' r u v where
  c0 := g.cell h.c0 (by simpa using ht)
  c1 := g.cell h.c1 (by simpa using ht)
  f0 := (World.frozen?_of_block (g.block r h.l (by simpa using ht))).trans h.f0
  f1 := (World.frozen?_of_block (g.block r h.l (by simpa using ht))).trans h.f1
  l := Nat.lt_of_lt_of_le h.l g.size

set_option maxHeartbeats 1000000 in
set_option maxRecDepth 100000 in
theorem item_number (t : Nat) (s : ByteArray) (o : Bool) (w : World) (T : Tx w t s o) (hs : s.size ≤ 2147483647) (hh : headB s = 45 ∨ isDigit (headB s) = true) :
    Calls Tryd.prog 18 #[.pointer (some ⟨t, 0, none⟩)] w (ItemPost w t s o) := by
  have HT : Tx (w.alloc (.cells #[iv 0, iv 0] 33)) t s o := T.below (below_new w _)
  have HR : Pr (w.alloc (.cells #[iv 0, iv 0] 33)) w.heap.size (iv 0) (iv 0) := Pr.new w _ _ _
  have ht : t ≠ w.heap.size := by have := T.lt; omega
  have hg0 : w.grownBy (w.alloc (.cells #[iv 0, iv 0] 33)) (some t) := World.grownBy_alloc _ _ _
  have hx : ((((headB s).toNat : Int) == 45) = true) ∨ ((((headB s).toNat : Int) == 45) = false ∧ isDigit (headB s) = true) := by
    rcases hc : (((headB s).toNat : Int) == 45) with _ | _
    · rcases hh with h | h
      · rw [h] at hc; exact absurd hc (by decide)
      · exact .inr ⟨rfl, h⟩
    · exact .inl rfl
  go_enter Tryd.func18, Tryd.ntmps18
  go_wp2_with fail
  refine (at_at t s o _ HT).mono ?_
  rintro e w' ⟨rfl, hw'⟩
  subst hw'
  rcases hx with f1 | ⟨f1, f2⟩
  · go_wp2_with fail
    refine (number_at t s o _ HT hs).mono ?_
    rintro e w1 ⟨k, n, is, s', rfl, T', g, himp⟩
    obtain ⟨c0, c1, q0, q1, ql⟩ := pr_grown HR g (Ne.symm ht)
    have HI := Lib.hid himp
    have HG := Lib.hid (hg0.trans g)
    have HT' := Lib.hid T'
    clear himp g T' HT HR hg0
    go_wp2_with fail
    have z0 := two_0 w1 w.heap.size (iv k) (iv n) _ c0
    have z1 := two_1 w1 w.heap.size (iv k) (iv n) _ c1
    exact ⟨rfl, _, (show _ = Result.ok (.tuple #[.agg #[iv k, iv n], .bool is]) _ by simp [results, Tryd.results18, go_sem, z0, z1]), item_end k n _ HT'.out HG.out ht id fun h => by
      obtain ⟨c, hc, hn⟩ := HI.out h
      exact ⟨numIs_size hn hc, ⟨c, hc, .inl hn⟩⟩⟩
  · go_wp2_with fail
    refine (digit_at _ _).mono ?_
    rintro e w' ⟨rfl, hw'⟩
    subst hw'
    rw [f2]
    clear f2
    go_wp2_with fail
    refine (number_at t s o _ HT hs).mono ?_
    rintro e w1 ⟨k, n, is, s', rfl, T', g, himp⟩
    obtain ⟨c0, c1, q0, q1, ql⟩ := pr_grown HR g (Ne.symm ht)
    have HI := Lib.hid himp
    have HG := Lib.hid (hg0.trans g)
    have HT' := Lib.hid T'
    clear himp g T' HT HR hg0
    go_wp2_with fail
    have z0 := two_0 w1 w.heap.size (iv k) (iv n) _ c0
    have z1 := two_1 w1 w.heap.size (iv k) (iv n) _ c1
    exact ⟨rfl, _, (show _ = Result.ok (.tuple #[.agg #[iv k, iv n], .bool is]) _ by simp [results, Tryd.results18, go_sem, z0, z1]), item_end k n _ HT'.out HG.out ht id fun h => by
      obtain ⟨c, hc, hn⟩ := HI.out h
      exact ⟨numIs_size hn hc, ⟨c, hc, .inl hn⟩⟩⟩
end Go.Proofs.YtdgpfgbocacgeaaDoor
