/- spec.PRRead: the state of its reading. -/
import Derived.Test.YtdgpfgbocacgeaaDoorL1
import Derived.Lib.Strings
namespace Go.Proofs.YtdgpfgbocacgeaaDoor
open Go.RowKit
set_option linter.unusedVariables false

abbrev bl (s : ByteArray) : List UInt8 := s.data.toList

structure DSt (W0 w : World) (t bu bi base : Nat) (s : ByteArray) (o : Bool) (v : Value) (ns : List ByteArray) (u i : Int × Int) : Prop where
  tx : Tx w t s o
  row : w.ownsRow base 9 1 v ns.length (ns.map Value.string)
  pu : Pr w bu (iv u.1) (iv u.2)
  pi : Pr w bi (iv i.1) (iv i.2)
  bel : Below W0.heap.size W0 w
  n1 : bu ≠ t
  n2 : bi ≠ t
  n3 : bu ≠ bi
  k0 : W0.heap.size ≤ t
  k1 : W0.heap.size ≤ bu
  k2 : W0.heap.size ≤ bi
  b0 : t < base
  b1 : bu < base
  b2 : bi < base
  b3 : base ≤ w.heap.size

section
variable {W0 w w' : World} {t bu bi base : Nat} {s s' : ByteArray} {o o' : Bool} {v v' : Value} {ns : List ByteArray} {u i : Int × Int}
theorem Tx.grownX {row : Option Nat} (h : Tx w t s o) (g : w.grownBy w' row) (hne : some t ≠ row) : Tx w' t s o where
  s0 := g.cell h.s0 hne
  o0 := g.cell h.o0 hne
  fs := (g.frozen_far ⟨t, 0, none⟩ h.lt hne).trans h.fs
  fo := (g.frozen_far ⟨t, 1, none⟩ h.lt hne).trans h.fo
  lt := Nat.lt_of_lt_of_le h.lt g.size
theorem Pr.grownX {r : Nat} {x y : Value} {row : Option Nat} (h : Pr w r x y) (g : w.grownBy w' row) (hne : some r ≠ row) : Pr w' r x y where
  c0 := g.cell h.c0 hne
  c1 := g.cell h.c1 hne
  f0 := (g.frozen_far ⟨r, 0, none⟩ h.l hne).trans h.f0
  f1 := (g.frozen_far ⟨r, 1, none⟩ h.l hne).trans h.f1
  l := Nat.lt_of_lt_of_le h.l g.size
theorem DSt.own_ne (h : DSt W0 w t bu bi base s o v ns u i) {r : Nat} (hr : r < base) : some r ≠ v.ownBlock := by
  intro e
  have := (h.row.lt _ e.symm).1
  omega
theorem DSt.own_ne' (h : DSt W0 w t bu bi base s o v ns u i) {r : Nat} (hr : w.heap.size ≤ r) : v.ownBlock ≠ some r := by
  intro e
  have := (h.row.lt _ e).2
  omega

theorem DSt.grown (h : DSt W0 w t bu bi base s o v ns u i) (T : Tx w' t s' o') (g : w.grownBy w' (some t)) : DSt W0 w' t bu bi base s' o' v ns u i where
  tx := T
  row := h.row.kept g (.inr (Ne.symm (h.own_ne h.b0)))
  pu := h.pu.grownX g (by simpa using h.n1)
  pi := h.pi.grownX g (by simpa using h.n2)
  bel := h.bel.grown g h.bel.size (fun k hk => by injection hk with hk; have := h.k0; omega)
  n1 := h.n1
  n2 := h.n2
  n3 := h.n3
  k0 := h.k0
  k1 := h.k1
  k2 := h.k2
  b0 := h.b0
  b1 := h.b1
  b2 := h.b2
  b3 := Nat.le_trans h.b3 g.size

theorem DSt.other (h : DSt W0 w t bu bi base s o v ns u i) {r : Nat} (g : w.grownBy w' (some r)) (hr : base ≤ r) (hv : v.ownBlock ≠ some r) : DSt W0 w' t bu bi base s o v ns u i where
  tx := h.tx.grownX g (by have := h.b0; simp; omega)
  row := h.row.kept g (.inr hv)
  pu := h.pu.grownX g (by have := h.b1; simp; omega)
  pi := h.pi.grownX g (by have := h.b2; simp; omega)
  bel := h.bel.grown g h.bel.size (fun k hk => by injection hk with hk; have := h.k0; have := h.b0; omega)
  n1 := h.n1
  n2 := h.n2
  n3 := h.n3
  k0 := h.k0
  k1 := h.k1
  k2 := h.k2
  b0 := h.b0
  b1 := h.b1
  b2 := h.b2
  b3 := Nat.le_trans h.b3 g.size

theorem DSt.alloc (h : DSt W0 w t bu bi base s o v ns u i) (ob : Obj) : DSt W0 (w.alloc ob) t bu bi base s o v ns u i :=
  h.grown (h.tx.below (below_new w ob)) (World.grownBy_alloc w ob _)

theorem DSt.append (h : DSt W0 w t bu bi base s o v ns u i) (k : ByteArray) (row' : w'.ownsRow base 9 1 v' (ns.length + 1) (ns.map Value.string ++ [.string k])) (g : w.grownBy w' v.ownBlock) : DSt W0 w' t bu bi base s o v' (ns ++ [k]) u i where
  tx := h.tx.grownX g (h.own_ne h.b0)
  row := by simpa using row'
  pu := h.pu.grownX g (h.own_ne h.b1)
  pi := h.pi.grownX g (h.own_ne h.b2)
  bel := h.bel.grown g h.bel.size (fun k hk => by have := (h.row.lt _ hk).1; have := h.k0; have := h.b0; omega)
  n1 := h.n1
  n2 := h.n2
  n3 := h.n3
  k0 := h.k0
  k1 := h.k1
  k2 := h.k2
  b0 := h.b0
  b1 := h.b1
  b2 := h.b2
  b3 := Nat.le_trans h.b3 g.size

theorem Pr.sets {r : Nat} {x y : Value} (h : Pr w r x y) (x' y' : Value) : Pr ((w.setCell ⟨r, 0, none⟩ x').setCell ⟨r, 1, none⟩ y') r x' y' where
  c0 := two_0 w r x' y' _ h.c0
  c1 := two_1 w r x' y' _ h.c1
  f0 := by simpa using h.f0
  f1 := by simpa using h.f1
  l := by simpa using h.l
theorem grown_two (w : World) (r : Nat) (x y : Value) : w.grownBy ((w.setCell ⟨r, 0, none⟩ x).setCell ⟨r, 1, none⟩ y) (some r) := (grown_set w r 0 x).trans (grown_set _ r 1 y)

theorem DSt.setu (h : DSt W0 w t bu bi base s o v ns u i) (a b : Int) : DSt W0 ((w.setCell ⟨bu, 0, none⟩ (iv a)).setCell ⟨bu, 1, none⟩ (iv b)) t bu bi base s o v ns (a, b) i where
  tx := h.tx.grownX (grown_two w bu _ _) (by have := h.n1; simp; omega)
  row := h.row.kept (grown_two w bu _ _) (.inr (Ne.symm (h.own_ne h.b1)))
  pu := h.pu.sets _ _
  pi := h.pi.grownX (grown_two w bu _ _) (by have := h.n3; simp; omega)
  bel := h.bel.grown (grown_two w bu _ _) h.bel.size (fun k hk => by injection hk with hk; have := h.k1; omega)
  n1 := h.n1
  n2 := h.n2
  n3 := h.n3
  k0 := h.k0
  k1 := h.k1
  k2 := h.k2
  b0 := h.b0
  b1 := h.b1
  b2 := h.b2
  b3 := Nat.le_trans h.b3 (grown_two w bu _ _).size
theorem DSt.seti (h : DSt W0 w t bu bi base s o v ns u i) (a b : Int) : DSt W0 ((w.setCell ⟨bi, 0, none⟩ (iv a)).setCell ⟨bi, 1, none⟩ (iv b)) t bu bi base s o v ns u (a, b) where
  tx := h.tx.grownX (grown_two w bi _ _) (by have := h.n2; simp; omega)
  row := h.row.kept (grown_two w bi _ _) (.inr (Ne.symm (h.own_ne h.b2)))
  pu := h.pu.grownX (grown_two w bi _ _) (by have := h.n3; simp; omega)
  pi := h.pi.sets _ _
  bel := h.bel.grown (grown_two w bi _ _) h.bel.size (fun k hk => by injection hk with hk; have := h.k2; omega)
  n1 := h.n1
  n2 := h.n2
  n3 := h.n3
  k0 := h.k0
  k1 := h.k1
  k2 := h.k2
  b0 := h.b0
  b1 := h.b1
  b2 := h.b2
  b3 := Nat.le_trans h.b3 (grown_two w bi _ _).size

theorem row_form {n : Nat} {xs : List Value} (h : w.ownsRow base 9 1 v n xs) : ∃ A c, v = .slice A n c := by
  rcases h.2 with ⟨rfl, rfl⟩ | ⟨g, cap, cur, rfl, _⟩
  · exact ⟨_, _, rfl⟩
  · exact ⟨_, _, rfl⟩
end

def PRPost (v : ByteArray) (w : World) (e : Ending) (w' : World) : Prop :=
  Below w.heap.size w w' ∧ ∃ (ur : Int) (inc ok : Bool), e = .returned (.tuple #[iv ur, .bool inc, .bool ok]) ∧ (ok = true → ∃ u i : Int × Int, Whole (bl v) u i ∧ ur = urgOf u.1 u.2 ∧ inc = incOf i.1 i.2)

def ROut (W0 : World) (v : ByteArray) (t bu bi base : Nat) (val : Value) (wr : World) : Prop :=
  ∃ (s' : ByteArray) (o' : Bool) (ns : List ByteArray) (u i : Int × Int) (pre ws : List UInt8), DSt W0 wr t bu bi base s' o' val ns u i ∧ bl v = pre ++ ws ++ bl s' ∧ Read pre ws (ns.map bl) u i ∧ ns.length + s'.size ≤ v.size ∧ (bl s' = [] → pre = [])

theorem raw_eq {s4 s5 : ByteArray} {c : List UInt8} {k : Nat} (e : bl s4 = c ++ bl s5) (hk : k = s4.size - s5.size) : bl (s4.extract 0 k) = c := by
  have h1 : (bl s4).length = s4.size := len_eq s4
  have h2 : (bl s5).length = s5.size := len_eq s5
  have h3 : (bl s4).length = c.length + (bl s5).length := by rw [e, List.length_append]
  have hc : k = c.length := by omega
  show (s4.extract 0 k).data.toList = c
  rw [take_eq, show s4.data.toList = c ++ bl s5 from e, hc, List.take_left]
theorem mem_of {k c raw : List UInt8} {kd n : Int} (h : (c = 61 :: raw ∧ MemberIs raw kd n) ∨ (kd = 2 ∧ n = 1 ∧ raw = [] ∧ Params c)) : Mem (k ++ c) k raw kd n := by
  rcases h with ⟨rfl, h⟩ | ⟨rfl, rfl, rfl, h⟩
  · exact .full k raw kd n h
  · exact .bare k c h
/-- behind the loop -/
def REnd (W0 : World) (v : ByteArray) (bu bi : Nat) (wr : World) : Prop :=
  ∃ u i : Int × Int, Pr wr bu (iv u.1) (iv u.2) ∧ Pr wr bi (iv i.1) (iv i.2) ∧ Below W0.heap.size W0 wr ∧ Whole (bl v) u i

theorem read_nil {ws : List UInt8} {names : List (List UInt8)} {u i : Int × Int} {pre : List UInt8} (h : Read pre ws names u i) (hp : pre = []) : (∀ x ∈ ws, isWs x) ∧ u = (0, 0) ∧ i = (0, 0) := by
  cases h with
  | start _ h => exact ⟨h, rfl, rfl⟩
  | step => simp at hp
end Go.Proofs.YtdgpfgbocacgeaaDoor
