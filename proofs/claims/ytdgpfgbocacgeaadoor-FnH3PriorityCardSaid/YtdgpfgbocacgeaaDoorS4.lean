/- Decode's closure, its two calls on the one block of the awakening. -/
import Derived.Test.YtdgpfgbocacgeaaDoorS3
namespace Go.Proofs.YtdgpfgbocacgeaaDoor
open Go.RowKit
set_option linter.unusedVariables false

/-- What Decode's closure holds: the two flags, the block, the decoder; and the three bytes. -/
structure St (w : World) (p1 p2 q d b o : Nat) (dv : Value) (b1 b2 : Bool) (sv : Value) : Prop where
  g1 : w.cell? ⟨p1, 0, none⟩ = some (.bool b1)
  g2 : w.cell? ⟨p2, 0, none⟩ = some (.bool b2)
  g3 : w.cell? ⟨q, 0, none⟩ = some sv
  g4 : w.cell? ⟨d, 0, none⟩ = some dv
  x0 : w.cell? ⟨b, o, none⟩ = some (.int .u8 0)
  x1 : w.cell? ⟨b, o + 1, none⟩ = some (.int .u8 0)
  x2 : w.cell? ⟨b, o + 1 + 1, none⟩ = some (.int .u8 209)
  i1 : w.frozen? ⟨p1, 0, none⟩ = false
  i2 : w.frozen? ⟨p2, 0, none⟩ = false
  i3 : w.frozen? ⟨q, 0, none⟩ = false
  l1 : p1 < w.heap.size
  l2 : p2 < w.heap.size
  l3 : q < w.heap.size
  l4 : d < w.heap.size
  lb : b < w.heap.size

/-- The five places stand apart. -/
structure Apart (p1 p2 q d b : Nat) : Prop where
  a1 : p1 ≠ p2
  a2 : p1 ≠ q
  a3 : p1 ≠ d
  a4 : p1 ≠ b
  a5 : p2 ≠ q
  a6 : p2 ≠ d
  a7 : p2 ≠ b
  a8 : q ≠ d
  a9 : q ≠ b

section
variable {w w' : World} {p1 p2 q d b o : Nat} {dv : Value} {b1 b2 : Bool} {sv : Value}
theorem St.below (h : St w p1 p2 q d b o dv b1 b2 sv) (k : Below w.heap.size w w') : St w' p1 p2 q d b o dv b1 b2 sv where
  g1 := (k.cell h.l1).trans h.g1
  g2 := (k.cell h.l2).trans h.g2
  g3 := (k.cell h.l3).trans h.g3
  g4 := (k.cell h.l4).trans h.g4
  x0 := (k.cell h.lb).trans h.x0
  x1 := (k.cell h.lb).trans h.x1
  x2 := (k.cell h.lb).trans h.x2
  i1 := (k.frozen h.l1).trans h.i1
  i2 := (k.frozen h.l2).trans h.i2
  i3 := (k.frozen h.l3).trans h.i3
  l1 := Nat.lt_of_lt_of_le h.l1 k.size
  l2 := Nat.lt_of_lt_of_le h.l2 k.size
  l3 := Nat.lt_of_lt_of_le h.l3 k.size
  l4 := Nat.lt_of_lt_of_le h.l4 k.size
  lb := Nat.lt_of_lt_of_le h.lb k.size

theorem cell_other (w : World) (a p : Addr) (u : Value) (h : p.block ≠ a.block) : (w.setCell p u).cell? a = w.cell? a :=
  World.cell?_setCell_other _ _ _ _ (by rintro rfl; exact h rfl)
theorem St.set1 (h : St w p1 p2 q d b o dv b1 b2 sv) (A : Apart p1 p2 q d b) (v : Bool) : St (w.setCell ⟨p1, 0, none⟩ (.bool v)) p1 p2 q d b o dv v b2 sv where
  g1 := World.cell?_setCell_same _ _ _ h.g1
  g2 := (cell_other _ _ _ _ A.a1).trans h.g2
  g3 := (cell_other _ _ _ _ A.a2).trans h.g3
  g4 := (cell_other _ _ _ _ A.a3).trans h.g4
  x0 := (cell_other _ _ _ _ A.a4).trans h.x0
  x1 := (cell_other _ _ _ _ A.a4).trans h.x1
  x2 := (cell_other _ _ _ _ A.a4).trans h.x2
  i1 := by simpa using h.i1
  i2 := by simpa using h.i2
  i3 := by simpa using h.i3
  l1 := by simpa using h.l1
  l2 := by simpa using h.l2
  l3 := by simpa using h.l3
  l4 := by simpa using h.l4
  lb := by simpa using h.lb
theorem St.set2 (h : St w p1 p2 q d b o dv b1 b2 sv) (A : Apart p1 p2 q d b) (v : Bool) : St (w.setCell ⟨p2, 0, none⟩ (.bool v)) p1 p2 q d b o dv b1 v sv where
  g1 := (cell_other _ _ _ _ (Ne.symm A.a1)).trans h.g1
  g2 := World.cell?_setCell_same _ _ _ h.g2
  g3 := (cell_other _ _ _ _ A.a5).trans h.g3
  g4 := (cell_other _ _ _ _ A.a6).trans h.g4
  x0 := (cell_other _ _ _ _ A.a7).trans h.x0
  x1 := (cell_other _ _ _ _ A.a7).trans h.x1
  x2 := (cell_other _ _ _ _ A.a7).trans h.x2
  i1 := by simpa using h.i1
  i2 := by simpa using h.i2
  i3 := by simpa using h.i3
  l1 := by simpa using h.l1
  l2 := by simpa using h.l2
  l3 := by simpa using h.l3
  l4 := by simpa using h.l4
  lb := by simpa using h.lb
theorem St.setq (h : St w p1 p2 q d b o dv b1 b2 sv) (A : Apart p1 p2 q d b) (v : Value) : St (w.setCell ⟨q, 0, none⟩ v) p1 p2 q d b o dv b1 b2 v where
  g1 := (cell_other _ _ _ _ (Ne.symm A.a2)).trans h.g1
  g2 := (cell_other _ _ _ _ (Ne.symm A.a5)).trans h.g2
  g3 := World.cell?_setCell_same _ _ _ h.g3
  g4 := (cell_other _ _ _ _ A.a8).trans h.g4
  x0 := (cell_other _ _ _ _ A.a9).trans h.x0
  x1 := (cell_other _ _ _ _ A.a9).trans h.x1
  x2 := (cell_other _ _ _ _ A.a9).trans h.x2
  i1 := by simpa using h.i1
  i2 := by simpa using h.i2
  i3 := by simpa using h.i3
  l1 := by simpa using h.l1
  l2 := by simpa using h.l2
  l3 := by simpa using h.l3
  l4 := by simpa using h.l4
  lb := by simpa using h.lb
theorem St.other (h : St w p1 p2 q d b o dv b1 b2 sv) {p : Addr} (v : Value) (n1 : p.block ≠ p1) (n2 : p.block ≠ p2) (n3 : p.block ≠ q) (n4 : p.block ≠ d) (n5 : p.block ≠ b) :
    St (w.setCell p v) p1 p2 q d b o dv b1 b2 sv where
  g1 := (cell_other _ _ _ _ n1).trans h.g1
  g2 := (cell_other _ _ _ _ n2).trans h.g2
  g3 := (cell_other _ _ _ _ n3).trans h.g3
  g4 := (cell_other _ _ _ _ n4).trans h.g4
  x0 := (cell_other _ _ _ _ n5).trans h.x0
  x1 := (cell_other _ _ _ _ n5).trans h.x1
  x2 := (cell_other _ _ _ _ n5).trans h.x2
  i1 := by simpa using h.i1
  i2 := by simpa using h.i2
  i3 := by simpa using h.i3
  l1 := by simpa using h.l1
  l2 := by simpa using h.l2
  l3 := by simpa using h.l3
  l4 := by simpa using h.l4
  lb := by simpa using h.lb
end

/-- A fresh pair of texts at r. -/
structure Pr (w : World) (r : Nat) (u v : Value) : Prop where
  c0 : w.cell? ⟨r, 0, none⟩ = some u
  c1 : w.cell? ⟨r, 1, none⟩ = some v
  f0 : w.frozen? ⟨r, 0, none⟩ = false
  f1 : w.frozen? ⟨r, 1, none⟩ = false
  l : r < w.heap.size

section
variable {w w' : World} {r : Nat} {u v : Value}
theorem Pr.below (h : Pr w r u v) (k : Below w.heap.size w w') : Pr w' r u v where
  c0 := (k.cell h.l).trans h.c0
  c1 := (k.cell h.l).trans h.c1
  f0 := (k.frozen h.l).trans h.f0
  f1 := (k.frozen h.l).trans h.f1
  l := Nat.lt_of_lt_of_le h.l k.size
theorem Pr.other (h : Pr w r u v) {p : Addr} (x : Value) (hp : p.block ≠ r) : Pr (w.setCell p x) r u v where
  c0 := (cell_other _ _ _ _ hp).trans h.c0
  c1 := (cell_other _ _ _ _ hp).trans h.c1
  f0 := by simpa using h.f0
  f1 := by simpa using h.f1
  l := by simpa using h.l
theorem Pr.new (w : World) (u v : Value) (t : TypeId) : Pr (w.alloc (.cells #[u, v] t)) w.heap.size u v where
  c0 := by simp
  c1 := by simp
  f0 := by simp
  f1 := by simp
  l := by simp
end

set_option maxRecDepth 100000 in
theorem decode1_first (K p1 p2 q d b o c : Nat) (dv : Value) (w : World) (H : St w p1 p2 q d b o dv false false (.slice (some ⟨b, o, none⟩) 3 c)) (AP : Apart p1 p2 q d b) (hnc : 3 ≤ c)
    (hk1 : K ≤ p1) (hk2 : K ≤ p2) (hk3 : K ≤ q) :
    Calls Tryd.prog 25 #[.pointer (some ⟨p1, 0, none⟩), .pointer (some ⟨q, 0, none⟩), .pointer (some ⟨p2, 0, none⟩), .pointer (some ⟨d, 0, none⟩)] w fun e w' =>
      e = .returned (.tuple #[rowV, .nilIface]) ∧ (∃ A c', St w' p1 p2 q d b o dv true true (.slice A 0 c')) ∧ Below K w w' := by
  have H1 : St (w.alloc (.cells #[.string ⟨#[]⟩, .string ⟨#[]⟩] 59)) p1 p2 q d b o dv false false (.slice (some ⟨b, o, none⟩) 3 c) := H.below (below_new w _)
  have R1 := Pr.new w (.string ⟨#[]⟩) (.string ⟨#[]⟩) 59
  have B1 := (below_new w (.cells #[.string ⟨#[]⟩, .string ⟨#[]⟩] 59)).mono (show K ≤ w.heap.size by have := H.l1; omega)
  have e1 : p1 ≠ w.heap.size := by have := H.l1; omega
  have e2 : p2 ≠ w.heap.size := by have := H.l2; omega
  have e3 : q ≠ w.heap.size := by have := H.l3; omega
  have e4 : d ≠ w.heap.size := by have := H.l4; omega
  have e5 : b ≠ w.heap.size := by have := H.lb; omega
  obtain ⟨g1, g2, g3, g4, x0, x1, x2, i1, i2, i3, l1, l2, l3, l4, lb⟩ := H
  have hK : K ≤ w.heap.size := by omega
  obtain ⟨a1, a2, a3, a4, a5, a6, a7, a8, a9⟩ := id AP
  go_enter Tryd.func25, Tryd.ntmps25
  go_wp2_with fail
  refine (readv8 b o 3 c _ (by omega) hnc H1.x0).mono ?_
  rintro e w1 ⟨rfl, hb1⟩
  have H2 := H1.below hb1
  have R2 := R1.below hb1
  have B2 := B1.trans (hb1.mono (by simp; omega))
  clear g1 g2 g3 g4 x0 x1 x2 i1 i2 i3 l1 l2 l3 l4 lb hb1 H1 R1 B1
  obtain ⟨g1, g2, g3, g4, x0, x1, x2, i1, i2, i3, l1, l2, l3, l4, lb⟩ := id H2
  have hB2 := Lib.hid B2
  clear B2
  go_wp2_with fail
  have H3 := (H2.setq AP (.slice (some ⟨b, o + 1, none⟩) 2 (c - 1))).set1 AP true
  have R3 := (R2.other (p := ⟨q, 0, none⟩) (.slice (some ⟨b, o + 1, none⟩) 2 (c - 1)) e3).other (p := ⟨p1, 0, none⟩) (.bool true) e1
  have B3 := (hB2.out.setCell (p := ⟨q, 0, none⟩) hk3 (.slice (some ⟨b, o + 1, none⟩) 2 (c - 1))).setCell (p := ⟨p1, 0, none⟩) hk1 (.bool true)
  refine (readv7 b (o + 1) 2 (c - 1) _ (by omega) (by omega) H3.x1).mono ?_
  rintro e w2 ⟨rfl, hb2⟩
  have H4 := H3.below hb2
  have R4 := R3.below hb2
  have B4 := B3.trans (hb2.mono (by have := H3.l1; omega))
  clear g1 g2 g3 g4 x0 x1 x2 i1 i2 i3 l1 l2 l3 l4 lb hb2 H2 R2 hB2 H3 R3 B3
  obtain ⟨g1, g2, g3, g4, x0, x1, x2, i1, i2, i3, l1, l2, l3, l4, lb⟩ := id H4
  have hB4 := Lib.hid B4
  clear B4
  have hb128 : bits .and .u8 209 128 = 128 := by kernel_rfl
  go_wp2_with fail
  have H5 := ((H4.setq AP (.slice (some ⟨b, o + 1 + 1, none⟩) 1 (c - 1 - 1))).set2 AP true).below (below_new _ (.cells #[.string ⟨#[]⟩, .string ⟨#[]⟩] 59))
  have R5 := ((R4.other (p := ⟨q, 0, none⟩) (.slice (some ⟨b, o + 1 + 1, none⟩) 1 (c - 1 - 1)) e3).other (p := ⟨p2, 0, none⟩) (.bool true) e2).below (below_new _ (.cells #[.string ⟨#[]⟩, .string ⟨#[]⟩] 59))
  have B5 := ((hB4.out.setCell (p := ⟨q, 0, none⟩) hk3 (.slice (some ⟨b, o + 1 + 1, none⟩) 1 (c - 1 - 1))).setCell (p := ⟨p2, 0, none⟩) hk2 (.bool true)).alloc (by simp; omega) (.cells #[.string ⟨#[]⟩, .string ⟨#[]⟩] 59)
  have T5 := Pr.new ((w2.setCell ⟨q, 0, none⟩ (.slice (some ⟨b, o + 1 + 1, none⟩) 1 (c - 1 - 1))).setCell ⟨p2, 0, none⟩ (.bool true)) (.string ⟨#[]⟩) (.string ⟨#[]⟩) 59
  refine (indexed dv b (o + 1 + 1) (c - 1 - 1) _ (by have := H5.lb; simpa using this) (by omega) H5.x2).mono ?_
  rintro e w3 ⟨⟨A, c', rfl⟩, hb3⟩
  have H6 := H5.below hb3
  have R6 := R5.below hb3
  have T6 : Pr w3 w2.heap.size (.string ⟨#[]⟩) (.string ⟨#[]⟩) := by simpa using T5.below hb3
  have B6 := B5.trans (hb3.mono (by simp; omega))
  have m1 : p1 ≠ w2.heap.size := by omega
  have m2 : p2 ≠ w2.heap.size := by omega
  have m3 : q ≠ w2.heap.size := by omega
  have m5 : w.heap.size ≠ w2.heap.size := by have := R4.l; omega
  have m4 : d ≠ w2.heap.size := by omega
  have m6 : b ≠ w2.heap.size := by omega
  have hK2 : K ≤ w2.heap.size := by omega
  clear g1 g2 g3 g4 x0 x1 x2 i1 i2 i3 l1 l2 l3 l4 lb hb3 H4 R4 hB4 H5 R5 B5 T5
  obtain ⟨g1, g2, g3, g4, x0, x1, x2, i1, i2, i3, l1, l2, l3, l4, lb⟩ := id H6
  obtain ⟨r0, r1, r2, r3, r4⟩ := id R6
  obtain ⟨t0, t1, t2, t3, t4⟩ := id T6
  have hB6 := Lib.hid B6
  clear B6
  unfold rowV
  go_wp2_with fail
  have R7 := ((R6.other (p := ⟨w2.heap.size, 0, none⟩) (.string ⟨#[58, 109, 101, 116, 104, 111, 100]⟩) (Ne.symm m5)).other (p := ⟨w2.heap.size, 1, none⟩) (.string ⟨#[71, 69, 84]⟩) (Ne.symm m5)).other (p := ⟨q, 0, none⟩) (.slice A 0 c') e3
  have H7 := ((H6.other (p := ⟨w2.heap.size, 0, none⟩) (.string ⟨#[58, 109, 101, 116, 104, 111, 100]⟩) (Ne.symm m1) (Ne.symm m2) (Ne.symm m3) (Ne.symm m4) (Ne.symm m6)).other
    (p := ⟨w2.heap.size, 1, none⟩) (.string ⟨#[71, 69, 84]⟩) (Ne.symm m1) (Ne.symm m2) (Ne.symm m3) (Ne.symm m4) (Ne.symm m6)).setq AP (.slice A 0 c')
  have H8 := (H7.other (p := ⟨w.heap.size, 0, none⟩) (.string ⟨#[58, 109, 101, 116, 104, 111, 100]⟩) (Ne.symm e1) (Ne.symm e2) (Ne.symm e3) (Ne.symm e4) (Ne.symm e5)).other
    (p := ⟨w.heap.size, 1, none⟩) (.string ⟨#[71, 69, 84]⟩) (Ne.symm e1) (Ne.symm e2) (Ne.symm e3) (Ne.symm e4) (Ne.symm e5)
  have c0 := two_0 _ w.heap.size (.string ⟨#[58, 109, 101, 116, 104, 111, 100]⟩) (.string ⟨#[71, 69, 84]⟩) _ R7.c0
  have c1 := two_1 _ w.heap.size (.string ⟨#[58, 109, 101, 116, 104, 111, 100]⟩) (.string ⟨#[71, 69, 84]⟩) _ R7.c1
  have B8 := ((((hB6.out.setCell (p := ⟨w2.heap.size, 0, none⟩) hK2 (.string ⟨#[58, 109, 101, 116, 104, 111, 100]⟩)).setCell (p := ⟨w2.heap.size, 1, none⟩) hK2 (.string ⟨#[71, 69, 84]⟩)).setCell
    (p := ⟨q, 0, none⟩) hk3 (.slice A 0 c')).setCell (p := ⟨w.heap.size, 0, none⟩) hK (.string ⟨#[58, 109, 101, 116, 104, 111, 100]⟩)).setCell (p := ⟨w.heap.size, 1, none⟩) hK (.string ⟨#[71, 69, 84]⟩)
  clear H6 R6 T6 g1 g2 g3 g4 x0 x1 x2 i1 i2 i3 r0 r1 r2 r3 t0 t1 t2 t3 hB6 H7 R7
  exact ⟨rfl, _, (show _ = Result.ok (.tuple #[rowV, .nilIface]) _ by simp [results, Tryd.results25, go_sem, c0, c1, rowV]), rfl, ⟨A, c', H8⟩, B8⟩

set_option maxRecDepth 100000 in
theorem decode1_end (K p1 p2 q d b o c : Nat) (dv : Value) (A : Option Addr) (w : World) (H : St w p1 p2 q d b o dv true true (.slice A 0 c)) (hK : K ≤ w.heap.size)
    (t0 : TypeId) (v0 : Value) (hg : w.cell? ⟨0, 0, none⟩ = some (.iface t0 v0)) (hpos : 0 < w.heap.size) :
    Calls Tryd.prog 25 #[.pointer (some ⟨p1, 0, none⟩), .pointer (some ⟨q, 0, none⟩), .pointer (some ⟨p2, 0, none⟩), .pointer (some ⟨d, 0, none⟩)] w fun e w' =>
      e = .returned (.tuple #[.agg #[.string ⟨#[]⟩, .string ⟨#[]⟩], .iface t0 v0]) ∧ Below K w w' := by
  obtain ⟨g1, g2, g3, g4, x0, x1, x2, i1, i2, i3, l1, l2, l3, l4, lb⟩ := H
  go_enter Tryd.func25, Tryd.ntmps25
  go_wp2_with fail
  go_region
  go_wp2_with fail
  exact ⟨rfl, _, (show _ = Result.ok (.tuple #[.agg #[.string ⟨#[]⟩, .string ⟨#[]⟩], .iface t0 v0]) _ by simp [results, Tryd.results25, go_sem]), rfl, ((below_new w _).mono hK).drew⟩
end Go.Proofs.YtdgpfgbocacgeaaDoor
