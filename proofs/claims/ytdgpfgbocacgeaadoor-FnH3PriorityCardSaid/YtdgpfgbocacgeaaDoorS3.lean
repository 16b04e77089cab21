/- Decoder.at, parseIndexedHeaderField, NewDecoder, Decode: on the one block of the awakening. -/
import Derived.Test.YtdgpfgbocacgeaaDoorS2
namespace Go.Proofs.YtdgpfgbocacgeaaDoor
open Go.RowKit
set_option linter.unusedVariables false

def rowV : Value := .agg #[.string ⟨#[58, 109, 101, 116, 104, 111, 100]⟩, .string ⟨#[71, 69, 84]⟩]
theorem below_step {w w1 w2 : World} (h : Below w.heap.size w w1) (k : Below w1.heap.size w1 w2) : Below w.heap.size w w2 := h.trans (k.mono h.size)
theorem below_new (w : World) (o : Obj) : Below w.heap.size w (w.alloc o) := (Below.refl w.heap.size w).alloc (Nat.le_refl _) _

theorem two_0 (w : World) (b : Nat) (x y u : Value) (h0 : w.cell? ⟨b, 0, none⟩ = some u) :
    ((w.setCell ⟨b, 0, none⟩ x).setCell ⟨b, 1, none⟩ y).cell? ⟨b, 0, none⟩ = some x := by
  rw [World.cell?_setCell_other _ _ _ _ (by simp)]
  exact World.cell?_setCell_same _ _ _ h0
theorem two_1 (w : World) (b : Nat) (x y u : Value) (h1 : w.cell? ⟨b, 1, none⟩ = some u) :
    ((w.setCell ⟨b, 0, none⟩ x).setCell ⟨b, 1, none⟩ y).cell? ⟨b, 1, none⟩ = some y := by
  refine World.cell?_setCell_same _ _ _ (u := u) ?_
  rw [World.cell?_setCell_other _ _ _ _ (by simp)]
  exact h1

set_option maxRecDepth 100000 in
theorem at17 (d : Value) (w : World) :
    Calls Tryd.prog 33 #[d, .int .u64 17] w fun e w' => e = .returned (.tuple #[rowV, .bool true]) ∧ Below w.heap.size w w' := by
  have hi := tab_index17
  go_enter Tryd.func33, Tryd.ntmps33
  go_wp2_with fail
  refine (table_any _).mono ?_
  rintro e w1 ⟨rfl, hb1⟩
  go_wp2_with fail
  refine (table_any _).mono ?_
  rintro e w2 ⟨rfl, hb2⟩
  have hb3 := hb1.trans (hb2.mono hb1.size)
  have hb := below_step (below_new w _) hb3
  have k0 : w2.cell? ⟨w.heap.size, 0, none⟩ = some (.string ⟨#[]⟩) := by rw [hb3.cell (by simp)]; simp
  have k1 : w2.cell? ⟨w.heap.size, 1, none⟩ = some (.string ⟨#[]⟩) := by rw [hb3.cell (by simp)]; simp
  have f0 : w2.frozen? ⟨w.heap.size, 0, none⟩ = false := by rw [hb3.frozen (by simp)]; simp
  have f1 : w2.frozen? ⟨w.heap.size, 1, none⟩ = false := by rw [hb3.frozen (by simp)]; simp
  have HB := Lib.hid hb
  clear hb hb1 hb2 hb3
  go_wp2
  have c0 := two_0 w2 w.heap.size (.string ⟨#[58, 109, 101, 116, 104, 111, 100]⟩) (.string ⟨#[71, 69, 84]⟩) _ k0
  have c1 := two_1 w2 w.heap.size (.string ⟨#[58, 109, 101, 116, 104, 111, 100]⟩) (.string ⟨#[71, 69, 84]⟩) _ k1
  refine ⟨rfl, _, by simp [results, Tryd.results33, go_sem, c0, c1]; rfl, rfl, ?_⟩
  exact (HB.out.setCell (Nat.le_refl _) _).setCell (Nat.le_refl _) _

set_option maxRecDepth 100000 in
theorem indexed (d : Value) (b o c : Nat) (w : World) (hlt : b < w.heap.size) (hnc : 1 ≤ c) (h0 : w.cell? ⟨b, o, none⟩ = some (.int .u8 209)) :
    Calls Tryd.prog 28 #[d, .slice (some ⟨b, o, none⟩) 1 c] w fun e w' =>
      (∃ A c', e = .returned (.tuple #[rowV, .slice A 0 c', .nilIface])) ∧ Below w.heap.size w w' := by
  have h0a := cell?_alloc_old (.cells #[.string ⟨#[]⟩, .string ⟨#[]⟩] 59) h0
  have hb64 : bits .and .u8 209 64 = 64 := by kernel_rfl
  go_enter Tryd.func28, Tryd.ntmps28
  go_wp2_with fail
  refine (readv6 b o c _ hnc h0a).mono ?_
  rintro e w1 ⟨⟨A, c', rfl⟩, hb1⟩
  go_wp2_with fail
  refine (at17 _ _).mono ?_
  rintro e w2 ⟨rfl, hb2⟩
  have hb3 := hb1.trans (hb2.mono hb1.size)
  have hb := below_step (below_new w _) hb3
  have hs : w.heap.size < w2.heap.size := by have := hb3.size; simp at this; omega
  have k0 : w2.cell? ⟨w.heap.size, 0, none⟩ = some (.string ⟨#[]⟩) := by rw [hb3.cell (by simp)]; simp
  have k1 : w2.cell? ⟨w.heap.size, 1, none⟩ = some (.string ⟨#[]⟩) := by rw [hb3.cell (by simp)]; simp
  have f0 : w2.frozen? ⟨w.heap.size, 0, none⟩ = false := by rw [hb3.frozen (by simp)]; simp
  have f1 : w2.frozen? ⟨w.heap.size, 1, none⟩ = false := by rw [hb3.frozen (by simp)]; simp
  have HB := Lib.hid hb
  clear hb hb1 hb2 hb3
  unfold rowV
  go_wp2
  have c0 := cell?_alloc_old (.cells #[.string ⟨#[58, 109, 101, 116, 104, 111, 100]⟩, .string ⟨#[71, 69, 84]⟩] 59) (two_0 w2 w.heap.size (.string ⟨#[58, 109, 101, 116, 104, 111, 100]⟩) (.string ⟨#[71, 69, 84]⟩) _ k0)
  have c1 := cell?_alloc_old (.cells #[.string ⟨#[58, 109, 101, 116, 104, 111, 100]⟩, .string ⟨#[71, 69, 84]⟩] 59) (two_1 w2 w.heap.size (.string ⟨#[58, 109, 101, 116, 104, 111, 100]⟩) (.string ⟨#[71, 69, 84]⟩) _ k1)
  refine ⟨rfl, _, (show _ = Result.ok (.tuple #[rowV, .slice A 0 c', .nilIface]) _ by simp [results, Tryd.results28, go_sem, c0, c1, rowV]), ⟨_, _, rfl⟩, ?_⟩
  exact ((HB.out.setCell (Nat.le_refl _) _).setCell (Nat.le_refl _) _).alloc (by simp; omega) _

end Go.Proofs.YtdgpfgbocacgeaaDoor
