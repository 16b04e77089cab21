/- hrMade.value. -/
import Derived.Test.YtgcfnhchmmkndaaGreatDoorD4
import Derived.Test.YtgcfnhchmmkndaaGreatDoorC5
namespace Go.Proofs.YtgcfnhchmmkndaaGreatDoor
open Go.RowKit Go.Maps
set_option linter.unusedVariables false
set_option maxRecDepth 100000

def ValPost (w : World) (mb K : Nat) (e : Ending) (w' : World) : Prop := ∃ v : BS, v.length ≤ 30 ∧ e = .returned (str v) ∧ Mk w' mb K ∧ w.grownBy w' (some mb)
def pcV : Nat → BS
  | 0 => [97]
  | 1 => [90]
  | 2 => [48]
  | 3 => [45]
  | 4 => [32, 98]
  | 5 => [34, 113, 34]
  | 6 => [61]
  | _ => [47]
theorem pcV_len (i : Nat) : (pcV i).length ≤ 3 := by
  unfold pcV
  split <;> decide
abbrev rowV : Array Value := #[Value.string { data := #[97] }, Value.string { data := #[90] }, Value.string { data := #[48] }, Value.string { data := #[45] }, Value.string { data := #[32, 98] }, Value.string { data := #[34, 113, 34] }, Value.string { data := #[61] }, Value.string { data := #[47] }]
theorem pcV_new (W : World) (i : Nat) (hi : i < 8) : (W.alloc (.cells rowV 9)).cell? ⟨W.heap.size, i, none⟩ = some (str (pcV i)) := by
  have h := cells_new W [Value.string { data := #[97] }, Value.string { data := #[90] }, Value.string { data := #[48] }, Value.string { data := #[45] }, Value.string { data := #[32, 98] }, Value.string { data := #[34, 113, 34] }, Value.string { data := #[61] }, Value.string { data := #[47] }] 9 i (str (pcV i)) (by
    match i, hi with
    | 0, _ => rfl
    | 1, _ => rfl
    | 2, _ => rfl
    | 3, _ => rfl
    | 4, _ => rfl
    | 5, _ => rfl
    | 6, _ => rfl
    | 7, _ => rfl)
  rwa [Addr.add_lit, Nat.zero_add] at h

set_option maxHeartbeats 8000000 in
theorem val48_at (mb K : Nat) (w : World) (h : Mk w mb K) : Calls Tryz.prog 48 #[.pointer (some ⟨mb, 0, none⟩)] w (ValPost w mb K) := by
  have HM := Lib.hid h
  clear h
  go_enter Tryz.func48, Tryz.ntmps48
  go_wp2_with fail
  refine (byte_at2 _ _ _ HM.out).mono ?_
  rintro e w1 ⟨k0, hk0, rfl, hM1, hg1, hs1⟩
  have HM1 := Lib.hid hM1
  have HG1 := Lib.hid hg1
  have h0c : (0 : Int) ≤ (k0 : Int) := by omega
  clear hg1 hs1 hM1
  go_wp2_with fail
  go_loopw [3, 4] (fun s3 s4 wx => ∃ (o : BS) (k : Nat), s3 = str o ∧ s4 = .int .i64 (k : Int) ∧ o.length + 3 * k ≤ 15 ∧ Mk wx mb K ∧ w.grownBy wx (some mb)) (fun _ s4 _ => (intOf s4).toNat)
  case atStart => exact ⟨[], k0 % 6, rfl, by simp, by simp; omega, HM1.out, HG1.out⟩
  case round =>
    obtain ⟨o, k, rfl, rfl, hok, hM, hg⟩ := hrel
    have HM := Lib.hid hM
    have HG := Lib.hid hg
    clear hM hg
    rcases Nat.eq_zero_or_pos k with h0 | hk
    · subst h0
      have hol : o.length ≤ 15 := by omega
      go_wp2_with fail
      refine (byte_at2 _ _ _ HM.out).mono ?_
      rintro e w2 ⟨c, hc, rfl, hM2, hg2, hs2⟩
      have ht : ((c : Int)).tmod 30 = ((c % 30 : Nat) : Int) := tmod_nat c 30
      obtain ⟨j, hj⟩ : ∃ j, c % 30 = j := ⟨_, rfl⟩
      rw [hj] at ht
      have HM2 := Lib.hid hM2
      have HG2 := Lib.hid (HG.out.trans hg2)
      clear hj hg2 hM2
      have KF : ∀ z : BS, z.length ≤ o.length + 3 → ValPost w mb K (.returned (str z)) w2 := fun z hz => ⟨z, by omega, rfl, HM2.out, HG2.out⟩
      have HKF := Lib.hid KF
      clear KF
      rcases Nat.eq_zero_or_pos j with h0 | h0
      · subst h0
        obtain ⟨z, hz⟩ : ∃ z, o ++ [0] = z := ⟨_, rfl⟩
        have q1 : ({ data := o.toArray } : ByteArray) ++ { data := #[0] } = { data := z.toArray } := by rw [← hz]; exact ba_app o [0]
        have hzl : z.length = o.length + 1 := by rw [← hz, List.length_append]; rfl
        clear hz
        go_wp2_with fail
        go_ret
        exact HKF.out z (by omega)
      · by_cases h1 : j = 1
        · subst h1
          obtain ⟨z, hz⟩ : ∃ z, o ++ [9, 195, 169] = z := ⟨_, rfl⟩
          have q1 : ({ data := o.toArray } : ByteArray) ++ { data := #[9, 195, 169] } = { data := z.toArray } := by rw [← hz]; exact ba_app o [9, 195, 169]
          have hzl : z.length = o.length + 3 := by rw [← hz, List.length_append]; rfl
          clear hz
          go_wp2_with fail
          go_ret
          exact HKF.out z (by omega)
        · by_cases h2 : j = 2
          · subst h2
            obtain ⟨z, hz⟩ : ∃ z, o ++ [127] = z := ⟨_, rfl⟩
            have q1 : ({ data := o.toArray } : ByteArray) ++ { data := #[127] } = { data := z.toArray } := by rw [← hz]; exact ba_app o [127]
            have hzl : z.length = o.length + 1 := by rw [← hz, List.length_append]; rfl
            clear hz
            go_wp2_with fail
            go_ret
            exact HKF.out z (by omega)
          · have b0 : ((j : Int) == 0) = false := by simp; omega
            have b1 : ((j : Int) == 1) = false := by simp; omega
            have b2 : ((j : Int) == 2) = false := by simp; omega
            go_wp2_with fail
            go_ret
            exact HKF.out o (by omega)
    · have KB := byte_at2 mb K (wr.alloc (.cells rowV 9)) HM.out.al
      have hne : ¬ wr.heap.size = mb := by have := HM.out.lt; omega
      have hk1 : (0 : Int) < (k : Int) := by omega
      have hk2 : (k : Int) ≤ 5 := by omega
      go_wp2_with fail
      refine KB.mono ?_
      rintro e w2 ⟨c, hc, rfl, hM2, hg2, hs2⟩
      have q : w2.cell? ⟨wr.heap.size, c % 8, none⟩ = some (str (pcV (c % 8))) := cell_far2 (pcV_new wr (c % 8) (Nat.mod_lt _ (by decide))) hg2 hne
      have ht : ((c : Int)).tmod 8 = ((c % 8 : Nat) : Int) := tmod_nat c 8
      have hm8 : ((c % 8 : Nat) : Int) < 8 := by omega
      have hm0 : (0 : Int) ≤ ((c % 8 : Nat) : Int) := by omega
      obtain ⟨j, hj⟩ : ∃ j, c % 8 = j := ⟨_, rfl⟩
      rw [hj] at q ht hm8 hm0
      obtain ⟨z, hz⟩ : ∃ z, o ++ pcV j = z := ⟨_, rfl⟩
      have q1 : ({ data := o.toArray } : ByteArray) ++ { data := (pcV j).toArray } = { data := z.toArray } := by rw [← hz]; exact ba_app o (pcV j)
      have hpl := pcV_len j
      have hzl : z.length = o.length + (pcV j).length := by rw [← hz, List.length_append]
      have HM2 := Lib.hid hM2
      have HG2 := Lib.hid ((HG.out.trans ((World.grownBy_alloc wr _ _))).trans hg2)
      clear hj hz hg2 hM2
      go_wp2_with fail
      exact ⟨⟨z, k - 1, rfl, by rw [show ((k - 1 : Nat) : Int) = (k : Int) - 1 by omega], by omega, HM2.out, HG2.out⟩, by simp [intOf]; omega⟩

theorem tab_new (W : World) (L : List BS) (i : Nat) (hi : i < L.length) : (W.alloc (.cells (L.map str).toArray 9)).cell? ⟨W.heap.size, i, none⟩ = some (str (L.getD i [])) := by
  have h := cells_new W (L.map str) 9 i (str (L.getD i [])) (by rw [List.getElem?_map, List.getD_eq_getElem?_getD, List.getElem?_eq_getElem hi]; rfl)
  rwa [Addr.add_lit, Nat.zero_add] at h
def nmR : List BS := [[97, 99, 99, 101, 112, 116], [120, 45, 97], [120, 45, 98], [99, 111, 111, 107, 105, 101], [117, 115, 101, 114, 45, 97, 103, 101, 110, 116], [99, 111, 110, 116, 101, 110, 116, 45, 116, 121, 112, 101], [120, 45, 111, 110, 101, 45, 116, 119, 111], [99, 111, 111, 107, 105, 101], [116, 101], [99, 111, 110, 116, 101, 110, 116, 45, 108, 101, 110, 103, 116, 104], [99, 111, 110, 116, 101, 110, 116, 45, 108, 101, 110, 103, 116, 104], [33, 35, 36, 126], [120, 45, 97], [99, 111, 110, 110, 101, 99, 116, 105, 111, 110], [117, 112, 103, 114, 97, 100, 101], [107, 101, 101, 112, 45, 97, 108, 105, 118, 101], [112, 114, 111, 120, 121, 45, 99, 111, 110, 110, 101, 99, 116, 105, 111, 110], [116, 114, 97, 110, 115, 102, 101, 114, 45, 101, 110, 99, 111, 100, 105, 110, 103], [88, 45, 85, 112], [120, 32, 97], [120, 195, 169], [], [120, 58, 121]]
def teR : List BS := [[116, 114, 97, 105, 108, 101, 114, 115], [116, 114, 97, 105, 108, 101, 114, 115], [103, 122, 105, 112]]
def clR : List BS := [[48], [49, 55], [49, 55], [57, 50, 50, 51, 51, 55, 50, 48, 51, 54, 56, 53, 52, 55, 55, 53, 56, 48, 55], [57, 50, 50, 51, 51, 55, 50, 48, 51, 54, 56, 53, 52, 55, 55, 53, 56, 48, 56], [45, 49], [], [49, 120], [48, 48, 55]]
abbrev rowN : Array Value := #[Value.string { data := #[97, 99, 99, 101, 112, 116] }, Value.string { data := #[120, 45, 97] }, Value.string { data := #[120, 45, 98] }, Value.string { data := #[99, 111, 111, 107, 105, 101] }, Value.string { data := #[117, 115, 101, 114, 45, 97, 103, 101, 110, 116] }, Value.string { data := #[99, 111, 110, 116, 101, 110, 116, 45, 116, 121, 112, 101] }, Value.string { data := #[120, 45, 111, 110, 101, 45, 116, 119, 111] }, Value.string { data := #[99, 111, 111, 107, 105, 101] }, Value.string { data := #[116, 101] }, Value.string { data := #[99, 111, 110, 116, 101, 110, 116, 45, 108, 101, 110, 103, 116, 104] }, Value.string { data := #[99, 111, 110, 116, 101, 110, 116, 45, 108, 101, 110, 103, 116, 104] }, Value.string { data := #[33, 35, 36, 126] }, Value.string { data := #[120, 45, 97] }, Value.string { data := #[99, 111, 110, 110, 101, 99, 116, 105, 111, 110] }, Value.string { data := #[117, 112, 103, 114, 97, 100, 101] }, Value.string { data := #[107, 101, 101, 112, 45, 97, 108, 105, 118, 101] }, Value.string { data := #[112, 114, 111, 120, 121, 45, 99, 111, 110, 110, 101, 99, 116, 105, 111, 110] }, Value.string { data := #[116, 114, 97, 110, 115, 102, 101, 114, 45, 101, 110, 99, 111, 100, 105, 110, 103] }, Value.string { data := #[88, 45, 85, 112] }, Value.string { data := #[120, 32, 97] }, Value.string { data := #[120, 195, 169] }, Value.string { data := #[] }, Value.string { data := #[120, 58, 121] }]
abbrev rowT : Array Value := #[Value.string { data := #[116, 114, 97, 105, 108, 101, 114, 115] }, Value.string { data := #[116, 114, 97, 105, 108, 101, 114, 115] }, Value.string { data := #[103, 122, 105, 112] }]
abbrev rowC : Array Value := #[Value.string { data := #[48] }, Value.string { data := #[49, 55] }, Value.string { data := #[49, 55] }, Value.string { data := #[57, 50, 50, 51, 51, 55, 50, 48, 51, 54, 56, 53, 52, 55, 55, 53, 56, 48, 55] }, Value.string { data := #[57, 50, 50, 51, 51, 55, 50, 48, 51, 54, 56, 53, 52, 55, 55, 53, 56, 48, 56] }, Value.string { data := #[45, 49] }, Value.string { data := #[] }, Value.string { data := #[49, 120] }, Value.string { data := #[48, 48, 55] }]
theorem rowN_new (W : World) (i : Nat) (hi : i < 23) : (W.alloc (.cells rowN 9)).cell? ⟨W.heap.size, i, none⟩ = some (str (nmR.getD i [])) := tab_new W nmR i hi
theorem rowT_new (W : World) (i : Nat) (hi : i < 3) : (W.alloc (.cells rowT 9)).cell? ⟨W.heap.size, i, none⟩ = some (str (teR.getD i [])) := tab_new W teR i hi
theorem rowC_new (W : World) (i : Nat) (hi : i < 9) : (W.alloc (.cells rowC 9)).cell? ⟨W.heap.size, i, none⟩ = some (str (clR.getD i [])) := tab_new W clR i hi
/-- a field that is no pseudo one -/
def regF (q : BS × BS) : Prop := q.1 ∈ nmR ∧ q.2.length ≤ 30 ∧ (q.1 = [99, 111, 110, 116, 101, 110, 116, 45, 108, 101, 110, 103, 116, 104] → q.2 ∈ clR)
def RegPost (w : World) (mb K : Nat) (e : Ending) (w' : World) : Prop := ∃ nm vl, e = .returned (.agg #[str nm, str vl]) ∧ regF (nm, vl) ∧ Mk w' mb K ∧ w.grownBy w' (some mb)
theorem grown_aside {w wx w' : World} {mb fb : Nat} (g : w.grownBy wx (some mb)) (h : wx.grownBy w' (some fb)) (hf : w.heap.size ≤ fb) : w.grownBy w' (some mb) :=
  ⟨h.os.trans g.os, h.tape.trans g.tape, h.output.trans g.output, Nat.le_trans g.size h.size, fun j hj hne => (h.block j (by have := g.size; omega) (by simp; omega)).trans (g.block j hj hne)⟩
/-- the field's state -/
structure GSt (w wx : World) (mb K fb : Nat) (nm vl : BS) : Prop where
  c0 : wx.cell? ⟨fb, 0, none⟩ = some (str nm)
  c1 : wx.cell? ⟨fb, 1, none⟩ = some (str vl)
  z : ∀ j, wx.frozen? ⟨fb, j, none⟩ = false
  names : ∀ i, i < 23 → wx.cell? ⟨w.heap.size + 1, i, none⟩ = some (str (nmR.getD i []))
  mkr : Mk wx mb K
  g : w.grownBy wx (some mb)
  r0 : wx.cell? ⟨w.heap.size, 0, none⟩ = some (str [])
  r1 : wx.cell? ⟨w.heap.size, 1, none⟩ = some (str [])
  rz : ∀ j, wx.frozen? ⟨w.heap.size, j, none⟩ = false
  lt : fb < wx.heap.size
  ge : w.heap.size + 2 ≤ fb
  mlt : mb < w.heap.size
theorem GSt.byte {w wx w' : World} {mb K fb : Nat} {nm vl : BS} (h : GSt w wx mb K fb nm vl) (hM : Mk w' mb K) (g : wx.grownBy w' (some mb)) : GSt w w' mb K fb nm vl where
  c0 := cell_far2 h.c0 g (by have := h.ge; have := h.mlt; omega)
  c1 := cell_far2 h.c1 g (by have := h.ge; have := h.mlt; omega)
  z := fun j => (g.frozen_far ⟨fb, j, none⟩ h.lt (by have := h.ge; have := h.mlt; simp; omega)).trans (h.z j)
  names := fun i hi => cell_far2 (h.names i hi) g (by have := h.mlt; omega)
  mkr := hM
  g := h.g.trans g
  r0 := cell_far2 h.r0 g (by have := h.mlt; omega)
  r1 := cell_far2 h.r1 g (by have := h.mlt; omega)
  rz := fun j => (g.frozen_far ⟨w.heap.size, j, none⟩ (by have := h.lt; have := h.ge; show w.heap.size < _; omega) (by have := h.mlt; simp; omega)).trans (h.rz j)
  lt := Nat.lt_of_lt_of_le h.lt g.size
  ge := h.ge
  mlt := h.mlt
theorem GSt.al {w wx : World} {mb K fb : Nat} {nm vl : BS} {o : Obj} (h : GSt w wx mb K fb nm vl) : GSt w (wx.alloc o) mb K fb nm vl :=
  h.byte h.mkr.al (World.grownBy_alloc _ _ _)
theorem GSt.set0 {w wx : World} {mb K fb : Nat} {nm vl : BS} (h : GSt w wx mb K fb nm vl) (x : BS) : GSt w (wx.setCell ⟨fb, 0, none⟩ (str x)) mb K fb x vl where
  c0 := cs_same h.c0
  c1 := cs_other (by decide) h.c1
  z := fun j => by simpa using h.z j
  names := fun i hi => (World.cell?_setCell_other _ _ _ _ (by have := h.ge; simp <;> omega)).trans (h.names i hi)
  mkr := h.mkr.grown (grown_set wx fb 0 _) (by have := h.ge; have := h.mlt; have := h.mkr.ge; omega) (by have := h.ge; have := h.mlt; omega)
  g := grown_aside h.g (grown_set wx fb 0 _) (by have := h.ge; omega)
  r0 := (World.cell?_setCell_other _ _ _ _ (by have := h.ge; simp <;> omega)).trans h.r0
  r1 := (World.cell?_setCell_other _ _ _ _ (by have := h.ge; simp <;> omega)).trans h.r1
  rz := fun j => by simpa using h.rz j
  lt := by simpa using h.lt
  ge := h.ge
  mlt := h.mlt
theorem GSt.set1 {w wx : World} {mb K fb : Nat} {nm vl : BS} (h : GSt w wx mb K fb nm vl) (x : BS) : GSt w (wx.setCell ⟨fb, 1, none⟩ (str x)) mb K fb nm x where
  c0 := cs_other (by decide) h.c0
  c1 := cs_same h.c1
  z := fun j => by simpa using h.z j
  names := fun i hi => (World.cell?_setCell_other _ _ _ _ (by have := h.ge; simp <;> omega)).trans (h.names i hi)
  mkr := h.mkr.grown (grown_set wx fb 1 _) (by have := h.ge; have := h.mlt; have := h.mkr.ge; omega) (by have := h.ge; have := h.mlt; omega)
  g := grown_aside h.g (grown_set wx fb 1 _) (by have := h.ge; omega)
  r0 := (World.cell?_setCell_other _ _ _ _ (by have := h.ge; simp <;> omega)).trans h.r0
  r1 := (World.cell?_setCell_other _ _ _ _ (by have := h.ge; simp <;> omega)).trans h.r1
  rz := fun j => by simpa using h.rz j
  lt := by simpa using h.lt
  ge := h.ge
  mlt := h.mlt
/-- ahead of the field -/
structure PreG (w wx : World) (mb K : Nat) (fbo : Option Nat) : Prop where
  names : ∀ i, i < 23 → wx.cell? ⟨w.heap.size + 1, i, none⟩ = some (str (nmR.getD i []))
  mkr : Mk wx mb K
  g : w.grownBy wx (some mb)
  r0 : wx.cell? ⟨w.heap.size, 0, none⟩ = some (str [])
  r1 : wx.cell? ⟨w.heap.size, 1, none⟩ = some (str [])
  rz : ∀ j, wx.frozen? ⟨w.heap.size, j, none⟩ = false
  sz : w.heap.size + 2 ≤ wx.heap.size
  mlt : mb < w.heap.size
  fb : ∀ f, fbo = some f → w.heap.size + 2 ≤ f ∧ f < wx.heap.size ∧ wx.cell? ⟨f, 0, none⟩ = some (str []) ∧ wx.cell? ⟨f, 1, none⟩ = some (str []) ∧ ∀ j, wx.frozen? ⟨f, j, none⟩ = false
theorem PreG.drew {w wx : World} {mb K : Nat} {fbo : Option Nat} (h : PreG w wx mb K fbo) : PreG w wx.drew mb K fbo :=
  ⟨h.names, h.mkr.drew, ⟨h.g.os, h.g.tape, h.g.output, h.g.size, h.g.block⟩, h.r0, h.r1, h.rz, h.sz, h.mlt, h.fb⟩
theorem PreG.byte {w wx w' : World} {mb K : Nat} {fbo : Option Nat} (h : PreG w wx mb K fbo) (hM : Mk w' mb K) (g : wx.grownBy w' (some mb)) : PreG w w' mb K fbo where
  names := fun i hi => cell_far2 (h.names i hi) g (by have := h.mlt; omega)
  mkr := hM
  g := h.g.trans g
  r0 := cell_far2 h.r0 g (by have := h.mlt; omega)
  r1 := cell_far2 h.r1 g (by have := h.mlt; omega)
  rz := fun j => (g.frozen_far ⟨w.heap.size, j, none⟩ (by have := h.sz; show w.heap.size < _; omega) (by have := h.mlt; simp; omega)).trans (h.rz j)
  sz := Nat.le_trans h.sz g.size
  mlt := h.mlt
  fb := fun f hf => by
    obtain ⟨h1, h2, h3, h4, h5⟩ := h.fb f hf
    have := h.mlt
    exact ⟨h1, Nat.lt_of_lt_of_le h2 g.size, cell_far2 h3 g (by omega), cell_far2 h4 g (by omega), fun j => (g.frozen_far ⟨f, j, none⟩ h2 (by simp; omega)).trans (h5 j)⟩
theorem PreG.new {w wx : World} {mb K N : Nat} (h : PreG w wx mb K none) (hN : wx.heap.size = N) : PreG w (wx.alloc (.cells #[str [], str []] 42)) mb K (some N) := by
  subst hN
  have k := h.byte h.mkr.al (World.grownBy_alloc wx (.cells #[str [], str []] 42) _)
  refine ⟨k.names, k.mkr, k.g, k.r0, k.r1, k.rz, k.sz, k.mlt, fun f hf => ?_⟩
  injection hf with hf
  subst hf
  have hc := cells_new wx [str [], str []] 42
  exact ⟨h.sz, by simp, by have := hc 0 _ rfl; rwa [Addr.add_lit] at this, by have := hc 1 _ rfl; rwa [Addr.add_lit] at this, fun j => World.frozen?_alloc_at _ _ _ _ rfl⟩
theorem PreG.fin {w wx : World} {mb K f : Nat} (h : PreG w wx mb K (some f)) : GSt w wx mb K f [] [] := by
  obtain ⟨h1, h2, h3, h4, h5⟩ := h.fb f rfl
  exact ⟨h3, h4, h5, h.names, h.mkr, h.g, h.r0, h.r1, h.rz, h2, h1, h.mlt⟩
theorem PreG.made {w wx : World} {mb K : Nat} (h : PreG w wx mb K none) (nm vl : BS) : GSt w (wx.alloc (.cells #[str nm, str vl] 42)) mb K wx.heap.size nm vl := by
  have k := h.byte h.mkr.al (World.grownBy_alloc wx (.cells #[str nm, str vl] 42) _)
  have hc := cells_new wx [str nm, str vl] 42
  exact ⟨by have := hc 0 _ rfl; rwa [Addr.add_lit] at this, by have := hc 1 _ rfl; rwa [Addr.add_lit] at this, fun j => World.frozen?_alloc_at _ _ _ _ rfl, k.names, k.mkr, k.g, k.r0, k.r1, k.rz, by simp, h.sz, h.mlt⟩
theorem PreG.start {w : World} {mb K : Nat} (h : Mk w mb K) : PreG w ((w.alloc (.cells #[str [], str []] 42)).alloc (.cells rowN 9)) mb K none where
  names := fun i hi => by
    have := rowN_new (w.alloc (.cells #[str [], str []] 42)) i hi
    rwa [al_size] at this
  mkr := h.al.al
  g := (World.grownBy_alloc _ _ _).trans (World.grownBy_alloc _ _ _)
  r0 := bka (by have := cells_new w [str [], str []] 42 0 _ rfl; rwa [Addr.add_lit] at this)
  r1 := bka (by have := cells_new w [str [], str []] 42 1 _ rfl; rwa [Addr.add_lit] at this)
  rz := fun j => (World.frozen?_alloc_past _ _ _ (by simp)).trans (World.frozen?_alloc_at _ _ _ _ rfl)
  sz := by simp
  mlt := h.lt
  fb := fun f hf => by cases hf
theorem nmR_mem (i : Nat) (hi : i < 23) : nmR.getD i [] ∈ nmR := by
  rw [List.getD_eq_getElem?_getD, List.getElem?_eq_getElem (show i < nmR.length from hi)]
  exact List.getElem_mem _
theorem teR_mem (i : Nat) (hi : i < 3) : teR.getD i [] ∈ teR := by
  rw [List.getD_eq_getElem?_getD, List.getElem?_eq_getElem (show i < teR.length from hi)]
  exact List.getElem_mem _
theorem clR_mem (i : Nat) (hi : i < 9) : clR.getD i [] ∈ clR := by
  rw [List.getD_eq_getElem?_getD, List.getElem?_eq_getElem (show i < clR.length from hi)]
  exact List.getElem_mem _
theorem GSt.done {w wx : World} {mb K fb : Nat} {nm vl : BS} (h : GSt w wx mb K fb nm vl) (hr : regF (nm, vl)) : RegPost w mb K (.returned (.agg #[str nm, str vl])) ((wx.setCell ⟨w.heap.size, 0, none⟩ (str nm)).setCell ⟨w.heap.size, 1, none⟩ (str vl)) := by
  have g := (grown_set wx w.heap.size 0 (str nm)).trans (grown_set _ w.heap.size 1 (str vl))
  have h1 := h.mkr.ge
  have h2 := h.mlt
  exact ⟨nm, vl, rfl, hr, h.mkr.grown g (by omega) (by omega), grown_aside h.g g (Nat.le_refl _)⟩
set_option maxHeartbeats 8000000 in
theorem regular48_at (mb K : Nat) (w : World) (h : Mk w mb K) : Calls Tryz.prog 24 #[.pointer (some ⟨mb, 0, none⟩)] w (RegPost w mb K) := by
  have hlt := h.lt
  have P1 := Lib.hid (PreG.start h)
  have hN : ((w.alloc (.cells #[str [], str []] 42)).alloc (.cells rowN 9)).heap.size = w.heap.size + 1 + 1 := by rw [al_size, al_size]
  have HN := Lib.hid hN
  clear h hN
  go_enter Tryz.func24, Tryz.ntmps24
  go_upto_region 2 with fail
  rename_i K0 hK0
  go_cut [4] (fun s4 wx => ∃ fb i vl, s4 = .pointer (some ⟨fb, 0, none⟩) ∧ i < 23 ∧ vl.length ≤ 30 ∧ GSt w wx mb K fb (nmR.getD i []) vl)
  case first =>
    go_region_law (first
      | (go_simp; go_at_call 15; refine (byte_at2 mb K _ (by first | exact P1.out.mkr | exact P1.out.mkr.drew | exact P1.out.mkr.al | exact P1.out.mkr.al.drew | exact P1.out.mkr.drew.al)).mono ?_; rintro e w2 ⟨c, hc, rfl, hM2, hg2, hs2⟩
         have ht : ((c : Int)).tmod 23 = ((c % 23 : Nat) : Int) := tmod_nat c 23
         obtain ⟨i, hi⟩ : ∃ i, c % 23 = i := ⟨_, rfl⟩
         have hi23 : i < 23 := by omega
         rw [hi] at ht
         clear hi hs2
         have hi0 : (0 : Int) ≤ (i : Int) := by omega
         have hi1 : (i : Int) < 23 := by omega
         (try have P2n : PreG w w2 mb K none := by first | exact P1.out.byte hM2 hg2 | exact P1.out.drew.byte hM2 hg2)
         (try have P2s : PreG w w2 mb K (some (w.heap.size + 1 + 1)) := by first | exact (P1.out.new HN.out).byte hM2 hg2 | exact (P1.out.new HN.out).drew.byte hM2 hg2 | exact (P1.out.drew.new HN.out).byte hM2 hg2)
         (try have q := P2n.names i hi23)
         (try have q := P2s.names i hi23)
         have qa := bka (o := .cells #[str [], str []] 42) q
         (try obtain ⟨_, _, fa0, fa1, fz⟩ := P2s.fb _ rfl))
      | (go_simp; go_at_call 48; refine (val48_at mb K _ (by first | exact hM2 | exact hM2.drew | exact hM2.al | exact hM2.al.drew)).mono ?_; rintro e w3 ⟨vl, hvl, rfl, hM3, hg3⟩
         (try have P3n : PreG w w3 mb K none := by first | exact P2n.byte hM3 hg3 | exact P2n.drew.byte hM3 hg3)
         (try have P3s : PreG w w3 mb K (some (w.heap.size + 1 + 1)) := by first | exact P2s.byte hM3 hg3 | exact P2s.drew.byte hM3 hg3)
         (try have P3t : PreG w w3 mb K (some w2.heap.size) := by first | exact (P2n.new rfl).byte hM3 hg3 | exact (P2n.new rfl).drew.byte hM3 hg3 | exact (P2n.drew.new rfl).byte hM3 hg3)
         (try have q3 := P3n.names i hi23)
         (try have q3 := P3s.names i hi23)
         (try have q3 := P3t.names i hi23)
         have q3a := bka (o := .cells #[str [], str []] 42) q3
         (try obtain ⟨_, _, fb0, fb1, fbz⟩ := P3s.fb _ rfl)
         (try obtain ⟨_, _, fb0, fb1, fbz⟩ := P3t.fb _ rfl)
         (try have fz0 := fbz 0)
         (try have fz1 := fbz 1)
         (try clear fbz)))
    all_goals go_wp2_with fail
    all_goals go_meet
    all_goals first
      | exact ⟨w.heap.size + 1 + 1, i, vl, rfl, hi23, hvl, ((PreG.fin P3s).set0 _).set1 _⟩
      | exact ⟨w2.heap.size, i, vl, rfl, hi23, hvl, ((PreG.fin P3t).set0 _).set1 _⟩
      | exact ⟨w3.heap.size, i, vl, rfl, hi23, hvl, PreG.made P3n _ _⟩
  case rest =>
    obtain ⟨fb, i, vl, rfl, hi, hvl, hG⟩ := hcut
    have HG := Lib.hid hG
    have e0 := hG.c0
    have hnm : nmR.getD i [] ∈ nmR := nmR_mem i hi
    obtain ⟨nm, hnm'⟩ : ∃ nm, nmR.getD i [] = nm := ⟨_, rfl⟩
    rw [hnm'] at HG e0 hnm
    clear hG hnm'
    refine hK0 _ _ ?_
    go_upto_region 3 with fail
    rename_i K3 hK3 K4 hK4
    go_cut [26] (fun s26 wx => ∃ b, s26 = .bool b ∧ GSt w wx mb K fb nm vl)
    case first =>
      go_wp2_with fail
      refine (byte_at2 mb K _ HG.out.mkr).mono ?_
      rintro e w2 ⟨c, hc, rfl, hM2, hg2, hs2⟩
      have G2 := Lib.hid (HG.out.byte hM2 hg2)
      have e2 := G2.out.c0
      have c0' : (0 : Int) ≤ (c : Int) := by omega
      clear hs2 hM2 hg2
      obtain ⟨j, hj⟩ : ∃ j, c % 4 = j := ⟨_, rfl⟩
      have ht : ((c : Int)) % 4 = ((j : Nat) : Int) := by omega
      have ht2 : ((c : Int)).tmod 4 = ((j : Nat) : Int) := by have h := tmod_nat c 4; rw [hj] at h; exact h
      clear hj
      rcases Nat.eq_zero_or_pos j with h0 | h0
      · subst h0
        go_wp2_with fail
        go_meet
        exact ⟨_, rfl, G2.out⟩
      · have h1 : (0 : Int) < (j : Int) := by omega
        rcases Nat.eq_zero_or_pos nm.length with h2 | h2
        · have h3 : ¬ (0 : Int) < (nm.length : Int) := by omega
          go_wp2_with fail
          go_meet
          exact ⟨_, rfl, G2.out⟩
        · have h3 : (0 : Int) < (nm.length : Int) := by omega
          go_wp2_with fail
          go_meet
          exact ⟨_, rfl, G2.out⟩
    case rest =>
      obtain ⟨b, rfl, hG3⟩ := hcut
      have G3 := Lib.hid hG3
      clear hG3
      go_upto_if 26 with fail
      go_cut [] (fun wx => ∃ nm', nm' ∈ nmR ∧ GSt w wx mb K fb nm' vl)
      case first =>
        cases b
        · go_wp2_with fail
          go_meet
          exact ⟨nm, hnm, G3.out⟩
        · go_wp2_with fail
          refine (byte_at2 mb K _ G3.out.mkr).mono ?_
          rintro e w2 ⟨c, hc, rfl, hM2, hg2, hs2⟩
          have G4 := Lib.hid (G3.out.byte hM2 hg2)
          have c0' : (0 : Int) ≤ (c : Int) := by omega
          clear hs2 hM2 hg2
          obtain ⟨j, hj⟩ : ∃ j, c % 11 = j := ⟨_, rfl⟩
          have ht : ((c : Int)) % 11 = ((j : Nat) : Int) := by omega
          have ht2 : ((c : Int)).tmod 11 = ((j : Nat) : Int) := by have h := tmod_nat c 11; rw [hj] at h; exact h
          have hj11 : j < 11 := by omega
          have hj0 : (0 : Int) ≤ (j : Int) := by omega
          have hj1 : (j : Int) < 23 := by omega
          have q := G4.out.names j (by omega)
          have e4 := G4.out.c0
          have z4 := G4.out.z 0
          have hm4 := nmR_mem j (by omega)
          clear hj
          obtain ⟨n4, hn4⟩ : ∃ x, nmR.getD j [] = x := ⟨_, rfl⟩
          rw [hn4] at q hm4
          clear hn4
          go_wp2_with fail
          go_meet
          exact ⟨n4, hm4, G4.out.set0 _⟩
      case rest =>
        obtain ⟨n5, hn5, hG5⟩ := hcut
        have G5 := Lib.hid hG5
        have e5 := hG5.c0
        clear hG5 G3 HG e0 hnm
        refine hK3 _ _ ?_
        have fin : ∀ (wx : World) (v : BS), GSt w wx mb K fb n5 v → v.length ≤ 30 → (n5 = [99, 111, 110, 116, 101, 110, 116, 45, 108, 101, 110, 103, 116, 104] → v ∈ clR) → RegPost w mb K (.returned (.agg #[str n5, str v])) ((wx.setCell ⟨w.heap.size, 0, none⟩ (str n5)).setCell ⟨w.heap.size, 1, none⟩ (str v)) := fun wx v h1 h2 h3 => h1.done ⟨hn5, h2, h3⟩
        have HF := Lib.hid fin
        clear fin
        cases a1 : (n5 == [116, 101])
        · cases a2 : (n5 == [99, 111, 110, 116, 101, 110, 116, 45, 108, 101, 110, 103, 116, 104])
          · have f5 := G5.out.c1
            have r0 := G5.out.r0
            have r1 := G5.out.r1
            have z0 := G5.out.rz 0
            have z1 := G5.out.rz 1
            have HFF := Lib.hid (HF.out wc vl G5.out hvl (fun h => by rw [h] at a2; cases a2))
            have HX0 := Lib.hid (show ((wc.setCell ⟨w.heap.size, 0, none⟩ (str n5)).setCell ⟨w.heap.size, 1, none⟩ (str vl)).cell? ⟨w.heap.size, 0, none⟩ = some (str n5) from cs_other (by decide) (cs_same r0))
            have HX1 := Lib.hid (show ((wc.setCell ⟨w.heap.size, 0, none⟩ (str n5)).setCell ⟨w.heap.size, 1, none⟩ (str vl)).cell? ⟨w.heap.size, 1, none⟩ = some (str vl) from cs_same (cs_other (by decide) r1))
            go_wp2_with fail
            refine ⟨rfl, _, (show _ = Result.ok (Value.agg #[str n5, str vl]) _ by simp [results, Tryz.results24, go_sem, HX0.out, HX1.out]), HFF.out⟩
          · have KB := byte_at2 mb K (wc.alloc (.cells rowC 9)) (GSt.al G5.out).mkr
            have hne : ¬ wc.heap.size = mb := by have := G5.out.lt; have := G5.out.ge; have := G5.out.mlt; omega
            go_wp2_with fail
            refine KB.mono ?_
            rintro e w2 ⟨c, hc, rfl, hM2, hg2, hs2⟩
            have G6 := Lib.hid ((GSt.al G5.out).byte hM2 hg2)
            have c0' : (0 : Int) ≤ (c : Int) := by omega
            obtain ⟨j, hj⟩ : ∃ j, c % 9 = j := ⟨_, rfl⟩
            have ht : ((c : Int)) % 9 = ((j : Nat) : Int) := by omega
            have ht2 : ((c : Int)).tmod 9 = ((j : Nat) : Int) := by have h := tmod_nat c 9; rw [hj] at h; exact h
            have hj3 : j < 9 := by omega
            have hj0 : (0 : Int) ≤ (j : Int) := by omega
            have hj1 : (j : Int) < 9 := by omega
            have q := cell_far2 (rowC_new wc j hj3) hg2 hne
            have hm := clR_mem j hj3
            clear hj hs2 hM2 hg2
            obtain ⟨v6, hv6⟩ : ∃ x, clR.getD j [] = x := ⟨_, rfl⟩
            rw [hv6] at q hm
            clear hv6
            have e6 := G6.out.c1
            have z6 := G6.out.z 1
            have G7 := Lib.hid (G6.out.set1 v6)
            have hl6 : v6.length ≤ 30 := by
              have h : ∀ x ∈ clR, x.length ≤ 30 := by decide
              exact h v6 hm
            have f5 := G7.out.c1
            have f0 := G7.out.c0
            have r0 := G7.out.r0
            have r1 := G7.out.r1
            have z0 := G7.out.rz 0
            have z1 := G7.out.rz 1
            have HFF := Lib.hid (HF.out _ v6 G7.out hl6 (fun _ => hm))
            have HX0 := Lib.hid (show (((w2.setCell ⟨fb, 1, none⟩ (str v6)).setCell ⟨w.heap.size, 0, none⟩ (str n5)).setCell ⟨w.heap.size, 1, none⟩ (str v6)).cell? ⟨w.heap.size, 0, none⟩ = some (str n5) from cs_other (by decide) (cs_same r0))
            have HX1 := Lib.hid (show (((w2.setCell ⟨fb, 1, none⟩ (str v6)).setCell ⟨w.heap.size, 0, none⟩ (str n5)).setCell ⟨w.heap.size, 1, none⟩ (str v6)).cell? ⟨w.heap.size, 1, none⟩ = some (str v6) from cs_same (cs_other (by decide) r1))
            go_wp2_with fail
            refine ⟨rfl, _, (show _ = Result.ok (Value.agg #[str n5, str v6]) _ by simp [results, Tryz.results24, go_sem, HX0.out, HX1.out]), HFF.out⟩
        · have KB := byte_at2 mb K (wc.alloc (.cells rowT 9)) (GSt.al G5.out).mkr
          have hne : ¬ wc.heap.size = mb := by have := G5.out.lt; have := G5.out.ge; have := G5.out.mlt; omega
          go_wp2_with fail
          refine KB.mono ?_
          rintro e w2 ⟨c, hc, rfl, hM2, hg2, hs2⟩
          have G6 := Lib.hid ((GSt.al G5.out).byte hM2 hg2)
          have c0' : (0 : Int) ≤ (c : Int) := by omega
          obtain ⟨j, hj⟩ : ∃ j, c % 3 = j := ⟨_, rfl⟩
          have ht : ((c : Int)) % 3 = ((j : Nat) : Int) := by omega
          have ht2 : ((c : Int)).tmod 3 = ((j : Nat) : Int) := by have h := tmod_nat c 3; rw [hj] at h; exact h
          have hj3 : j < 3 := by omega
          have hj0 : (0 : Int) ≤ (j : Int) := by omega
          have hj1 : (j : Int) < 3 := by omega
          have q := cell_far2 (rowT_new wc j hj3) hg2 hne
          have hm := teR_mem j hj3
          clear hj hs2 hM2 hg2
          obtain ⟨v6, hv6⟩ : ∃ x, teR.getD j [] = x := ⟨_, rfl⟩
          rw [hv6] at q hm
          clear hv6
          have e6 := G6.out.c1
          have z6 := G6.out.z 1
          have G7 := Lib.hid (G6.out.set1 v6)
          have hl6 : v6.length ≤ 30 := by
            have h : ∀ x ∈ teR, x.length ≤ 30 := by decide
            exact h v6 hm
          have f5 := G7.out.c1
          have f0 := G7.out.c0
          have r0 := G7.out.r0
          have r1 := G7.out.r1
          have z0 := G7.out.rz 0
          have z1 := G7.out.rz 1
          have HFF := Lib.hid (HF.out _ v6 G7.out hl6 (fun h => by rw [h] at a1; cases a1))
          have HX0 := Lib.hid (show (((w2.setCell ⟨fb, 1, none⟩ (str v6)).setCell ⟨w.heap.size, 0, none⟩ (str n5)).setCell ⟨w.heap.size, 1, none⟩ (str v6)).cell? ⟨w.heap.size, 0, none⟩ = some (str n5) from cs_other (by decide) (cs_same r0))
          have HX1 := Lib.hid (show (((w2.setCell ⟨fb, 1, none⟩ (str v6)).setCell ⟨w.heap.size, 0, none⟩ (str n5)).setCell ⟨w.heap.size, 1, none⟩ (str v6)).cell? ⟨w.heap.size, 1, none⟩ = some (str v6) from cs_same (cs_other (by decide) r1))
          go_wp2_with fail
          refine ⟨rfl, _, (show _ = Result.ok (Value.agg #[str n5, str v6]) _ by simp [results, Tryz.results24, go_sem, HX0.out, HX1.out]), HFF.out⟩
end Go.Proofs.YtgcfnhchmmkndaaGreatDoor
