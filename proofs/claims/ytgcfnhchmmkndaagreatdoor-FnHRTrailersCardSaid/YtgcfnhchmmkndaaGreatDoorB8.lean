/- hrMade.byte; spec.HRSmall, spec.HRCanon. -/
import Derived.Test.YtgcfnhchmmkndaaGreatDoorB7
namespace Go.Proofs.YtgcfnhchmmkndaaGreatDoor
open Go.RowKit Go.Maps
set_option linter.unusedVariables false
set_option maxRecDepth 100000

/-- a block of bytes -/
structure Bst (w wx : World) (n : Nat) (f : Nat → UInt8) : Prop where
  cells : ∀ j, j < n → wx.cell? ⟨w.heap.size, j, none⟩ = some (.int .u8 ((f j).toNat : Int))
  fz : ∀ j, j < n → wx.frozen? ⟨w.heap.size, j, none⟩ = false
  bel : Below w.heap.size w wx
theorem Bst.same {w wx : World} {n : Nat} {f g : Nat → UInt8} (h : Bst w wx n f) (he : ∀ j, j < n → g j = f j) : Bst w wx n g :=
  ⟨fun j hj => by rw [h.cells j hj, he j hj], h.fz, h.bel⟩
theorem Bst.put {w wx : World} {n k : Nat} {f g : Nat → UInt8} {x : Int} (h : Bst w wx n f) (hk : k < n) (he : ((g k).toNat : Int) = x) (ho : ∀ j, j < n → j ≠ k → g j = f j) : Bst w (wx.setCell ⟨w.heap.size, k, none⟩ (.int .u8 x)) n g where
  cells := fun j hj => by
    by_cases e : j = k
    · subst e
      rw [World.cell?_setCell_same _ _ _ (h.cells j hj), ← he]
    · rw [World.cell?_setCell_other _ _ _ _ (by simp), h.cells j hj, ho j hj e]
  fz := fun j hj => by have := h.fz j hj; simpa using this
  bel := h.bel.setCell (Nat.le_refl _) _

def smallC (c : UInt8) : UInt8 := if 65 ≤ c.toNat ∧ c.toNat ≤ 90 then c + 32 else c
def smallL (l : List UInt8) : List UInt8 := l.map smallC
def sMix (l : List UInt8) (k j : Nat) : UInt8 := if j < k then smallC (l.getD j 0) else l.getD j 0
def cMix (l : List UInt8) (k j : Nat) : UInt8 := if j < k then canonAt l j else smallC (l.getD j 0)
theorem smallL_len (l : List UInt8) : (smallL l).length = l.length := by simp [smallL]
theorem smallL_getD (l : List UInt8) (j : Nat) (h : j < l.length) : (smallL l).getD j 0 = smallC (l.getD j 0) := by
  simp [smallL, List.getD, List.getElem?_eq_getElem h]

set_option maxHeartbeats 4000000 in
theorem small_at (s : ByteArray) (w : World) (hs : s.size ≤ 2147483648) : Calls Tryz.prog 52 #[.string s] w fun e w' => e = .returned (str (smallL s.data.toList)) ∧ Below w.heap.size w w' := by
  obtain ⟨cap, w1, hconv, hcap, hz1, hc1, hf1, hb1⟩ := conv_ex s w
  obtain ⟨l, hl⟩ : ∃ l, s.data.toList = l := ⟨_, rfl⟩
  rw [hl] at hc1 ⊢
  have HC := Lib.hid (Bst.mk hc1 hf1 hb1 : Bst w w1 s.size fun j => l.getD j 0)
  have hln : l.length = s.size := by rw [← hl]; simp
  have HLN := Lib.hid hln
  clear hc1 hf1 hb1 hl hln hz1
  obtain ⟨n, hn⟩ : ∃ n, s.size = n := ⟨_, rfl⟩
  rw [hn] at hconv hcap hs HC HLN
  clear hn
  go_enter Tryz.func52, Tryz.ntmps52
  go_wp2_with fail
  go_loopw [10] (fun i wx => ∃ k : Nat, k ≤ n ∧ i = .int .i64 (k : Int) ∧ Bst w wx n (sMix l k)) (fun i _ => n - (intOf i).toNat)
  case atStart => exact ⟨0, by omega, rfl, HC.out.same fun j _ => by simp [sMix]⟩
  case round =>
    clear HC hconv
    obtain ⟨k, hk, rfl, hS⟩ := hrel
    have HS := Lib.hid hS
    clear hS
    rcases Nat.lt_or_ge k n with hkl | hkl
    · have e0 := HS.out.cells k hkl
      have z0 := HS.out.fz k hkl
      have em : sMix l k k = l.getD k 0 := by simp [sMix]
      rw [em] at e0
      obtain ⟨x, hx⟩ : ∃ x, l.getD k 0 = x := ⟨_, rfl⟩
      rw [hx] at e0
      have HX := Lib.hid hx
      obtain ⟨c, hc⟩ : ∃ c, x.toNat = c := ⟨_, rfl⟩
      have hc256 : c < 256 := hc ▸ x.toNat_lt
      rw [hc] at e0
      have HCx := Lib.hid hc
      clear hx hc em
      have stay : ¬ (65 ≤ c ∧ c ≤ 90) → Bst w wr n (sMix l (k + 1)) := fun h => HS.out.same fun j hj => by
        unfold sMix
        rcases Nat.lt_trichotomy j k with h1 | h1 | h1
        · rw [if_pos h1, if_pos (by omega)]
        · subst h1
          rw [if_pos (by omega), if_neg (by omega), HX.out]
          unfold smallC
          rw [HCx.out, if_neg h]
        · rw [if_neg (by omega), if_neg (by omega)]
      have HStay := Lib.hid stay
      clear stay
      by_cases hcase : 65 ≤ c ∧ c ≤ 90
      · obtain ⟨h1, h2⟩ := hcase
        have hv : (((sMix l (k + 1) k).toNat : Nat) : Int) = (c : Int) + 32 := by
          unfold sMix smallC
          rw [if_pos (by omega), HX.out, HCx.out, if_pos ⟨h1, h2⟩]
          have : (x + 32).toNat = c + 32 := by rw [UInt8.toNat_add, HCx.out]; show (c + 32) % 256 = _; omega
          rw [this]; omega
        have ho : ∀ j, j < n → j ≠ k → sMix l (k + 1) j = sMix l k j := fun j _ hj => by
          unfold sMix
          rcases Nat.lt_or_gt_of_ne hj with h1 | h1
          · rw [if_pos h1, if_pos (by omega)]
          · rw [if_neg (by omega), if_neg (by omega)]
        have HV := Lib.hid (HS.out.put hkl hv ho)
        clear hv ho
        go_wp2_with fail
        exact ⟨⟨k + 1, hkl, by go_num, HV.out⟩, by simp [intOf]; omega⟩
      · have h3 : c < 65 ∨ 90 < c := by omega
        have HV := Lib.hid (HStay.out hcase)
        clear hcase
        rcases h3 with h3 | h3
        all_goals
          go_wp2_with fail
          exact ⟨⟨k + 1, hkl, by go_num, HV.out⟩, by simp [intOf]; omega⟩
    · have e : k = n := by omega
      subst e
      have hback := run_convert_bytes_back wr 22 9 5 ⟨w.heap.size, 0, none⟩ cap (smallL l) Tryz.underlying22 Tryz.underlying5 Tryz.underlying9 (fun j hj => by
        have hj' : j < k := by rw [smallL_len, HLN.out] at hj; exact hj
        rw [Addr.add_lit, Nat.zero_add, HS.out.cells j hj']
        have hj2 : j < l.length := by rw [HLN.out]; exact hj'
        simp [sMix, hj', smallL, List.getD, List.getElem?_eq_getElem hj2])
      rw [smallL_len, HLN.out] at hback
      have HB := Lib.hid HS.out.bel
      go_wp2_with fail
      go_ret
      exact ⟨rfl, HB.out⟩

theorem canonAt_45 (l : List UInt8) (j : Nat) : (canonAt l j).toNat = 45 ↔ (l.getD j 0).toNat = 45 := by
  unfold canonAt canonC
  generalize l.getD j 0 = x
  have hx := x.toNat_lt
  split
  · next h =>
    have : (x - 32).toNat = x.toNat - 32 := by rw [UInt8.toNat_sub_of_le _ _ (by rw [UInt8.le_iff_toNat_le]; exact Nat.le_trans (by decide) h.2.1)]; rfl
    rw [this]; omega
  · split
    · next h =>
      have : (x + 32).toNat = x.toNat + 32 := by rw [UInt8.toNat_add]; show (x.toNat + 32) % 256 = _; omega
      rw [this]; omega
    · exact Iff.rfl

set_option maxHeartbeats 4000000 in
theorem rcanon_at (s : ByteArray) (w : World) (hs : s.size ≤ 2147483648) : Calls Tryz.prog 37 #[.string s] w fun e w' => e = .returned (str (canonOut s.data.toList)) ∧ Below w.heap.size w w' := by
  have KS := small_at s w hs
  obtain ⟨l, hl⟩ : ∃ l, s.data.toList = l := ⟨_, rfl⟩
  rw [hl] at KS ⊢
  have hln : l.length = s.size := by rw [← hl]; simp
  have HLN := Lib.hid hln
  clear hl hln
  go_enter Tryz.func37, Tryz.ntmps37
  go_wp2_with fail
  refine KS.mono ?_
  rintro e w0 ⟨rfl, hb0⟩
  obtain ⟨cap, w1, hconv, hcap, hz1, hc1, hf1, hb1⟩ := conv_ex ⟨(smallL l).toArray⟩ w0
  have hz : (ByteArray.mk (smallL l).toArray).size = s.size := by
    show (smallL l).toArray.size = _
    rw [List.size_toArray, smallL_len, HLN.out]
  rw [hz] at hconv hcap hc1 hf1
  have HC := Lib.hid (Bst.mk (fun j hj => by rw [hc1 j hj, show (ByteArray.mk (smallL l).toArray).data.toList = smallL l by simp, smallL_getD l j (by rw [HLN.out]; exact hj)]; simp [cMix]) hf1 hb1 : Bst w0 w1 s.size (cMix l 0))
  have HB0 := Lib.hid hb0
  clear hc1 hf1 hb1 hz1 hz KS hb0
  obtain ⟨n, hn⟩ : ∃ n, s.size = n := ⟨_, rfl⟩
  rw [hn] at hconv hcap hs HC HLN
  clear hn
  go_wp2_with fail
  go_loopw [11] (fun i wx => ∃ k : Nat, k ≤ n ∧ i = .int .i64 (k : Int) ∧ Bst w0 wx n (cMix l k)) (fun i _ => n - (intOf i).toNat)
  case atStart => exact ⟨0, by omega, rfl, HC.out⟩
  case round =>
    clear HC hconv
    obtain ⟨k, hk, rfl, hS⟩ := hrel
    have HS := Lib.hid hS
    clear hS
    rcases Nat.lt_or_ge k n with hkl | hkl
    · have e0 := HS.out.cells k hkl
      have z0 := HS.out.fz k hkl
      have em : cMix l k k = smallC (l.getD k 0) := by simp [cMix]
      rw [em] at e0
      obtain ⟨c, hc⟩ : ∃ c, (smallC (l.getD k 0)).toNat = c := ⟨_, rfl⟩
      have hc256 : c < 256 := hc ▸ UInt8.toNat_lt _
      rw [hc] at e0
      have HCx := Lib.hid hc
      clear hc em
      have ho : ∀ j, j < n → j ≠ k → cMix l (k + 1) j = cMix l k j := fun j _ hj => by
        unfold cMix
        rcases Nat.lt_or_gt_of_ne hj with h1 | h1
        · rw [if_pos h1, if_pos (by omega)]
        · rw [if_neg (by omega), if_neg (by omega)]
      have HO := Lib.hid ho
      clear ho
      have hsel : ∀ x : UInt8, (smallC x).toNat = c → ((97 ≤ c ∧ c ≤ 122 → ((canonC true x).toNat : Int) = (c : Int) - 32) ∧ (¬ (97 ≤ c ∧ c ≤ 122) → canonC true x = smallC x) ∧ canonC false x = smallC x) := by
        intro x hx
        have hxl := x.toNat_lt
        unfold smallC at hx ⊢
        unfold canonC
        split at hx
        · next h =>
          have h32 : (x + 32).toNat = x.toNat + 32 := by rw [UInt8.toNat_add]; show (x.toNat + 32) % 256 = _; omega
          rw [h32] at hx
          refine ⟨fun _ => ?_, fun hh => absurd (by omega) hh, ?_⟩
          · rw [if_neg (by omega), if_neg (by simp)]; omega
          · rw [if_neg (by simp), if_pos ⟨rfl, h⟩, if_pos h]
        · next h =>
          refine ⟨fun hh => ?_, fun hh => ?_, ?_⟩
          · rw [if_pos ⟨rfl, by omega, by omega⟩]
            have : (x - 32).toNat = c - 32 := by rw [UInt8.toNat_sub_of_le _ _ (by rw [UInt8.le_iff_toNat_le, hx]; exact Nat.le_trans (by decide) hh.1), hx]; rfl
            rw [this]; omega
          · rw [if_neg (by omega), if_neg (by simp), if_neg h]
          · rw [if_neg (by simp), if_neg (by simp; omega), if_neg h]
      obtain ⟨q1, q2, q3⟩ := hsel (l.getD k 0) HCx.out
      have hup : canonAt l k = canonC (upAt l k) (l.getD k 0) := rfl
      have stay : ¬ (upAt l k = true ∧ 97 ≤ c ∧ c ≤ 122) → Bst w0 wr n (cMix l (k + 1)) := fun h => HS.out.same fun j hj => by
        by_cases e : j = k
        · subst e
          unfold cMix
          rw [if_pos (by omega), if_neg (by omega), hup]
          cases hu : upAt l j
          · exact q3
          · rw [hu] at h
            exact q2 (fun hh => h ⟨rfl, hh⟩)
        · exact HO.out j hj e
      have HStay := Lib.hid stay
      have hput : upAt l k = true ∧ 97 ≤ c ∧ c ≤ 122 → Bst w0 (wr.setCell ⟨w0.heap.size, k, none⟩ (.int .u8 ((c : Int) - 32))) n (cMix l (k + 1)) := fun h => HS.out.put hkl (by
        unfold cMix
        rw [if_pos (by omega), hup, h.1]
        exact q1 h.2) HO.out
      have HPut := Lib.hid hput
      clear stay hput q1 q2 q3 hsel hup
      rcases Nat.eq_zero_or_pos k with h0 | hp
      · subst h0
        have hu : upAt l 0 = true := by simp [upAt]
        rw [hu] at HStay HPut
        clear hu
        by_cases h3 : 97 ≤ c ∧ c ≤ 122
        · have HV := Lib.hid (HPut.out ⟨rfl, h3⟩)
          obtain ⟨h1, h2⟩ := h3
          clear HStay HPut
          go_wp2_with fail
          exact ⟨⟨1, hkl, by go_num, HV.out⟩, by simp [intOf]; omega⟩
        · have HV := Lib.hid (HStay.out (fun hh => h3 hh.2))
          have h3 : c < 97 ∨ 122 < c := by omega
          clear HStay HPut
          rcases h3 with h3 | h3
          all_goals
            go_wp2_with fail
            exact ⟨⟨1, hkl, by go_num, HV.out⟩, by simp [intOf]; omega⟩
      · obtain ⟨m, rfl⟩ : ∃ m, k = m + 1 := ⟨k - 1, by omega⟩
        have e1 := HS.out.cells m (by omega)
        have em1 : cMix l (m + 1) m = canonAt l m := by simp [cMix]
        rw [em1] at e1
        obtain ⟨d, hd⟩ : ∃ d, (canonAt l m).toNat = d := ⟨_, rfl⟩
        have hu : upAt l (m + 1) = decide (d = 45) := by
          rw [Bool.eq_iff_iff, decide_eq_true_iff, ← hd, canonAt_45]
          simp [upAt]
        rw [hd] at e1
        rw [hu] at HStay HPut
        clear hu em1
        have hd256 : d < 256 := hd ▸ UInt8.toNat_lt _
        clear hd
        have ek : ((m + 1 : Nat) : Int) - 1 = (m : Int) := by omega
        by_cases h45 : d = 45
        · subst h45
          by_cases h3 : 97 ≤ c ∧ c ≤ 122
          · have HV := Lib.hid (HPut.out ⟨by simp, h3⟩)
            obtain ⟨h1, h2⟩ := h3
            clear HStay HPut
            go_wp2_with fail
            exact ⟨⟨m + 2, hkl, by go_num, HV.out⟩, by simp [intOf]; omega⟩
          · have HV := Lib.hid (HStay.out (fun hh => h3 hh.2))
            have h3 : c < 97 ∨ 122 < c := by omega
            clear HStay HPut
            rcases h3 with h3 | h3
            all_goals
              go_wp2_with fail
              exact ⟨⟨m + 2, hkl, by go_num, HV.out⟩, by simp [intOf]; omega⟩
        · have HV := Lib.hid (HStay.out (fun hh => h45 (by simpa using hh.1)))
          have f45 : ((d : Int) == 45) = false := by simp; omega
          clear HStay HPut
          go_wp2_with fail
          exact ⟨⟨m + 2, hkl, by go_num, HV.out⟩, by simp [intOf]; omega⟩
    · have e : k = n := by omega
      subst e
      have hback := run_convert_bytes_back wr 22 9 5 ⟨w0.heap.size, 0, none⟩ cap (canonOut l) Tryz.underlying22 Tryz.underlying5 Tryz.underlying9 (fun j hj => by
        have hj' : j < k := by rw [canonOut_len, HLN.out] at hj; exact hj
        rw [canonOut_at, Addr.add_lit, Nat.zero_add, HS.out.cells j hj']
        simp [cMix, hj'])
      rw [canonOut_len, HLN.out] at hback
      have HB := Lib.hid (Below.next HB0.out HB0.out.size HS.out.bel)
      go_wp2_with fail
      go_ret
      exact ⟨rfl, HB.out⟩
end Go.Proofs.YtgcfnhchmmkndaaGreatDoor
