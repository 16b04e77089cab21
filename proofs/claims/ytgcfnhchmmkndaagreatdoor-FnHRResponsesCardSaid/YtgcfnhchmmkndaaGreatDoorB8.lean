/- hrMade.byte; spec.HRSmall, spec.HRCanon. -/
import Derived.Test.YtgcfnhchmmkndaaGreatDoorB5
namespace Go.Proofs.YtgcfnhchmmkndaaGreatDoor
open Go.RowKit Go.Maps
set_option linter.unusedVariables false
set_option maxRecDepth 100000

/-- a block of bytes -/
structure Bst (w wx : World) (n : Nat) (f : Nat → UInt8) : Prop where
  cells : ∀ j, j < n → wx.cell? ⟨w.heap.size, j, none⟩ = some (.int .u8 ((f j).toNat : Int))
  fz : ∀ j, j < n → wx.frozen? ⟨w.heap.size, j, none⟩ = false
  bel : Below w.heap.size w wx
theorem Bst.same {w wx : World} {n : Nat} {f g : Nat → UInt8} (h : Bst w wx n f) (he : ∀ j, j < n → g j = f j) : Bst w wx n g :=
  ⟨fun j hj => by rw [h.cells j hj, he j hj], h.fz, h.bel⟩
theorem Bst.put {w wx : World} {n k : Nat} {f g : Nat → UInt8} {x : Int} (h : Bst w wx n f) (hk : k < n) (he : ((g k).toNat : Int) = x) (ho : ∀ j, j < n → j ≠ k → g j = f j) : Bst w (wx.setCell ⟨w.heap.size, k, none⟩ (.int .u8 x)) n g where
  cells := fun j hj => by
    by_cases e : j = k
    · subst e
      rw [World.cell?_setCell_same _ _ _ (h.cells j hj), ← he]
    · rw [World.cell?_setCell_other _ _ _ _ (by simp), h.cells j hj, ho j hj e]
  fz := fun j hj => by have := h.fz j hj; simpa using this
  bel := h.bel.setCell (Nat.le_refl _) _

def smallC (c : UInt8) : UInt8 := if 65 ≤ c.toNat ∧ c.toNat ≤ 90 then c + 32 else c
def smallL (l : List UInt8) : List UInt8 := l.map smallC
def sMix (l : List UInt8) (k j : Nat) : UInt8 := if j < k then smallC (l.getD j 0) else l.getD j 0
def cMix (l : List UInt8) (k j : Nat) : UInt8 := if j < k then canonAt l j else smallC (l.getD j 0)
theorem smallL_len (l : List UInt8) : (smallL l).length = l.length := by simp [smallL]
theorem smallL_getD (l : List UInt8) (j : Nat) (h : j < l.length) : (smallL l).getD j 0 = smallC (l.getD j 0) := by
  simp [smallL, List.getD, List.getElem?_eq_getElem h]

set_option maxHeartbeats 4000000 in
theorem small_at (s : ByteArray) (w : World) (hs : s.size ≤ 2147483648) : Calls Tryz.prog 52 #[.string s] w fun e w' => e = .returned (str (smallL s.data.toList)) ∧ Below w.heap.size w w' := by
  obtain ⟨cap, w1, hconv, hcap, hz1, hc1, hf1, hb1⟩ := conv_ex s w
  obtain ⟨l, hl⟩ : ∃ l, s.data.toList = l := ⟨_, rfl⟩
  rw [hl] at hc1 ⊢
  have HC := Lib.hid (Bst.mk hc1 hf1 hb1 : Bst w w1 s.size fun j => l.getD j 0)
  have hln : l.length = s.size := by rw [← hl]; simp
  have HLN := Lib.hid hln
  clear hc1 hf1 hb1 hl hln hz1
  obtain ⟨n, hn⟩ : ∃ n, s.size = n := ⟨_, rfl⟩
  rw [hn] at hconv hcap hs HC HLN
  clear hn
  go_enter Tryz.func52, Tryz.ntmps52
  go_wp2_with fail
  go_loopw [10] (fun i wx => ∃ k : Nat, k ≤ n ∧ i = .int .i64 (k : Int) ∧ Bst w wx n (sMix l k)) (fun i _ => n - (intOf i).toNat)
  case atStart => exact ⟨0, by omega, rfl, HC.out.same fun j _ => by simp [sMix]⟩
  case round =>
    clear HC hconv
    obtain ⟨k, hk, rfl, hS⟩ := hrel
    have HS := Lib.hid hS
    clear hS
    rcases Nat.lt_or_ge k n with hkl | hkl
    · have e0 := HS.out.cells k hkl
      have z0 := HS.out.fz k hkl
      have em : sMix l k k = l.getD k 0 := by simp [sMix]
      rw [em] at e0
      obtain ⟨x, hx⟩ : ∃ x, l.getD k 0 = x := ⟨_, rfl⟩
      rw [hx] at e0
      have HX := Lib.hid hx
      obtain ⟨c, hc⟩ : ∃ c, x.toNat = c := ⟨_, rfl⟩
      have hc256 : c < 256 := hc ▸ x.toNat_lt
      rw [hc] at e0
      have HCx := Lib.hid hc
      clear hx hc em
      have stay : ¬ (65 ≤ c ∧ c ≤ 90) → Bst w wr n (sMix l (k + 1)) := fun h => HS.out.same fun j hj => by
        unfold sMix
        rcases Nat.lt_trichotomy j k with h1 | h1 | h1
        · rw [if_pos h1, if_pos (by omega)]
        · subst h1
          rw [if_pos (by omega), if_neg (by omega), HX.out]
          unfold smallC
          rw [HCx.out, if_neg h]
        · rw [if_neg (by omega), if_neg (by omega)]
      have HStay := Lib.hid stay
      clear stay
      by_cases hcase : 65 ≤ c ∧ c ≤ 90
      · obtain ⟨h1, h2⟩ := hcase
        have hv : (((sMix l (k + 1) k).toNat : Nat) : Int) = (c : Int) + 32 := by
          unfold sMix smallC
          rw [if_pos (by omega), HX.out, HCx.out, if_pos ⟨h1, h2⟩]
          have : (x + 32).toNat = c + 32 := by rw [UInt8.toNat_add, HCx.out]; show (c + 32) % 256 = _; omega
          rw [this]; omega
        have ho : ∀ j, j < n → j ≠ k → sMix l (k + 1) j = sMix l k j := fun j _ hj => by
          unfold sMix
          rcases Nat.lt_or_gt_of_ne hj with h1 | h1
          · rw [if_pos h1, if_pos (by omega)]
          · rw [if_neg (by omega), if_neg (by omega)]
        have HV := Lib.hid (HS.out.put hkl hv ho)
        clear hv ho
        go_wp2_with fail
        exact ⟨⟨k + 1, hkl, by go_num, HV.out⟩, by simp [intOf]; omega⟩
      · have h3 : c < 65 ∨ 90 < c := by omega
        have HV := Lib.hid (HStay.out hcase)
        clear hcase
        rcases h3 with h3 | h3
        all_goals
          go_wp2_with fail
          exact ⟨⟨k + 1, hkl, by go_num, HV.out⟩, by simp [intOf]; omega⟩
    · have e : k = n := by omega
      subst e
      have hback := run_convert_bytes_back wr 22 9 5 ⟨w.heap.size, 0, none⟩ cap (smallL l) Tryz.underlying22 Tryz.underlying5 Tryz.underlying9 (fun j hj => by
        have hj' : j < k := by rw [smallL_len, HLN.out] at hj; exact hj
        rw [Addr.add_lit, Nat.zero_add, HS.out.cells j hj']
        have hj2 : j < l.length := by rw [HLN.out]; exact hj'
        simp [sMix, hj', smallL, List.getD, List.getElem?_eq_getElem hj2])
      rw [smallL_len, HLN.out] at hback
      have HB := Lib.hid HS.out.bel
      go_wp2_with fail
      go_ret
      exact ⟨rfl, HB.out⟩

theorem canonAt_45 (l : List UInt8) (j : Nat) : (canonAt l j).toNat = 45 ↔ (l.getD j 0).toNat = 45 := by
  unfold canonAt canonC
  generalize l.getD j 0 = x
  have hx := x.toNat_lt
  split
  · next h =>
    have : (x - 32).toNat = x.toNat - 32 := by rw [UInt8.toNat_sub_of_le _ _ (by rw [UInt8.le_iff_toNat_le]; exact Nat.le_trans (by decide) h.2.1)]; rfl
    rw [this]; omega
  · split
    · next h =>
      have : (x + 32).toNat = x.toNat + 32 := by rw [UInt8.toNat_add]; show (x.toNat + 32) % 256 = _; omega
      rw [this]; omega
    · exact Iff.rfl

set_option maxHeartbeats 4000000 in
theorem rcanon_at (s : ByteArray) (w : World) (hs : s.size ≤ 2147483648) : Calls Tryz.prog 37 #[.string s] w fun e w' => e = .returned (str (canonOut s.data.toList)) ∧ Below w.heap.size w w' := by
  have KS := small_at s w hs
  obtain ⟨l, hl⟩ : ∃ l, s.data.toList = l := ⟨_, rfl⟩
  rw [hl] at KS ⊢
  have hln : l.length = s.size := by rw [← hl]; simp
  have HLN := Lib.hid hln
  clear hl hln
  go_enter Tryz.func37, Tryz.ntmps37
  go_wp2_with fail
  refine KS.mono ?_
  rintro e w0 ⟨rfl, hb0⟩
  obtain ⟨cap, w1, hconv, hcap, hz1, hc1, hf1, hb1⟩ := conv_ex ⟨(smallL l).toArray⟩ w0
  have hz : (ByteArray.mk (smallL l).toArray).size = s.size := by
    show (smallL l).toArray.size = _
    rw [List.size_toArray, smallL_len, HLN.out]
  rw [hz] at hconv hcap hc1 hf1
  have HC := Lib.hid (Bst.mk (fun j hj => by rw [hc1 j hj, show (ByteArray.mk (smallL l).toArray).data.toList = smallL l by simp, smallL_getD l j (by rw [HLN.out]; exact hj)]; simp [cMix]) hf1 hb1 : Bst w0 w1 s.size (cMix l 0))
  have HB0 := Lib.hid hb0
  clear hc1 hf1 hb1 hz1 hz KS hb0
  obtain ⟨n, hn⟩ : ∃ n, s.size = n := ⟨_, rfl⟩
  rw [hn] at hconv hcap hs HC HLN
  clear hn
  go_wp2_with fail
  go_loopw [11] (fun i wx => ∃ k : Nat, k ≤ n ∧ i = .int .i64 (k : Int) ∧ Bst w0 wx n (cMix l k)) (fun i _ => n - (intOf i).toNat)
  case atStart => exact ⟨0, by omega, rfl, HC.out⟩
  case round =>
    clear HC hconv
    obtain ⟨k, hk, rfl, hS⟩ := hrel
    have HS := Lib.hid hS
    clear hS
    rcases Nat.lt_or_ge k n with hkl | hkl
    · have e0 := HS.out.cells k hkl
      have z0 := HS.out.fz k hkl
      have em : cMix l k k = smallC (l.getD k 0) := by simp [cMix]
      rw [em] at e0
      obtain ⟨c, hc⟩ : ∃ c, (smallC (l.getD k 0)).toNat = c := ⟨_, rfl⟩
      have hc256 : c < 256 := hc ▸ UInt8.toNat_lt _
      rw [hc] at e0
      have HCx := Lib.hid hc
      clear hc em
      have ho : ∀ j, j < n → j ≠ k → cMix l (k + 1) j = cMix l k j := fun j _ hj => by
        unfold cMix
        rcases Nat.lt_or_gt_of_ne hj with h1 | h1
        · rw [if_pos h1, if_pos (by omega)]
        · rw [if_neg (by omega), if_neg (by omega)]
      have HO := Lib.hid ho
      clear ho
      have hsel : ∀ x : UInt8, (smallC x).toNat = c → ((97 ≤ c ∧ c ≤ 122 → ((canonC true x).toNat : Int) = (c : Int) - 32) ∧ (¬ (97 ≤ c ∧ c ≤ 122) → canonC true x = smallC x) ∧ canonC false x = smallC x) := by
        intro x hx
        have hxl := x.toNat_lt
        unfold smallC at hx ⊢
        unfold canonC
        split at hx
        · next h =>
          have h32 : (x + 32).toNat = x.toNat + 32 := by rw [UInt8.toNat_add]; show (x.toNat + 32) % 256 = _; omega
          rw [h32] at hx
          refine ⟨fun _ => ?_, fun hh => absurd (by omega) hh, ?_⟩
          · rw [if_neg (by omega), if_neg (by simp)]; omega
          · rw [if_neg (by simp), if_pos ⟨rfl, h⟩, if_pos h]
        · next h =>
          refine ⟨fun hh => ?_, fun hh => ?_, ?_⟩
          · rw [if_pos ⟨rfl, by omega, by omega⟩]
            have : (x - 32).toNat = c - 32 := by rw [UInt8.toNat_sub_of_le _ _ (by rw [UInt8.le_iff_toNat_le, hx]; exact Nat.le_trans (by decide) hh.1), hx]; rfl
            rw [this]; omega
          · rw [if_neg (by omega), if_neg (by simp), if_neg h]
          · rw [if_neg (by simp), if_neg (by simp; omega), if_neg h]
      obtain ⟨q1, q2, q3⟩ := hsel (l.getD k 0) HCx.out
      have hup : canonAt l k = canonC (upAt l k) (l.getD k 0) := rfl
      have stay : ¬ (upAt l k = true ∧ 97 ≤ c ∧ c ≤ 122) → Bst w0 wr n (cMix l (k + 1)) := fun h => HS.out.same fun j hj => by
        by_cases e : j = k
        · subst e
          unfold cMix
          rw [if_pos (by omega), if_neg (by omega), hup]
          cases hu : upAt l j
          · exact q3
          · rw [hu] at h
            exact q2 (fun hh => h ⟨rfl, hh⟩)
        · exact HO.out j hj e
      have HStay := Lib.hid stay
      have hput : upAt l k = true ∧ 97 ≤ c ∧ c ≤ 122 → Bst w0 (wr.setCell ⟨w0.heap.size, k, none⟩ (.int .u8 ((c : Int) - 32))) n (cMix l (k + 1)) := fun h => HS.out.put hkl (by
        unfold cMix
        rw [if_pos (by omega), hup, h.1]
        exact q1 h.2) HO.out
      have HPut := Lib.hid hput
      clear stay hput q1 q2 q3 hsel hup
      rcases Nat.eq_zero_or_pos k with h0 | hp
      · subst h0
        have hu : upAt l 0 = true := by simp [upAt]
        rw [hu] at HStay HPut
        clear hu
        by_cases h3 : 97 ≤ c ∧ c ≤ 122
        · have HV := Lib.hid (HPut.out ⟨rfl, h3⟩)
          obtain ⟨h1, h2⟩ := h3
          clear HStay HPut
          go_wp2_with fail
          exact ⟨⟨1, hkl, by go_num, HV.out⟩, by simp [intOf]; omega⟩
        · have HV := Lib.hid (HStay.out (fun hh => h3 hh.2))
          have h3 : c < 97 ∨ 122 < c := by omega
          clear HStay HPut
          rcases h3 with h3 | h3
          all_goals
            go_wp2_with fail
            exact ⟨⟨1, hkl, by go_num, HV.out⟩, by simp [intOf]; omega⟩
      · obtain ⟨m, rfl⟩ : ∃ m, k = m + 1 := ⟨k - 1, by omega⟩
        have e1 := HS.out.cells m (by omega)
        have em1 : cMix l (m + 1) m = canonAt l m := by simp [cMix]
        rw [em1] at e1
        obtain ⟨d, hd⟩ : ∃ d, (canonAt l m).toNat = d := ⟨_, rfl⟩
        have hu : upAt l (m + 1) = decide (d = 45) := by
          rw [Bool.eq_iff_iff, decide_eq_true_iff, ← hd, canonAt_45]
          simp [upAt]
        rw [hd] at e1
        rw [hu] at HStay HPut
        clear hu em1
        have hd256 : d < 256 := hd ▸ UInt8.toNat_lt _
        clear hd
        have ek : ((m + 1 : Nat) : Int) - 1 = (m : Int) := by omega
        by_cases h45 : d = 45
        · subst h45
          by_cases h3 : 97 ≤ c ∧ c ≤ 122
          · have HV := Lib.hid (HPut.out ⟨by simp, h3⟩)
            obtain ⟨h1, h2⟩ := h3
            clear HStay HPut
            go_wp2_with fail
            exact ⟨⟨m + 2, hkl, by go_num, HV.out⟩, by simp [intOf]; omega⟩
          · have HV := Lib.hid (HStay.out (fun hh => h3 hh.2))
            have h3 : c < 97 ∨ 122 < c := by omega
            clear HStay HPut
            rcases h3 with h3 | h3
            all_goals
              go_wp2_with fail
              exact ⟨⟨m + 2, hkl, by go_num, HV.out⟩, by simp [intOf]; omega⟩
        · have HV := Lib.hid (HStay.out (fun hh => h45 (by simpa using hh.1)))
          have f45 : ((d : Int) == 45) = false := by simp; omega
          clear HStay HPut
          go_wp2_with fail
          exact ⟨⟨m + 2, hkl, by go_num, HV.out⟩, by simp [intOf]; omega⟩
    · have e : k = n := by omega
      subst e
      have hback := run_convert_bytes_back wr 22 9 5 ⟨w0.heap.size, 0, none⟩ cap (canonOut l) Tryz.underlying22 Tryz.underlying5 Tryz.underlying9 (fun j hj => by
        have hj' : j < k := by rw [canonOut_len, HLN.out] at hj; exact hj
        rw [canonOut_at, Addr.add_lit, Nat.zero_add, HS.out.cells j hj']
        simp [cMix, hj'])
      rw [canonOut_len, HLN.out] at hback
      have HB := Lib.hid (Below.next HB0.out HB0.out.size HS.out.bel)
      go_wp2_with fail
      go_ret
      exact ⟨rfl, HB.out⟩

theorem ItemsAt.move {w w' : World} {o o' : Option Nat} {e : Ent} (h : ItemsAt w o e) (k : Below w.heap.size w w') (ho : ∀ g, o' = some g → w.heap.size ≤ g) : ItemsAt w' o' e where
  ex := by
    obtain ⟨A, c, h1, h2, h3, h4⟩ := h.ex
    refine ⟨A, c, h1, (h2.below k).more k.size, h3, fun hn ad e1 e2 => ?_⟩
    obtain ⟨ad', e3, hb, _⟩ := h2.2 hn
    rw [e1] at e3
    injection e3 with e3
    subst e3
    have := ho _ e2
    omega

theorem HL.app {w w' : World} {base : Nat} {v v' : Value} {es ys : List Ent} (h : HL w base v es) (g : w.grownBy w' v.ownBlock) (hy : ∀ y ∈ ys, ItemsAt w v.ownBlock y)
    (row : w'.ownsRow base 72 2 v' (es.length + ys.length) (hcells es ++ hcells ys)) (hat : v'.ownBlock = v.ownBlock ∨ v'.ownBlock = some w.heap.size)
    (hlo : ∀ y ∈ ys, 0 < y.items.length → ∀ g, y.val.ownBlock = some g → base ≤ g) : HL w' base v' (es ++ ys) where
  lo := fun e he => by
    rcases List.mem_append.1 he with he | he
    · exact h.lo e he
    · exact hlo e he
  row := by
    rw [hcells_append, List.length_append]
    exact row
  vals := fun e he => by
    have hI : ItemsAt w v.ownBlock e := by
      rcases List.mem_append.1 he with he | he
      · exact h.vals e he
      · exact hy e he
    obtain ⟨A, c, h1, h2, h3, h4⟩ := hI.ex
    have := hI.grown g (fun hn A' c' ad hv hA => by
      rw [h1] at hv
      injection hv with hv1 hv2 hv3
      subst hv1
      exact h4 hn ad hA)
    obtain ⟨A', c', h1', h2', h3', h4'⟩ := this.ex
    refine ⟨A', c', h1', h2', h3', fun hn ad e1 => ?_⟩
    rw [h1] at h1'
    injection h1' with i1 i2 i3
    subst i1
    rcases hat with ha | ha
    · rw [ha]; exact h4 hn ad e1
    · rw [ha]
      intro e2
      injection e2 with e2
      obtain ⟨ad', e3, hb, _⟩ := h2.2 hn
      rw [e1] at e3
      injection e3 with e3
      subst e3
      omega

theorem hcells_one {w : World} {o : Option Nat} {ys : List Ent} (hy : ∀ y ∈ ys, ItemsAt w o y) : ∀ u ∈ hcells ys, u.oneCell' = true := by
  intro u hu
  obtain ⟨y, hm, hu⟩ := List.mem_flatMap.1 hu
  simp only [List.mem_cons, List.mem_nil_iff, or_false] at hu
  rcases hu with rfl | rfl
  · rfl
  · obtain ⟨A, c, h1, _⟩ := (hy y hm).ex
    rw [h1]; rfl

theorem wpList_append_hl {ops : Array Oper} {rest : List Oper} {o : Oper} {a : Act} {w : World} {Q : Exit → Act → World → Prop} (hgd : o.guard = none) (s x : Operand)
    (ho : o.op = .call { callee := .builtin .append, args := #[s, x], argTypes := #[28, 28] })
    (base : Nat) (v : Value) (es : List Ent) (hs : a.eval s = v) (hL : HL w base v es) (A : Option Addr) (m c : Nat) (ys : List Ent) (hx : a.eval x = .slice A m c) (hR : Reads w w.heap.size 2 A m (hcells ys))
    (hm : ys.length = m) (hy : ∀ y ∈ ys, ItemsAt w v.ownBlock y) (hlo : ∀ y ∈ ys, 0 < y.items.length → ∀ g, y.val.ownBlock = some g → base ≤ g) (hb : base ≤ w.heap.size) (hn : es.length + m ≤ 4000000)
    (h : ∀ v' w', HL w' base v' (es ++ ys) → w.grownBy w' v.ownBlock → (v'.ownBlock = v.ownBlock ∨ v'.ownBlock = some w.heap.size) → wpList Tryz.prog ops Q rest (a.put o.dst v') w') : wpList Tryz.prog ops Q (o :: rest) a w := by
  obtain ⟨i7, hi7, hy0, hy1, hy2⟩ := info_parts info72
  refine wpList_append_any _ hgd s x 28 ho base 72 i7 (.agg #[str [], .slice none 0 0]) 2 40 Tryz.underlying28 hi7 hy0 hy1 hy2 rfl (by decide) v es.length (hcells es) hs hL.row w.heap.size A m c (hcells ys) hx hR (hcells_one hy) (by unfold maxLen; omega) (by omega) hb ?_
  intro v' w' h1 h2 h3
  exact h v' w' (hL.app h2 hy (by rw [hm]; exact h1) h3 hlo) h2 h3

theorem hcells_drop (es : List Ent) (k : Nat) : (hcells es).drop (k * 2) = hcells (es.drop k) := by
  induction es generalizing k with
  | nil => simp [hcells]
  | cons e t ih =>
    cases k with
    | zero => simp
    | succ k => rw [show (k + 1) * 2 = k * 2 + 2 by omega]; exact ih k
theorem hcells_take (es : List Ent) (k : Nat) : (hcells es).take (k * 2) = hcells (es.take k) := by
  induction es generalizing k with
  | nil => simp [hcells]
  | cons e t ih =>
    cases k with
    | zero => simp [hcells]
    | succ k =>
      rw [show (k + 1) * 2 = k * 2 + 2 by omega]
      show str e.key :: e.val :: (hcells t).take (k * 2) = str e.key :: e.val :: hcells (t.take k)
      rw [ih k]
theorem hcells_at (es : List Ent) (k : Nat) (h : k < es.length) : (hcells es)[k * 2]? = some (str es[k].key) ∧ (hcells es)[k * 2 + 1]? = some es[k].val := by
  induction es generalizing k with
  | nil => simp at h
  | cons e t ih =>
    cases k with
    | zero => exact ⟨rfl, rfl⟩
    | succ k =>
      rw [show (k + 1) * 2 = k * 2 + 2 by omega]
      exact ih k (by simpa using h)

structure HRow (w : World) (b : Nat) (es : List Ent) : Prop where
  key : ∀ k, (h : k < es.length) → w.cell? ⟨b, k * 2, none⟩ = some (str es[k].key)
  val : ∀ k, (h : k < es.length) → w.cell? ⟨b, k * 2 + 1, none⟩ = some es[k].val
  drop : ∀ k, k ≤ es.length → Reads w w.heap.size 2 (some ⟨b, k * 2, none⟩) (es.length - k) (hcells (es.drop k))
  take : ∀ k, k ≤ es.length → Reads w w.heap.size 2 (some ⟨b, 0, none⟩) k (hcells (es.take k))
theorem HRow.below {w w' : World} {b : Nat} {es : List Ent} (h : HRow w b es) (hb : b < w.heap.size) (k : Below w.heap.size w w') : HRow w' b es where
  key := fun i hi => (k.cell hb).trans (h.key i hi)
  val := fun i hi => (k.cell hb).trans (h.val i hi)
  drop := fun i hi => ((h.drop i hi).below k).more k.size
  take := fun i hi => ((h.take i hi).below k).more k.size

theorem HL.parts {w : World} {base : Nat} {v : Value} {es : List Ent} (h : HL w base v es) :
    (v = .slice none 0 0 ∧ es = []) ∨ ∃ b c, v = .slice (some ⟨b, 0, none⟩) es.length c ∧ base ≤ b ∧ b < w.heap.size ∧ es.length ≤ c ∧ HRow w b es := by
  rcases h.row.2 with ⟨h1, h2⟩ | ⟨g, cap, cur, h1, h2, h3, h4, _⟩
  · exact .inl ⟨h1, List.eq_nil_of_length_eq_zero h2⟩
  · refine .inr ⟨g, cap, h1, h2, ?_, h4, ?_⟩
    · exact (h.row.lt g (by rw [h1]; rfl)).2
    · have hb := (h.row.lt g (by rw [h1]; rfl)).2
      have hc : ∀ j u, (hcells es)[j]? = some u → w.cell? ⟨g, j, none⟩ = some u := fun j u hu => by
        have := h.row
        rw [h1] at this
        have := this.cells (g := g) rfl j u hu
        rwa [add_plain] at this
      refine ⟨fun k hk => hc _ _ (hcells_at es k hk).1, fun k hk => hc _ _ (hcells_at es k hk).2, fun k hk => ⟨?_, fun _ => ⟨_, rfl, hb, fun j u hu => ?_⟩⟩, fun k hk => ⟨?_, fun _ => ⟨_, rfl, hb, fun j u hu => ?_⟩⟩⟩
      · rw [hcells_len, List.length_drop]
      · rw [Addr.add_lit]
        rw [← hcells_drop, List.getElem?_drop] at hu
        exact hc _ _ hu
      · rw [hcells_len, List.length_take, Nat.min_eq_left hk]
      · rw [add_plain]
        rw [← hcells_take, List.getElem?_take] at hu
        split at hu
        · exact hc _ _ hu
        · simp at hu

def hrAdd : List (BS × List BS) → BS → BS → List (BS × List BS)
  | [], k, v => [(k, [v])]
  | (a, vs) :: t, k, v => if a < k then (a, vs) :: hrAdd t k v else if a = k then (k, vs ++ [v]) :: t else (k, [v]) :: (a, vs) :: t

theorem hrAdd_split (H : List (BS × List BS)) (k v : BS) (i : Nat) (hi : i ≤ H.length) (hl : ∀ q, (h : q < i) → (H[q]'(by omega)).1 < k) (hs : (h : i < H.length) → ¬ H[i].1 < k) :
    hrAdd H k v = H.take i ++ (if h : i < H.length then if H[i].1 = k then (k, H[i].2 ++ [v]) :: H.drop (i + 1) else (k, [v]) :: H.drop i else [(k, [v])]) := by
  induction H generalizing i with
  | nil => simp [hrAdd]
  | cons p t ih =>
    obtain ⟨a, vs⟩ := p
    cases i with
    | zero =>
      have h0 := hs (by simp)
      simp only [List.getElem_cons_zero] at h0
      simp [hrAdd, h0]
    | succ i =>
      have h0 := hl 0 (by omega)
      simp only [List.getElem_cons_zero] at h0
      have := ih i (by simpa using hi) (fun q hq => by have := hl (q + 1) (by omega); simpa using this) (fun h => by have := hs (by simpa using h); simpa using this)
      simp only [hrAdd, h0, if_true, this, List.take_succ_cons, List.cons_append, List.length_cons, List.drop_succ_cons, List.getElem_cons_succ, Nat.add_lt_add_iff_right]

def HAddPost (w : World) (base : Nat) (H : List (BS × List BS)) (e : Ending) (w' : World) : Prop :=
  ∃ v es, e = .returned v ∧ HL w' base v es ∧ absE es = H ∧ Below w.heap.size w w' ∧ ∀ g, v.ownBlock = some g → w.heap.size ≤ g

/-- the entry that is made: a row of one string, and a head of it -/
def newW (w : World) (k v : BS) : World := (w.alloc (.cells #[str v] 9)).alloc (.cells #[str k, .slice (some ⟨w.heap.size, 0, none⟩) 1 1] 72)
def newE (w : World) (k v : BS) : Ent := ⟨k, .slice (some ⟨w.heap.size, 0, none⟩) 1 1, [v]⟩
theorem newW_eq (w : World) (k v : BS) : (w.alloc (.cells #[str v] 9)).alloc (.cells #[str k, .slice (some ⟨w.heap.size, 0, none⟩) 1 1] 72) = newW w k v := rfl
theorem newW_size (w : World) (k v : BS) : (newW w k v).heap.size = w.heap.size + 2 := by simp [newW]
theorem newW_below (w : World) (k v : BS) : Below w.heap.size w (newW w k v) := ((Below.refl w.heap.size w).alloc (Nat.le_refl _) _).alloc (by simp) _
theorem newE_at (w : World) (k v : BS) (o : Option Nat) (ho : ∀ g, o = some g → g < w.heap.size) : ItemsAt (newW w k v) o (newE w k v) where
  ex := ⟨_, _, rfl, ⟨rfl, fun _ => ⟨_, rfl, by rw [newW_size]; simp, fun j u hu => by
    match j, hu with
    | 0, hu =>
      simp [newE, scells] at hu
      subst hu
      simp [newW, Addr.add]⟩⟩, Nat.le_refl _, fun _ ad e1 e2 => by
    injection e1 with e1
    subst e1
    have := ho _ e2
    simp at this⟩
theorem newE_reads (w : World) (k v : BS) : Reads (newW w k v) (newW w k v).heap.size 2 (some ⟨w.heap.size + 1, 0, none⟩) 1 (hcells [newE w k v]) :=
  ⟨rfl, fun _ => ⟨_, rfl, by rw [newW_size]; simp, fun j u hu => by
    match j, hu with
    | 0, hu => simp [newE, hcells] at hu; subst hu; simp [newW, Addr.add]
    | 1, hu => simp [newE, hcells] at hu; subst hu; simp [newW, Addr.add]⟩⟩

/-- after the first appends -/
structure Out1 (w wx : World) (base : Nat) (v : Value) (es : List Ent) : Prop where
  hl : HL wx base v es
  bel : Below w.heap.size w wx
  own : ∀ g, v.ownBlock = some g → w.heap.size ≤ g
theorem Out1.app {w w1 w2 : World} {base : Nat} {v v' : Value} {es es' : List Ent} (h : Out1 w w1 base v es) (hL : HL w2 base v' es') (g : w1.grownBy w2 v.ownBlock) (hat : v'.ownBlock = v.ownBlock ∨ v'.ownBlock = some w1.heap.size) : Out1 w w2 base v' es' where
  hl := hL
  bel := h.bel.grown g h.bel.size (fun k hk => h.own k hk)
  own := fun g' hg => by
    rcases hat with e | e
    · exact h.own g' (e ▸ hg)
    · rw [e] at hg
      injection hg with hg
      have := h.bel.size
      omega
theorem Out1.new {w w1 : World} {base : Nat} {v : Value} {es : List Ent} (h : Out1 w w1 base v es) (k u : BS) : Out1 w (newW w1 k u) base v es where
  hl := h.hl.below (newW_below _ _ _)
  bel := Below.next h.bel h.bel.size (newW_below _ _ _)
  own := h.own

/-- the new entry's append, and the last one -/
def Tail (w : World) (base : Nat) (es : List Ent) (H : List (BS × List BS)) (v : Value) (w1 : World) : Prop := ∃ v' es', HL w1 base v' es'
set_option maxHeartbeats 4000000 in
theorem hradd_nil (k v : BS) (base : Nat) (w : World) (hb : base ≤ w.heap.size) : Calls Tryz.prog 36 #[.slice none 0 0, str k, str v] w (HAddPost w base (hrAdd [] k v)) := by
  go_enter Tryz.func36, Tryz.ntmps36
  go_wp2_with fail
  refine wp_loop_rounds 1 ?_
  rw [rounds_succ]
  go_wp2_with (at_builtin; refine wpList_append_hl rfl (.tmp 24) (.tmp 27) rfl base _ [] rfl (HL.nil _ _) none 0 0 [] rfl Reads.none_ rfl (fun y hy => by cases hy) (fun y hy => by cases hy) hb (by decide) ?_)
  intro v1 w1 hL1 hg1 hat1
  have O1 := Lib.hid ((⟨HL.nil _ _, Below.refl _ _, fun g hg => by cases hg⟩ : Out1 w w base (.slice none 0 0) []).app hL1 hg1 hat1)
  obtain ⟨A1, c1, rfl⟩ := row_form hL1.row
  clear hL1 hg1 hat1
  have N1 := Lib.hid (O1.out.new k v)
  have hb1 : base ≤ (newW w1 k v).heap.size := by have := N1.out.bel.size; omega
  have E1 := newE_at w1 k v (Value.slice A1 0 c1).ownBlock (fun g hg => (O1.out.hl.row.lt g hg).2)
  have R1 := newE_reads w1 k v
  go_wp2_with (at_builtin; rw [newW_eq]; refine wpList_append_hl rfl (.tmp 63) (.tmp 68) rfl base _ [] rfl N1.out.hl (some ⟨w1.heap.size + 1, 0, none⟩) 1 1 [newE w1 k v] rfl R1 rfl (fun y hy => by rw [List.mem_singleton.1 hy]; exact E1) (fun y hy hn g hg => by rw [List.mem_singleton.1 hy] at hg; injection hg with hg; have := O1.out.bel.size; simp at hg; omega) hb1 (by decide) ?_)
  intro v2 w2 hL2 hg2 hat2
  have O2 := Lib.hid (N1.out.app hL2 hg2 hat2)
  obtain ⟨A2, c2, rfl⟩ := row_form hL2.row
  have hb2 : base ≤ w2.heap.size := by have := O2.out.bel.size; omega
  clear hL2 hg2 hat2 E1 R1 hb1
  go_wp2_with (at_builtin; refine wpList_append_hl rfl (.tmp 70) (.tmp 73) rfl base _ [newE w1 k v] rfl O2.out.hl none 0 0 [] rfl Reads.none_ rfl (fun y hy => by cases hy) (fun y hy => by cases hy) hb2 (by simp) ?_)
  intro v3 w3 hL3 hg3 hat3
  have O3 := Lib.hid (O2.out.app hL3 hg3 hat3)
  clear hL3 hg3 hat3
  go_wp2_with fail
  go_ret
  exact ⟨v3, _, rfl, O3.out.hl, rfl, O3.out.bel, O3.out.own⟩
end Go.Proofs.YtgcfnhchmmkndaaGreatDoor
