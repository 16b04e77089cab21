/- spec.H3Told. -/
import Derived.Test.YtpegafbcfpedoaaH5
import Derived.BigQuiet
import Derived.Deep.RegionHeld3
import Derived.Deep.QuietTactic
namespace Go.Proofs.Ytpegafbcfpedoaa
open Go.RowKit
set_option linter.unusedVariables false
set_option maxRecDepth 100000

abbrev es : Value := .string ⟨#[]⟩
def fcells (mx : Int) (dat ext : Bool) (v : Value) : List Value := [.int .i64 2, .int .u64 0, .int .u64 0, .int .i64 mx, .bool dat, .bool ext, v, es]
def frameV (mx : Int) (dat ext : Bool) (v : Value) : Value := .agg (fcells mx dat ext v).toArray
def zcells : List Value := [.int .i64 0, .int .u64 0, .int .u64 0, .int .i64 0, .bool false, .bool false, .slice none 0 0, es]

def ToldPost (w : World) (l : List (Nat × Nat)) (e : Ending) (w' : World) : Prop :=
  ∃ mx dat ext v ps, e = .returned (.tuple #[frameV mx dat ext v, .bool true]) ∧ Told l mx dat ext ps ∧ w'.ownsRow w.heap.size 41 2 v ps.length (pcells ps) ∧ Below w.heap.size w w'

/-- the state: rb is the result's block, fb the frame's -/
structure TSt (w wr : World) (mx : Int) (dat ext : Bool) (v : Value) (ps : List (Nat × Nat)) : Prop where
  r : Blk wr w.heap.size zcells
  f : Blk wr (w.heap.size + 1) (fcells mx dat ext v)
  row : wr.ownsRow (w.heap.size + 2) 41 2 v ps.length (pcells ps)
  bel : Below w.heap.size w wr

structure Ins (w : World) (A : Option Addr) (l : List (Nat × Nat)) : Prop where
  rd : Reads w w.heap.size 2 A l.length (pcells l)
  nd : (l.map Prod.fst).Nodup
  ok : ∀ p ∈ l, p.2 < 4611686018427387904 ∧ ((p.1 = 8 ∨ p.1 = 51) → p.2 < 2)
  len : l.length ≤ 100

def TAt (w : World) (l : List (Nat × Nat)) (i : Value) (wr : World) : Prop :=
  ∃ (j : Nat) (mx : Int) (dat ext : Bool) (v : Value) (ps : List (Nat × Nat)), j ≤ l.length ∧ i = .int .i64 (j : Int) ∧ TSt w wr mx dat ext v ps ∧ Told (l.take j) mx dat ext ps ∧ ps.length ≤ j


theorem own_base {w : World} {base base' : Nat} {e : TypeId} {size : Nat} {v : Value} {n : Nat} {xs : List Value} (h : w.ownsRow base e size v n xs) (hb : base' ≤ base) : w.ownsRow base' e size v n xs := by
  refine ⟨h.1, h.2.imp id ?_⟩
  rintro ⟨g, cap, cur, h1, h2, h3⟩
  exact ⟨g, cap, cur, h1, by omega, h3⟩
theorem grown8 (w : World) (b : Nat) (x0 x1 x2 x3 x4 x5 x6 x7 : Value) :
    w.grownBy ((((((((w.setCell ⟨b, 0, none⟩ x0).setCell ⟨b, 1, none⟩ x1).setCell ⟨b, 2, none⟩ x2).setCell ⟨b, 3, none⟩ x3).setCell ⟨b, 4, none⟩ x4).setCell ⟨b, 5, none⟩ x5).setCell ⟨b, 6, none⟩ x6).setCell ⟨b, 7, none⟩ x7) (some b) :=
  (((((((grown_set w b 0 x0).trans (grown_set _ b 1 x1)).trans (grown_set _ b 2 x2)).trans (grown_set _ b 3 x3)).trans (grown_set _ b 4 x4)).trans (grown_set _ b 5 x5)).trans (grown_set _ b 6 x6)).trans (grown_set _ b 7 x7)

section
variable {w wr wr' : World} {mx : Int} {dat ext : Bool} {v v' : Value} {ps ps' : List (Nat × Nat)}
theorem TSt.ne (h : TSt w wr mx dat ext v ps) {b : Nat} (hb : b < w.heap.size + 2) : v.ownBlock ≠ some b := by
  intro e
  have := (h.row.lt _ e).1
  omega
theorem TSt.drewN (h : TSt w wr mx dat ext v ps) (k : Nat) : TSt w (wr.drewN k) mx dat ext v ps := ⟨h.r.drewN k, h.f.drewN k, h.row, ⟨h.bel.os, h.bel.tape, h.bel.output, h.bel.size, h.bel.block⟩⟩
theorem TSt.alloc (h : TSt w wr mx dat ext v ps) (o : Obj) : TSt w (wr.alloc o) mx dat ext v ps where
  r := h.r.below (below_new _ _)
  f := h.f.below (below_new _ _)
  row := h.row.alloc o
  bel := h.bel.alloc h.bel.size o
theorem TSt.setf (h : TSt w wr mx dat ext v ps) (i : Nat) (x : Value) (hi : i < 8) {mx' : Int} {dat' ext' : Bool} (e : (fcells mx dat ext v).set i x = fcells mx' dat' ext' v) : TSt w (wr.setCell ⟨w.heap.size + 1, i, none⟩ x) mx' dat' ext' v ps where
  r := h.r.other _ (by simp)
  f := by
    rw [← e]
    exact h.f.set i x (by simpa [fcells] using hi)
  row := h.row.kept (grown_set _ _ _ _) (.inr (h.ne (by omega)))
  bel := h.bel.grown (grown_set _ _ i x) h.bel.size (fun k hk => by injection hk with hk; omega)
theorem TSt.rowed (h : TSt w wr mx dat ext v ps) (row' : wr'.ownsRow (w.heap.size + 2) 41 2 v' ps'.length (pcells ps')) (b : Below (w.heap.size + 2) wr wr') :
    TSt w (wr'.setCell ⟨w.heap.size + 1, 6, none⟩ v') mx dat ext v' ps' where
  r := (h.r.cut b (by omega)).other _ (by simp)
  f := (h.f.cut b (by omega)).set 6 v' (by simp [fcells])
  row := row'.kept (grown_set _ _ _ _) (.inr (by
    intro e
    have := (row'.lt _ e).1
    omega))
  bel := (h.bel.trans (b.mono (by omega))).grown (grown_set _ _ 6 v') (by have := h.bel.size; have := b.size; omega) (fun k hk => by injection hk with hk; omega)
end

theorem reads_pairs {w : World} {B n : Nat} {A : Option Addr} {l : List (Nat × Nat)} (h : Reads w B 2 A n (pcells l)) (hn : 0 < n) :
    ∃ b o, A = some ⟨b, o, none⟩ ∧ b < B ∧ ∀ j, (hj : j < l.length) → w.cell? ⟨b, o + j * 2, none⟩ = some (un (l[j]).1) ∧ w.cell? ⟨b, o + j * 2 + 1, none⟩ = some (un (l[j]).2) := by
  obtain ⟨ad, e, hb, hc⟩ := h.2 hn
  have hl : l.length = n := by have := h.1; rw [pcells_length] at this; omega
  have h0 := hc 0 _ (by have := (pcells_at l 0 (by omega)).1; simpa using this)
  obtain ⟨b, o, spot⟩ := ad
  have hspot : spot = none := by simpa [Addr.add] using World.cell?_spot h0
  subst hspot
  refine ⟨b, o, e, hb, fun j hj => ?_⟩
  have c1 := hc (j * 2) _ (pcells_at l j hj).1
  have c2 := hc (j * 2 + 1) _ (pcells_at l j hj).2
  rw [Addr.add_lit] at c1 c2
  exact ⟨c1, by rw [show o + j * 2 + 1 = o + (j * 2 + 1) by omega]; exact c2⟩

theorem drop_more {ps : List (Nat × Nat)} {m pa : Nat} (h0 : 0 < m) (hm : m ≤ ps.length) (h : ∀ p ∈ ps.drop m, pa < p.1) (hq : pa < (ps[m - 1]'(by omega)).1) : ∀ p ∈ ps.drop (m - 1), pa < p.1 := by
  intro p hp
  rw [List.drop_eq_getElem_cons (show m - 1 < ps.length by omega), show m - 1 + 1 = m by omega] at hp
  rcases List.mem_cons.1 hp with rfl | hp
  · exact hq
  · exact h p hp
theorem ins_lit {w wc : World} {mx : Int} {dat ext : Bool} {v : Value} {ps : List (Nat × Nat)} (h : TSt w wc mx dat ext v ps) (pa pb : Nat) :
    (wc.alloc (.cells #[un pa, un pb] 41)).ownsRow (w.heap.size + 2) 41 2 (.slice (some ⟨wc.heap.size, 0, none⟩) 1 1) 1 [un pa, un pb] :=
  World.ownsRow_lit wc #[un pa, un pb] 1 (by have := h.f.lt; omega) (by unfold maxLen; omega) rfl
theorem pcells_mem {ps : List (Nat × Nat)} {u : Value} (h : u ∈ pcells ps) : u.oneCell' = true := by
  unfold pcells at h
  obtain ⟨p, _, hp⟩ := List.mem_flatMap.1 h
  rcases (by simpa using hp : u = un p.1 ∨ u = un p.2) with rfl | rfl <;> rfl
theorem pcells_one (ps : List (Nat × Nat)) (k : Nat) : ∀ u ∈ (pcells ps).drop k, u.oneCell' = true := fun u hu => pcells_mem (List.mem_of_mem_drop hu)
theorem pcells_two (pa pb : Nat) (ps : List (Nat × Nat)) (k : Nat) : ∀ u ∈ [un pa, un pb] ++ (pcells ps).drop k, u.oneCell' = true := fun u hu => by
  rcases List.mem_append.1 hu with hu | hu
  · rcases (by simpa using hu : u = un pa ∨ u = un pb) with rfl | rfl <;> rfl
  · exact pcells_one ps k u hu
theorem pcells_take (ps : List (Nat × Nat)) : ∀ k, (pcells ps).take (k * 2) = pcells (ps.take k) := by
  induction ps with
  | nil => intro k; simp [pcells]
  | cons p ps ih =>
    intro k
    rcases k with _ | k
    · simp [pcells]
    · have := ih k
      rw [show (k + 1) * 2 = k * 2 + 1 + 1 by omega]
      simpa [pcells] using this
theorem pcells_drop (ps : List (Nat × Nat)) : ∀ k, (pcells ps).drop (k * 2) = pcells (ps.drop k) := by
  induction ps with
  | nil => intro k; simp [pcells]
  | cons p ps ih =>
    intro k
    rcases k with _ | k
    · simp [pcells]
    · have := ih k
      rw [show (k + 1) * 2 = k * 2 + 1 + 1 by omega]
      simpa [pcells] using this
theorem ins_row {w2 : World} {base m pa pb : Nat} {v : Value} {ps : List (Nat × Nat)} (hm : m ≤ ps.length) (h : w2.ownsRow base 41 2 v (m + (1 + (ps.length - m))) ((pcells ps).take (m * 2) ++ ([un pa, un pb] ++ (pcells ps).drop (m * 2)))) :
    w2.ownsRow base 41 2 v (ps.take m ++ (pa, pb) :: ps.drop m).length (pcells (ps.take m ++ (pa, pb) :: ps.drop m)) := by
  have e : pcells (ps.take m ++ (pa, pb) :: ps.drop m) = (pcells ps).take (m * 2) ++ ([un pa, un pb] ++ (pcells ps).drop (m * 2)) := by
    rw [pcells_append, pcells_take, pcells_drop]
    simp [pcells]
  have hl : (ps.take m ++ (pa, pb) :: ps.drop m).length = m + (1 + (ps.length - m)) := by simp; omega
  rw [e, hl]
  exact h
theorem own_kept {w W w1 : World} {base n size : Nat} {e : TypeId} {v : Value} {xs : List Value} {row : Option Nat} (h : w.ownsRow base e size v n xs) (hg : W.grownBy w1 row) (hne : v.ownBlock = none ∨ v.ownBlock ≠ row) (hh : W.heap = w.heap) : w1.ownsRow base e size v n xs :=
  World.ownsRow.kept (w := W) (by unfold World.ownsRow at h ⊢; rw [hh]; exact h) hg hne
theorem ins_row_end {w2 : World} {base pa pb : Nat} {v : Value} {ps : List (Nat × Nat)} (h : w2.ownsRow base 41 2 v (ps.length + (1 + 0)) ((pcells ps).take (ps.length * 2) ++ ([un pa, un pb] ++ []))) :
    w2.ownsRow base 41 2 v (ps.take ps.length ++ (pa, pb) :: ps.drop ps.length).length (pcells (ps.take ps.length ++ (pa, pb) :: ps.drop ps.length)) := by
  refine ins_row (Nat.le_refl _) ?_
  have e1 : (pcells ps).drop (ps.length * 2) = [] := List.drop_eq_nil_of_le (by rw [pcells_length]; omega)
  rw [e1, Nat.sub_self]
  exact h
theorem ins_row_nil {w2 : World} {base pa pb : Nat} {v : Value} (h : w2.ownsRow base 41 2 v (0 + (1 + 0)) ([] ++ ([un pa, un pb] ++ []))) :
    w2.ownsRow base 41 2 v (([] : List (Nat × Nat)).take 0 ++ (pa, pb) :: ([] : List (Nat × Nat)).drop 0).length (pcells (([] : List (Nat × Nat)).take 0 ++ (pa, pb) :: ([] : List (Nat × Nat)).drop 0)) := h
theorem ins_below0 {wc W w1 w2 : World} {B : Nat} {v : Value} (hB : B ≤ wc.heap.size) (hg1 : W.grownBy w1 (Value.slice (some ⟨wc.heap.size, 0, none⟩) 1 1).ownBlock) (hg2 : w1.grownBy w2 v.ownBlock) (h2 : ∀ k, v.ownBlock = some k → B ≤ k) (hW : Below B wc W) : Below B wc w2 :=
  (hW.grown hg1 (Nat.le_trans hB hW.size) (fun k hk => by
    have : some wc.heap.size = some k := hk
    injection this with this
    omega)).grown hg2 (by have := hg1.size; have := hW.size; omega) h2
theorem ins_below1 {wc W w1 : World} {B : Nat} (hB : B ≤ wc.heap.size) (hg1 : W.grownBy w1 (Value.slice (some ⟨wc.heap.size, 0, none⟩) 1 1).ownBlock) (hW : Below B wc W) : Below B wc w1 :=
  hW.grown hg1 (Nat.le_trans hB hW.size) (fun k hk => by
    have : some wc.heap.size = some k := hk
    injection this with this
    omega)
theorem ins_p {wc W w1 : World} {b : Nat} {vs : List Value} (h : Blk wc b vs) (hg1 : W.grownBy w1 (Value.slice (some ⟨wc.heap.size, 0, none⟩) 1 1).ownBlock) (hW : Below wc.heap.size wc W) : Blk w1 b vs :=
  (h.below hW).grown hg1 (by have := h.lt; show some b ≠ some wc.heap.size; simp; omega)
theorem ins_below {wc W w1 w2 : World} {B g m c : Nat} (hB : B ≤ wc.heap.size) (hg1 : W.grownBy w1 (Value.slice (some ⟨wc.heap.size, 0, none⟩) 1 1).ownBlock) (hg2 : w1.grownBy w2 (Value.slice (some ⟨g, 0, none⟩) m c).ownBlock) (hgr : B ≤ g) (hglt : g < wc.heap.size)
    (hW : Below B wc W) : Below B wc w2 := by
  have h1 : ∀ k, (Value.slice (some ⟨wc.heap.size, 0, none⟩) 1 1).ownBlock = some k → B ≤ k := by
    intro k hk
    have : some wc.heap.size = some k := hk
    injection this with this
    omega
  have h2 : ∀ k, (Value.slice (some ⟨g, 0, none⟩) m c).ownBlock = some k → B ≤ k := by
    intro k hk
    have : some g = some k := hk
    injection this with this
    omega
  exact (hW.grown hg1 (Nat.le_trans hB hW.size) h1).grown hg2 (by have := hg1.size; have := hW.size; omega) h2
theorem bool_eq1 (n : Nat) : ((n : Int) == 1) = decide (n = 1) := by
  rw [Bool.eq_iff_iff]
  simp
  omega

theorem told_round {w W : World} {l ps : List (Nat × Nat)} {k m pa pb : Nat} {mx : Int} {dat ext : Bool} {v : Value} (hk0 : k ≤ k) (htk : l.take (k + 1) = l.take k ++ [(pa, pb)]) (hkl : k + 1 ≤ l.length) (hS : TSt w W mx dat ext v (ps.take m ++ (pa, pb) :: ps.drop m))
    (hT : Told (l.take k) mx dat ext ps) (ho : Oth pa) (hn : pa ∉ (l.take k).map Prod.fst) (hm : m ≤ ps.length) (hgt : ∀ p ∈ ps.drop m, pa < p.1) (hle : ∀ (h0 : 0 < m) (h1 : m - 1 < ps.length), (ps[m - 1]).1 ≤ pa) (hpl : ps.length ≤ k) (hkl2 : k < l.length) :
    TAt w l (.int .i64 ((k : Int) + 1)) W ∧ l.length - (intOf (.int .i64 ((k : Int) + 1))).toNat < l.length - (intOf (.int .i64 (k : Int))).toNat :=
  ⟨⟨k + 1, mx, dat, ext, v, _, hkl, by go_num, hS, by rw [htk]; exact hT.other ho hn m hm hgt (fun h0 => hle h0 (by omega)), by simp; omega⟩, by simp [intOf]; omega⟩

set_option maxHeartbeats 40000000 in
theorem told_at (A : Option Addr) (c : Nat) (l : List (Nat × Nat)) (w : World) (h : Ins w A l) (hc : l.length ≤ c) : Calls Try.prog 4 #[.slice A l.length c] w (ToldPost w l) := by
  have HI := Lib.hid h
  have hlen := h.len
  clear h
  go_enter Try.func4, Try.ntmps4
  go_wp2_with fail
  go_loopw [13] (fun i wr => TAt w l i wr) (fun i _ => l.length - (intOf i).toNat)
  case atStart =>
    refine ⟨0, -1, false, false, .slice none 0 0, [], by omega, rfl, ⟨?_, ?_, World.ownsRow_nil _ _ _ _, ?_⟩, Told.nil, by simp⟩
    · exact (Blk.new w zcells.toArray 29).below (below_new _ _)
    · have hz : (w.alloc (.cells zcells.toArray 29)).heap.size = w.heap.size + 1 := by simp
      rw [← hz]
      exact Blk.new (w.alloc (.cells zcells.toArray 29)) (fcells (-1) false false (.slice none 0 0)).toArray 29
    · exact ((Below.refl _ w).alloc (Nat.le_refl _) _).alloc (by simp) _
  case round =>
    obtain ⟨j, mx, dat, ext, v, ps, hj, rfl, hS, hT, hpl⟩ := hrel
    obtain ⟨A2, c2, rfl⟩ := row_form hS.row
    have HS := Lib.hid hS
    have HT := Lib.hid hT
    clear hS hT
    rcases Nat.lt_or_ge j l.length with hjl | hjl
    · obtain ⟨b, o, rfl, hb, hpc⟩ := reads_pairs HI.out.rd (by omega)
      have e0 := (HS.out.bel.cell (p := ⟨b, o + j * 2, none⟩) hb).trans (hpc j hjl).1
      have e1 := (HS.out.bel.cell (p := ⟨b, o + j * 2 + 1, none⟩) hb).trans (hpc j hjl).2
      have HPC := Lib.hid hpc
      clear hpc
      generalize hpq : l[j] = pq at e0 e1
      have HPQ := Lib.hid hpq
      clear hpq
      obtain ⟨pa, pb⟩ := pq
      simp only at e0 e1
      have HS1 := Lib.hid (HS.out.alloc (.cells #[un pa, un pb] 41))
      have HP1 := Lib.hid (Blk.new wr #[un pa, un pb] 41)
      have hw2 : w.heap.size + 2 ≤ wr.heap.size := by have := HS.out.f.lt; omega
      have hown : (.slice A2 ps.length c2 : Value).ownBlock ≠ some wr.heap.size := by
        intro e
        have := (HS.out.row.lt _ e).2
        omega
      have hnew : pa ∉ (l.take j).map Prod.fst := by
        intro hm
        have hnd := HI.out.nd
        rw [← List.take_append_drop j l, List.map_append, List.nodup_append] at hnd
        have hd : pa ∈ (l.drop j).map Prod.fst := by
          rw [List.drop_eq_getElem_cons hjl, HPQ.out]
          simp
        exact hnd.2.2 pa hm pa hd rfl
      have HNEW := Lib.hid hnew
      have hpok : pb < 4611686018427387904 ∧ ((pa = 8 ∨ pa = 51) → pb < 2) := by
        have := HI.out.ok (l[j]) (List.getElem_mem hjl)
        rw [HPQ.out] at this
        exact this
      have HOK := Lib.hid hpok
      have hpb := hpok.1
      have HTK : Hid (l.take (j + 1) = l.take j ++ [(pa, pb)]) := Lib.hid (by rw [List.take_succ_eq_append_getElem hjl, HPQ.out])
      obtain ⟨wo, rfl⟩ : ∃ wo : World, wo = wr := ⟨_, rfl⟩
      clear hnew hpok
      go_wp2_with fail
      clear e0 e1 HS
      go_loopw [22] (fun i wx => ∃ k : Nat, k ≤ j ∧ i = .int .i64 (k : Int) ∧ TSt w wx mx dat ext (.slice A2 ps.length c2) ps ∧ Blk wx wo.heap.size [un pa, un pb]) (fun i _ => j - (intOf i).toNat)
      case atStart => exact ⟨0, by omega, rfl, HS1.out, HP1.out⟩
      case round =>
        obtain ⟨k, hk, rfl, hS, hP⟩ := hrel
        have HS := Lib.hid hS
        have HP := Lib.hid hP
        clear hS hP HS1 HP1
        have p0 := HP.out.at_ 0 _ rfl
        have p1 := HP.out.at_ 1 _ rfl
        rcases Nat.lt_or_ge k j with hkj | hkj
        · have e0 := (HS.out.bel.cell (p := ⟨b, o + k * 2, none⟩) hb).trans (HPC.out k (by omega)).1
          have e1 := (HS.out.bel.cell (p := ⟨b, o + k * 2 + 1, none⟩) hb).trans (HPC.out k (by omega)).2
          have hne : (l[k]'(by omega)).1 ≠ pa := by
            intro e
            apply HNEW.out
            rw [← e]
            exact List.mem_map_of_mem (List.mem_iff_getElem.2 ⟨k, by simp; omega, by simp⟩)
          generalize l[k]'(by omega) = q at e0 e1 hne
          obtain ⟨qa, qb⟩ := q
          simp only at e0 e1 hne
          have f2 : ((qa : Int) == (pa : Int)) = false := by simp; omega
          have HS2 := Lib.hid (HS.out.alloc (.cells #[un qa, un qb] 41))
          have HP2 := Lib.hid (HP.out.below (below_new wr (.cells #[un qa, un qb] 41)))
          have p0' := HP2.out.at_ 0 _ rfl
          go_wp2_with fail
          exact ⟨⟨k + 1, by omega, by go_num, HS2.out, HP2.out⟩, by simp [intOf]; omega⟩
        · have e : k = j := by omega
          subst e
          have f2 : decide ((k : Int) < (k : Int)) = false := by simp
          have HTT := HT.out
          by_cases h6 : pa = 6
          · subst h6
            have a3 := HS.out.f.at_ 3 _ rfl
            have g3 := HS.out.f.fz 3 (by simp [fcells])
            go_wp2_with fail
            exact ⟨⟨k + 1, (pb : Int), dat, ext, _, ps, by omega, by go_num, HS.out.setf 3 _ (by omega) rfl, by rw [HTK.out]; exact HTT.six HNEW.out, by omega⟩, by simp [intOf]; omega⟩
          · by_cases h8 : pa = 8
            · subst h8
              have hp2 : pb < 2 := HOK.out.2 (.inl rfl)
              have f3 : decide ((1 : Int) < (pb : Int)) = false := by simp; omega
              have a5 := HS.out.f.at_ 5 _ rfl
              have g5 := HS.out.f.fz 5 (by simp [fcells])
              go_wp2_with fail
              exact ⟨⟨k + 1, mx, dat, decide (pb = 1), _, ps, by omega, by go_num, HS.out.setf 5 _ (by omega) (by rw [bool_eq1]; rfl), by rw [HTK.out]; exact HTT.eight HNEW.out, by omega⟩, by simp [intOf]; omega⟩
            · by_cases h51 : pa = 51
              · subst h51
                have hp2 : pb < 2 := HOK.out.2 (.inr rfl)
                have f3 : decide ((1 : Int) < (pb : Int)) = false := by simp; omega
                have a4 := HS.out.f.at_ 4 _ rfl
                have g4 := HS.out.f.fz 4 (by simp [fcells])
                go_wp2_with fail
                exact ⟨⟨k + 1, mx, decide (pb = 1), ext, _, ps, by omega, by go_num, HS.out.setf 4 _ (by omega) (by rw [bool_eq1]; rfl), by rw [HTK.out]; exact HTT.data HNEW.out, by omega⟩, by simp [intOf]; omega⟩
              · have f6 : ((pa : Int) == 6) = false := by simp; omega
                have f8 : ((pa : Int) == 8) = false := by simp; omega
                have f51 : ((pa : Int) == 51) = false := by simp; omega
                have HO : Hid (Oth pa) := Lib.hid ⟨h6, h8, h51⟩
                clear h6 h8 h51
                have a6 := HS.out.f.at_ 6 _ rfl
                have g6 := HS.out.f.fz 6 (by simp [fcells])
                go_upto_block 5 with fail
                go_cut [9] (fun s9 wx => ∃ m : Nat, m ≤ ps.length ∧ s9 = .int .i64 (m : Int) ∧ (∀ p ∈ ps.drop m, pa < p.1) ∧ (∀ (h0 : 0 < m) (h1 : m - 1 < ps.length), (ps[m - 1]).1 ≤ pa) ∧ TSt w wx mx dat ext (.slice A2 ps.length c2) ps ∧ Blk wx wo.heap.size [un pa, un pb])
                case first =>
                  clear p0 p1 a6 g6
                  go_wp2_with fail
                  go_loopw [9] (fun s9 wx => ∃ m : Nat, m ≤ ps.length ∧ s9 = .int .i64 (m : Int) ∧ (∀ p ∈ ps.drop m, pa < p.1) ∧ TSt w wx mx dat ext (.slice A2 ps.length c2) ps ∧ Blk wx wo.heap.size [un pa, un pb]) (fun s9 _ => (intOf s9).toNat)
                  case atStart => exact ⟨ps.length, by omega, rfl, by simp, HS.out, HP.out⟩
                  case round =>
                    clear HS HP
                    obtain ⟨m, hm, rfl, hgt, hS, hP⟩ := hrel
                    have HS := Lib.hid hS
                    have HP := Lib.hid hP
                    have HGT := Lib.hid hgt
                    clear hS hP hgt
                    have p0 := HP.out.at_ 0 _ rfl
                    have p1 := HP.out.at_ 1 _ rfl
                    have a6 := HS.out.f.at_ 6 _ rfl
                    have g6 := HS.out.f.fz 6 (by simp [fcells])
                    rcases Nat.eq_zero_or_pos m with h0 | hm0
                    · subst h0
                      go_wp2_with fail
                      go_quiet (fail)
                      go_wp2_with fail
                      go_meet
                      case rel => exact ⟨0, by omega, rfl, HGT.out, fun h => by omega, HS.out.drewN _, HP.out.drewN _⟩
                    · obtain ⟨g, cap, hA, _, _⟩ := HS.out.row.form (by omega)
                      obtain ⟨rfl, rfl⟩ : A2 = some ⟨g, 0, none⟩ ∧ c2 = cap := by
                        injection hA with h1 h2 h3
                        exact ⟨h1, h3⟩
                      clear hA
                      have e0 := HS.out.row.cellAt ((m - 1) * 2) (by omega)
                      rw [(pcells_at ps (m - 1) (by omega)).1] at e0
                      have g1 : (1 : Int) ≤ (m : Int) := by omega
                      have g2 : (0 : Int) ≤ (m : Int) - 1 := by omega
                      have g3 : ((m : Int) - 1).toNat = m - 1 := by omega
                      have g4 : (m : Int) - 1 < (ps.length : Int) := by omega
                      have g5 : decide ((0 : Int) < (m : Int)) = true := by simp; omega
                      obtain ⟨q, hq⟩ : ∃ q, (ps[m - 1]'(by omega)).1 = q := ⟨_, rfl⟩
                      rw [hq] at e0
                      have HQ := Lib.hid hq
                      clear hq
                      by_cases hlt : pa < q
                      · have f9 : decide ((pa : Int) < (q : Int)) = true := by simp; omega
                        have HLT := Lib.hid hlt
                        clear hlt
                        have g7 : IntKind.i64.wrap ((m : Int) - 1) = (m : Int) - 1 := IntWalk.i64_in _ (by omega)
                        go_wp2_with fail
                        go_quiet (fail)
                        clear g7 g3
                        go_wp2_with fail
                        exact ⟨⟨m - 1, by omega, i64_eq (by omega), drop_more hm0 hm HGT.out (by rw [HQ.out]; exact HLT.out), HS.out.drewN _, HP.out.drewN _⟩, by simp [intOf]; omega⟩
                      · have f9 : decide ((pa : Int) < (q : Int)) = false := by simp; omega
                        have HLT := Lib.hid hlt
                        clear hlt
                        have g7 : IntKind.i64.wrap ((m : Int) - 1) = (m : Int) - 1 := IntWalk.i64_in _ (by omega)
                        go_wp2_with fail
                        go_quiet (fail)
                        clear g7 g3
                        go_wp2_with fail
                        go_meet
                        case rel => exact ⟨m, hm, rfl, HGT.out, fun _ _ => by rw [HQ.out]; exact Nat.le_of_not_lt HLT.out, HS.out.drewN _, HP.out.drewN _⟩
                case rest =>
                  obtain ⟨m, hm, rfl, hgt, hle, hS, hP⟩ := hcut
                  have HS2 := Lib.hid hS
                  have HP2 := Lib.hid hP
                  have HGT := Lib.hid hgt
                  have HLE := Lib.hid hle
                  clear hS hP hgt hle HS HP p0 p1 a6 g6
                  have p0 := HP2.out.at_ 0 _ rfl
                  have p1 := HP2.out.at_ 1 _ rfl
                  have a6 := HS2.out.f.at_ 6 _ rfl
                  have g6 := HS2.out.f.fz 6 (by simp [fcells])
                  have hcase : (A2 = none ∧ ps.length = 0 ∧ c2 = 0) ∨ ∃ g, A2 = some ⟨g, 0, none⟩ ∧ ps.length ≤ c2 := by
                    rcases HS2.out.row.2 with ⟨e1, e2⟩ | ⟨g, cap, cur, e1, _, _, e2, _⟩
                    · injection e1 with e1 e3 e4
                      exact .inl ⟨e1, e2, e4⟩
                    · injection e1 with e1 e3 e4
                      exact .inr ⟨g, e1, by omega⟩
                  go_wp2_with fail
                  have HSa := Lib.hid (HS2.out.alloc (.cells #[un pa, un pb] 41))
                  have HPa := Lib.hid (HP2.out.below (below_new wc (.cells #[un pa, un pb] 41)))
                  have a6' := HSa.out.f.at_ 6 _ rfl
                  have p0' := HPa.out.at_ 0 _ rfl
                  have p1' := HPa.out.at_ 1 _ rfl
                  obtain ⟨i9, hi9, hz0, hz1, hz2⟩ := info_parts info41
                  have hlit := ins_lit HS2.out pa pb
                  have hpre := own_prefix HSa.out.row hm
                  have hone := pcells_one ps (m * 2)
                  have hone2 := pcells_two pa pb ps (m * 2)
                  have l63 : 1 + (ps.length - m) ≤ maxLen := by simp only [maxLen]; omega
                  have lby : (1 + (ps.length - m)) * 16 ≤ 140737488355328 := by omega
                  have l63' : m + (1 + (ps.length - m)) ≤ maxLen := by simp only [maxLen]; omega
                  have lby' : (m + (1 + (ps.length - m))) * 16 ≤ 140737488355328 := by omega
                  have lbs0 : w.heap.size + 2 ≤ wc.heap.size := by have := HS2.out.f.lt; omega
                  have lbs : w.heap.size + 2 ≤ (wc.alloc (.cells #[un pa, un pb] 41)).heap.size := by simp; omega
                  rcases hcase with ⟨rfl, hps, rfl⟩ | ⟨g, rfl, hpc2⟩
                  · obtain rfl : ps = [] := List.eq_nil_of_length_eq_zero hps
                    obtain rfl : m = 0 := by simpa using hm
                    simp only [List.length_nil] at a6 a6' g6
                    have l6 : 6 < (fcells mx dat ext (.slice none ([] : List (Nat × Nat)).length 0)).length := by simp [fcells]
                    have hpre : (wc.alloc (.cells #[un pa, un pb] 41)).ownsRow (w.heap.size + 2) 41 2 (.slice none 0 0) 0 [] := World.ownsRow_nil _ _ _ _
                    have hkeep : (Value.slice none 0 0).ownBlock = none ∨ (Value.slice none 0 0).ownBlock ≠ (Value.slice (some ⟨wc.heap.size, 0, none⟩) 1 1).ownBlock := .inl rfl
                    have h2n : ∀ k, (Value.slice none 0 0).ownBlock = some k → w.heap.size + 2 ≤ k := by
                      intro k hk
                      cases hk
                    have hrest : Reads (wc.alloc (.cells #[un pa, un pb] 41)) (wc.heap.size + 1) 2 none 0 [] := ⟨by simp, fun h => absurd h (by omega)⟩
                    have hone : ∀ u ∈ ([] : List Value), u.oneCell' = true := by simp
                    have hone2 : ∀ u ∈ [un pa, un pb] ++ ([] : List Value), u.oneCell' = true := pcells_two pa pb [] 0
                    have l63 : 1 + 0 ≤ maxLen := by simp only [maxLen]; omega
                    have lby : (1 + 0) * 16 ≤ 140737488355328 := by omega
                    have l63' : 0 + (1 + 0) ≤ maxLen := by simp only [maxLen]; omega
                    have lby' : (0 + (1 + 0)) * 16 ≤ 140737488355328 := by omega
                    go_region_law (first
                      | (refine step_append_any _ (by rfl) (.tmp 59) (.tmp 63) 27 (by rfl) (w.heap.size + 2) 41 i9 (.agg #[un 0, un 0]) 2 16 Try.underlying27 hi9 hz0 hz1 hz2 rfl (by decide) _ 1 [un pa, un pb] (by rfl) hlit
                          (wc.heap.size + 1) _ 0 _ [] (by rfl) hrest hone l63 lby lbs ?_; intro v1 w1 hown1 hg1 hat1; obtain ⟨A1, c1, rfl⟩ := row_form hown1
                         first | have b1 := ins_below1 lbs0 hg1 (((Below.refl _ _).alloc lbs0 _).drew) | have b1 := ins_below1 lbs0 hg1 ((Below.refl _ _).alloc lbs0 _)
                         have hk6 := (HS2.out.f.cut b1 (Nat.lt_succ_self _)).at_ 6 _ rfl)
                      | (refine step_append_any _ (by rfl) (.tmp 57) (.tmp 64) 27 (by rfl) (w.heap.size + 2) 41 i9 (.agg #[un 0, un 0]) 2 16 Try.underlying27 hi9 hz0 hz1 hz2 rfl (by decide) _ 0 ([] : List Value) (by rfl) (own_kept hpre hg1 hkeep rfl)
                          w1.heap.size A1 (1 + 0) c1 _ (by rfl) (Reads.of_own hown1) hone2 l63' lby' (Nat.le_trans lbs hg1.size) ?_; intro v2 w2 hown2 hg2 hat2; obtain ⟨A9, c9, rfl⟩ := row_form hown2
                         first | have b2 := ins_below0 lbs0 hg1 hg2 h2n (((Below.refl _ _).alloc lbs0 _).drew) | have b2 := ins_below0 lbs0 hg1 hg2 h2n ((Below.refl _ _).alloc lbs0 _)
                         have a6'' := (HS2.out.f.cut b2 (Nat.lt_succ_self _)).at_ 6 _ rfl
                         have g6'' := (HS2.out.f.cut b2 (Nat.lt_succ_self _)).fz 6 l6))
                    all_goals go_wp2_with fail
                    all_goals exact told_round hk HTK.out (by omega) (HS2.out.rowed (ins_row_nil hown2) b2) HTT HO.out HNEW.out hm HGT.out HLE.out hpl hjl
                  · have hgr : w.heap.size + 2 ≤ g := (HS2.out.row.lt g rfl).1
                    have hglt : g < wc.heap.size := (HS2.out.row.lt g rfl).2
                    have hkeep : (Value.slice (some ⟨g, 0, none⟩) m c2).ownBlock = none ∨ (Value.slice (some ⟨g, 0, none⟩) m c2).ownBlock ≠ (Value.slice (some ⟨wc.heap.size, 0, none⟩) 1 1).ownBlock := .inr (by simp [Value.ownBlock]; omega)
                    by_cases hcm : c2 = m
                    · obtain rfl : m = ps.length := by omega
                      obtain rfl : c2 = ps.length := hcm
                      have q0 : (0 : Int) ≤ (ps.length : Int) := by omega
                      have hgwo : some wo.heap.size ≠ (Value.slice (some ⟨g, 0, none⟩) ps.length ps.length).ownBlock := by
                        intro e
                        exact hown e.symm
                      have l6 : 6 < (fcells mx dat ext (.slice (some ⟨g, 0, none⟩) ps.length ps.length)).length := by simp [fcells]
                      have hrest : Reads (wc.alloc (.cells #[un pa, un pb] 41)) (wc.heap.size + 1) 2 (some ⟨g, 0, none⟩) 0 [] := ⟨by simp, fun h => absurd h (by omega)⟩
                      have hone : ∀ u ∈ ([] : List Value), u.oneCell' = true := by simp
                      have hone2 : ∀ u ∈ [un pa, un pb] ++ ([] : List Value), u.oneCell' = true := pcells_two pa pb [] 0
                      have l63 : 1 + 0 ≤ maxLen := by simp only [maxLen]; omega
                      have lby : (1 + 0) * 16 ≤ 140737488355328 := by omega
                      have l63' : ps.length + (1 + 0) ≤ maxLen := by simp only [maxLen]; omega
                      have lby' : (ps.length + (1 + 0)) * 16 ≤ 140737488355328 := by omega
                      go_region_law (first
                        | (refine step_append_any _ (by rfl) (.tmp 59) (.tmp 63) 27 (by rfl) (w.heap.size + 2) 41 i9 (.agg #[un 0, un 0]) 2 16 Try.underlying27 hi9 hz0 hz1 hz2 rfl (by decide) _ 1 [un pa, un pb] (by rfl) hlit
                            (wc.heap.size + 1) _ 0 _ [] (by rfl) hrest hone l63 lby lbs ?_; intro v1 w1 hown1 hg1 hat1; obtain ⟨A1, c1, rfl⟩ := row_form hown1
                           first | have b1 := ins_below1 lbs0 hg1 (((Below.refl _ _).alloc lbs0 _).drew) | have b1 := ins_below1 lbs0 hg1 ((Below.refl _ _).alloc lbs0 _)
                           have hk6 := (HS2.out.f.cut b1 (Nat.lt_succ_self _)).at_ 6 _ rfl)
                        | (refine step_append_any _ (by rfl) (.tmp 57) (.tmp 64) 27 (by rfl) (w.heap.size + 2) 41 i9 (.agg #[un 0, un 0]) 2 16 Try.underlying27 hi9 hz0 hz1 hz2 rfl (by decide) _ ps.length ((pcells ps).take (ps.length * 2)) (by rfl) (own_kept hpre hg1 hkeep rfl)
                            w1.heap.size A1 (1 + 0) c1 _ (by rfl) (Reads.of_own hown1) hone2 l63' lby' (Nat.le_trans lbs hg1.size) ?_; intro v2 w2 hown2 hg2 hat2; obtain ⟨A9, c9, rfl⟩ := row_form hown2
                           first | have b2 := ins_below lbs0 hg1 hg2 hgr hglt (((Below.refl _ _).alloc lbs0 _).drew) | have b2 := ins_below lbs0 hg1 hg2 hgr hglt ((Below.refl _ _).alloc lbs0 _)
                           have a6'' := (HS2.out.f.cut b2 (Nat.lt_succ_self _)).at_ 6 _ rfl
                           have g6'' := (HS2.out.f.cut b2 (Nat.lt_succ_self _)).fz 6 l6))
                      all_goals go_wp2_with fail
                      all_goals exact told_round hk HTK.out (by omega) (HS2.out.rowed (ins_row_end hown2) b2) HTT HO.out HNEW.out hm HGT.out HLE.out hpl hjl
                    · have q0 : (0 : Int) ≤ (m : Int) := by omega
                      have q1 : (m : Int) ≤ (ps.length : Int) := by omega
                      have q2 : (m : Int) ≤ (c2 : Int) := by omega
                      have hwof : w.heap.size + 1 ≠ wo.heap.size := by omega
                      have hgwo : some wo.heap.size ≠ (Value.slice (some ⟨g, 0, none⟩) m c2).ownBlock := by
                        intro e
                        exact hown e.symm
                      have l6 : 6 < (fcells mx dat ext (.slice (some ⟨g, 0, none⟩) ps.length c2)).length := by simp [fcells]
                      have hrest := reads_rest (B := wc.heap.size + 1) HSa.out.row hm (by simp)
                      go_region_law (first
                        | (refine step_append_any _ (by rfl) (.tmp 59) (.tmp 63) 27 (by rfl) (w.heap.size + 2) 41 i9 (.agg #[un 0, un 0]) 2 16 Try.underlying27 hi9 hz0 hz1 hz2 rfl (by decide) _ 1 [un pa, un pb] (by rfl) hlit
                            (wc.heap.size + 1) _ (ps.length - m) _ ((pcells ps).drop (m * 2)) (by rfl) hrest hone l63 lby lbs ?_; intro v1 w1 hown1 hg1 hat1; obtain ⟨A1, c1, rfl⟩ := row_form hown1
                           first | have b1 := ins_below1 lbs0 hg1 (((Below.refl _ _).alloc lbs0 _).drew) | have b1 := ins_below1 lbs0 hg1 ((Below.refl _ _).alloc lbs0 _)
                           have hk6 := (HS2.out.f.cut b1 (Nat.lt_succ_self _)).at_ 6 _ rfl)
                        | (refine step_append_any _ (by rfl) (.tmp 57) (.tmp 64) 27 (by rfl) (w.heap.size + 2) 41 i9 (.agg #[un 0, un 0]) 2 16 Try.underlying27 hi9 hz0 hz1 hz2 rfl (by decide) _ m ((pcells ps).take (m * 2)) (by rfl) (own_kept hpre hg1 hkeep rfl)
                            w1.heap.size A1 (1 + (ps.length - m)) c1 _ (by rfl) (Reads.of_own hown1) hone2 l63' lby' (Nat.le_trans lbs hg1.size) ?_; intro v2 w2 hown2 hg2 hat2; obtain ⟨A9, c9, rfl⟩ := row_form hown2
                           first | have b2 := ins_below lbs0 hg1 hg2 hgr hglt (((Below.refl _ _).alloc lbs0 _).drew) | have b2 := ins_below lbs0 hg1 hg2 hgr hglt ((Below.refl _ _).alloc lbs0 _)
                           have a6'' := (HS2.out.f.cut b2 (Nat.lt_succ_self _)).at_ 6 _ rfl
                           have g6'' := (HS2.out.f.cut b2 (Nat.lt_succ_self _)).fz 6 l6))
                      all_goals go_wp2_with fail
                      all_goals exact told_round hk HTK.out (by omega) (HS2.out.rowed (ins_row hm hown2) b2) HTT HO.out HNEW.out hm HGT.out HLE.out hpl hjl
    · have e : j = l.length := by omega
      subst e
      have f1 : decide ((l.length : Int) < (l.length : Int)) = false := by simp
      have a0 := HS.out.f.at_ 0 _ rfl
      have a1 := HS.out.f.at_ 1 _ rfl
      have a2 := HS.out.f.at_ 2 _ rfl
      have a3 := HS.out.f.at_ 3 _ rfl
      have a4 := HS.out.f.at_ 4 _ rfl
      have a5 := HS.out.f.at_ 5 _ rfl
      have a6 := HS.out.f.at_ 6 _ rfl
      have a7 := HS.out.f.at_ 7 _ rfl
      have b0 := HS.out.r.at_ 0 _ rfl
      have b1 := HS.out.r.at_ 1 _ rfl
      have b2 := HS.out.r.at_ 2 _ rfl
      have b3 := HS.out.r.at_ 3 _ rfl
      have b4 := HS.out.r.at_ 4 _ rfl
      have b5 := HS.out.r.at_ 5 _ rfl
      have b6 := HS.out.r.at_ 6 _ rfl
      have b7 := HS.out.r.at_ 7 _ rfl
      have g0 := HS.out.r.fz 0 (by decide)
      have g1 := HS.out.r.fz 1 (by decide)
      have g2 := HS.out.r.fz 2 (by decide)
      have g3 := HS.out.r.fz 3 (by decide)
      have g4 := HS.out.r.fz 4 (by decide)
      have g5 := HS.out.r.fz 5 (by decide)
      have g6 := HS.out.r.fz 6 (by decide)
      have g7 := HS.out.r.fz 7 (by decide)
      go_wp2_with fail
      have B0 := HS.out.r.set 0 (.int .i64 2) (by simp [zcells])
      have z0 := B0.at_ 0 _ rfl
      have B1 := B0.set 1 (.int .u64 0) (by simp [zcells])
      have z1 := B1.at_ 1 _ rfl
      have B2 := B1.set 2 (.int .u64 0) (by simp [zcells])
      have z2 := B2.at_ 2 _ rfl
      have B3 := B2.set 3 (.int .i64 mx) (by simp [zcells])
      have z3 := B3.at_ 3 _ rfl
      have B4 := B3.set 4 (.bool dat) (by simp [zcells])
      have z4 := B4.at_ 4 _ rfl
      have B5 := B4.set 5 (.bool ext) (by simp [zcells])
      have z5 := B5.at_ 5 _ rfl
      have B6 := B5.set 6 (.slice A2 ps.length c2) (by simp [zcells])
      have z6 := B6.at_ 6 _ rfl
      have B7 := B6.set 7 (es) (by simp [zcells])
      have z7 := B7.at_ 7 _ rfl
      refine ⟨rfl, _, (show _ = Result.ok (.tuple #[frameV mx dat ext (.slice A2 ps.length c2), .bool true]) _ by simp [results, Try.results4, go_sem, z0, z1, z2, z3, z4, z5, z6, z7, frameV, fcells]), mx, dat, ext, _, ps, rfl, by simpa using HT.out, ?_, ?_⟩
      · exact own_base ((HS.out.row).kept (grown8 wr w.heap.size _ _ _ _ _ _ _ _) (.inr (HS.out.ne (by omega)))) (by omega)
      · exact HS.out.bel.grown (grown8 wr w.heap.size _ _ _ _ _ _ _ _) HS.out.bel.size (fun k hk => by injection hk with hk; omega)
end Go.Proofs.Ytpegafbcfpedoaa
