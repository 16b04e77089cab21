/- laws.hfMade: settings. -/
import Derived.Test.YtpegafbcfpedoaaH3
import Derived.Deep.CutBlock
import Derived.Deep.DeepCutAuto
import Derived.OwnWalk
namespace Go.Proofs.Ytpegafbcfpedoaa
open Go.RowKit
set_option linter.unusedVariables false
set_option maxRecDepth 100000

abbrev un (n : Nat) : Value := .int .u64 (n : Int)
def pcells (l : List (Nat × Nat)) : List Value := l.flatMap fun p => [un p.1, un p.2]
theorem pcells_length (l : List (Nat × Nat)) : (pcells l).length = l.length * 2 := by
  induction l with
  | nil => rfl
  | cons p l ih => simp only [pcells, List.flatMap_cons, List.length_append, List.length_cons, List.length_nil] at ih ⊢; omega
theorem pcells_append (a b : List (Nat × Nat)) : pcells (a ++ b) = pcells a ++ pcells b := by simp [pcells]
theorem pcells_at (l : List (Nat × Nat)) : ∀ j, (h : j < l.length) → (pcells l)[j * 2]? = some (un (l[j]).1) ∧ (pcells l)[j * 2 + 1]? = some (un (l[j]).2) := by
  induction l with
  | nil => intro j h; simp at h
  | cons p l ih =>
    intro j h
    rcases j with _ | j
    · simp [pcells]
    · have := ih j (by simpa using h)
      rw [show (j + 1) * 2 = j * 2 + 1 + 1 by omega]
      simpa [pcells] using this

def IdOk (i : Nat) : Prop := i = 6 ∨ i = 8 ∨ i = 51 ∨ i = 1 ∨ i = 7 ∨ i = 33 ∨ (100 ≤ i ∧ i < 1100)
def PairOk (p : Nat × Nat) : Prop := IdOk p.1 ∧ p.2 < 4611686018427387904 ∧ ((p.1 = 8 ∨ p.1 = 51) → p.2 < 2)
structure Good (l : List (Nat × Nat)) : Prop where
  len : l.length ≤ 5
  nd : (l.map Prod.fst).Nodup
  ok : ∀ p ∈ l, PairOk p

structure Sst (w wr : World) (mb K : Nat) (v : Value) (l : List (Nat × Nat)) : Prop where
  row : wr.ownsRow w.heap.size 41 2 v l.length (pcells l)
  mm : Mk wr mb K
  bel : Below K w wr
  hz : w.heap.size ≤ wr.heap.size
  lt : mb < w.heap.size

section
variable {w wr wr' : World} {mb K : Nat} {v v' : Value} {l : List (Nat × Nat)}
theorem Sst.ne (h : Sst w wr mb K v l) : v.ownBlock ≠ some mb := by
  intro e
  have := (h.row.lt _ e).1
  have := h.lt
  omega
theorem Sst.grown (h : Sst w wr mb K v l) (g : wr.grownBy wr' (some mb)) (M : Mk wr' mb K) : Sst w wr' mb K v l where
  row := h.row.kept g (.inr h.ne)
  mm := M
  bel := h.bel.grown g (by have := h.mm.ge; have := h.mm.lt; omega) (fun k hk => by injection hk with hk; have := h.mm.ge; omega)
  hz := Nat.le_trans h.hz g.size
  lt := h.lt
theorem Sst.alloc (h : Sst w wr mb K v l) (o : Obj) : Sst w (wr.alloc o) mb K v l where
  row := h.row.alloc o
  mm := h.mm.below (below_new wr o)
  bel := h.bel.alloc (by have := h.mm.ge; have := h.mm.lt; omega) o
  hz := by have := h.hz; simp; omega
  lt := h.lt
theorem Sst.append (h : Sst w wr mb K v l) (p : Nat × Nat) (row' : wr'.ownsRow w.heap.size 41 2 v' (l.length + 1) (pcells l ++ [un p.1, un p.2])) (g : wr.grownBy wr' v.ownBlock) : Sst w wr' mb K v' (l ++ [p]) where
  row := by
    rw [pcells_append]
    simpa [pcells] using row'
  mm := by
    rcases hv : v.ownBlock with _ | r
    · rw [hv] at g
      exact h.mm.below ⟨g.os, g.tape, g.output, g.size, fun k hk => g.block k hk (by simp)⟩
    · rw [hv] at g
      have hr := (h.row.lt _ hv).1
      have h1 := h.lt
      have h2 := h.mm.ge
      exact h.mm.grown g (by omega) (by omega)
  bel := h.bel.grown g (by have := h.mm.ge; have := h.mm.lt; omega) (fun k hk => by have := (h.row.lt _ hk).1; have := h.mm.ge; have := h.lt; omega)
  hz := Nat.le_trans h.hz g.size
  lt := h.lt
theorem row_form {e : TypeId} {size base n : Nat} {xs : List Value} (h : w.ownsRow base e size v n xs) : ∃ A c, v = .slice A n c := by
  rcases h.2 with ⟨rfl, rfl⟩ | ⟨g, cap, cur, rfl, _⟩
  · exact ⟨_, _, rfl⟩
  · exact ⟨_, _, rfl⟩
end

def SettingsPost (w : World) (mb K : Nat) (e : Ending) (w' : World) : Prop :=
  ∃ v l, e = .returned v ∧ Good l ∧ Sst w w' mb K v l

def SAt (w : World) (mb K : Nat) (v n : Value) (wr : World) : Prop :=
  ∃ (l : List (Nat × Nat)) (k : Nat), n = .int .i64 (k : Int) ∧ Sst w wr mb K v l ∧ Good l ∧ l.length + k ≤ 5

theorem info41 : (Try.prog.info? 41).map (fun i => (i.zero, i.size, i.bytes)) = some (some (.agg #[un 0, un 0]), 2, 16) := by kernel_rfl

theorem tw_next {l : List (Nat × Nat)} {j id pa pb : Nat} {tw tw' : Bool} (hj : j < l.length) (hp : l[j] = (pa, pb)) (ht : decide (id ∈ (l.take j).map Prod.fst) = tw) (h : tw' = (tw || decide (pa = id))) :
    Value.bool tw' = Value.bool (decide (id ∈ (l.take (j + 1)).map Prod.fst)) := by
  rw [List.take_succ_eq_append_getElem hj, hp, List.map_append, h, ← ht]
  congr 1
  rw [Bool.eq_iff_iff]
  simp only [Bool.or_eq_true, decide_eq_true_eq, List.mem_append, List.map_cons, List.map_nil, List.mem_singleton]
  exact or_congr Iff.rfl ⟨Eq.symm, Eq.symm⟩
theorem Good.snoc {l : List (Nat × Nat)} {p : Nat × Nat} (h : Good l) (hl : l.length < 5) (hn : p.1 ∉ l.map Prod.fst) (hp : PairOk p) : Good (l ++ [p]) where
  len := by simp; omega
  nd := by
    rw [List.map_append, List.nodup_append]
    refine ⟨h.nd, by simp, ?_⟩
    intro a ha b hb e
    obtain rfl : b = p.1 := by simpa using hb
    exact hn (e ▸ ha)
  ok := fun q hq => by
    rcases List.mem_append.1 hq with hq | hq
    · exact h.ok q hq
    · obtain rfl : q = p := by simpa using hq
      exact hp

set_option maxHeartbeats 1000000 in
theorem settings_at (mb K : Nat) (w : World) (h : Mk w mb K) : Calls Try.prog 5 #[.pointer (some ⟨mb, 0, none⟩)] w (SettingsPost w mb K) := by
  have HM := Lib.hid h
  have ge := h.ge
  clear h
  go_enter Try.func5, Try.ntmps5
  go_wp2_with fail
  refine (byte_at mb K _ HM.out).mono ?_
  rintro e w1 ⟨c, hc, rfl, hM1, hg1⟩
  have HS1 : Hid (Sst w w1 mb K (.slice none 0 0) []) := Lib.hid {
    row := World.ownsRow_nil _ _ _ _
    mm := hM1
    bel := (Below.refl K w).grown hg1 (by have := HM.out.lt; omega) (fun k hk => by injection hk with hk; omega)
    hz := hg1.size
    lt := HM.out.lt }
  clear hg1 hM1
  have hr6 : c % 6 < 6 := Nat.mod_lt _ (by omega)
  go_wp2_with fail
  go_loopw [3, 4] (fun v n wr => SAt w mb K v n wr) (fun _ k _ => (intOf k).toNat)
  case atStart => exact ⟨[], c % 6, i64_eq (by omega), HS1.out, ⟨by simp, by simp, by simp⟩, by simp; omega⟩
  case round =>
    clear HS1
    obtain ⟨l, k, rfl, hS, hG, hk⟩ := hrel
    obtain ⟨A, cp, rfl⟩ := row_form hS.row
    have HS := Lib.hid hS
    have HGd := Lib.hid hG
    clear hS hG
    rcases Nat.eq_zero_or_pos k with h0 | hk0
    · subst h0
      go_wp2_with fail
      go_ret
      exact ⟨_, l, rfl, HGd.out, HS.out⟩
    · have hk' : (0 : Int) < (k : Int) := by omega
      go_wp2_with fail
      refine (byte_at mb K _ (HS.out.alloc _).mm).mono ?_
      rintro e w2 ⟨d, hd, rfl, hM2, hg2⟩
      have HL : Hid (∃ i0 : Nat, (i0 = 0 ∨ IdOk i0) ∧ i0 < 100 ∧ w2.cell? ⟨wr.heap.size, d % 8, none⟩ = some (un i0)) := Lib.hid (by
        have hmb := HS.out.mm.lt
        have hf := fun j => hg2.cell_far ⟨wr.heap.size, j, none⟩ (by simp) (by simp; omega)
        rcases (show d % 8 = 0 ∨ d % 8 = 1 ∨ d % 8 = 2 ∨ d % 8 = 3 ∨ d % 8 = 4 ∨ d % 8 = 5 ∨ d % 8 = 6 ∨ d % 8 = 7 by omega) with hr | hr | hr | hr | hr | hr | hr | hr
        all_goals rw [hr, hf]
        · exact ⟨6, by simp [IdOk], by omega, by simp⟩
        · exact ⟨8, by simp [IdOk], by omega, by simp⟩
        · exact ⟨51, by simp [IdOk], by omega, by simp⟩
        · exact ⟨1, by simp [IdOk], by omega, by simp⟩
        · exact ⟨7, by simp [IdOk], by omega, by simp⟩
        · exact ⟨33, by simp [IdOk], by omega, by simp⟩
        · exact ⟨0, by simp, by omega, by simp⟩
        · exact ⟨0, by simp, by omega, by simp⟩)
      obtain ⟨i0, hi0, hi100, hcell⟩ := HL.out
      have HI0 := Lib.hid hi0
      have HS2 := Lib.hid ((HS.out.alloc _).grown hg2 hM2)
      clear hg2 hM2 HL HS hi0
      have hr8 : d % 8 < 8 := Nat.mod_lt _ (by omega)
      go_wp2_with fail
      refine (number_at mb K _ HS2.out.mm).mono ?_
      rintro e w3 ⟨x, hx, rfl, hM3, hg3⟩
      have HS3 := Lib.hid (HS2.out.grown hg3 hM3)
      clear hg3 hM3 HS2 hcell
      go_upto_if 26 with fail
      go_cut [5] (fun s5 wx => ∃ id, s5 = un id ∧ IdOk id ∧ Sst w wx mb K (.slice A l.length cp) l)
      case first =>
        by_cases hz : i0 = 0
        · have f1 : ((i0 : Int) == 0) = true := by rw [hz]; rfl
          clear hz
          go_wp2_with fail
          refine (number_at mb K _ HS3.out.mm).mono ?_
          rintro e w4 ⟨y, hy, rfl, hM4, hg4⟩
          have HS4 := Lib.hid (HS3.out.grown hg4 hM4)
          clear hg4 hM4 HS3
          go_wp2_with fail
          go_meet
          exact ⟨100 + y % 1000, u64_eq (by omega), by unfold IdOk; omega, HS4.out⟩
        · have f1 : ((i0 : Int) == 0) = false := by simp; omega
          clear hz
          go_wp2_with fail
          go_meet
          exact ⟨i0, rfl, HI0.out.resolve_left (by rintro rfl; exact absurd f1 (by decide)), HS3.out⟩
      case rest =>
        obtain ⟨id, rfl, hid, hS4⟩ := hcut
        have HID := Lib.hid hid
        have HS4 := Lib.hid hS4
        clear HS3 hS4 hid HI0
        go_upto_region 9 with fail
        go_cut [36] (fun s36 wx => wc = wx ∧ ∃ b, s36 = .bool b ∧ (b = false → id ≠ 8 ∧ id ≠ 51))
        case first =>
          go_wp2_with fail
          all_goals go_meet
          all_goals refine ⟨rfl, _, rfl, fun hb => ?_⟩
          all_goals first
            | (exfalso; exact absurd hb (by decide))
            | (simp at hb; omega)
        case rest =>
          obtain ⟨rfl, b, rfl, hb⟩ := hcut
          have HBB := Lib.hid hb
          clear hb
          go_upto_if 36 with fail
          go_cut [6] (fun s6 wx => wc = wx ∧ ∃ y, s6 = un y ∧ y < 4611686018427387904 ∧ ((id = 8 ∨ id = 51) → y < 2))
          case first =>
            cases b
            · go_wp2_with fail
              go_meet
              exact ⟨rfl, x, rfl, hx, fun h => by have := HBB.out (by trivial); omega⟩
            · go_wp2_with fail
              go_meet
              exact ⟨rfl, x % 2, u64_eq (by omega), by omega, fun _ => by omega⟩
          case rest =>
            obtain ⟨rfl, y, rfl, hy, hy2⟩ := hcut
            have HY2 := Lib.hid hy2
            clear hy2 HBB
            go_wp2_with fail
            go_loopw [7, 41] (fun s7 s41 wx => ∃ j : Nat, j ≤ l.length ∧ s41 = .int .i64 (j : Int) ∧ s7 = .bool (decide (id ∈ (l.take j).map Prod.fst)) ∧ Sst w wx mb K (.slice A l.length cp) l) (fun _ i _ => l.length - (intOf i).toNat)
            case atStart => exact ⟨0, by omega, rfl, by simp, HS4.out⟩
            case round =>
              obtain ⟨j, hj, rfl, rfl, hS⟩ := hrel
              have HS := Lib.hid hS
              clear hS HS4
              generalize htw : decide (id ∈ (l.take j).map Prod.fst) = tw
              have HTW := Lib.hid htw
              clear htw
              rcases Nat.lt_or_ge j l.length with hjl | hjl
              · obtain ⟨g, cap, hA, _, _⟩ := HS.out.row.form (by omega)
                obtain ⟨rfl, rfl⟩ : A = some ⟨g, 0, none⟩ ∧ cp = cap := by
                  injection hA with h1 h2 h3
                  exact ⟨h1, h3⟩
                clear hA
                have e0 := HS.out.row.cellAt (j * 2) (by omega)
                have e1 := HS.out.row.cellAt (j * 2 + 1) (by omega)
                rw [(pcells_at l j hjl).1] at e0
                rw [(pcells_at l j hjl).2] at e1
                generalize hpq : l[j] = pq at e0 e1
                have HPQ := Lib.hid hpq
                clear hpq
                obtain ⟨pa, pb⟩ := pq
                simp only at e0 e1
                have HS5 := Lib.hid (HS.out.alloc (.cells #[un pa, un pb] 41))
                cases tw
                · by_cases hid' : pa = id
                  · have f1 : ((pa : Int) == (id : Int)) = true := by rw [hid']; simp
                    have HE := Lib.hid hid'
                    clear hid'
                    go_wp2_with fail
                    exact ⟨⟨j + 1, by omega, by go_num, tw_next hjl HPQ.out HTW.out (by simp [HE.out]), HS5.out⟩, by simp [intOf]; omega⟩
                  · have f1 : ((pa : Int) == (id : Int)) = false := by simp; omega
                    have HE := Lib.hid hid'
                    clear hid'
                    go_wp2_with fail
                    exact ⟨⟨j + 1, by omega, by go_num, tw_next hjl HPQ.out HTW.out (by simp [HE.out]), HS5.out⟩, by simp [intOf]; omega⟩
                · go_wp2_with fail
                  exact ⟨⟨j + 1, by omega, by go_num, tw_next hjl HPQ.out HTW.out (by simp), HS5.out⟩, by simp [intOf]; omega⟩
              · have e : j = l.length := by omega
                subst e
                have f1 : decide ((l.length : Int) < (l.length : Int)) = false := by simp
                have HTW2 : Hid (decide (id ∈ l.map Prod.fst) = tw) := Lib.hid (by rw [← HTW.out]; simp)
                cases tw
                · obtain ⟨i9, hi9, hz0, hz1, hz2⟩ := info_parts info41
                  have hll : l.length ≤ 5 := by omega
                  go_wp2_with (at_builtin; refine wpList_append_own _ rfl (.tmp 55) (.tmp 59) 27 rfl w.heap.size 41 i9 (.agg #[un 0, un 0]) 2 16 Try.underlying27 hi9 hz0 hz1 hz2 rfl (by decide) _ _ _ rfl (HS.out.row.alloc _) ⟨wr.heap.size, 0, none⟩ 1 1 [un id, un y] rfl rfl ?c1 ?c2 ?c3 ?c4 ?c5 ?_)
                  case c1 => exact cells_new wr [un id, un y] 41
                  case c2 => intro u hu; rcases (by simpa using hu : u = un id ∨ u = un y) with rfl | rfl <;> rfl
                  case c3 => unfold maxLen; omega
                  case c4 => omega
                  case c5 => have := HS.out.hz; simp; omega
                  intro v' w9 hown' hgrow _
                  have HS9 := Lib.hid ((HS.out.alloc (.cells #[un id, un y] 41)).append (id, y) hown' hgrow)
                  clear hown' hgrow hi9 hz0 hz1 hz2
                  go_wp2_with fail
                  have hnew : id ∉ l.map Prod.fst := by simpa using HTW2.out
                  exact ⟨⟨l ++ [(id, y)], k - 1, i64_eq (by omega), HS9.out, HGd.out.snoc (by omega) hnew ⟨HID.out, hy, HY2.out⟩, by simp; omega⟩, by simp [intOf]; omega⟩
                · go_wp2_with fail
                  exact ⟨⟨l, k - 1, i64_eq (by omega), HS.out, HGd.out, by omega⟩, by simp [intOf]; omega⟩
end Go.Proofs.Ytpegafbcfpedoaa
