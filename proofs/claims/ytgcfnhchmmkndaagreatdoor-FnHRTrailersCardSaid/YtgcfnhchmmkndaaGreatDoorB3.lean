/- impl.fields; http3.fields and its closure. -/
import Derived.Test.YtgcfnhchmmkndaaGreatDoorA6
namespace Go.Proofs.YtgcfnhchmmkndaaGreatDoor
open Go.RowKit Go.Maps
set_option linter.unusedVariables false
set_option maxRecDepth 100000

def fc (l : List (BS × BS)) : List Value := l.flatMap fun p => [str p.1, str p.2]
theorem fc_len (l : List (BS × BS)) : (fc l).length = l.length * 2 := by
  induction l with
  | nil => rfl
  | cons p l ih => simp only [fc, List.flatMap_cons, List.length_append, List.length_cons, List.length_nil] at ih ⊢; omega
theorem fc_append (a b : List (BS × BS)) : fc (a ++ b) = fc a ++ fc b := by simp [fc]
theorem fc_at (l : List (BS × BS)) : ∀ j, (h : j < l.length) → (fc l)[j * 2]? = some (str (l[j]).1) ∧ (fc l)[j * 2 + 1]? = some (str (l[j]).2) := by
  induction l with
  | nil => intro j h; simp at h
  | cons p l ih =>
    intro j h
    rcases j with _ | j
    · simp [fc]
    · have := ih j (by simpa using h)
      rw [show (j + 1) * 2 = j * 2 + 2 by omega]
      simpa [fc, List.flatMap_cons] using this
theorem fc_drop (l : List (BS × BS)) : ∀ k, (fc l).drop (k * 2) = fc (l.drop k) := by
  induction l with
  | nil => intro k; simp [fc]
  | cons p l ih =>
    intro k
    rcases k with _ | k
    · simp [fc]
    · rw [show (k + 1) * 2 = k * 2 + 2 by omega]
      have := ih k
      simpa [fc, List.flatMap_cons] using this
theorem fc_one (l : List (BS × BS)) : ∀ u ∈ fc l, u.oneCell' = true := fun u hu => by
  obtain ⟨p, _, hp⟩ := List.mem_flatMap.1 hu
  rcases (by simpa using hp : u = str p.1 ∨ u = str p.2) with rfl | rfl <;> rfl
theorem reads_fields {w : World} {B n : Nat} {A : Option Addr} {l : List (BS × BS)} (h : Reads w B 2 A n (fc l)) (hn : 0 < n) :
    ∃ b o, A = some ⟨b, o, none⟩ ∧ b < B ∧ ∀ j, (hj : j < l.length) → w.cell? ⟨b, o + j * 2, none⟩ = some (str (l[j]).1) ∧ w.cell? ⟨b, o + j * 2 + 1, none⟩ = some (str (l[j]).2) := by
  obtain ⟨ad, e, hb, hc⟩ := h.2 hn
  have hl : l.length = n := by have := h.1; rw [fc_len] at this; omega
  have h0 := hc 0 _ (by have := (fc_at l 0 (by omega)).1; simpa using this)
  obtain ⟨b, o, spot⟩ := ad
  have hspot : spot = none := by simpa [Addr.add] using World.cell?_spot h0
  subst hspot
  refine ⟨b, o, e, hb, fun j hj => ?_⟩
  obtain ⟨h1, h2⟩ := fc_at l j hj
  have g1 := hc _ _ h1
  have g2 := hc _ _ h2
  rw [Addr.add_lit] at g1 g2
  exact ⟨g1, by rw [Nat.add_assoc]; exact g2⟩

theorem info103 : (Tryz.prog.info? 103).map (fun i => (i.zero, i.size, i.bytes)) = some (some (fldV [] []), 2, 32) := by kernel_rfl

def FieldsPost (w : World) (l : List (BS × BS)) (e : Ending) (w' : World) : Prop := ∃ A c, e = .returned (.slice A l.length c) ∧ w'.ownsRow w.heap.size 103 2 (.slice A l.length c) l.length (fc l) ∧ Below w.heap.size w w'

set_option maxHeartbeats 4000000 in
theorem fields_at (A : Option Addr) (c : Nat) (l : List (BS × BS)) (w : World) (h : Reads w w.heap.size 2 A l.length (fc l)) (hl : l.length ≤ 1000000) : Calls Tryz.prog 27 #[.slice A l.length c] w (FieldsPost w l) := by
  have HR := Lib.hid h
  clear h
  go_enter Tryz.func27, Tryz.ntmps27
  go_wp2_with fail
  go_loopw [3, 8] (fun v i wx => ∃ (k : Nat) (A2 : Option Addr) (c2 : Nat), k ≤ l.length ∧ i = .int .i64 (k : Int) ∧ v = .slice A2 k c2 ∧ wx.ownsRow w.heap.size 103 2 (.slice A2 k c2) k (fc (l.take k)) ∧ Below w.heap.size w wx) (fun _ i _ => l.length - (intOf i).toNat)
  case atStart => exact ⟨0, none, 0, by omega, rfl, rfl, World.ownsRow_nil _ _ _ _, Below.refl _ _⟩
  case round =>
    obtain ⟨k, A2, c2, hk, rfl, rfl, hrow, hbel⟩ := hrel
    have HRow := Lib.hid hrow
    have HB := Lib.hid hbel
    clear hrow hbel
    rcases Nat.lt_or_ge k l.length with hkl | hkl
    · obtain ⟨b, o, rfl, hb, hc⟩ := reads_fields (HR.out.below HB.out) (by omega)
      obtain ⟨e0, e1⟩ := hc k hkl
      obtain ⟨⟨nm, vl⟩, hpq⟩ : ∃ pq, l[k] = pq := ⟨_, rfl⟩
      rw [hpq] at e0 e1
      simp only at e0 e1
      have HPQ := Lib.hid hpq
      clear hpq hc
      obtain ⟨i9, hi9, hz0, hz1, hz2⟩ := info_parts info103
      have hws : w.heap.size ≤ wr.heap.size := HB.out.size
      have hrow2 := (HRow.out.alloc (.cells #[str nm, str vl] 42)).alloc (.cells #[str nm, str vl] 103)
      go_wp2_with (at_builtin; refine wpList_append_own _ rfl (.tmp 12) (.tmp 18) 66 rfl w.heap.size 103 i9 (fldV [] []) 2 32 Tryz.underlying66 hi9 hz0 hz1 hz2 rfl (by decide) _ k (fc (l.take k)) rfl hrow2 ⟨wr.heap.size + 1, 0, none⟩ 1 1 [str nm, str vl] rfl rfl ?c1 ?c2 ?c3 ?c4 ?c5 ?_)
      case c1 =>
        have := cells_new (wr.alloc (.cells #[str nm, str vl] 42)) [str nm, str vl] 103
        rwa [show (wr.alloc (.cells #[str nm, str vl] 42)).heap.size = wr.heap.size + 1 by simp] at this
      case c2 => exact fc_one [(nm, vl)]
      case c3 => unfold maxLen; omega
      case c4 => omega
      case c5 => simp; omega
      intro v' w9 hown' hgrow _
      obtain ⟨A9, c9, rfl⟩ := row_form hown'
      have hbel9 : Below w.heap.size w w9 := by
        have hg : wr.grownBy w9 (Value.slice A2 k c2).ownBlock := ((World.grownBy_alloc wr _ _).trans (World.grownBy_alloc _ _ _)).trans hgrow
        exact HB.out.grown hg hws (fun g hg' => (HRow.out.lt g hg').1)
      have HB9 := Lib.hid hbel9
      have HO := Lib.hid hown'
      clear hown' hgrow hbel9 hrow2 hi9 hz0 hz1 hz2 e0 e1
      go_wp2_with fail
      refine ⟨⟨k + 1, A9, c9, hkl, by go_num, rfl, ?_, HB9.out⟩, by simp [intOf]; omega⟩
      rw [List.take_succ_eq_append_getElem hkl, HPQ.out, fc_append]
      exact HO.out
    · have e : k = l.length := by omega
      subst e
      have f1 : decide ((l.length : Int) < (l.length : Int)) = false := by simp
      go_wp2_with fail
      go_ret
      exact ⟨_, _, rfl, by have := HRow.out; rwa [List.take_length] at this, HB.out⟩

/-- what is still to be handed out lies in a cell -/
structure Feed (w : World) (Bx : Nat) (rest : List (BS × BS)) : Prop where
  st : ∃ A c, w.cell? ⟨Bx, 0, none⟩ = some (.slice A rest.length c) ∧ Reads w Bx 2 A rest.length (fc rest) ∧ rest.length ≤ c
  fz : w.frozen? ⟨Bx, 0, none⟩ = false
  lt : Bx < w.heap.size
section
variable {w w' : World} {Bx : Nat} {rest : List (BS × BS)}
theorem Feed.cut {B : Nat} (h : Feed w Bx rest) (k : Below B w w') (hb : Bx < B) : Feed w' Bx rest where
  st := by
    obtain ⟨A, c, h1, h2, h3⟩ := h.st
    exact ⟨A, c, (k.cell (p := ⟨Bx, 0, none⟩) hb).trans h1, h2.keep (fun p hp => k.cell (Nat.lt_trans hp hb)), h3⟩
  fz := (k.frozen (p := ⟨Bx, 0, none⟩) hb).trans h.fz
  lt := Nat.lt_of_lt_of_le h.lt k.size
end
def EofAt (w : World) (p : Addr) : Prop := w.cell? ⟨0, 0, none⟩ = some (.iface 136 (.pointer (some p)))

def NextPost (w : World) (Bx : Nat) (p : BS × BS) (rest : List (BS × BS)) (e : Ending) (w' : World) : Prop :=
  e = .returned (.tuple #[fldV p.1 p.2, .nilIface]) ∧ Feed w' Bx rest ∧ w.grownBy w' (some Bx)

set_option maxHeartbeats 4000000 in
theorem next_nil (Bx : Nat) (p : Addr) (w : World) (h : Feed w Bx []) (he : EofAt w p) (h1 : 1 ≤ w.heap.size) : Calls Tryz.prog 67 #[.pointer (some ⟨Bx, 0, none⟩)] w fun e w' => e = .returned (.tuple #[fldV [] [], .iface 136 (.pointer (some p))]) ∧ Below w.heap.size w w' := by
  obtain ⟨A, c, e0, _, _⟩ := h.st
  have hlt := h.lt
  have g0 : (w.alloc (.cells #[str [], str []] 103)).cell? ⟨0, 0, none⟩ = some (.iface 136 (.pointer (some p))) := ((below_new w _).cell (p := ⟨0, 0, none⟩) (by show 0 < w.heap.size; omega)).trans he
  have HB := Lib.hid (below_new w (.cells #[str [], str []] 103))
  clear h he
  go_enter Tryz.func67, Tryz.ntmps67
  go_wp2_with fail
  go_region
  all_goals go_wp2_with fail
  all_goals refine ⟨rfl, _, (show _ = Result.ok (.tuple #[fldV [] [], .iface 136 (.pointer (some p))]) _ by simp [results, Tryz.results67, go_sem]), rfl, HB.out.drew⟩

theorem reads_tailF {w : World} {B b o n : Nat} {l : List (BS × BS)} {p : BS × BS} (h : Reads w B 2 (some ⟨b, o, none⟩) (n + 1) (fc (p :: l))) : Reads w B 2 (some ⟨b, o + 2, none⟩) n (fc l) := by
  have hl := h.1
  rw [fc_len] at hl
  simp only [List.length_cons] at hl
  refine ⟨by rw [fc_len]; omega, fun h0 => ?_⟩
  obtain ⟨ad, e, hb, hc⟩ := h.2 (by omega)
  injection e with e
  subst e
  refine ⟨_, rfl, hb, fun j u hu => ?_⟩
  have := hc (2 + j) u (by
    have hd := fc_drop (p :: l) 1
    simp only [List.drop_succ_cons, List.drop_zero, Nat.one_mul] at hd
    rw [← hd, List.getElem?_drop] at hu
    exact hu)
  rw [Addr.add_lit] at this ⊢
  rwa [Nat.add_assoc]

theorem Feed.step {w : World} {Bx c' : Nat} {A' : Option Addr} {p : BS × BS} {rest : List (BS × BS)} (h : Feed w Bx (p :: rest)) (hR : Reads w Bx 2 A' rest.length (fc rest)) (hc : rest.length ≤ c') (o1 o2 : Obj) :
    Feed (((w.setCell ⟨Bx, 0, none⟩ (.slice A' rest.length c')).alloc o1).alloc o2) Bx rest ∧ w.grownBy (((w.setCell ⟨Bx, 0, none⟩ (.slice A' rest.length c')).alloc o1).alloc o2) (some Bx) := by
  have hlt := h.lt
  refine ⟨⟨⟨A', c', ?_, ?_, hc⟩, ?_, ?_⟩, ((grown_set w Bx 0 _).trans (World.grownBy_alloc _ _ _)).trans (World.grownBy_alloc _ _ _)⟩
  · obtain ⟨A, c, e0, _, _⟩ := h.st
    rw [World.cell?_alloc_lt _ _ _ (by show Bx < _; simp; omega), World.cell?_alloc_lt _ _ _ (by show Bx < _; simpa using hlt)]
    exact World.cell?_setCell_same _ _ _ e0
  · exact ((hR.setCell (Nat.le_refl _) _).alloc (by simp; omega) o1).alloc (by simp; omega) o2
  · have := h.fz
    have h1 := (below_new (w.setCell ⟨Bx, 0, none⟩ (.slice A' rest.length c')) o1).frozen (p := ⟨Bx, 0, none⟩) (by show Bx < _; simpa using hlt)
    have h2 := (below_new ((w.setCell ⟨Bx, 0, none⟩ (.slice A' rest.length c')).alloc o1) o2).frozen (p := ⟨Bx, 0, none⟩) (by show Bx < _; simp; omega)
    rw [h2, h1]
    simpa using this
  · simp; omega

set_option maxHeartbeats 4000000 in
theorem next_cons (Bx : Nat) (nm vl : BS) (rest : List (BS × BS)) (w : World) (h : Feed w Bx ((nm, vl) :: rest)) (hl : rest.length ≤ 1000000) : Calls Tryz.prog 67 #[.pointer (some ⟨Bx, 0, none⟩)] w (NextPost w Bx (nm, vl) rest) := by
  obtain ⟨A, c, e0, hR, hcc⟩ := h.st
  have hlt := h.lt
  have hfz := h.fz
  obtain ⟨b, o, rfl, hb, hc⟩ := reads_fields hR (by simp)
  obtain ⟨x0, x1⟩ := hc 0 (by simp)
  simp only [List.getElem_cons_zero, Nat.zero_mul, Nat.add_zero] at x0 x1
  have hbw : b < w.heap.size := Nat.lt_trans hb hlt
  have hRt := reads_tailF (n := rest.length) (by simpa using hR)
  have HR := Lib.hid hRt
  have hne : ((rest.length : Int) + 1 == 0) = false := by simp; omega
  rw [List.length_cons] at e0 hcc
  have HF := Lib.hid h
  clear h hR hc hRt
  by_cases hc1 : c = 1
  · have hr0 : rest.length = 0 := by omega
    have hr1 : rest = [] := List.eq_nil_of_length_eq_zero hr0
    subst hr1
    subst hc1
    have hR0 : Reads w Bx 2 (some ⟨b, o, none⟩) ([] : List (BS × BS)).length (fc []) := ⟨by simp [fc], fun h => absurd h (by simp)⟩
    have HS := Lib.hid (HF.out.step (A' := some ⟨b, o, none⟩) (c' := 0) hR0 (by simp) (.cells #[str nm, str vl] 103) (.cells #[str nm, str vl] 103))
    clear hR0
    go_enter Tryz.func67, Tryz.ntmps67
    go_wp2_with fail
    refine ⟨rfl, _, (show _ = Result.ok (.tuple #[fldV nm vl, .nilIface]) _ by simp [results, Tryz.results67, go_sem]), rfl, HS.out⟩
  · have HS := Lib.hid (HF.out.step (A' := some ⟨b, o + 2, none⟩) (c' := c - 1) HR.out (by omega) (.cells #[str nm, str vl] 103) (.cells #[str nm, str vl] 103))
    go_enter Tryz.func67, Tryz.ntmps67
    go_wp2_with fail
    refine ⟨rfl, _, (show _ = Result.ok (.tuple #[fldV nm vl, .nilIface]) _ by simp [results, Tryz.results67, go_sem]), rfl, HS.out⟩
end Go.Proofs.YtgcfnhchmmkndaaGreatDoor
