/- impl.fields; http3.fields and its closure. -/
import Derived.Test.YtgcfnhchmmkndaaGreatDoorA4
import Derived.LaidEql
namespace Go.Proofs.YtgcfnhchmmkndaaGreatDoor
open Go.RowKit Go.Maps
set_option linter.unusedVariables false
set_option maxRecDepth 100000

def fc (l : List (BS × BS)) : List Value := l.flatMap fun p => [str p.1, str p.2]
theorem fc_len (l : List (BS × BS)) : (fc l).length = l.length * 2 := by
  induction l with
  | nil => rfl
  | cons p l ih => simp only [fc, List.flatMap_cons, List.length_append, List.length_cons, List.length_nil] at ih ⊢; omega
theorem fc_append (a b : List (BS × BS)) : fc (a ++ b) = fc a ++ fc b := by simp [fc]
theorem fc_at (l : List (BS × BS)) : ∀ j, (h : j < l.length) → (fc l)[j * 2]? = some (str (l[j]).1) ∧ (fc l)[j * 2 + 1]? = some (str (l[j]).2) := by
  induction l with
  | nil => intro j h; simp at h
  | cons p l ih =>
    intro j h
    rcases j with _ | j
    · simp [fc]
    · have := ih j (by simpa using h)
      rw [show (j + 1) * 2 = j * 2 + 2 by omega]
      simpa [fc, List.flatMap_cons] using this
theorem fc_drop (l : List (BS × BS)) : ∀ k, (fc l).drop (k * 2) = fc (l.drop k) := by
  induction l with
  | nil => intro k; simp [fc]
  | cons p l ih =>
    intro k
    rcases k with _ | k
    · simp [fc]
    · rw [show (k + 1) * 2 = k * 2 + 2 by omega]
      have := ih k
      simpa [fc, List.flatMap_cons] using this
theorem fc_one (l : List (BS × BS)) : ∀ u ∈ fc l, u.oneCell' = true := fun u hu => by
  obtain ⟨p, _, hp⟩ := List.mem_flatMap.1 hu
  rcases (by simpa using hp : u = str p.1 ∨ u = str p.2) with rfl | rfl <;> rfl
theorem reads_fields {w : World} {B n : Nat} {A : Option Addr} {l : List (BS × BS)} (h : Reads w B 2 A n (fc l)) (hn : 0 < n) :
    ∃ b o, A = some ⟨b, o, none⟩ ∧ b < B ∧ ∀ j, (hj : j < l.length) → w.cell? ⟨b, o + j * 2, none⟩ = some (str (l[j]).1) ∧ w.cell? ⟨b, o + j * 2 + 1, none⟩ = some (str (l[j]).2) := by
  obtain ⟨ad, e, hb, hc⟩ := h.2 hn
  have hl : l.length = n := by have := h.1; rw [fc_len] at this; omega
  have h0 := hc 0 _ (by have := (fc_at l 0 (by omega)).1; simpa using this)
  obtain ⟨b, o, spot⟩ := ad
  have hspot : spot = none := by simpa [Addr.add] using World.cell?_spot h0
  subst hspot
  refine ⟨b, o, e, hb, fun j hj => ?_⟩
  obtain ⟨h1, h2⟩ := fc_at l j hj
  have g1 := hc _ _ h1
  have g2 := hc _ _ h2
  rw [Addr.add_lit] at g1 g2
  exact ⟨g1, by rw [Nat.add_assoc]; exact g2⟩

theorem info103 : (Tryz.prog.info? 103).map (fun i => (i.zero, i.size, i.bytes)) = some (some (fldV [] []), 2, 32) := by kernel_rfl

def FieldsPost (w : World) (l : List (BS × BS)) (e : Ending) (w' : World) : Prop := ∃ A c, e = .returned (.slice A l.length c) ∧ w'.ownsRow w.heap.size 103 2 (.slice A l.length c) l.length (fc l) ∧ Below w.heap.size w w'

set_option maxHeartbeats 4000000 in
theorem fields_at (A : Option Addr) (c : Nat) (l : List (BS × BS)) (w : World) (h : Reads w w.heap.size 2 A l.length (fc l)) (hl : l.length ≤ 1000000) : Calls Tryz.prog 27 #[.slice A l.length c] w (FieldsPost w l) := by
  have HR := Lib.hid h
  clear h
  go_enter Tryz.func27, Tryz.ntmps27
  go_wp2_with fail
  go_loopw [3, 8] (fun v i wx => ∃ (k : Nat) (A2 : Option Addr) (c2 : Nat), k ≤ l.length ∧ i = .int .i64 (k : Int) ∧ v = .slice A2 k c2 ∧ wx.ownsRow w.heap.size 103 2 (.slice A2 k c2) k (fc (l.take k)) ∧ Below w.heap.size w wx) (fun _ i _ => l.length - (intOf i).toNat)
  case atStart => exact ⟨0, none, 0, by omega, rfl, rfl, World.ownsRow_nil _ _ _ _, Below.refl _ _⟩
  case round =>
    obtain ⟨k, A2, c2, hk, rfl, rfl, hrow, hbel⟩ := hrel
    have HRow := Lib.hid hrow
    have HB := Lib.hid hbel
    clear hrow hbel
    rcases Nat.lt_or_ge k l.length with hkl | hkl
    · obtain ⟨b, o, rfl, hb, hc⟩ := reads_fields (HR.out.below HB.out) (by omega)
      obtain ⟨e0, e1⟩ := hc k hkl
      obtain ⟨⟨nm, vl⟩, hpq⟩ : ∃ pq, l[k] = pq := ⟨_, rfl⟩
      rw [hpq] at e0 e1
      simp only at e0 e1
      have HPQ := Lib.hid hpq
      clear hpq hc
      obtain ⟨i9, hi9, hz0, hz1, hz2⟩ := info_parts info103
      have hws : w.heap.size ≤ wr.heap.size := HB.out.size
      have hrow2 := (HRow.out.alloc (.cells #[str nm, str vl] 42)).alloc (.cells #[str nm, str vl] 103)
      go_wp2_with (at_builtin; refine wpList_append_own _ rfl (.tmp 12) (.tmp 18) 66 rfl w.heap.size 103 i9 (fldV [] []) 2 32 Tryz.underlying66 hi9 hz0 hz1 hz2 rfl (by decide) _ k (fc (l.take k)) rfl hrow2 ⟨wr.heap.size + 1, 0, none⟩ 1 1 [str nm, str vl] rfl rfl ?c1 ?c2 ?c3 ?c4 ?c5 ?_)
      case c1 =>
        have := cells_new (wr.alloc (.cells #[str nm, str vl] 42)) [str nm, str vl] 103
        rwa [show (wr.alloc (.cells #[str nm, str vl] 42)).heap.size = wr.heap.size + 1 by simp] at this
      case c2 => exact fc_one [(nm, vl)]
      case c3 => unfold maxLen; omega
      case c4 => omega
      case c5 => simp; omega
      intro v' w9 hown' hgrow _
      obtain ⟨A9, c9, rfl⟩ := row_form hown'
      have hbel9 : Below w.heap.size w w9 := by
        have hg : wr.grownBy w9 (Value.slice A2 k c2).ownBlock := ((World.grownBy_alloc wr _ _).trans (World.grownBy_alloc _ _ _)).trans hgrow
        exact HB.out.grown hg hws (fun g hg' => (HRow.out.lt g hg').1)
      have HB9 := Lib.hid hbel9
      have HO := Lib.hid hown'
      clear hown' hgrow hbel9 hrow2 hi9 hz0 hz1 hz2 e0 e1
      go_wp2_with fail
      refine ⟨⟨k + 1, A9, c9, hkl, by go_num, rfl, ?_, HB9.out⟩, by simp [intOf]; omega⟩
      rw [List.take_succ_eq_append_getElem hkl, HPQ.out, fc_append]
      exact HO.out
    · have e : k = l.length := by omega
      subst e
      have f1 : decide ((l.length : Int) < (l.length : Int)) = false := by simp
      go_wp2_with fail
      go_ret
      exact ⟨_, _, rfl, by have := HRow.out; rwa [List.take_length] at this, HB.out⟩

/-- what is still to be handed out lies in a cell -/
structure Feed (w : World) (Bx : Nat) (rest : List (BS × BS)) : Prop where
  st : ∃ A c, w.cell? ⟨Bx, 0, none⟩ = some (.slice A rest.length c) ∧ Reads w Bx 2 A rest.length (fc rest) ∧ rest.length ≤ c
  fz : w.frozen? ⟨Bx, 0, none⟩ = false
  lt : Bx < w.heap.size
section
variable {w w' : World} {Bx : Nat} {rest : List (BS × BS)}
theorem Feed.cut {B : Nat} (h : Feed w Bx rest) (k : Below B w w') (hb : Bx < B) : Feed w' Bx rest where
  st := by
    obtain ⟨A, c, h1, h2, h3⟩ := h.st
    exact ⟨A, c, (k.cell (p := ⟨Bx, 0, none⟩) hb).trans h1, h2.keep (fun p hp => k.cell (Nat.lt_trans hp hb)), h3⟩
  fz := (k.frozen (p := ⟨Bx, 0, none⟩) hb).trans h.fz
  lt := Nat.lt_of_lt_of_le h.lt k.size
end
def EofAt (w : World) (p : Addr) : Prop := w.cell? ⟨0, 0, none⟩ = some (.iface 136 (.pointer (some p)))

def NextPost (w : World) (Bx : Nat) (p : BS × BS) (rest : List (BS × BS)) (e : Ending) (w' : World) : Prop :=
  e = .returned (.tuple #[fldV p.1 p.2, .nilIface]) ∧ Feed w' Bx rest ∧ w.grownBy w' (some Bx)

set_option maxHeartbeats 4000000 in
theorem next_nil (Bx : Nat) (p : Addr) (w : World) (h : Feed w Bx []) (he : EofAt w p) (h1 : 1 ≤ w.heap.size) : Calls Tryz.prog 67 #[.pointer (some ⟨Bx, 0, none⟩)] w fun e w' => e = .returned (.tuple #[fldV [] [], .iface 136 (.pointer (some p))]) ∧ Below w.heap.size w w' := by
  obtain ⟨A, c, e0, _, _⟩ := h.st
  have hlt := h.lt
  have g0 : (w.alloc (.cells #[str [], str []] 103)).cell? ⟨0, 0, none⟩ = some (.iface 136 (.pointer (some p))) := ((below_new w _).cell (p := ⟨0, 0, none⟩) (by show 0 < w.heap.size; omega)).trans he
  have HB := Lib.hid (below_new w (.cells #[str [], str []] 103))
  clear h he
  go_enter Tryz.func67, Tryz.ntmps67
  go_wp2_with fail
  go_region
  all_goals go_wp2_with fail
  all_goals refine ⟨rfl, _, (show _ = Result.ok (.tuple #[fldV [] [], .iface 136 (.pointer (some p))]) _ by simp [results, Tryz.results67, go_sem]), rfl, HB.out.drew⟩

theorem reads_tailF {w : World} {B b o n : Nat} {l : List (BS × BS)} {p : BS × BS} (h : Reads w B 2 (some ⟨b, o, none⟩) (n + 1) (fc (p :: l))) : Reads w B 2 (some ⟨b, o + 2, none⟩) n (fc l) := by
  have hl := h.1
  rw [fc_len] at hl
  simp only [List.length_cons] at hl
  refine ⟨by rw [fc_len]; omega, fun h0 => ?_⟩
  obtain ⟨ad, e, hb, hc⟩ := h.2 (by omega)
  injection e with e
  subst e
  refine ⟨_, rfl, hb, fun j u hu => ?_⟩
  have := hc (2 + j) u (by
    have hd := fc_drop (p :: l) 1
    simp only [List.drop_succ_cons, List.drop_zero, Nat.one_mul] at hd
    rw [← hd, List.getElem?_drop] at hu
    exact hu)
  rw [Addr.add_lit] at this ⊢
  rwa [Nat.add_assoc]

theorem Feed.step {w : World} {Bx c' : Nat} {A' : Option Addr} {p : BS × BS} {rest : List (BS × BS)} (h : Feed w Bx (p :: rest)) (hR : Reads w Bx 2 A' rest.length (fc rest)) (hc : rest.length ≤ c') (o1 o2 : Obj) :
    Feed (((w.setCell ⟨Bx, 0, none⟩ (.slice A' rest.length c')).alloc o1).alloc o2) Bx rest ∧ w.grownBy (((w.setCell ⟨Bx, 0, none⟩ (.slice A' rest.length c')).alloc o1).alloc o2) (some Bx) := by
  have hlt := h.lt
  refine ⟨⟨⟨A', c', ?_, ?_, hc⟩, ?_, ?_⟩, ((grown_set w Bx 0 _).trans (World.grownBy_alloc _ _ _)).trans (World.grownBy_alloc _ _ _)⟩
  · obtain ⟨A, c, e0, _, _⟩ := h.st
    rw [World.cell?_alloc_lt _ _ _ (by show Bx < _; simp; omega), World.cell?_alloc_lt _ _ _ (by show Bx < _; simpa using hlt)]
    exact World.cell?_setCell_same _ _ _ e0
  · exact ((hR.setCell (Nat.le_refl _) _).alloc (by simp; omega) o1).alloc (by simp; omega) o2
  · have := h.fz
    have h1 := (below_new (w.setCell ⟨Bx, 0, none⟩ (.slice A' rest.length c')) o1).frozen (p := ⟨Bx, 0, none⟩) (by show Bx < _; simpa using hlt)
    have h2 := (below_new ((w.setCell ⟨Bx, 0, none⟩ (.slice A' rest.length c')).alloc o1) o2).frozen (p := ⟨Bx, 0, none⟩) (by show Bx < _; simp; omega)
    rw [h2, h1]
    simpa using this
  · simp; omega

set_option maxHeartbeats 4000000 in
theorem next_cons (Bx : Nat) (nm vl : BS) (rest : List (BS × BS)) (w : World) (h : Feed w Bx ((nm, vl) :: rest)) (hl : rest.length ≤ 1000000) : Calls Tryz.prog 67 #[.pointer (some ⟨Bx, 0, none⟩)] w (NextPost w Bx (nm, vl) rest) := by
  obtain ⟨A, c, e0, hR, hcc⟩ := h.st
  have hlt := h.lt
  have hfz := h.fz
  obtain ⟨b, o, rfl, hb, hc⟩ := reads_fields hR (by simp)
  obtain ⟨x0, x1⟩ := hc 0 (by simp)
  simp only [List.getElem_cons_zero, Nat.zero_mul, Nat.add_zero] at x0 x1
  have hbw : b < w.heap.size := Nat.lt_trans hb hlt
  have hRt := reads_tailF (n := rest.length) (by simpa using hR)
  have HR := Lib.hid hRt
  have hne : ((rest.length : Int) + 1 == 0) = false := by simp; omega
  rw [List.length_cons] at e0 hcc
  have HF := Lib.hid h
  clear h hR hc hRt
  by_cases hc1 : c = 1
  · have hr0 : rest.length = 0 := by omega
    have hr1 : rest = [] := List.eq_nil_of_length_eq_zero hr0
    subst hr1
    subst hc1
    have hR0 : Reads w Bx 2 (some ⟨b, o, none⟩) ([] : List (BS × BS)).length (fc []) := ⟨by simp [fc], fun h => absurd h (by simp)⟩
    have HS := Lib.hid (HF.out.step (A' := some ⟨b, o, none⟩) (c' := 0) hR0 (by simp) (.cells #[str nm, str vl] 103) (.cells #[str nm, str vl] 103))
    clear hR0
    go_enter Tryz.func67, Tryz.ntmps67
    go_wp2_with fail
    refine ⟨rfl, _, (show _ = Result.ok (.tuple #[fldV nm vl, .nilIface]) _ by simp [results, Tryz.results67, go_sem]), rfl, HS.out⟩
  · have HS := Lib.hid (HF.out.step (A' := some ⟨b, o + 2, none⟩) (c' := c - 1) HR.out (by omega) (.cells #[str nm, str vl] 103) (.cells #[str nm, str vl] 103))
    go_enter Tryz.func67, Tryz.ntmps67
    go_wp2_with fail
    refine ⟨rfl, _, (show _ = Result.ok (.tuple #[fldV nm vl, .nilIface]) _ by simp [results, Tryz.results67, go_sem]), rfl, HS.out⟩

/-- what the program lays ahead of the call, as far as it is read -/
structure Env (w : World) (p : Addr) : Prop where
  eof : EofAt w p
  tok : TokTab w
  ge : 3 ≤ w.heap.size
theorem Env.cut {w w' : World} {p : Addr} {B : Nat} (h : Env w p) (k : Below B w w') (hB : 3 ≤ B) : Env w' p where
  eof := (k.cell (p := ⟨0, 0, none⟩) (by show 0 < B; omega)).trans h.eof
  tok := fun c hc => (k.cell (p := ⟨2, c, none⟩) (by show 2 < B; omega)).trans (h.tok c hc)
  ge := Nat.le_trans h.ge k.size
theorem Env.grown {w w' : World} {p : Addr} {r : Nat} (h : Env w p) (g : w.grownBy w' (some r)) (hr : 3 ≤ r) : Env w' p where
  eof := (World.cell?_of_block (g.block 0 (by have := h.ge; omega) (by simp; omega))).trans h.eof
  tok := fun c hc => (World.cell?_of_block (g.block 2 (by have := h.ge; omega) (by simp; omega))).trans (h.tok c hc)
  ge := Nat.le_trans h.ge g.size

def trFieldOk (p : BS × BS) : Bool := fieldOk p.1 p.2 && !pseudoB p.1 && trailerFieldOk p.1 p.2
def trFold (l : List (BS × BS)) : List (BS × List BS) := l.foldl (fun H p => addH H (canonL p.1) p.2) []
def trSize (l : List (BS × BS)) : Nat := (l.map fun p => p.1.length + p.2.length + 32).sum

theorem trFold_snoc (l : List (BS × BS)) (p : BS × BS) : trFold (l ++ [p]) = addH (trFold l) (canonL p.1) p.2 := by simp [trFold]
theorem trSize_snoc (l : List (BS × BS)) (p : BS × BS) : trSize (l ++ [p]) = trSize l + (p.1.length + p.2.length + 32) := by simp [trSize]
theorem trSize_take (l : List (BS × BS)) (k : Nat) : trSize (l.take k) ≤ trSize l := by
  have h : trSize (l.take k) + trSize (l.drop k) = trSize l := by
    unfold trSize
    rw [← List.sum_append, ← List.map_append, List.take_append_drop]
  omega
theorem trSize_len (l : List (BS × BS)) : l.length * 32 ≤ trSize l := by
  induction l with
  | nil => simp [trSize]
  | cons p l ih => simp [trSize] at ih ⊢; omega

structure TrIn (l : List (BS × BS)) : Prop where
  ascii_ : ∀ p ∈ l, ascii p.1 = true
  size : trSize l ≤ 1048576

def TrPost (w : World) (l : List (BS × BS)) (Bx : Nat) (e : Ending) (w' : World) : Prop :=
  ∃ v ev, e = .returned (.tuple #[v, ev]) ∧ ErrV (l.all trFieldOk) ev ∧ w.grownBy w' (some Bx) ∧
    (l.all trFieldOk = true → ∃ b n es, v = .map (some b) ∧ w.heap.size ≤ b ∧ Hdr w' (b + 1) b n es ∧ absE es = trFold l ∧ n ≤ l.length) ∧ (l.all trFieldOk = false → v = .map none)

structure TrSt (w wx : World) (l : List (BS × BS)) (Bx b k n : Nat) (es : List Ent) : Prop where
  hk : k ≤ l.length
  feed : Feed wx Bx (l.drop k)
  hdr : Hdr wx (b + 1) b n es
  abs : absE es = trFold (l.take k)
  hn : n ≤ k
  items : ∀ e ∈ es, e.items.length ≤ k
  ok : (l.take k).all trFieldOk = true
  g : w.grownBy wx (some Bx)
  hb : w.heap.size ≤ b

theorem comp136 : (Tryz.prog.info? 136).map (fun i => i.comparable) = some true := by kernel_rfl
theorem some137 : (Tryz.prog.info? 138).isSome = true := by kernel_rfl
theorem eql_same (w : World) (p : Addr) : (binOp .eql 63 (.iface 136 (.pointer (some p))) (.iface 136 (.pointer (some p)))).run Tryz.prog w = .ok (.bool true) w := by
  obtain ⟨i, hi, hc⟩ : ∃ i, Tryz.prog.info? 136 = some i ∧ i.comparable = true := by
    have := comp136
    cases h : Tryz.prog.info? 136 with
    | none => rw [h] at this; cases this
    | some i => rw [h] at this; exact ⟨i, rfl, by simpa using this⟩
  obtain ⟨j, hj⟩ := Option.isSome_iff_exists.1 some137
  exact run_eql_iface_ptr_same w p Tryz.underlying63 Tryz.underlying136 hi hc hj

theorem TrSt.done {w wr w' : World} {l : List (BS × BS)} {Bx b n : Nat} {es : List Ent} (h : TrSt w wr l Bx b l.length n es) (k : Below wr.heap.size wr w') : TrPost w l Bx (.returned (.tuple #[.map (some b), .nilIface])) w' := by
  have hok := h.ok
  have ha := h.abs
  rw [List.take_length] at hok ha
  refine ⟨_, _, rfl, by rw [hok]; rfl, h.g.trans ((grown_below k).but _), fun _ => ⟨b, n, es, rfl, h.hb, h.hdr.below k, ha, h.hn⟩, fun hf => ?_⟩
  rw [hok] at hf
  cases hf
theorem TrSt.fail {w wr w' : World} {l : List (BS × BS)} {Bx b k n : Nat} {es : List Ent} {ev : Value} (h : TrSt w wr l Bx b k n es) (hk : k < l.length) (hf : trFieldOk l[k] = false) (g : wr.grownBy w' (some Bx)) (he : ErrV false ev) : TrPost w l Bx (.returned (.tuple #[.map none, ev])) w' := by
  have hl : l.all trFieldOk = false := by
    rw [List.all_eq_false]
    exact ⟨l[k], List.getElem_mem hk, by rw [hf]; simp⟩
  refine ⟨_, _, rfl, by rw [hl]; exact he, h.g.trans g, fun ht => ?_, fun _ => rfl⟩
  rw [hl] at ht
  cases ht

/-- the header is as it was while the feed's cell turned and blocks were made -/
theorem TrSt.hdr1 {w wr w1 w2 : World} {l : List (BS × BS)} {Bx b k n : Nat} {es : List Ent} (h : TrSt w wr l Bx b k n es) (hB : Bx < b) (g : wr.grownBy w1 (some Bx)) (k2 : Below w1.heap.size w1 w2) : Hdr w2 (b + 1) b n es :=
  (h.hdr.kept g (by simp; omega) (fun e he => by
    cases hv : e.val.ownBlock with
    | none => exact .inl rfl
    | some j => exact .inr (by have := (h.hdr.above e he j hv).1; simp; omega))).below k2

theorem getH_len {es : List Ent} {k : Nat} (h : ∀ e ∈ es, e.items.length ≤ k) (key : BS) : (getH (absE es) key).length ≤ k := by
  unfold getH absE
  cases hf : (es.map fun e => (e.key, e.items)).find? fun p => p.1 == key with
  | none => simp
  | some q =>
    have := List.mem_of_find?_eq_some hf
    obtain ⟨e, he, rfl⟩ := List.mem_map.1 this
    simpa using h e he
theorem absE_items {es es' : List Ent} {k : Nat} {key v : BS} (h : ∀ e ∈ es, e.items.length ≤ k) (ha : absE es' = addH (absE es) key v) : ∀ e ∈ es', e.items.length ≤ k + 1 := by
  intro e he
  have hm : (e.key, e.items) ∈ absE es' := List.mem_map_of_mem (f := fun e : Ent => (e.key, e.items)) he
  rw [ha] at hm
  have hg := getH_len h key
  unfold addH putH at hm
  split at hm
  · obtain ⟨q, hq, hh⟩ := List.mem_map.1 hm
    split at hh
    · injection hh with _ hh
      rw [← hh]
      simp
      omega
    · subst hh
      obtain ⟨e2, he2, hh2⟩ := List.mem_map.1 hq
      injection hh2 with _ hh2
      rw [← hh2]
      have := h e2 he2
      omega
  · rcases List.mem_append.1 hm with hm | hm
    · obtain ⟨e2, he2, hh2⟩ := List.mem_map.1 hm
      injection hh2 with _ hh2
      rw [← hh2]
      have := h e2 he2
      omega
    · rw [List.mem_singleton] at hm
      injection hm with _ hm
      rw [hm]
      simp
      omega

theorem TrSt.next {w wr w1 w2 w3 : World} {l : List (BS × BS)} {Bx b k n : Nat} {es es' : List Ent} {nm vl : BS} (h : TrSt w wr l Bx b k n es) (hk : k < l.length) (hp : l[k] = (nm, vl)) (hB : Bx < b) (hok : trFieldOk (nm, vl) = true)
    (hf : Feed w1 Bx (l.drop (k + 1))) (g : wr.grownBy w1 (some Bx)) (k2 : Below w1.heap.size w1 w2) (hh : Hdr w3 (b + 1) b (n + 1) es') (ha : absE es' = addH (absE es) (canonL nm) vl) (k3 : Below b w2 w3) : TrSt w w3 l Bx b (k + 1) (n + 1) es' where
  hk := hk
  feed := (hf.cut k2 hf.lt).cut k3 hB
  hdr := hh
  abs := by rw [ha, h.abs, List.take_succ_eq_append_getElem hk, hp, trFold_snoc]
  hn := by have := h.hn; omega
  items := absE_items h.items ha
  ok := by
    rw [List.take_succ_eq_append_getElem hk, hp, List.all_append, h.ok]
    simp [hok]
  g := by
    have g2 := (h.g.trans g).trans ((grown_below k2).but _)
    have hb := h.hb
    exact ⟨k3.os.trans g2.os, k3.tape.trans g2.tape, k3.output.trans g2.output, Nat.le_trans g2.size k3.size, fun j hj hne => (k3.block j (by omega)).trans (g2.block j hj hne)⟩
  hb := h.hb

theorem lim_next {l : List (BS × BS)} {k S : Nat} {nm vl : BS} {c : Int} (h : l.take (k + 1) = l.take k ++ [(nm, vl)]) (hS : trSize (l.take k) = S) :
    Value.int .i64 (c - (S : Int) - ((nm.length : Int) + (vl.length : Int) + 32)) = .int .i64 (c - (trSize (l.take (k + 1)) : Nat)) := by
  rw [h, trSize_snoc, hS]
  have : c - (S : Int) - ((nm.length : Int) + (vl.length : Int) + 32) = c - ((S + (nm.length + vl.length + 32) : Nat) : Int) := by omega
  rw [this]

set_option maxHeartbeats 8000000 in
theorem parse_at (l : List (BS × BS)) (Bx : Nat) (p : Addr) (w : World) (hi : TrIn l) (hF : Feed w Bx l) (hE : Env w p) (h3 : 3 ≤ Bx) :
    Calls Tryz.prog 51 #[.func (.func 67) #[] #[.pointer (some ⟨Bx, 0, none⟩)], .int .i64 1048576, .pointer none] w (TrPost w l Bx) := by
  have HI := Lib.hid hi
  have HE := Lib.hid hE
  have hmm := @run_makeMap Tryz.prog
  have hlen : l.length ≤ 32768 := by have := trSize_len l; have := hi.size; omega
  have HS0 : Hid (TrSt w (w.alloc (.map #[] 0)) l Bx w.heap.size 0 0 []) := Lib.hid {
    hk := by omega
    feed := by rw [List.drop_zero]; exact hF.cut (below_new w _) hF.lt
    hdr := Hdr.made w
    abs := rfl
    hn := by omega
    items := fun e he => by simp at he
    ok := rfl
    g := (World.grownBy_alloc w _ _)
    hb := Nat.le_refl _ }
  have hBw := hF.lt
  clear hi hF hE
  go_enter Tryz.func51, Tryz.ntmps51
  go_wp2_with fail
  clear hmm
  go_loopw [1] (fun s1 wx => ∃ k n es, s1 = .int .i64 (1048576 - (trSize (l.take k) : Nat)) ∧ TrSt w wx l Bx w.heap.size k n es) (fun s1 _ => (intOf s1).toNat)
  case atStart => exact ⟨0, 0, [], rfl, HS0.out⟩
  case round =>
    clear HS0
    obtain ⟨k, n, es, rfl, hS⟩ := hrel
    have hk := hS.hk
    have HS := Lib.hid hS
    clear hS
    have hB0 := HS.out.feed.lt
    have HEx := Lib.hid (HE.out.grown HS.out.g h3)
    rcases Nat.lt_or_ge k l.length with hkl | hkl
    · obtain ⟨⟨nm, vl⟩, hpq⟩ : ∃ pq, l[k] = pq := ⟨_, rfl⟩
      have hdr : l.drop k = (nm, vl) :: l.drop (k + 1) := by rw [List.drop_eq_getElem_cons hkl, hpq]
      have htk : l.take (k + 1) = l.take k ++ [(nm, vl)] := by rw [List.take_succ_eq_append_getElem hkl, hpq]
      have hasc := HI.out.ascii_ (l[k]) (List.getElem_mem hkl)
      rw [hpq] at hasc
      simp only at hasc
      have hsz : trSize (l.take (k + 1)) ≤ 1048576 := Nat.le_trans (trSize_take l (k + 1)) HI.out.size
      rw [htk, trSize_snoc] at hsz
      simp only at hsz
      have hf := HS.out.feed
      rw [hdr] at hf
      have KN := next_cons Bx nm vl (l.drop (k + 1)) wr hf (by rw [List.length_drop]; omega)
      have HTK := Lib.hid htk
      have HPQ := Lib.hid hpq
      obtain ⟨S, hS⟩ : ∃ S, trSize (l.take k) = S := ⟨_, rfl⟩
      have HSS := Lib.hid hS
      rw [hS] at hsz ⊢
      have hn1 : nm.length ≤ 1048576 := by omega
      have hv1 : vl.length ≤ 1048576 := by omega
      have b1 : (0 : Int) ≤ 1048576 - (S : Int) := by omega
      have b2 : (1048576 - (S : Int)) ≤ 1048576 := by omega
      have b3 : (0 : Int) ≤ 1048576 - (S : Int) - ((nm.length : Int) + (vl.length : Int) + 32) := by omega
      clear hdr htk hpq hf hS
      go_wp2_with fail
      refine KN.mono ?_
      rintro e w1 ⟨rfl, hfeed, hg1⟩
      have HF1 := Lib.hid hfeed
      have HG1 := Lib.hid hg1
      have hz1 := hg1.size
      clear hfeed hg1 KN
      have hE1 : Env w1 p := HEx.out.grown HG1.out h3
      have HE1 := Lib.hid hE1
      have HB2 := Lib.hid (below_new w1 (.cells #[str nm, str vl] 103))
      have X0 : Hid ((w1.alloc (.cells #[str nm, str vl] 103)).cell? ⟨w1.heap.size, 0, none⟩ = some (str nm)) := Lib.hid (by simp)
      have X1 : Hid ((w1.alloc (.cells #[str nm, str vl] 103)).cell? ⟨w1.heap.size, 1, none⟩ = some (str vl)) := Lib.hid (by simp)
      obtain ⟨f1, hf1⟩ : ∃ f1, fieldOk nm vl = f1 := ⟨_, rfl⟩
      obtain ⟨f2, hf2⟩ : ∃ f2, pseudoB nm = f2 := ⟨_, rfl⟩
      obtain ⟨f3, hf3⟩ : ∃ f3, trailerFieldOk nm vl = f3 := ⟨_, rfl⟩
      have hall : trFieldOk (nm, vl) = (f1 && !f2 && f3) := by unfold trFieldOk; rw [hf1, hf2, hf3]
      have KV := fun w => validate_at nm vl w (by omega) (by omega) hasc
      have KP := fun w => pseudo_at nm vl w
      rw [hf1] at KV
      rw [hf2] at KP
      have HF3 := Lib.hid hf3
      have HALL := Lib.hid hall
      clear hE1 hf1 hf2 hf3 hall
      unfold fldV at KV KP
      go_upto_region 11 with fail
      go_wp2_with fail
      refine (KV _).mono ?_
      rintro e w3 ⟨v3, rfl, hv3, hb3⟩
      have c0 := (hb3.cell (p := ⟨w1.heap.size, 0, none⟩) (by simp)).trans X0.out
      have c1 := (hb3.cell (p := ⟨w1.heap.size, 1, none⟩) (by simp)).trans X1.out
      have HB3 := Lib.hid (Below.next HB2.out HB2.out.size hb3)
      have HB3' := Lib.hid hb3
      have hz3 : w1.heap.size < w3.heap.size := by have := hb3.size; simp at this; omega
      clear hb3
      cases f1
      · obtain ⟨p3, rfl⟩ := hv3
        go_wp2_with fail
        go_ret2
        exact HS.out.fail hkl (by rw [HPQ.out, HALL.out]; rfl) (HG1.out.trans ((grown_below HB3.out).but _)) ⟨_, rfl⟩
      · obtain rfl : v3 = .nilIface := hv3
        go_wp2_with fail
        refine (KP _).mono ?_
        rintro e w4 ⟨rfl, hb4⟩
        have d0 := (hb4.cell (p := ⟨w1.heap.size, 0, none⟩) hz3).trans c0
        have d1 := (hb4.cell (p := ⟨w1.heap.size, 1, none⟩) hz3).trans c1
        have HB4 := Lib.hid (Below.next HB3.out HB3.out.size hb4)
        have hz4 : w1.heap.size < w4.heap.size := Nat.lt_of_lt_of_le hz3 hb4.size
        clear hb4 c0 c1
        cases f2
        · have hE4 := HE1.out.cut HB4.out HE1.out.ge
          have KT := trailerField_at nm vl w4 (by omega) hE4.tok hE4.ge
          rw [HF3.out] at KT
          unfold fldV at KT
          go_wp2_with fail
          refine KT.mono ?_
          rintro e w5 ⟨v5, rfl, hv5, hb5⟩
          have e0 := (hb5.cell (p := ⟨w1.heap.size, 0, none⟩) hz4).trans d0
          have e1 := (hb5.cell (p := ⟨w1.heap.size, 1, none⟩) hz4).trans d1
          have HB5 := Lib.hid (Below.next HB4.out HB4.out.size hb5)
          clear hb5 d0 d1 KT
          cases f3
          · obtain ⟨p5, rfl⟩ := hv5
            go_wp2_with fail
            go_ret2
            exact HS.out.fail hkl (by rw [HPQ.out, HALL.out]; rfl) (HG1.out.trans ((grown_below HB5.out).but _)) ⟨_, rfl⟩
          · obtain rfl : v5 = .nilIface := hv5
            have hbb : w.heap.size + 1 ≤ w5.heap.size := by have := HB5.out.size; have := HS.out.hdr.lt; omega
            have KA := add_at nm vl (w.heap.size + 1) w.heap.size n es w5 (HS.out.hdr1 hBw HG1.out HB5.out) (by omega) (by have := HS.out.hn; omega) (fun e he => by have := HS.out.items e he; omega) hbb
            go_wp2_with fail
            refine KA.mono ?_
            rintro e w6 ⟨es', rfl, hH6, ha6, hb6⟩
            have HN := Lib.hid (HS.out.next hkl HPQ.out hBw (by rw [HALL.out]; rfl) HF1.out HG1.out HB5.out hH6 ha6 hb6)
            clear hH6 ha6 hb6 KA e0 e1
            go_wp2_with fail
            refine ⟨⟨k + 1, n + 1, es', ?_, HN.out⟩, ?_⟩
            · exact lim_next HTK.out HSS.out
            · simp only [intOf]
              omega
        · go_wp2_with fail
          refine (new_at _ _).mono ?_
          rintro e w5 ⟨rfl, hb5⟩
          have HB5 := Lib.hid (Below.next HB4.out HB4.out.size hb5)
          go_wp2_with fail
          go_ret2
          exact HS.out.fail hkl (by rw [HPQ.out, HALL.out]; rfl) (HG1.out.trans ((grown_below HB5.out).but _)) ⟨_, rfl⟩
    · have e : k = l.length := by omega
      subst e
      have hf := HS.out.feed
      rw [List.drop_length] at hf
      have KN := next_nil Bx p wr hf HEx.out.eof (by have := HEx.out.ge; omega)
      go_wp2_with fail
      refine KN.mono ?_
      rintro e w1 ⟨rfl, hb1⟩
      have e0 := (hb1.cell (p := ⟨0, 0, none⟩) (by have := HEx.out.ge; show 0 < _; omega)).trans HEx.out.eof
      have hz1 : 0 < w1.heap.size := by have := HEx.out.ge; have := hb1.size; omega
      have hq := eql_same
      clear KN hf
      go_wp2_with fail
      go_ret2
      exact HS.out.done ((hb1.mono (Nat.le_refl _)).trans ((below_new w1 _).mono hb1.size))
end Go.Proofs.YtgcfnhchmmkndaaGreatDoor
