/- parseHeaders: words for its walk. -/
import Derived.Test.YtgcfnhchmmkndaaGreatDoorC6
import Derived.Deep.MidRow
namespace Go.Proofs.YtgcfnhchmmkndaaGreatDoor
open Go.RowKit Go.Maps
set_option linter.unusedVariables false
set_option maxRecDepth 100000

structure PIn (w : World) (p : Addr) (vOk : BS × BS → Bool) (l : List (BS × BS)) : Prop where
  size : trSize l ≤ 1048576
  scheme : ∀ q ∈ l, q.1 = kScheme → ascii q.2 = true
  val : ∀ q ∈ l, ∀ W, Env W p → Calls Tryz.prog 68 #[fldV q.1 q.2] W (ErrPost W (vOk q))

def CLPost (w : World) (s : BS) (e : Ending) (w' : World) : Prop :=
  ∃ v ev, e = .returned (.tuple #[.int .u64 v, ev]) ∧ Below w.heap.size w w' ∧ (∀ n, parseCL s = some n → v = (n : Int) ∧ ev = .nilIface) ∧ (parseCL s = none → ∃ t x, ev = .iface t x)

def HPost (w : World) (req : Bool) (vOk : BS × BS → Bool) (l : List (BS × BS)) (Bx : Nat) (e : Ending) (w' : World) : Prop :=
  ∃ v ev, e = .returned (.tuple #[v, ev]) ∧ w.grownBy w' (some Bx) ∧ ErrV (psAll req vOk l).isSome ev ∧
    (∀ s cl, psAll req vOk l = some (s, cl) → ∃ n es, v = .agg (hcl s cl (.map (some (w.heap.size + 1)))).toArray ∧ Hdr w' (w.heap.size + 3) (w.heap.size + 1) n es ∧ absE es = s.H ∧ n ≤ l.length + 1 ∧ (∀ e ∈ es, e.items.length ≤ l.length + 1) ∧ w.heap.size + 3 ≤ w'.heap.size) ∧
    (psAll req vOk l = none → v = .agg (hcl {} 0 (.map none)).toArray)

theorem getElem_eight {α : Type} {f : Nat → Prop} (h0 : f 0) (h1 : f 1) (h2 : f 2) (h3 : f 3) (h4 : f 4) (h5 : f 5) (h6 : f 6) (h7 : f 7) : ∀ j, j < 8 → f j := by
  intro j hj
  match j, hj with
  | 0, _ => exact h0
  | 1, _ => exact h1
  | 2, _ => exact h2
  | 3, _ => exact h3
  | 4, _ => exact h4
  | 5, _ => exact h5
  | 6, _ => exact h6
  | 7, _ => exact h7

def startW (w : World) : World := ((w.alloc (.cells #[str [], str [], str [], str [], str [], str [], .int .i64 0, .map none] 115)).alloc (.map #[] 0)).alloc (.cells #[str [], str [], str [], str [], str [], str [], .int .i64 0, .map (some (w.heap.size + 1))] 115)
theorem PSt.start (w : World) (Bx : Nat) (l : List (BS × BS)) (hF : Feed w Bx l) : PSt w (startW w) Bx 0 l 0 [] {} 0 where
  feed := by
    have h1 := hF.cut (below_new w (.cells #[str [], str [], str [], str [], str [], str [], .int .i64 0, .map none] 115)) hF.lt
    have h2 := h1.cut (below_new _ (.map #[] 0)) h1.lt
    exact h2.cut (below_new _ _) h2.lt
  hdr := by
    have h := (Hdr.made (w.alloc (.cells #[str [], str [], str [], str [], str [], str [], .int .i64 0, .map none] 115))).below (below_new _ (.cells #[str [], str [], str [], str [], str [], str [], .int .i64 0, .map (some (w.heap.size + 1))] 115))
    have e : (w.alloc (.cells #[str [], str [], str [], str [], str [], str [], .int .i64 0, .map none] 115)).heap.size = w.heap.size + 1 := by simp
    rw [e] at h
    exact ⟨h.own, h.nd, (fun e he => by cases he), List.Pairwise.nil, by omega, (fun e he => by cases he)⟩
  abs := rfl
  hn := Nat.le_refl _
  items := fun e he => by cases he
  g := ((World.grownBy_alloc w _ _).trans (World.grownBy_alloc _ _ _)).trans (World.grownBy_alloc _ _ _)
  ge := by simp [startW]
  cells := fun j v hv => by
    have h := cells_new ((w.alloc (.cells #[str [], str [], str [], str [], str [], str [], .int .i64 0, .map none] 115)).alloc (.map #[] 0)) (hcl {} 0 (.map (some (w.heap.size + 1)))) 115 j v hv
    rw [Addr.add_lit, Nat.zero_add] at h
    rw [← h]
    simp [startW, hcl]
  fz := fun j => World.frozen?_alloc_at _ _ _ _ (by simp)
  rcells := fun j v hv => by
    have h := cells_new w (hcl {} 0 (.map none)) 115 j v hv
    rw [Addr.add_lit, Nat.zero_add] at h
    have k : Below (w.heap.size + 1) (w.alloc (.cells (hcl {} 0 (.map none)).toArray 115)) (startW w) := by
      have h1 := below_new w (.cells (hcl {} 0 (.map none)).toArray 115)
      have h2 := below_new (w.alloc (.cells (hcl {} 0 (.map none)).toArray 115)) (.map #[] 0)
      have e : (w.alloc (.cells (hcl {} 0 (.map none)).toArray 115)).heap.size = w.heap.size + 1 := by simp
      rw [e] at h2
      exact h2.alloc (by simp) _
    exact (k.cell (p := ⟨w.heap.size, j, none⟩) (by dsimp only; omega)).trans h
  rfz := fun j => (World.frozen?_alloc_past _ _ _ (by simp; omega)).trans ((World.frozen?_alloc_past _ _ _ (by simp)).trans (World.frozen?_alloc_at _ _ _ _ rfl))

/-- the eight stores of a struct -/
def put8 (wx : World) (B : Nat) (s : PS) (cl : Int) (m : Value) : World :=
  (((((((wx.setCell ⟨B, 0, none⟩ (str s.path)).setCell ⟨B, 1, none⟩ (str s.meth)).setCell ⟨B, 2, none⟩ (str s.auth)).setCell ⟨B, 3, none⟩ (str s.scheme)).setCell ⟨B, 4, none⟩ (str s.status)).setCell ⟨B, 5, none⟩ (str s.proto)).setCell ⟨B, 6, none⟩ (.int .i64 cl)).setCell ⟨B, 7, none⟩ m
theorem put8_grown (wx : World) (B : Nat) (s : PS) (cl : Int) (m : Value) : wx.grownBy (put8 wx B s cl m) (some B) :=
  (((((((grown_set wx B 0 _).trans (grown_set _ B 1 _)).trans (grown_set _ B 2 _)).trans (grown_set _ B 3 _)).trans (grown_set _ B 4 _)).trans (grown_set _ B 5 _)).trans (grown_set _ B 6 _)).trans (grown_set _ B 7 _)
theorem cs_same {w : World} {B i : Nat} {v v0 : Value} (h : w.cell? ⟨B, i, none⟩ = some v0) : (w.setCell ⟨B, i, none⟩ v).cell? ⟨B, i, none⟩ = some v := World.cell?_setCell_same _ _ _ h
theorem cs_other {w : World} {B i j : Nat} {v x : Value} (hne : i ≠ j) (h : w.cell? ⟨B, j, none⟩ = some x) : (w.setCell ⟨B, i, none⟩ v).cell? ⟨B, j, none⟩ = some x := (World.cell?_setCell_other _ _ _ _ (by simp)).trans h
theorem put8_wipe (w : World) (B : Nat) : ((((((((w.setCell ⟨B, 0, none⟩ (Value.string { data := #[] })).setCell ⟨B, 1, none⟩ (Value.string { data := #[] })).setCell ⟨B, 2, none⟩ (Value.string { data := #[] })).setCell ⟨B, 3, none⟩ (Value.string { data := #[] })).setCell ⟨B, 4, none⟩ (Value.string { data := #[] })).setCell ⟨B, 5, none⟩ (Value.string { data := #[] })).setCell ⟨B, 6, none⟩ (Value.int IntKind.i64 0)).setCell ⟨B, 7, none⟩ (Value.map none)) = put8 w B {} 0 (.map none) := rfl
theorem put8_cell (wx : World) (B : Nat) (s : PS) (cl : Int) (m : Value) (h : ∀ j, j < 8 → ∃ v, wx.cell? ⟨B, j, none⟩ = some v) : ∀ j v, (hcl s cl m)[j]? = some v → (put8 wx B s cl m).cell? ⟨B, j, none⟩ = some v := by
  obtain ⟨v0, h0⟩ := h 0 (by omega)
  obtain ⟨v1, h1⟩ := h 1 (by omega)
  obtain ⟨v2, h2⟩ := h 2 (by omega)
  obtain ⟨v3, h3⟩ := h 3 (by omega)
  obtain ⟨v4, h4⟩ := h 4 (by omega)
  obtain ⟨v5, h5⟩ := h 5 (by omega)
  obtain ⟨v6, h6⟩ := h 6 (by omega)
  obtain ⟨v7, h7⟩ := h 7 (by omega)
  intro j v hv
  have hj : j < 8 := (List.getElem?_eq_some_iff.1 hv).1
  unfold put8
  match j, hj, hv with
  | 0, _, hv => have e : str s.path = v := Option.some.inj hv; rw [← e]; exact cs_other (by decide) (cs_other (by decide) (cs_other (by decide) (cs_other (by decide) (cs_other (by decide) (cs_other (by decide) (cs_other (by decide) (cs_same (h0))))))))
  | 1, _, hv => have e : str s.meth = v := Option.some.inj hv; rw [← e]; exact cs_other (by decide) (cs_other (by decide) (cs_other (by decide) (cs_other (by decide) (cs_other (by decide) (cs_other (by decide) (cs_same (cs_other (by decide) (h1))))))))
  | 2, _, hv => have e : str s.auth = v := Option.some.inj hv; rw [← e]; exact cs_other (by decide) (cs_other (by decide) (cs_other (by decide) (cs_other (by decide) (cs_other (by decide) (cs_same (cs_other (by decide) (cs_other (by decide) (h2))))))))
  | 3, _, hv => have e : str s.scheme = v := Option.some.inj hv; rw [← e]; exact cs_other (by decide) (cs_other (by decide) (cs_other (by decide) (cs_other (by decide) (cs_same (cs_other (by decide) (cs_other (by decide) (cs_other (by decide) (h3))))))))
  | 4, _, hv => have e : str s.status = v := Option.some.inj hv; rw [← e]; exact cs_other (by decide) (cs_other (by decide) (cs_other (by decide) (cs_same (cs_other (by decide) (cs_other (by decide) (cs_other (by decide) (cs_other (by decide) (h4))))))))
  | 5, _, hv => have e : str s.proto = v := Option.some.inj hv; rw [← e]; exact cs_other (by decide) (cs_other (by decide) (cs_same (cs_other (by decide) (cs_other (by decide) (cs_other (by decide) (cs_other (by decide) (cs_other (by decide) (h5))))))))
  | 6, _, hv => have e : Value.int .i64 cl = v := Option.some.inj hv; rw [← e]; exact cs_other (by decide) (cs_same (cs_other (by decide) (cs_other (by decide) (cs_other (by decide) (cs_other (by decide) (cs_other (by decide) (cs_other (by decide) (h6))))))))
  | 7, _, hv => have e : m = v := Option.some.inj hv; rw [← e]; exact cs_same (cs_other (by decide) (cs_other (by decide) (cs_other (by decide) (cs_other (by decide) (cs_other (by decide) (cs_other (by decide) (cs_other (by decide) (h7))))))))
attribute [irreducible] put8
theorem PSt.rex {w wx : World} {Bx m n : Nat} {rest : List (BS × BS)} {es : List Ent} {s : PS} {cl : Int} (h : PSt w wx Bx m rest n es s cl) : ∀ j, j < 8 → ∃ v, wx.cell? ⟨w.heap.size, j, none⟩ = some v := fun j hj =>
  ⟨_, h.rcells j _ (List.getElem?_eq_getElem (by simpa [hcl] using hj))⟩
theorem PSt.fail {w wx : World} {Bx m n : Nat} {rest : List (BS × BS)} {es : List Ent} {s : PS} {cl : Int} {req : Bool} {vOk : BS × BS → Bool} {l : List (BS × BS)} (h : PSt w wx Bx m rest n es s cl) (hn : psAll req vOk l = none) (ev : Value) (he : ErrV false ev) :
    HPost w req vOk l Bx (.returned (.tuple #[.agg (hcl {} 0 (.map none)).toArray, ev])) (put8 wx w.heap.size {} 0 (.map none)) :=
  ⟨.agg (hcl {} 0 (.map none)).toArray, ev, rfl, ⟨(put8_grown wx w.heap.size {} 0 (.map none)).os.trans h.g.os, (put8_grown wx w.heap.size {} 0 (.map none)).tape.trans h.g.tape, (put8_grown wx w.heap.size {} 0 (.map none)).output.trans h.g.output, Nat.le_trans h.g.size (put8_grown wx w.heap.size {} 0 (.map none)).size, fun j hj hne => ((put8_grown wx w.heap.size {} 0 (.map none)).block j (by have := h.g.size; omega) (by simp; omega)).trans (h.g.block j hj hne)⟩,
    by rw [hn]; exact he, (fun s cl hs => by rw [hn] at hs; cases hs), fun _ => rfl⟩
theorem new_at' (s : ByteArray) (w : World) : Calls Tryz.prog 57 #[.string s] w fun e w' => ∃ q : Addr, e = .returned (.iface 136 (.pointer (some q))) ∧ Below w.heap.size w w' :=
  (new_at s w).mono fun e w' h => ⟨_, h.1, h.2⟩
theorem PSt.weak {w wx : World} {Bx m m' n : Nat} {rest : List (BS × BS)} {es : List Ent} {s : PS} {cl : Int} (h : PSt w wx Bx m rest n es s cl) (hm : m ≤ m') : PSt w wx Bx m' rest n es s cl :=
  { h with hn := Nat.le_trans h.hn hm, items := fun e he => Nat.le_trans (h.items e he) hm }
theorem PSt.flags {w wx : World} {Bx m n : Nat} {rest : List (BS × BS)} {es : List Ent} {s s' : PS} {cl : Int} (h : PSt w wx Bx m rest n es s cl) (h1 : hcl s' cl (.map (some (w.heap.size + 1))) = hcl s cl (.map (some (w.heap.size + 1)))) (h2 : s'.H = s.H) : PSt w wx Bx m rest n es s' cl :=
  ⟨h.feed, h.hdr, by rw [h2]; exact h.abs, h.hn, h.items, h.g, h.ge, by rw [h1]; exact h.cells, h.fz, h.rcells, h.rfz⟩
theorem PSt.done {w wx : World} {Bx m n : Nat} {rest : List (BS × BS)} {es : List Ent} {s : PS} {cl : Int} {req : Bool} {vOk : BS × BS → Bool} {l : List (BS × BS)} (h : PSt w wx Bx m rest n es s cl) (hm : m ≤ l.length + 1) (hs : psAll req vOk l = some (s, cl)) :
    HPost w req vOk l Bx (.returned (.tuple #[.agg (hcl s cl (.map (some (w.heap.size + 1)))).toArray, .nilIface])) (put8 wx w.heap.size s cl (.map (some (w.heap.size + 1)))) := by
  have g8 := put8_grown wx w.heap.size s cl (.map (some (w.heap.size + 1)))
  refine ⟨_, _, rfl, ⟨g8.os.trans h.g.os, g8.tape.trans h.g.tape, g8.output.trans h.g.output, Nat.le_trans h.g.size g8.size, fun j hj hne => (g8.block j (by have := h.g.size; omega) (by simp; omega)).trans (h.g.block j hj hne)⟩, by rw [hs]; rfl, fun s' cl' he => ?_, fun he => by rw [hs] at he; cases he⟩
  rw [hs] at he
  injection he with he
  injection he with h1 h2
  subst h1 h2
  refine ⟨n, es, rfl, h.hdr.kept g8 (by simp) (fun e he => ?_), h.abs, Nat.le_trans h.hn hm, (fun e he => Nat.le_trans (h.items e he) hm), Nat.le_trans h.ge g8.size⟩
  cases hv : e.val.ownBlock with
  | none => exact .inl rfl
  | some j => exact .inr (by have := (h.hdr.above e he j hv).1; simp; omega)
theorem put8_fold (w : World) (B : Nat) (s : PS) (cl : Int) (m : Value) : ((((((((w.setCell ⟨B, 0, none⟩ (str s.path)).setCell ⟨B, 1, none⟩ (str s.meth)).setCell ⟨B, 2, none⟩ (str s.auth)).setCell ⟨B, 3, none⟩ (str s.scheme)).setCell ⟨B, 4, none⟩ (str s.status)).setCell ⟨B, 5, none⟩ (str s.proto)).setCell ⟨B, 6, none⟩ (Value.int IntKind.i64 cl)).setCell ⟨B, 7, none⟩ m) = put8 w B s cl m := by unfold put8; rfl
theorem items_put {es : List Ent} {m : Nat} (h : ∀ e ∈ es, e.items.length ≤ m) {k : BS} {v : Value} : ∀ e ∈ putEnt es ⟨k, v, []⟩, e.items.length ≤ m + 1 := fun e he => by
  rcases putEnt_mem he with rfl | ⟨he, _⟩
  · simp
  · exact Nat.le_succ_of_le (h e he)
theorem no_key {es : List Ent} {H : AL} {k : BS} (ha : absE es = H) (h : hasKey H k = false) : ∀ e ∈ es, e.key ≠ k := by
  intro e he e2
  unfold hasKey at h
  rw [List.any_eq_false] at h
  refine h (e.key, e.items) ?_ (by simpa using e2)
  rw [← ha]
  exact List.mem_map_of_mem (f := fun e : Ent => (e.key, e.items)) he
theorem has_key {es : List Ent} {H : AL} {k : BS} (ha : absE es = H) (h : hasKey H k = true) : ∃ e ∈ es, e.key = k := by
  unfold hasKey at h
  obtain ⟨q, hq, hk⟩ := List.any_eq_true.1 h
  rw [← ha] at hq
  obtain ⟨e, he, rfl⟩ := List.mem_map.1 hq
  exact ⟨e, he, by simpa using hk⟩

theorem put8_H (w : World) (B : Nat) (s : PS) (H' : AL) (cl : Int) (m : Value) : put8 w B { s with H := H' } cl m = put8 w B s cl m := by unfold put8; rfl
def SwRel (w wx : World) (req : Bool) (Bx k : Nat) (rest : List (BS × BS)) (s : PS) (nm vl : BS) (s13 s14 s19 s20 : Value) : Prop :=
  ∃ (n : Nat) (es : List Ent) (s' : PS) (dup isr : Bool), s13 = .bool s'.hasM ∧ s14 = .bool s'.hasS ∧ s19 = .bool isr ∧ s20 = .bool dup ∧ PSt w wx Bx (k + 1) rest n es s' 0 ∧ s'.reg = s.reg ∧ s'.hasCL = s.hasCL ∧ s'.cls = s.cls ∧
    psPseudo req s nm vl = if dup then none else if isr == req then none else some s'
theorem Hdr.look_anyC {w : World} {base b n : Nat} {es : List Ent} (h : Hdr w base b n es) (k : BS) (hk : k.length ≤ 2147483648) :
    ∃ v, (Instr.lookup 78 (.map (some b)) (str k) true).run Tryz.prog w = .ok (.tuple #[v, .bool (hasKey (absE es) k)]) w := by
  cases hd : hasKey (absE es) k
  · exact ⟨_, h.look_ok_no k hk (no_key rfl hd)⟩
  · obtain ⟨e, he, rfl⟩ := has_key rfl hd
    exact ⟨_, h.look_ok e he⟩
theorem info115 : (Tryz.prog.info? 115).map (·.size) = some 8 := by kernel_rfl
theorem und115 : ∃ d, Tryz.prog.underlying 115 = some d ∧ d.isRow = true := ⟨_, Tryz.underlying115, rfl⟩
theorem put8_cells (w : World) (B : Nat) (s : PS) (cl : Int) (m : Value) : w.setCells B 0 (hcl s cl m) = put8 w B s cl m := by unfold put8 hcl; rfl
theorem wpList_store8 {ops : Array Oper} {rest : List Oper} {op : Oper} {a : Act} {w : World} {Q : Exit → Act → World → Prop} (hgd : op.guard = none) (y : Operand) (ho : op.op = .store 115 (.tmp 8) y) (B : Nat) (s : PS) (cl : Int) (m : Value)
    (hx : a.eval (.tmp 8) = .pointer (some ⟨B, 0, none⟩)) (hy : a.eval y = .agg (hcl s cl m).toArray) (ht : w.there B 0 8) (hm : m.oneCell' = true) (h : wpList Tryz.prog ops Q rest (a.put op.dst undef) (put8 w B s cl m)) : wpList Tryz.prog ops Q (op :: rest) a w := by
  refine wpList_store_mid hgd 115 (.tmp 8) y ho B 0 (hcl s cl m).toArray hx hy ht info115 (all_oneCell_toArray fun v hv => ?_) ?_
  · simp only [hcl, List.mem_cons, List.not_mem_nil, or_false] at hv
    rcases hv with rfl | rfl | rfl | rfl | rfl | rfl | rfl | rfl
    all_goals first | rfl | exact hm
  · rw [List.toList_toArray, put8_cells]
    exact h
theorem wpList_load8 {ops : Array Oper} {rest : List Oper} {op : Oper} {a : Act} {w : World} {Q : Exit → Act → World → Prop} (hgd : op.guard = none) (ho : op.op = .load 115 (.tmp 10)) (B : Nat) (s : PS) (cl : Int) (m : Value)
    (hx : a.eval (.tmp 10) = .pointer (some ⟨B, 0, none⟩)) (hc : ∀ j v, (hcl s cl m)[j]? = some v → w.cell? ⟨B, j, none⟩ = some v) (h : wpList Tryz.prog ops Q rest (a.put op.dst (.agg (hcl s cl m).toArray)) w) : wpList Tryz.prog ops Q (op :: rest) a w := by
  obtain ⟨d, h1, h2⟩ := und115
  exact wpList_load_mid hgd 115 (.tmp 10) ho B 0 hx (hcl s cl m) d (fun j v hv => by rw [Nat.zero_add]; exact hc j v hv) h1 h2 info115 h
theorem PSt.there {w wx : World} {Bx m n : Nat} {rest : List (BS × BS)} {es : List Ent} {s : PS} {cl : Int} (h : PSt w wx Bx m rest n es s cl) : wx.there w.heap.size 0 8 := fun j hj => by
  obtain ⟨v, hv⟩ := h.rex j hj
  rw [Nat.zero_add]
  exact ⟨by rw [hv]; rfl, h.rfz j⟩
end Go.Proofs.YtgcfnhchmmkndaaGreatDoor
