/- spec.HRRead: what it computes; its state in memory. -/
import Derived.Test.YtgcfnhchmmkndaaGreatDoorG5
import Derived.Test.YtgcfnhchmmkndaaGreatDoorC5
import Derived.Test.YtgcfnhchmmkndaaGreatDoorC1
import Derived.Test.YtgcfnhchmmkndaaGreatDoorB5
import Derived.Deep.MidRow
import Derived.Test.YtgcfnhchmmkndaaGreatDoorC7b
namespace Go.Proofs.YtgcfnhchmmkndaaGreatDoor
open Go.RowKit Go.Maps
set_option linter.unusedVariables false
set_option maxRecDepth 100000

structure HRS where
  pm : List (BS × BS) := []
  hd : AL := []
  len : Int := -1
  beh : Bool := false
  ls : BS := []
  told : Bool := false

def pseOk (req : Bool) (nm : BS) : Bool := if req then pseNames.contains nm else nm == kStatus
def hsPs (req : Bool) (s : HRS) (nm vl : BS) : Option HRS := if s.beh || hasP s.pm nm || !pseOk req nm then none else some { s with pm := s.pm ++ [(nm, vl)] }
def hsRg (s : HRS) (nm vl : BS) : Option HRS :=
  if !nameOk nm || barredNames.contains nm || (nm == [116, 101] && vl != [116, 114, 97, 105, 108, 101, 114, 115]) then none
  else if nm != kLength then some { s with beh := true, hd := hrAdd s.hd (canonOut nm) vl }
  else if s.told && s.ls != vl then none
  else if vl == [] then some { s with beh := true, ls := vl, told := true }
  else (parseCL vl).map fun n => { s with beh := true, ls := vl, told := true, len := (n : Int) }
def hsStep (req : Bool) (s : HRS) (p : BS × BS) : Option HRS :=
  if !lowOk p.1 || !valOk p.2 || p.1 == [] then none else if pseudoB p.1 then hsPs req s p.1 p.2 else hsRg s p.1 p.2
def hsFold (req : Bool) : HRS → List (BS × BS) → Option HRS
  | s, [] => some s
  | s, p :: t => (hsStep req s p).bind fun s' => hsFold req s' t
def hsEnd (s : HRS) : HRS := if s.ls == [] then s else { s with hd := hrAdd (setOff s.hd kCLength) kCLength s.ls }
def hrRead (req : Bool) (l : List (BS × BS)) : Option HRS := (hsFold req {} l).map hsEnd

/-- the struct of what is read -/
def pcl (b : Nat) (V : Value) (n : Int) : List Value := [.map (some b), V, .int .i64 n]
structure HSt (w wx : World) (m n : Nat) (V : Value) (es : List Ent) (s : HRS) : Prop where
  pm : PMap wx (w.heap.size + 1) n s.pm
  hl : HL wx (w.heap.size + 3) V es
  abs : absE es = s.hd
  hn : n ≤ m
  len : es.length ≤ m
  items : ∀ e ∈ es, e.items.length ≤ m
  bel : Below w.heap.size w wx
  ge : w.heap.size + 3 ≤ wx.heap.size
  cells : ∀ j v, (pcl (w.heap.size + 1) V s.len)[j]? = some v → wx.cell? ⟨w.heap.size + 2, j, none⟩ = some v
  fz : ∀ j, wx.frozen? ⟨w.heap.size + 2, j, none⟩ = false
  rex : ∀ j, j < 3 → ∃ v, wx.cell? ⟨w.heap.size, j, none⟩ = some v
  rfz : ∀ j, wx.frozen? ⟨w.heap.size, j, none⟩ = false
  own : ∀ g, V.ownBlock = some g → w.heap.size + 3 ≤ g
section
variable {w wx w' : World} {m n : Nat} {V : Value} {es : List Ent} {s : HRS}
theorem HSt.below (h : HSt w wx m n V es s) (k : Below wx.heap.size wx w') : HSt w w' m n V es s where
  pm := h.pm.below k
  hl := h.hl.below k
  abs := h.abs
  hn := h.hn
  len := h.len
  items := h.items
  bel := Below.next h.bel h.bel.size k
  ge := Nat.le_trans h.ge k.size
  cells := fun j v hv => (k.cell (p := ⟨w.heap.size + 2, j, none⟩) (by have := h.ge; dsimp only; omega)).trans (h.cells j v hv)
  fz := fun j => (k.frozen (p := ⟨w.heap.size + 2, j, none⟩) (by have := h.ge; dsimp only; omega)).trans (h.fz j)
  rex := fun j hj => by
    obtain ⟨v, hv⟩ := h.rex j hj
    exact ⟨v, (k.cell (p := ⟨w.heap.size, j, none⟩) (by have := h.ge; dsimp only; omega)).trans hv⟩
  rfz := fun j => (k.frozen (p := ⟨w.heap.size, j, none⟩) (by have := h.ge; dsimp only; omega)).trans (h.rfz j)
  own := h.own
/-- only what no cell tells has changed -/
theorem HSt.flags {s' : HRS} (h : HSt w wx m n V es s) (h1 : s'.pm = s.pm) (h2 : s'.hd = s.hd) (h3 : s'.len = s.len) : HSt w wx m n V es s' :=
  ⟨by rw [h1]; exact h.pm, h.hl, by rw [h2]; exact h.abs, h.hn, h.len, h.items, h.bel, h.ge, by rw [h3]; exact h.cells, h.fz, h.rex, h.rfz, h.own⟩
theorem HSt.weak {m' : Nat} (h : HSt w wx m n V es s) (hm : m ≤ m') : HSt w wx m' n V es s :=
  { h with hn := Nat.le_trans h.hn hm, len := Nat.le_trans h.len hm, items := fun e he => Nat.le_trans (h.items e he) hm }
/-- a store in the map -/
theorem HSt.put (h : HSt w wx m n V es s) {pm' : List (BS × BS)} (hp : PMap w' (w.heap.size + 1) (n + 1) pm') (g : wx.grownBy w' (some (w.heap.size + 1))) : HSt w w' (m + 1) (n + 1) V es { s with pm := pm' } where
  pm := hp
  hl := h.hl.grown g (by omega)
  abs := h.abs
  hn := Nat.succ_le_succ h.hn
  len := Nat.le_succ_of_le h.len
  items := fun e he => Nat.le_succ_of_le (h.items e he)
  bel := h.bel.grown g (by have := h.bel.size; omega) (fun k hk => by injection hk with hk; omega)
  ge := Nat.le_trans h.ge g.size
  cells := fun j v hv => (World.cell?_of_block (g.block (w.heap.size + 2) (by have := h.ge; omega) (by simp))).trans (h.cells j v hv)
  fz := fun j => (World.frozen?_of_block (g.block (w.heap.size + 2) (by have := h.ge; omega) (by simp))).trans (h.fz j)
  rex := fun j hj => by
    obtain ⟨v, hv⟩ := h.rex j hj
    exact ⟨v, (World.cell?_of_block (g.block w.heap.size (by have := h.ge; omega) (by simp))).trans hv⟩
  rfz := fun j => (World.frozen?_of_block (g.block w.heap.size (by have := h.ge; omega) (by simp))).trans (h.rfz j)
  own := h.own
/-- a store in the struct -/
theorem HSt.set {V' : Value} {es' : List Ent} {s' : HRS} {i : Nat} {u : Value} (h : HSt w wx m n V es s) (hi : i < 3) (hs : pcl (w.heap.size + 1) V' s'.len = (pcl (w.heap.size + 1) V s.len).set i u) (hp : s'.pm = s.pm)
    (hl : HL wx (w.heap.size + 3) V' es') (ha : absE es' = s'.hd) (h1 : es'.length ≤ m) (h2 : ∀ e ∈ es', e.items.length ≤ m) (ho : ∀ g, V'.ownBlock = some g → w.heap.size + 3 ≤ g) :
    HSt w (wx.setCell ⟨w.heap.size + 2, i, none⟩ u) m n V' es' s' where
  pm := by rw [hp]; exact h.pm.kept (grown_set wx (w.heap.size + 2) i u) (by simp)
  hl := hl.grown (grown_set wx (w.heap.size + 2) i u) (by omega)
  abs := ha
  hn := h.hn
  len := h1
  items := h2
  bel := h.bel.grown (grown_set wx (w.heap.size + 2) i u) (by have := h.bel.size; omega) (fun k hk => by injection hk with hk; omega)
  ge := by simpa using h.ge
  cells := fun j v hv => by
    rw [hs] at hv
    by_cases e : j = i
    · subst e
      have hold : ∃ v0, (pcl (w.heap.size + 1) V s.len)[j]? = some v0 := ⟨_, List.getElem?_eq_getElem (by simpa [pcl] using hi)⟩
      obtain ⟨v0, h0⟩ := hold
      rw [World.cell?_setCell_same _ _ _ (h.cells j v0 h0)]
      rw [List.getElem?_set_self (by simpa [pcl] using hi)] at hv
      exact hv
    · rw [World.cell?_setCell_other _ _ _ _ (by simp)]
      rw [List.getElem?_set_ne (by omega)] at hv
      exact h.cells j v hv
  fz := fun j => by simpa using h.fz j
  rex := fun j hj => by
    obtain ⟨v, hv⟩ := h.rex j hj
    exact ⟨v, (World.cell?_setCell_other _ _ _ _ (by simp)).trans hv⟩
  rfz := fun j => by simpa using h.rfz j
  own := ho
/-- one field more -/
theorem HSt.add {W w3 : World} {A A3 : Option Addr} {c c3 : Nat} {es3 : List Ent} {ky vl : BS} (h : HSt w wx m n (.slice A es.length c) es s) (hB : Below wx.heap.size wx W) (hb3 : Below W.heap.size W w3) (hL : HL w3 (w.heap.size + 3) (.slice A3 es3.length c3) es3)
    (hA : absE es3 = hrAdd (absE es) ky vl) (ho : ∀ g, (Value.slice A3 es3.length c3).ownBlock = some g → W.heap.size ≤ g) :
    HSt w (w3.setCell ⟨w.heap.size + 2, 1, none⟩ (.slice A3 es3.length c3)) (m + 1) n (.slice A3 es3.length c3) es3 { s with hd := hrAdd s.hd ky vl } := by
  have hb := Below.next hB hB.size hb3
  have h1 := absE_len hA
  have h4 := hrAdd_len (absE es) ky vl
  have h5 : (absE es).length = es.length := by simp [absE]
  have hl := h.len
  refine ((h.below hb).weak (Nat.le_succ m)).set (s' := { s with hd := hrAdd s.hd ky vl }) (i := 1) (u := .slice A3 es3.length c3) (by decide) rfl rfl hL (by rw [hA, h.abs]) (by omega) (fun e he => ?_) (fun g hg => by have := ho g hg; have := hB.size; have := h.ge; omega)
  have hm : (e.key, e.items) ∈ absE es3 := List.mem_map_of_mem (f := fun e : Ent => (e.key, e.items)) he
  rw [hA] at hm
  refine hrAdd_items (m := m) (fun q hq => ?_) _ _ _ hm
  obtain ⟨e2, he2, rfl⟩ := List.mem_map.1 hq
  exact h.items e2 he2
end
/-- what is handed back -/
def ReadPost (w : World) (m : Nat) (r : Option HRS) (e : Ending) (w' : World) : Prop :=
  ∃ n V es s, e = .returned (.tuple #[.agg (pcl (w.heap.size + 1) V s.len).toArray, .bool r.isSome]) ∧ Below w.heap.size w w' ∧ PMap w' (w.heap.size + 1) n s.pm ∧ HL w' (w.heap.size + 3) V es ∧ absE es = s.hd ∧ n ≤ m ∧ es.length ≤ m ∧ (∀ e ∈ es, e.items.length ≤ m) ∧
    (∀ g, V.ownBlock = some g → w.heap.size + 3 ≤ g) ∧ w.heap.size + 3 ≤ w'.heap.size ∧ ∀ s', r = some s' → s' = s
/-- the three stores of the struct -/
def put3 (wx : World) (B b : Nat) (V : Value) (n : Int) : World := wx.setCells B 0 (pcl b V n)
theorem put3_eq (wx : World) (B b : Nat) (V : Value) (n : Int) : put3 wx B b V n = ((wx.setCell ⟨B, 0, none⟩ (.map (some b))).setCell ⟨B, 1, none⟩ V).setCell ⟨B, 2, none⟩ (.int .i64 n) := rfl
theorem put3_grown (wx : World) (B b : Nat) (V : Value) (n : Int) : wx.grownBy (put3 wx B b V n) (some B) := by
  rw [put3_eq]
  exact ((grown_set wx B 0 _).trans (grown_set _ B 1 _)).trans (grown_set _ B 2 _)
theorem info53 : (Tryz.prog.info? 53).map (·.size) = some 3 := by kernel_rfl
theorem und53 : ∃ d, Tryz.prog.underlying 53 = some d ∧ d.isRow = true := ⟨_, Tryz.underlying53, rfl⟩
theorem put3_cells {w wx : World} {m n : Nat} {V : Value} {es : List Ent} {s : HRS} (h : HSt w wx m n V es s) (b : Nat) (V' : Value) (k : Int) :
    (put3 wx w.heap.size b V' k).cell? ⟨w.heap.size, 0, none⟩ = some (.map (some b)) ∧ (put3 wx w.heap.size b V' k).cell? ⟨w.heap.size, 1, none⟩ = some V' ∧ (put3 wx w.heap.size b V' k).cell? ⟨w.heap.size, 2, none⟩ = some (.int .i64 k) := by
  obtain ⟨v0, h0⟩ := h.rex 0 (by omega)
  obtain ⟨v1, h1⟩ := h.rex 1 (by omega)
  obtain ⟨v2, h2⟩ := h.rex 2 (by omega)
  rw [put3_eq]
  have o : ∀ {W : World} {i j : Nat} {v x : Value}, i ≠ j → W.cell? ⟨w.heap.size, j, none⟩ = some x → (W.setCell ⟨w.heap.size, i, none⟩ v).cell? ⟨w.heap.size, j, none⟩ = some x := fun hne h => (World.cell?_setCell_other _ _ _ _ (by simp)).trans h
  exact ⟨o (by decide) (o (by decide) (World.cell?_setCell_same _ _ _ h0)), o (by decide) (World.cell?_setCell_same _ _ _ (o (by decide) h1)), World.cell?_setCell_same _ _ _ (o (by decide) (o (by decide) h2))⟩
theorem HSt.done {w wx : World} {m m' n : Nat} {V : Value} {es : List Ent} {s : HRS} (h : HSt w wx m n V es s) (hm : m ≤ m') (r : Option HRS) (hr : ∀ s', r = some s' → s' = s) :
    ReadPost w m' r (.returned (.tuple #[.agg (pcl (w.heap.size + 1) V s.len).toArray, .bool r.isSome])) (put3 wx w.heap.size (w.heap.size + 1) V s.len) := by
  have g := put3_grown wx w.heap.size (w.heap.size + 1) V s.len
  exact ⟨n, V, es, s, rfl, h.bel.grown g h.bel.size (fun k hk => by injection hk with hk; omega), h.pm.kept g (by simp), h.hl.grown g (by omega), h.abs, Nat.le_trans h.hn hm, Nat.le_trans h.len hm, fun e he => Nat.le_trans (h.items e he) hm, h.own, Nat.le_trans h.ge g.size, hr⟩
theorem HSt.there {w wx : World} {m n : Nat} {V : Value} {es : List Ent} {s : HRS} (h : HSt w wx m n V es s) : wx.there w.heap.size 0 3 := fun j hj => by
  obtain ⟨v, hv⟩ := h.rex j hj
  rw [Nat.zero_add]
  exact ⟨by rw [hv]; rfl, h.rfz j⟩
theorem wpList_store3 {ops : Array Oper} {rest : List Oper} {op : Oper} {a : Act} {w : World} {Q : Exit → Act → World → Prop} (hgd : op.guard = none) (y : Operand) (ho : op.op = .store 53 (.tmp 4) y) (B b : Nat) (V : Value) (n : Int)
    (hx : a.eval (.tmp 4) = .pointer (some ⟨B, 0, none⟩)) (hy : a.eval y = .agg (pcl b V n).toArray) (ht : w.there B 0 3) (hm : V.oneCell' = true) (h : wpList Tryz.prog ops Q rest (a.put op.dst undef) (put3 w B b V n)) : wpList Tryz.prog ops Q (op :: rest) a w := by
  refine wpList_store_mid hgd 53 (.tmp 4) y ho B 0 (pcl b V n).toArray hx hy ht info53 (all_oneCell_toArray fun v hv => ?_) ?_
  · simp only [pcl, List.mem_cons, List.not_mem_nil, or_false] at hv
    rcases hv with rfl | rfl | rfl
    all_goals first | rfl | exact hm
  · rw [List.toList_toArray]
    exact h
theorem wpList_load3 {ops : Array Oper} {rest : List Oper} {op : Oper} {a : Act} {w : World} {Q : Exit → Act → World → Prop} (hgd : op.guard = none) (ho : op.op = .load 53 (.tmp 6)) (B b : Nat) (V : Value) (n : Int)
    (hx : a.eval (.tmp 6) = .pointer (some ⟨B, 0, none⟩)) (hc : ∀ j v, (pcl b V n)[j]? = some v → w.cell? ⟨B, j, none⟩ = some v) (h : wpList Tryz.prog ops Q rest (a.put op.dst (.agg (pcl b V n).toArray)) w) : wpList Tryz.prog ops Q (op :: rest) a w := by
  obtain ⟨d, h1, h2⟩ := und53
  exact wpList_load_mid hgd 53 (.tmp 6) ho B 0 hx (pcl b V n) d (fun j v hv => by rw [Nat.zero_add]; exact hc j v hv) h1 h2 info53 h
attribute [irreducible] put3
def startH (w : World) : World := ((w.alloc (.cells #[.map none, .slice none 0 0, .int .i64 0] 53)).alloc (.map #[] 0)).alloc (.cells #[.map (some (w.heap.size + 1)), .slice none 0 0, .int .i64 (-1)] 53)
theorem HSt.start (w : World) : HSt w (startH w) 0 0 (.slice none 0 0) [] {} where
  pm := by
    have h := (PMap.made (w.alloc (.cells #[.map none, .slice none 0 0, .int .i64 0] 53))).below (below_new _ (.cells #[.map (some (w.heap.size + 1)), .slice none 0 0, .int .i64 (-1)] 53))
    have e : (w.alloc (.cells #[.map none, .slice none 0 0, .int .i64 0] 53)).heap.size = w.heap.size + 1 := by simp
    rw [e] at h
    exact h
  hl := HL.nil _ _
  abs := rfl
  hn := Nat.le_refl _
  len := Nat.le_refl _
  items := fun e he => by cases he
  bel := (((Below.refl w.heap.size w).alloc (Nat.le_refl _) _).alloc (by simp) _).alloc (by simp; omega) _
  ge := by simp [startH]
  cells := fun j v hv => by
    have h := cells_new ((w.alloc (.cells #[.map none, .slice none 0 0, .int .i64 0] 53)).alloc (.map #[] 0)) (pcl (w.heap.size + 1) (.slice none 0 0) (-1)) 53 j v hv
    rw [Addr.add_lit, Nat.zero_add] at h
    rw [← h]
    simp [startH, pcl]
  fz := fun j => World.frozen?_alloc_at _ _ _ _ (by simp)
  rex := fun j hj => by
    have h := cells_new w [.map none, .slice none 0 0, .int .i64 0] 53
    have k : Below (w.heap.size + 1) (w.alloc (.cells #[.map none, .slice none 0 0, .int .i64 0] 53)) (startH w) := by
      have h2 := below_new (w.alloc (.cells #[.map none, .slice none 0 0, .int .i64 0] 53)) (.map #[] 0)
      have e : (w.alloc (.cells #[.map none, .slice none 0 0, .int .i64 0] 53)).heap.size = w.heap.size + 1 := by simp
      rw [e] at h2
      exact h2.alloc (by simp) _
    obtain ⟨v, hv⟩ : ∃ v, ([.map none, .slice none 0 0, .int .i64 0] : List Value)[j]? = some v := ⟨_, List.getElem?_eq_getElem (by simpa using hj)⟩
    have h3 := h j v hv
    rw [Addr.add_lit, Nat.zero_add] at h3
    exact ⟨v, (k.cell (p := ⟨w.heap.size, j, none⟩) (by dsimp only; omega)).trans h3⟩
  rfz := fun j => (World.frozen?_alloc_past _ _ _ (by simp; omega)).trans ((World.frozen?_alloc_past _ _ _ (by simp)).trans (World.frozen?_alloc_at _ _ _ _ rfl))
  own := fun g hg => by cases hg

/-- the loop's body -/
noncomputable def body21 : Code := (Tryz.f21.body.bind firstLoop).getD .skip
def NextR (w : World) (req : Bool) (l : List (BS × BS)) (k : Nat) (s7 s8 s9 s20 : Value) (wx : World) : Prop :=
  ∃ n V es s, s7 = .bool s.beh ∧ s8 = str s.ls ∧ s9 = .bool s.told ∧ s20 = .int .i64 (k : Int) ∧ HSt w wx k n V es s ∧ hsFold req {} l = hsFold req s (l.drop k)
def EndR (w : World) (req : Bool) (l : List (BS × BS)) (s8 : Value) (wx : World) : Prop := ∃ n V es s, s8 = str s.ls ∧ HSt w wx l.length n V es s ∧ hsFold req {} l = some s
/-- the next round's start -/
def RN21 (w : World) (req : Bool) (l : List (BS × BS)) (A : Option Addr) (c : Nat) (k : Nat) (u2 u3 u10 u16 u17 u125 u126 u127 u128 u129 u130 u131 u132 : Value) (a' : Act) (w' : World) : Prop :=
  ∃ u5 u7 u8 u9 u11 u12 u13 u14 u15 u20 u21 u22 u23 u24 u25 u26 u27 u28 u29 u30 u31 u32 u33 u34 u35 u36 u37 u38 u39 u40 u41 u42 u43 u44 u45 u46 u47 u48 u49 u50 u51 u52 u53 u54 u55 u56 u57 u58 u59 u60 u61 u62 u63 u64 u65 u66 u67 u68 u69 u70 u71 u72 u73 u74 u75 u76 u77 u78 u79 u80 u81 u82 u83 u84 u85 u86 u87 u88 u89 u90 u91 u92 u93 u94 u95 u96 u97 u98 u99 u100 u101 u102 u103 u104 u105 u106 u107 u108 u109 u110 u111 u112 u113 u114 u115 u116 u117 u118 u119 u120 u121 u122 u123 u124 : Value, NextR w req l (k + 1) u7 u8 u9 u20 w' ∧ a' = ⟨#[.slice A l.length c, .bool req, u2, u3, .pointer (some ⟨w.heap.size, 0, none⟩), u5, .pointer (some ⟨w.heap.size + 2, 0, none⟩), u7, u8, u9, u10, u11, u12, u13, u14, u15, u16, u17, .slice A l.length c, .int .i64 (l.length : Int), u20, u21, u22, u23, u24, u25, u26, u27, u28, u29, u30, u31, u32, u33, u34, u35, u36, u37, u38, u39, u40, u41, u42, u43, u44, u45, u46, u47, u48, u49, u50, u51, u52, u53, u54, u55, u56, u57, u58, u59, u60, u61, u62, u63, u64, u65, u66, u67, u68, u69, u70, u71, u72, u73, u74, u75, u76, u77, u78, u79, u80, u81, u82, u83, u84, u85, u86, u87, u88, u89, u90, u91, u92, u93, u94, u95, u96, u97, u98, u99, u100, u101, u102, u103, u104, u105, u106, u107, u108, u109, u110, u111, u112, u113, u114, u115, u116, u117, u118, u119, u120, u121, u122, u123, u124, u125, u126, u127, u128, u129, u130, u131, u132], []⟩
/-- the loop's exit -/
def RX21 (w : World) (req : Bool) (l : List (BS × BS)) (A : Option Addr) (c : Nat) (u2 u3 u10 u16 u17 u125 u126 u127 u128 u129 u130 u131 u132 : Value) (a' : Act) (w' : World) : Prop :=
  ∃ u5 u7 u8 u9 u11 u12 u13 u14 u15 u20 u21 u22 u23 u24 u25 u26 u27 u28 u29 u30 u31 u32 u33 u34 u35 u36 u37 u38 u39 u40 u41 u42 u43 u44 u45 u46 u47 u48 u49 u50 u51 u52 u53 u54 u55 u56 u57 u58 u59 u60 u61 u62 u63 u64 u65 u66 u67 u68 u69 u70 u71 u72 u73 u74 u75 u76 u77 u78 u79 u80 u81 u82 u83 u84 u85 u86 u87 u88 u89 u90 u91 u92 u93 u94 u95 u96 u97 u98 u99 u100 u101 u102 u103 u104 u105 u106 u107 u108 u109 u110 u111 u112 u113 u114 u115 u116 u117 u118 u119 u120 u121 u122 u123 u124 : Value, EndR w req l u8 w' ∧ a' = ⟨#[.slice A l.length c, .bool req, u2, u3, .pointer (some ⟨w.heap.size, 0, none⟩), u5, .pointer (some ⟨w.heap.size + 2, 0, none⟩), u7, u8, u9, u10, u11, u12, u13, u14, u15, u16, u17, .slice A l.length c, .int .i64 (l.length : Int), u20, u21, u22, u23, u24, u25, u26, u27, u28, u29, u30, u31, u32, u33, u34, u35, u36, u37, u38, u39, u40, u41, u42, u43, u44, u45, u46, u47, u48, u49, u50, u51, u52, u53, u54, u55, u56, u57, u58, u59, u60, u61, u62, u63, u64, u65, u66, u67, u68, u69, u70, u71, u72, u73, u74, u75, u76, u77, u78, u79, u80, u81, u82, u83, u84, u85, u86, u87, u88, u89, u90, u91, u92, u93, u94, u95, u96, u97, u98, u99, u100, u101, u102, u103, u104, u105, u106, u107, u108, u109, u110, u111, u112, u113, u114, u115, u116, u117, u118, u119, u120, u121, u122, u123, u124, u125, u126, u127, u128, u129, u130, u131, u132], []⟩
theorem hr_fold_none {req : Bool} {l : List (BS × BS)} (h : hsFold req {} l = none) : hrRead req l = none := by unfold hrRead; rw [h]; rfl
theorem low_at' (l : BS) (f : Bool) (hl : l.length ≤ 1048576) (hf : lowOk l = f) (w : World) : Calls Tryz.prog 42 #[str l] w fun e w' => e = .returned (.bool f) ∧ w' = w := by
  have := low_at ⟨l.toArray⟩ w (by show l.toArray.size ≤ _; rw [List.size_toArray]; omega)
  subst hf
  simpa using this
theorem hrvalue_at' (l : BS) (f : Bool) (hl : l.length ≤ 1048576) (hf : valOk l = f) (w : World) : Calls Tryz.prog 43 #[str l] w fun e w' => e = .returned (.bool f) ∧ w' = w := by
  have := hrvalue_at ⟨l.toArray⟩ w (by show l.toArray.size ≤ _; rw [List.size_toArray]; omega)
  subst hf
  simpa using this
theorem pse_at (req : Bool) (nm : BS) (f : Bool) (hf : pseOk req nm = f) (w : World) : Calls Tryz.prog 44 #[str nm, .bool req] w fun e w' => e = .returned (.bool f) ∧ Below w.heap.size w w' := by
  subst hf
  cases req
  · exact (hrpseudo_res nm w).mono fun e w' h => ⟨h.1, by rw [h.2]; exact Below.refl _ _⟩
  · exact hrpseudo_req nm w
theorem hrname_at' (l : BS) (f : Bool) (hl : l.length ≤ 1048576) (hf : nameOk l = f) (w : World) : Calls Tryz.prog 45 #[str l] w fun e w' => e = .returned (.bool f) ∧ Below w.heap.size w w' := by
  subst hf
  exact hrname_at l w (by omega)
theorem barred_at' (l : BS) (f : Bool) (hf : barredNames.contains l = f) (w : World) : Calls Tryz.prog 46 #[str l] w fun e w' => e = .returned (.bool f) ∧ Below w.heap.size w w' := by
  subst hf
  exact barred_at l w
theorem hrlength_none (l : BS) (hl : l.length ≤ 1048576) (hf : parseCL l = none) (w : World) : Calls Tryz.prog 47 #[str l] w fun e w' => e = .returned (.tuple #[.int .i64 0, .bool false]) ∧ w' = w := by
  have h := hrlength_at l w (by omega)
  unfold lenV at h
  rw [hf] at h
  exact h
theorem hrlength_some (l : BS) (N : Nat) (hl : l.length ≤ 1048576) (hf : parseCL l = some N) (w : World) : Calls Tryz.prog 47 #[str l] w fun e w' => e = .returned (.tuple #[.int .i64 (N : Int), .bool true]) ∧ w' = w := by
  have h := hrlength_at l w (by omega)
  unfold lenV at h
  rw [hf] at h
  exact h

set_option maxHeartbeats 100000000 in
theorem bad21a (J : Act → World → Prop) (Q0 : Exit → Act → World → Prop) (w : World) (req : Bool) (l : List (BS × BS)) (A : Option Addr) (c : Nat) (b o : Nat) (hA : A = some ⟨b, o, none⟩) (k n vc : Nat) (VA : Option Addr) (es : List Ent) (s : HRS) (wr : World) (nm vl : BS)
    (HS : Hid (HSt w wr k n (.slice VA es.length vc) es s)) (hbw : b < w.heap.size) (hln : l.length ≤ 800000) (hkl : k < l.length) (hc : l.length ≤ c)
    (X0 : Hid (wr.cell? ⟨b, o + k * 2, none⟩ = some (str nm))) (X1 : Hid (wr.cell? ⟨b, o + k * 2 + 1, none⟩ = some (str vl))) (hn1 : nm.length ≤ 1048576) (hv1 : vl.length ≤ 1048576)
    (hf1 : lowOk nm = false) (HN : Hid (hrRead req l = none))
    (u2 u3 u5 u10 u11 u12 u13 u14 u15 u16 u17 u21 u22 u23 u24 u25 u26 u27 u28 u29 u30 u31 u32 u33 u34 u35 u36 u37 u38 u39 u40 u41 u42 u43 u44 u45 u46 u47 u48 u49 u50 u51 u52 u53 u54 u55 u56 u57 u58 u59 u60 u61 u62 u63 u64 u65 u66 u67 u68 u69 u70 u71 u72 u73 u74 u75 u76 u77 u78 u79 u80 u81 u82 u83 u84 u85 u86 u87 u88 u89 u90 u91 u92 u93 u94 u95 u96 u97 u98 u99 u100 u101 u102 u103 u104 u105 u106 u107 u108 u109 u110 u111 u112 u113 u114 u115 u116 u117 u118 u119 u120 u121 u122 u123 u124 u125 u126 u127 u128 u129 u130 u131 u132 : Value) (hJ : ∀ a w1, RN21 w req l A c k u2 u3 u10 u16 u17 u125 u126 u127 u128 u129 u130 u131 u132 a w1 → J a w1) (hR : ∀ a w1, bodyPost Tryz.prog Tryz.f21 (ReadPost w (l.length + 1) (hrRead req l)) .ret a w1 → Q0 .ret a w1) :
    Code.wp Tryz.prog body21 (Exit.then J Q0) ⟨#[.slice A l.length c, .bool req, u2, u3, .pointer (some ⟨w.heap.size, 0, none⟩), u5, .pointer (some ⟨w.heap.size + 2, 0, none⟩), .bool s.beh, str s.ls, .bool s.told, u10, u11, u12, u13, u14, u15, u16, u17, .slice A l.length c, .int .i64 (l.length : Int), .int .i64 (k : Int), u21, u22, u23, u24, u25, u26, u27, u28, u29, u30, u31, u32, u33, u34, u35, u36, u37, u38, u39, u40, u41, u42, u43, u44, u45, u46, u47, u48, u49, u50, u51, u52, u53, u54, u55, u56, u57, u58, u59, u60, u61, u62, u63, u64, u65, u66, u67, u68, u69, u70, u71, u72, u73, u74, u75, u76, u77, u78, u79, u80, u81, u82, u83, u84, u85, u86, u87, u88, u89, u90, u91, u92, u93, u94, u95, u96, u97, u98, u99, u100, u101, u102, u103, u104, u105, u106, u107, u108, u109, u110, u111, u112, u113, u114, u115, u116, u117, u118, u119, u120, u121, u122, u123, u124, u125, u126, u127, u128, u129, u130, u131, u132], []⟩ wr := by
  subst hA
  conv => arg 2; whnf
  conv => arg 4; zeta
  have hge := HS.out.ge
  have hbel := HS.out.bel.size
  have e0 := X0.out
  have e1 := X1.out
  have M1 := Lib.hid (HS.out.below (below_new wr (.cells #[str nm, str vl] 42)))
  have KL := low_at' nm _ hn1 hf1
  clear X0 X1 HS
  have HLD := Lib.hid (M1.out).cells
  have HTH := Lib.hid (M1.out).there
  have HFl := Lib.hid ((M1.out).done (m' := l.length + 1) (by omega) (hrRead req l) (by rw [HN.out]; intro s' h; cases h))
  have HPC := Lib.hid (put3_cells (M1.out) (w.heap.size + 1) (.slice VA es.length vc) s.len)
  go_wp2_with (first | (go_at_call 42; refine (KL _).mono ?_; rintro e w8 ⟨rfl, rfl⟩) | (refine wpList_load3 rfl rfl (w.heap.size + 2) (w.heap.size + 1) (.slice VA es.length vc) s.len rfl HLD.out ?_) | (refine wpList_store3 rfl _ rfl w.heap.size (w.heap.size + 1) (.slice VA es.length vc) s.len rfl rfl HTH.out rfl ?_))
  obtain ⟨x0, x1, x2⟩ := HPC.out
  refine ⟨rfl, _, (show _ = Result.ok (Value.tuple #[.agg (pcl (w.heap.size + 1) (.slice VA es.length vc) s.len).toArray, .bool false]) _ by simp [results, Tryz.results21, go_sem, x0, x1, x2]; rfl), ?_⟩
  have h := HFl.out
  rw [HN.out] at h ⊢
  exact h
set_option maxHeartbeats 100000000 in
theorem bad21b (J : Act → World → Prop) (Q0 : Exit → Act → World → Prop) (w : World) (req : Bool) (l : List (BS × BS)) (A : Option Addr) (c : Nat) (b o : Nat) (hA : A = some ⟨b, o, none⟩) (k n vc : Nat) (VA : Option Addr) (es : List Ent) (s : HRS) (wr : World) (nm vl : BS)
    (HS : Hid (HSt w wr k n (.slice VA es.length vc) es s)) (hbw : b < w.heap.size) (hln : l.length ≤ 800000) (hkl : k < l.length) (hc : l.length ≤ c)
    (X0 : Hid (wr.cell? ⟨b, o + k * 2, none⟩ = some (str nm))) (X1 : Hid (wr.cell? ⟨b, o + k * 2 + 1, none⟩ = some (str vl))) (hn1 : nm.length ≤ 1048576) (hv1 : vl.length ≤ 1048576)
    (hf1 : lowOk nm = true) (hf2 : valOk vl = false) (HN : Hid (hrRead req l = none))
    (u2 u3 u5 u10 u11 u12 u13 u14 u15 u16 u17 u21 u22 u23 u24 u25 u26 u27 u28 u29 u30 u31 u32 u33 u34 u35 u36 u37 u38 u39 u40 u41 u42 u43 u44 u45 u46 u47 u48 u49 u50 u51 u52 u53 u54 u55 u56 u57 u58 u59 u60 u61 u62 u63 u64 u65 u66 u67 u68 u69 u70 u71 u72 u73 u74 u75 u76 u77 u78 u79 u80 u81 u82 u83 u84 u85 u86 u87 u88 u89 u90 u91 u92 u93 u94 u95 u96 u97 u98 u99 u100 u101 u102 u103 u104 u105 u106 u107 u108 u109 u110 u111 u112 u113 u114 u115 u116 u117 u118 u119 u120 u121 u122 u123 u124 u125 u126 u127 u128 u129 u130 u131 u132 : Value) (hJ : ∀ a w1, RN21 w req l A c k u2 u3 u10 u16 u17 u125 u126 u127 u128 u129 u130 u131 u132 a w1 → J a w1) (hR : ∀ a w1, bodyPost Tryz.prog Tryz.f21 (ReadPost w (l.length + 1) (hrRead req l)) .ret a w1 → Q0 .ret a w1) :
    Code.wp Tryz.prog body21 (Exit.then J Q0) ⟨#[.slice A l.length c, .bool req, u2, u3, .pointer (some ⟨w.heap.size, 0, none⟩), u5, .pointer (some ⟨w.heap.size + 2, 0, none⟩), .bool s.beh, str s.ls, .bool s.told, u10, u11, u12, u13, u14, u15, u16, u17, .slice A l.length c, .int .i64 (l.length : Int), .int .i64 (k : Int), u21, u22, u23, u24, u25, u26, u27, u28, u29, u30, u31, u32, u33, u34, u35, u36, u37, u38, u39, u40, u41, u42, u43, u44, u45, u46, u47, u48, u49, u50, u51, u52, u53, u54, u55, u56, u57, u58, u59, u60, u61, u62, u63, u64, u65, u66, u67, u68, u69, u70, u71, u72, u73, u74, u75, u76, u77, u78, u79, u80, u81, u82, u83, u84, u85, u86, u87, u88, u89, u90, u91, u92, u93, u94, u95, u96, u97, u98, u99, u100, u101, u102, u103, u104, u105, u106, u107, u108, u109, u110, u111, u112, u113, u114, u115, u116, u117, u118, u119, u120, u121, u122, u123, u124, u125, u126, u127, u128, u129, u130, u131, u132], []⟩ wr := by
  subst hA
  conv => arg 2; whnf
  conv => arg 4; zeta
  have hge := HS.out.ge
  have hbel := HS.out.bel.size
  have e0 := X0.out
  have e1 := X1.out
  have M1 := Lib.hid (HS.out.below (below_new wr (.cells #[str nm, str vl] 42)))
  have KL := low_at' nm _ hn1 hf1
  have KV := hrvalue_at' vl _ hv1 hf2
  clear X0 X1 HS
  have HLD := Lib.hid (M1.out).cells
  have HTH := Lib.hid (M1.out).there
  have HFl := Lib.hid ((M1.out).done (m' := l.length + 1) (by omega) (hrRead req l) (by rw [HN.out]; intro s' h; cases h))
  have HPC := Lib.hid (put3_cells (M1.out) (w.heap.size + 1) (.slice VA es.length vc) s.len)
  go_wp2_with (first | (go_at_call 42; refine (KL _).mono ?_; rintro e w8 ⟨rfl, rfl⟩) | (go_at_call 43; refine (KV _).mono ?_; rintro e w8 ⟨rfl, rfl⟩) | (refine wpList_load3 rfl rfl (w.heap.size + 2) (w.heap.size + 1) (.slice VA es.length vc) s.len rfl HLD.out ?_) | (refine wpList_store3 rfl _ rfl w.heap.size (w.heap.size + 1) (.slice VA es.length vc) s.len rfl rfl HTH.out rfl ?_))
  obtain ⟨x0, x1, x2⟩ := HPC.out
  refine ⟨rfl, _, (show _ = Result.ok (Value.tuple #[.agg (pcl (w.heap.size + 1) (.slice VA es.length vc) s.len).toArray, .bool false]) _ by simp [results, Tryz.results21, go_sem, x0, x1, x2]; rfl), ?_⟩
  have h := HFl.out
  rw [HN.out] at h ⊢
  exact h
set_option maxHeartbeats 100000000 in
theorem bad21c (J : Act → World → Prop) (Q0 : Exit → Act → World → Prop) (w : World) (req : Bool) (l : List (BS × BS)) (A : Option Addr) (c : Nat) (b o : Nat) (hA : A = some ⟨b, o, none⟩) (k n vc : Nat) (VA : Option Addr) (es : List Ent) (s : HRS) (wr : World) (nm vl : BS)
    (HS : Hid (HSt w wr k n (.slice VA es.length vc) es s)) (hbw : b < w.heap.size) (hln : l.length ≤ 800000) (hkl : k < l.length) (hc : l.length ≤ c)
    (X0 : Hid (wr.cell? ⟨b, o + k * 2, none⟩ = some (str nm))) (X1 : Hid (wr.cell? ⟨b, o + k * 2 + 1, none⟩ = some (str vl))) (hn1 : nm.length ≤ 1048576) (hv1 : vl.length ≤ 1048576)
    (hf1 : lowOk nm = true) (hf2 : valOk vl = true) (hnn : nm = []) (HN : Hid (hrRead req l = none))
    (u2 u3 u5 u10 u11 u12 u13 u14 u15 u16 u17 u21 u22 u23 u24 u25 u26 u27 u28 u29 u30 u31 u32 u33 u34 u35 u36 u37 u38 u39 u40 u41 u42 u43 u44 u45 u46 u47 u48 u49 u50 u51 u52 u53 u54 u55 u56 u57 u58 u59 u60 u61 u62 u63 u64 u65 u66 u67 u68 u69 u70 u71 u72 u73 u74 u75 u76 u77 u78 u79 u80 u81 u82 u83 u84 u85 u86 u87 u88 u89 u90 u91 u92 u93 u94 u95 u96 u97 u98 u99 u100 u101 u102 u103 u104 u105 u106 u107 u108 u109 u110 u111 u112 u113 u114 u115 u116 u117 u118 u119 u120 u121 u122 u123 u124 u125 u126 u127 u128 u129 u130 u131 u132 : Value) (hJ : ∀ a w1, RN21 w req l A c k u2 u3 u10 u16 u17 u125 u126 u127 u128 u129 u130 u131 u132 a w1 → J a w1) (hR : ∀ a w1, bodyPost Tryz.prog Tryz.f21 (ReadPost w (l.length + 1) (hrRead req l)) .ret a w1 → Q0 .ret a w1) :
    Code.wp Tryz.prog body21 (Exit.then J Q0) ⟨#[.slice A l.length c, .bool req, u2, u3, .pointer (some ⟨w.heap.size, 0, none⟩), u5, .pointer (some ⟨w.heap.size + 2, 0, none⟩), .bool s.beh, str s.ls, .bool s.told, u10, u11, u12, u13, u14, u15, u16, u17, .slice A l.length c, .int .i64 (l.length : Int), .int .i64 (k : Int), u21, u22, u23, u24, u25, u26, u27, u28, u29, u30, u31, u32, u33, u34, u35, u36, u37, u38, u39, u40, u41, u42, u43, u44, u45, u46, u47, u48, u49, u50, u51, u52, u53, u54, u55, u56, u57, u58, u59, u60, u61, u62, u63, u64, u65, u66, u67, u68, u69, u70, u71, u72, u73, u74, u75, u76, u77, u78, u79, u80, u81, u82, u83, u84, u85, u86, u87, u88, u89, u90, u91, u92, u93, u94, u95, u96, u97, u98, u99, u100, u101, u102, u103, u104, u105, u106, u107, u108, u109, u110, u111, u112, u113, u114, u115, u116, u117, u118, u119, u120, u121, u122, u123, u124, u125, u126, u127, u128, u129, u130, u131, u132], []⟩ wr := by
  subst hA
  subst hnn
  conv => arg 2; whnf
  conv => arg 4; zeta
  have hge := HS.out.ge
  have hbel := HS.out.bel.size
  have e0 := X0.out
  have e1 := X1.out
  have M1 := Lib.hid (HS.out.below (below_new wr (.cells #[str [], str vl] 42)))
  have KL := low_at' [] _ hn1 hf1
  have KV := hrvalue_at' vl _ hv1 hf2
  clear X0 X1 HS
  have HLD := Lib.hid (M1.out).cells
  have HTH := Lib.hid (M1.out).there
  have HFl := Lib.hid ((M1.out).done (m' := l.length + 1) (by omega) (hrRead req l) (by rw [HN.out]; intro s' h; cases h))
  have HPC := Lib.hid (put3_cells (M1.out) (w.heap.size + 1) (.slice VA es.length vc) s.len)
  go_wp2_with (first | (go_at_call 42; refine (KL _).mono ?_; rintro e w8 ⟨rfl, rfl⟩) | (go_at_call 43; refine (KV _).mono ?_; rintro e w8 ⟨rfl, rfl⟩) | (refine wpList_load3 rfl rfl (w.heap.size + 2) (w.heap.size + 1) (.slice VA es.length vc) s.len rfl HLD.out ?_) | (refine wpList_store3 rfl _ rfl w.heap.size (w.heap.size + 1) (.slice VA es.length vc) s.len rfl rfl HTH.out rfl ?_))
  obtain ⟨x0, x1, x2⟩ := HPC.out
  refine ⟨rfl, _, (show _ = Result.ok (Value.tuple #[.agg (pcl (w.heap.size + 1) (.slice VA es.length vc) s.len).toArray, .bool false]) _ by simp [results, Tryz.results21, go_sem, x0, x1, x2]; rfl), ?_⟩
  have h := HFl.out
  rw [HN.out] at h ⊢
  exact h
end Go.Proofs.YtgcfnhchmmkndaaGreatDoor
