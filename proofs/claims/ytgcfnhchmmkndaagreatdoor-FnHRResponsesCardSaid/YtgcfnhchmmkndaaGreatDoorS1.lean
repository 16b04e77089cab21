/- spec.HRRequest: what it computes; words for its walk. -/
import Derived.Test.YtgcfnhchmmkndaaGreatDoorR1
import Derived.Test.YtgcfnhchmmkndaaGreatDoorE1
import Derived.Test.YtgcfnhchmmkndaaGreatDoorC7b
namespace Go.Proofs.YtgcfnhchmmkndaaGreatDoor
open Go.RowKit Go.Maps
set_option linter.unusedVariables false
set_option maxRecDepth 100000

/-- a request, as the specification has it -/
structure HQ where
  meth : BS
  url : BS
  proto : BS
  host : BS
  uri : BS
  len : Int
  hd : AL
def hqHd (H : AL) : AL := if (getH H kCookie).isEmpty then H else hrAdd (setOff H kCookie) kCookie (Lib.join (getH H kCookie) [59, 32])
def hqSel (m pa h p sc : BS) (n : Int) (H : AL) : Option HQ :=
  if m == [67, 79, 78, 78, 69, 67, 84] && p != [] then if sc == [] || pa == [] || h == [] then none else some ⟨m, pa, p, h, pa, n, H⟩
  else if m == [67, 79, 78, 78, 69, 67, 84] then if pa != [] || sc != [] || h == [] then none else some ⟨m, [47, 47] ++ h, kProto3, h, h, n, H⟩
  else if m == [] || pa == [] || h == [] || p != [] then none else some ⟨m, pa, kProto3, h, pa, n, H⟩
def hqOf (s : HRS) : Option HQ := hqSel (getP s.pm kMethod) (getP s.pm kPath) (getP s.pm kAuth) (getP s.pm kProto) (getP s.pm kScheme) s.len (hqHd s.hd)
def hqL (q : HQ) (V : Value) : List Value := [str q.meth, str q.url, str q.proto, str q.host, str q.uri, .int .i64 q.len, V, .slice none 0 0]
def HQPost (w : World) (m : Nat) (r : Option HQ) (e : Ending) (w' : World) : Prop :=
  ∃ v, e = .returned (.tuple #[v, .bool r.isSome]) ∧ Below w.heap.size w w' ∧ (∃ q0 A0 n0 c0, v = .agg (hqL q0 (.slice A0 n0 c0)).toArray) ∧ ∀ q, r = some q → ∃ VA vc es, v = .agg (hqL q (.slice VA es.length vc)).toArray ∧ HL w' w.heap.size (.slice VA es.length vc) es ∧ absE es = q.hd ∧ es.length ≤ m ∧ ∀ e ∈ es, e.items.length ≤ m
/-- ahead of the making of the request -/
structure QSt (w wc : World) (pb m vc : Nat) (VA : Option Addr) (es : List Ent) (n : Int) (H : AL) : Prop where
  z : Z8 wc w.heap.size (str []) (str []) (str []) (str []) (str []) (.int .i64 0) (.slice none 0 0) (.slice none 0 0)
  v1 : wc.cell? ⟨pb, 1, none⟩ = some (.slice VA es.length vc)
  v2 : wc.cell? ⟨pb, 2, none⟩ = some (.int .i64 n)
  hl : HL wc (w.heap.size + 1) (.slice VA es.length vc) es
  ab : absE es = H
  bel : Below w.heap.size w wc
  ge : w.heap.size + 1 ≤ wc.heap.size
  len : es.length ≤ m
  items : ∀ e ∈ es, e.items.length ≤ m
theorem info31 : (Tryz.prog.info? 31).map (·.size) = some 8 := by kernel_rfl
theorem und31 : ∃ d, Tryz.prog.underlying 31 = some d ∧ d.isRow = true := ⟨_, Tryz.underlying31, rfl⟩
def putq (wx : World) (B : Nat) (L : List Value) : World := wx.setCells B 0 L
theorem Z8.there {wx : World} {B : Nat} {v0 v1 v2 v3 v4 v5 v6 v7 : Value} (h : Z8 wx B v0 v1 v2 v3 v4 v5 v6 v7) : wx.there B 0 8 := fun j hj => by
  obtain ⟨⟨h0, h1, h2, h3, h4, h5, h6, h7⟩, hf⟩ := h
  rw [Nat.zero_add]
  refine ⟨?_, hf j⟩
  match j, hj with
  | 0, _ => rw [h0]; rfl
  | 1, _ => rw [h1]; rfl
  | 2, _ => rw [h2]; rfl
  | 3, _ => rw [h3]; rfl
  | 4, _ => rw [h4]; rfl
  | 5, _ => rw [h5]; rfl
  | 6, _ => rw [h6]; rfl
  | 7, _ => rw [h7]; rfl
theorem putq_eq (wx : World) (B : Nat) (v0 v1 v2 v3 v4 v5 v6 v7 : Value) : putq wx B [v0, v1, v2, v3, v4, v5, v6, v7] = put8v wx B v0 v1 v2 v3 v4 v5 v6 v7 := rfl
theorem Z8.cells {wx : World} {B : Nat} {v0 v1 v2 v3 v4 v5 v6 v7 : Value} (h : Z8 wx B v0 v1 v2 v3 v4 v5 v6 v7) : ∀ j v, [v0, v1, v2, v3, v4, v5, v6, v7][j]? = some v → wx.cell? ⟨B, j, none⟩ = some v := fun j v hv => by
  obtain ⟨⟨h0, h1, h2, h3, h4, h5, h6, h7⟩, hf⟩ := h
  match j, hv with
  | 0, hv => injection hv with hv; subst hv; exact h0
  | 1, hv => injection hv with hv; subst hv; exact h1
  | 2, hv => injection hv with hv; subst hv; exact h2
  | 3, hv => injection hv with hv; subst hv; exact h3
  | 4, hv => injection hv with hv; subst hv; exact h4
  | 5, hv => injection hv with hv; subst hv; exact h5
  | 6, hv => injection hv with hv; subst hv; exact h6
  | 7, hv => injection hv with hv; subst hv; exact h7
theorem wpList_store31 {ops : Array Oper} {rest : List Oper} {op : Oper} {a : Act} {w : World} {Q : Exit → Act → World → Prop} (hgd : op.guard = none) (y : Operand) (ho : op.op = .store 31 (.tmp 2) y) (B : Nat) (L : List Value) (hL : L.length = 8)
    (hx : a.eval (.tmp 2) = .pointer (some ⟨B, 0, none⟩)) (hy : a.eval y = .agg L.toArray) (ht : w.there B 0 8) (hm : ∀ v ∈ L, v.oneCell' = true) (h : wpList Tryz.prog ops Q rest (a.put op.dst undef) (putq w B L)) : wpList Tryz.prog ops Q (op :: rest) a w := by
  refine wpList_store_mid hgd 31 (.tmp 2) y ho B 0 L.toArray hx hy (by rw [List.size_toArray, hL]; exact ht) (by rw [List.size_toArray, hL]; exact info31) (all_oneCell_toArray hm) ?_
  rw [List.toList_toArray]
  exact h
theorem wpList_load31 {ops : Array Oper} {rest : List Oper} {op : Oper} {a : Act} {w : World} {Q : Exit → Act → World → Prop} (hgd : op.guard = none) (ho : op.op = .load 31 (.tmp 15)) (B : Nat) (L : List Value) (hL : L.length = 8)
    (hx : a.eval (.tmp 15) = .pointer (some ⟨B, 0, none⟩)) (hc : ∀ j v, L[j]? = some v → w.cell? ⟨B, j, none⟩ = some v) (h : wpList Tryz.prog ops Q rest (a.put op.dst (.agg L.toArray)) w) : wpList Tryz.prog ops Q (op :: rest) a w := by
  obtain ⟨d, h1, h2⟩ := und31
  exact wpList_load_mid hgd 31 (.tmp 15) ho B 0 hx L d (fun j v hv => by rw [Nat.zero_add]; exact hc j v hv) h1 h2 (by rw [hL]; exact info31) h
theorem hqL_one (q : HQ) (VA : Option Addr) (n vc : Nat) : ∀ v ∈ hqL q (.slice VA n vc), v.oneCell' = true := by
  intro v hv
  simp only [hqL, List.mem_cons, List.not_mem_nil, or_false] at hv
  rcases hv with rfl | rfl | rfl | rfl | rfl | rfl | rfl | rfl <;> rfl
attribute [irreducible] putq
def ZQ (wx : World) (B : Nat) (q : HQ) (V : Value) : Prop := Z8 wx B (str q.meth) (str q.url) (str q.proto) (str q.host) (str q.uri) (.int .i64 q.len) V (.slice none 0 0)
theorem ZQ.put {wx : World} {B : Nat} {v0 v1 v2 v3 v4 v5 v6 v7 : Value} (h : Z8 wx B v0 v1 v2 v3 v4 v5 v6 v7) (q : HQ) (V : Value) : ZQ (putq wx B (hqL q V)) B q V := by
  unfold hqL
  rw [putq_eq]
  exact h.put
theorem putq_grown (wx : World) (B : Nat) (q : HQ) (V : Value) : wx.grownBy (putq wx B (hqL q V)) (some B) := by
  unfold hqL
  rw [putq_eq]
  exact put8v_grown wx B _ _ _ _ _ _ _ _
theorem ZQ.made (wc : World) (q : HQ) (V : Value) : ZQ (wc.alloc (.cells #[str q.meth, str q.url, str q.proto, str q.host, str q.uri, .int .i64 q.len, V, .slice none 0 0] 31)) wc.heap.size q V := Z8.new wc _ _ _ _ _ _ _ _ 31
theorem ZQ.proto {wx : World} {B : Nat} {q : HQ} {V : Value} (h : ZQ wx B q V) (p : BS) : ZQ (wx.setCell ⟨B, 2, none⟩ (str p)) B { q with proto := p } V := by
  obtain ⟨⟨h0, h1, h2, h3, h4, h5, h6, h7⟩, hf⟩ := h
  exact ⟨⟨cs_other (by decide) h0, cs_other (by decide) h1, cs_same h2, cs_other (by decide) h3, cs_other (by decide) h4, cs_other (by decide) h5, cs_other (by decide) h6, cs_other (by decide) h7⟩, fun j => by simpa using hf j⟩
theorem ZQ.url {wx : World} {B : Nat} {q : HQ} {V : Value} (h : ZQ wx B q V) (p : BS) : ZQ (wx.setCell ⟨B, 1, none⟩ (str p)) B { q with url := p } V := by
  obtain ⟨⟨h0, h1, h2, h3, h4, h5, h6, h7⟩, hf⟩ := h
  exact ⟨⟨cs_other (by decide) h0, cs_same h1, cs_other (by decide) h2, cs_other (by decide) h3, cs_other (by decide) h4, cs_other (by decide) h5, cs_other (by decide) h6, cs_other (by decide) h7⟩, fun j => by simpa using hf j⟩
theorem ZQ.uri {wx : World} {B : Nat} {q : HQ} {V : Value} (h : ZQ wx B q V) (p : BS) : ZQ (wx.setCell ⟨B, 4, none⟩ (str p)) B { q with uri := p } V := by
  obtain ⟨⟨h0, h1, h2, h3, h4, h5, h6, h7⟩, hf⟩ := h
  exact ⟨⟨cs_other (by decide) h0, cs_other (by decide) h1, cs_other (by decide) h2, cs_other (by decide) h3, cs_same h4, cs_other (by decide) h5, cs_other (by decide) h6, cs_other (by decide) h7⟩, fun j => by simpa using hf j⟩
/-- what stands at the return -/
theorem QSt.done {w wc w1 : World} {pb m vc : Nat} {VA : Option Addr} {es : List Ent} {n : Int} {H : AL} (h : QSt w wc pb m vc VA es n H) (hb : Below wc.heap.size wc w1) (r : Option HQ) (q : HQ) (hr : ∀ q', r = some q' → q' = q ∧ q.hd = H) :
    HQPost w m r (.returned (.tuple #[.agg (hqL q (.slice VA es.length vc)).toArray, .bool r.isSome])) (putq w1 w.heap.size (hqL q (.slice VA es.length vc))) := by
  have g := putq_grown w1 w.heap.size q (.slice VA es.length vc)
  have hbw : Below w.heap.size w w1 := Below.next h.bel h.bel.size hb
  refine ⟨_, rfl, hbw.grown g hbw.size (fun k hk => by injection hk with hk; omega), ⟨q, VA, _, vc, rfl⟩, fun q' hq' => ?_⟩
  obtain ⟨rfl, hH⟩ := hr q' hq'
  exact ⟨VA, vc, es, rfl, ((h.hl.below hb).grown g (by omega)).base (by omega), by rw [hH]; exact h.ab, h.len, h.items⟩
end Go.Proofs.YtgcfnhchmmkndaaGreatDoor
