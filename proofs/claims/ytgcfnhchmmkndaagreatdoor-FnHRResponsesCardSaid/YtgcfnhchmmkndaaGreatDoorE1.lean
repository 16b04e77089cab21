/- impl.requestOf. -/
import Derived.Test.YtgcfnhchmmkndaaGreatDoorD1
import Derived.Deep.RegionHeld3
namespace Go.Proofs.YtgcfnhchmmkndaaGreatDoor
open Go.RowKit Go.Maps
set_option linter.unusedVariables false
set_option maxRecDepth 100000

def urlOf (q : RQ) : BS := (if q.uhost = [] then [] else [47, 47] ++ q.uhost) ++ q.utarget

def OPost (w : World) (q : RQ) (e : Ending) (w' : World) : Prop :=
  ∃ v es tA tc, e = .returned (.agg #[str q.meth, str (urlOf q), str q.proto, str q.host, str q.uri, .int .i64 q.len, v, .slice tA 0 tc]) ∧ HL w' w.heap.size v es ∧ absE es = headsOf q.H ∧ Below w.heap.size w w'

theorem bk {w w' : World} {p : Addr} {v : Value} (k : Below w.heap.size w w') (h : w.cell? p = some v) : w'.cell? p = some v := (k.cell (World.block_lt_of_cell? w _ h)).trans h
theorem bka {w : World} {o : Obj} {p : Addr} {v : Value} (h : w.cell? p = some v) : (w.alloc o).cell? p = some v := bk (below_new w o) h
theorem Hdr.wide {w : World} {base b n n' : Nat} {es : List Ent} (h : Hdr w base b n es) (hn : n ≤ n') : Hdr w base b n' es :=
  ⟨by obtain ⟨D, k1, k2⟩ := h.own; exact ⟨D, k1.mono hn, k2⟩, h.nd, h.rows, h.apart, h.lb, h.klen⟩

abbrev zero31 : Obj := .cells #[str [], str [], str [], str [], str [], .int .i64 0, .slice none 0 0, .slice none 0 0] 31
def SS (w : World) (rb b : Nat) (q : RQ) (wx : World) : Prop := wx.cell? ⟨rb, 0, none⟩ = some (str q.meth) ∧ wx.cell? ⟨rb, 2, none⟩ = some (str q.proto) ∧ wx.cell? ⟨rb, 8, none⟩ = some (str q.host) ∧ wx.cell? ⟨rb, 10, none⟩ = some (str q.uri) ∧ wx.cell? ⟨rb, 7, none⟩ = some (.int .i64 q.len) ∧ wx.cell? ⟨rb, 5, none⟩ = some (.map (some b)) ∧ wx.cell? ⟨rb, 9, none⟩ = some (.map none) ∧ Below (w.heap.size + 1) (w.alloc zero31) wx
section
variable {w wx w' : World} {rb b : Nat} {q : RQ}
theorem SS.below (h : SS w rb b q wx) (k : Below wx.heap.size wx w') : SS w rb b q w' :=
  ⟨bk k h.1, bk k h.2.1, bk k h.2.2.1, bk k h.2.2.2.1, bk k h.2.2.2.2.1, bk k h.2.2.2.2.2.1, bk k h.2.2.2.2.2.2.1, h.2.2.2.2.2.2.2.trans (k.mono (by have := h.2.2.2.2.2.2.2.size; simpa using this))⟩
theorem SS.open (h : SS w rb b q wx) : wx.cell? ⟨rb, 0, none⟩ = some (str q.meth) ∧ wx.cell? ⟨rb, 2, none⟩ = some (str q.proto) ∧ wx.cell? ⟨rb, 8, none⟩ = some (str q.host) ∧ wx.cell? ⟨rb, 10, none⟩ = some (str q.uri) ∧ wx.cell? ⟨rb, 7, none⟩ = some (.int .i64 q.len) ∧ wx.cell? ⟨rb, 5, none⟩ = some (.map (some b)) ∧ wx.cell? ⟨rb, 9, none⟩ = some (.map none) ∧ Below (w.heap.size + 1) (w.alloc zero31) wx := h
theorem SS.drew (h : SS w rb b q wx) : SS w rb b q wx.drew :=
  ⟨h.1, h.2.1, h.2.2.1, h.2.2.2.1, h.2.2.2.2.1, h.2.2.2.2.2.1, h.2.2.2.2.2.2.1, ⟨h.2.2.2.2.2.2.2.os, h.2.2.2.2.2.2.2.tape, h.2.2.2.2.2.2.2.output, h.2.2.2.2.2.2.2.size, h.2.2.2.2.2.2.2.block⟩⟩
theorem SS.le (h : SS w rb b q wx) : w.heap.size + 1 ≤ wx.heap.size := by have := h.2.2.2.2.2.2.2.size; simpa using this
theorem SS.set {nb i : Nat} {v : Value} (h : SS w rb b q wx) (hr : rb < w.heap.size) (hn : w.heap.size + 1 ≤ nb) : SS w rb b q (wx.setCell ⟨nb, i, none⟩ v) := by
  have hne : rb ≠ nb := by omega
  refine ⟨?_, ?_, ?_, ?_, ?_, ?_, ?_, h.2.2.2.2.2.2.2.setCell hn v⟩
  all_goals rw [World.cell?_setCell_other _ _ _ _ (by simp)]
  · exact h.1
  · exact h.2.1
  · exact h.2.2.1
  · exact h.2.2.2.1
  · exact h.2.2.2.2.1
  · exact h.2.2.2.2.2.1
  · exact h.2.2.2.2.2.2.1
end
/-- eight cells of a block -/
def Z8 (wx : World) (xb : Nat) (v0 v1 v2 v3 v4 v5 v6 v7 : Value) : Prop := (wx.cell? ⟨xb, 0, none⟩ = some v0 ∧ wx.cell? ⟨xb, 1, none⟩ = some v1 ∧ wx.cell? ⟨xb, 2, none⟩ = some v2 ∧ wx.cell? ⟨xb, 3, none⟩ = some v3 ∧ wx.cell? ⟨xb, 4, none⟩ = some v4 ∧ wx.cell? ⟨xb, 5, none⟩ = some v5 ∧ wx.cell? ⟨xb, 6, none⟩ = some v6 ∧ wx.cell? ⟨xb, 7, none⟩ = some v7) ∧ ∀ j, wx.frozen? ⟨xb, j, none⟩ = false
theorem Z8.below {wx w' : World} {xb : Nat} {v0 v1 v2 v3 v4 v5 v6 v7 : Value} (h : Z8 wx xb v0 v1 v2 v3 v4 v5 v6 v7) (k : Below wx.heap.size wx w') : Z8 w' xb v0 v1 v2 v3 v4 v5 v6 v7 :=
  ⟨⟨bk k h.1.1, bk k h.1.2.1, bk k h.1.2.2.1, bk k h.1.2.2.2.1, bk k h.1.2.2.2.2.1, bk k h.1.2.2.2.2.2.1, bk k h.1.2.2.2.2.2.2.1, bk k h.1.2.2.2.2.2.2.2⟩, fun j => (k.frozen (p := ⟨xb, j, none⟩) (World.block_lt_of_cell? wx ⟨xb, 0, none⟩ h.1.1)).trans (h.2 j)⟩
theorem Z8.new (X : World) (v0 v1 v2 v3 v4 v5 v6 v7 : Value) (t : TypeId) : Z8 (X.alloc (.cells #[v0, v1, v2, v3, v4, v5, v6, v7] t)) X.heap.size v0 v1 v2 v3 v4 v5 v6 v7 := by
  have h : ∀ j u, [v0, v1, v2, v3, v4, v5, v6, v7][j]? = some u → (X.alloc (.cells #[v0, v1, v2, v3, v4, v5, v6, v7] t)).cell? ⟨X.heap.size, j, none⟩ = some u := fun j u hu => by
    have h := cells_new X [v0, v1, v2, v3, v4, v5, v6, v7] t j u hu
    rwa [Addr.add_lit, Nat.zero_add] at h
  exact ⟨⟨h 0 _ rfl, h 1 _ rfl, h 2 _ rfl, h 3 _ rfl, h 4 _ rfl, h 5 _ rfl, h 6 _ rfl, h 7 _ rfl⟩, fun j => World.frozen?_alloc_at _ _ _ _ rfl⟩
theorem Z8.newb {X w' : World} {v0 v1 v2 v3 v4 v5 v6 v7 : Value} {t : TypeId} (k : Below (X.alloc (.cells #[v0, v1, v2, v3, v4, v5, v6, v7] t)).heap.size (X.alloc (.cells #[v0, v1, v2, v3, v4, v5, v6, v7] t)) w') : Z8 w' X.heap.size v0 v1 v2 v3 v4 v5 v6 v7 := (Z8.new X v0 v1 v2 v3 v4 v5 v6 v7 t).below k
theorem Z8.drew {wx : World} {xb : Nat} {v0 v1 v2 v3 v4 v5 v6 v7 : Value} (h : Z8 wx xb v0 v1 v2 v3 v4 v5 v6 v7) : Z8 wx.drew xb v0 v1 v2 v3 v4 v5 v6 v7 := ⟨⟨h.1.1, h.1.2.1, h.1.2.2.1, h.1.2.2.2.1, h.1.2.2.2.2.1, h.1.2.2.2.2.2.1, h.1.2.2.2.2.2.2.1, h.1.2.2.2.2.2.2.2⟩, h.2⟩
theorem Z8.newbD {X w' : World} {v0 v1 v2 v3 v4 v5 v6 v7 : Value} {t : TypeId} (k : Below (X.alloc (.cells #[v0, v1, v2, v3, v4, v5, v6, v7] t)).drew.heap.size (X.alloc (.cells #[v0, v1, v2, v3, v4, v5, v6, v7] t)).drew w') : Z8 w' X.heap.size v0 v1 v2 v3 v4 v5 v6 v7 := (Z8.new X v0 v1 v2 v3 v4 v5 v6 v7 t).drew.below k
theorem cs1 {w : World} {B i : Nat} {v v0 : Value} (h : w.cell? ⟨B, i, none⟩ = some v0) : (w.setCell ⟨B, i, none⟩ v).cell? ⟨B, i, none⟩ = some v := World.cell?_setCell_same _ _ _ h
theorem cs2 {w : World} {B i j : Nat} {v x : Value} (hne : i ≠ j) (h : w.cell? ⟨B, j, none⟩ = some x) : (w.setCell ⟨B, i, none⟩ v).cell? ⟨B, j, none⟩ = some x := (World.cell?_setCell_other _ _ _ _ (by simp)).trans h
theorem Z8.put {wx : World} {xb : Nat} {v0 v1 v2 v3 v4 v5 v6 v7 u0 u1 u2 u3 u4 u5 u6 u7 : Value} (h : Z8 wx xb v0 v1 v2 v3 v4 v5 v6 v7) : Z8 (((((((((wx.setCell ⟨xb, 0, none⟩ u0).setCell ⟨xb, 1, none⟩ u1).setCell ⟨xb, 2, none⟩ u2).setCell ⟨xb, 3, none⟩ u3).setCell ⟨xb, 4, none⟩ u4).setCell ⟨xb, 5, none⟩ u5).setCell ⟨xb, 6, none⟩ u6).setCell ⟨xb, 7, none⟩ u7)) xb u0 u1 u2 u3 u4 u5 u6 u7 := by
  obtain ⟨⟨h0, h1, h2, h3, h4, h5, h6, h7⟩, hf⟩ := h
  refine ⟨⟨?_, ?_, ?_, ?_, ?_, ?_, ?_, ?_⟩, fun j => by simpa using hf j⟩
  · exact cs2 (by decide) (cs2 (by decide) (cs2 (by decide) (cs2 (by decide) (cs2 (by decide) (cs2 (by decide) (cs2 (by decide) (cs1 (h0))))))))
  · exact cs2 (by decide) (cs2 (by decide) (cs2 (by decide) (cs2 (by decide) (cs2 (by decide) (cs2 (by decide) (cs1 (cs2 (by decide) (h1))))))))
  · exact cs2 (by decide) (cs2 (by decide) (cs2 (by decide) (cs2 (by decide) (cs2 (by decide) (cs1 (cs2 (by decide) (cs2 (by decide) (h2))))))))
  · exact cs2 (by decide) (cs2 (by decide) (cs2 (by decide) (cs2 (by decide) (cs1 (cs2 (by decide) (cs2 (by decide) (cs2 (by decide) (h3))))))))
  · exact cs2 (by decide) (cs2 (by decide) (cs2 (by decide) (cs1 (cs2 (by decide) (cs2 (by decide) (cs2 (by decide) (cs2 (by decide) (h4))))))))
  · exact cs2 (by decide) (cs2 (by decide) (cs1 (cs2 (by decide) (cs2 (by decide) (cs2 (by decide) (cs2 (by decide) (cs2 (by decide) (h5))))))))
  · exact cs2 (by decide) (cs1 (cs2 (by decide) (cs2 (by decide) (cs2 (by decide) (cs2 (by decide) (cs2 (by decide) (cs2 (by decide) (h6))))))))
  · exact cs1 (cs2 (by decide) (cs2 (by decide) (cs2 (by decide) (cs2 (by decide) (cs2 (by decide) (cs2 (by decide) (cs2 (by decide) (h7))))))))
/-- what the struct's statement leaves -/
def XRel (w : World) (q : RQ) (H : AL) (s3 : Value) (wx : World) : Prop :=
  ∃ (xb : Nat) (v3 : Value) (A4 : Option Addr) (c4 : Nat) (es3 : List Ent), s3 = .pointer (some ⟨xb, 0, none⟩) ∧ w.heap.size + 1 ≤ xb ∧ (∃ A3 c3, v3 = .slice A3 es3.length c3) ∧ (∀ wx', wx.grownBy wx' (some xb) → HL wx' (w.heap.size + 1) v3 es3) ∧ absE es3 = headsOf H ∧ Below (w.heap.size + 1) (w.alloc zero31) wx ∧
    Z8 wx xb (str q.meth) (str []) (str q.proto) (str q.host) (str q.uri) (.int .i64 q.len) v3 (.slice A4 0 c4)
abbrev put8v (wx : World) (xb : Nat) (u0 u1 u2 u3 u4 u5 u6 u7 : Value) : World := ((((((((wx.setCell ⟨xb, 0, none⟩ u0).setCell ⟨xb, 1, none⟩ u1).setCell ⟨xb, 2, none⟩ u2).setCell ⟨xb, 3, none⟩ u3).setCell ⟨xb, 4, none⟩ u4).setCell ⟨xb, 5, none⟩ u5).setCell ⟨xb, 6, none⟩ u6).setCell ⟨xb, 7, none⟩ u7)
theorem put8v_grown (wx : World) (xb : Nat) (u0 u1 u2 u3 u4 u5 u6 u7 : Value) : wx.grownBy (put8v wx xb u0 u1 u2 u3 u4 u5 u6 u7) (some xb) :=
  (((((((grown_set wx xb 0 _).trans (grown_set _ xb 1 _)).trans (grown_set _ xb 2 _)).trans (grown_set _ xb 3 _)).trans (grown_set _ xb 4 _)).trans (grown_set _ xb 5 _)).trans (grown_set _ xb 6 _)).trans (grown_set _ xb 7 _)
theorem put8v_below {B : Nat} {w wx : World} {xb : Nat} {u0 u1 u2 u3 u4 u5 u6 u7 : Value} (h : Below B w wx) (hx : B ≤ xb) : Below B w (put8v wx xb u0 u1 u2 u3 u4 u5 u6 u7) :=
  (((((((h.setCell hx _).setCell hx _).setCell hx _).setCell hx _).setCell hx _).setCell hx _).setCell hx _).setCell hx _
theorem SS.bel {w wx : World} {rb b : Nat} {q : RQ} (h : SS w rb b q wx) : Below (w.heap.size + 1) (w.alloc zero31) wx := h.2.2.2.2.2.2.2
theorem XRel.alloc {w W : World} {q : RQ} {H : AL} {v3 : Value} {A4 : Option Addr} {c4 : Nat} {es3 : List Ent} (hv : ∃ A3 c3, v3 = .slice A3 es3.length c3) (hL : HL W (w.heap.size + 1) v3 es3) (hA : absE es3 = headsOf H) (hB : Below (w.heap.size + 1) (w.alloc zero31) W) :
    XRel w q H (.pointer (some ⟨W.heap.size, 0, none⟩)) (W.alloc (.cells #[str q.meth, str [], str q.proto, str q.host, str q.uri, .int .i64 q.len, v3, .slice A4 0 c4] 31)) := by
  have hz : w.heap.size + 1 ≤ W.heap.size := by have := hB.size; simpa using this
  exact ⟨W.heap.size, v3, A4, c4, es3, rfl, hz, hv, fun wx' g => hL.below ((below_new W _).grown g (by simp) (fun k hk => by injection hk with hk; omega)), hA, hB.trans ((below_new W _).mono hz), Z8.new W _ _ _ _ _ _ _ _ 31⟩
theorem XRel.putA {w W : World} {q : RQ} {H : AL} {v3 : Value} {A4 : Option Addr} {c4 xb base : Nat} {es3 : List Ent} {a0 a1 a2 a3 a4 a5 a6 a7 : Value} (hv : ∃ A3 c3, v3 = .slice A3 es3.length c3) (hL : HL W base v3 es3) (hxb : xb < base) (hbb : w.heap.size + 1 ≤ base) (hA : absE es3 = headsOf H)
    (hB : Below (w.heap.size + 1) (w.alloc zero31) W) (hx : w.heap.size + 1 ≤ xb) (z : Z8 W xb a0 a1 a2 a3 a4 a5 a6 a7) :
    XRel w q H (.pointer (some ⟨xb, 0, none⟩)) (put8v W xb (str q.meth) (str []) (str q.proto) (str q.host) (str q.uri) (.int .i64 q.len) v3 (.slice A4 0 c4)) :=
  ⟨xb, v3, A4, c4, es3, rfl, hx, hv, fun wx' g => (hL.grown ((put8v_grown W xb (str q.meth) (str []) (str q.proto) (str q.host) (str q.uri) (.int .i64 q.len) v3 (.slice A4 0 c4)).trans g) hxb).base hbb, hA, put8v_below hB hx, z.put⟩
theorem XRel.putB {w W W0 : World} {q : RQ} {H : AL} {v3 : Value} {A4 : Option Addr} {c4 xb base : Nat} {es3 : List Ent} {a0 a1 a2 a3 a4 a5 a6 a7 : Value} (hv : ∃ A3 c3, v3 = .slice A3 es3.length c3) (hL : HL W0 base v3 es3) (hk : Below W0.heap.size W0 W) (hxb : W0.heap.size ≤ xb) (hbb : w.heap.size + 1 ≤ base) (hA : absE es3 = headsOf H)
    (hB : Below (w.heap.size + 1) (w.alloc zero31) W) (hx : w.heap.size + 1 ≤ xb) (z : Z8 W xb a0 a1 a2 a3 a4 a5 a6 a7) :
    XRel w q H (.pointer (some ⟨xb, 0, none⟩)) (put8v W xb (str q.meth) (str []) (str q.proto) (str q.host) (str q.uri) (.int .i64 q.len) v3 (.slice A4 0 c4)) :=
  ⟨xb, v3, A4, c4, es3, rfl, hx, hv, fun wx' g => (hL.below (hk.grown ((put8v_grown W xb (str q.meth) (str []) (str q.proto) (str q.host) (str q.uri) (.int .i64 q.len) v3 (.slice A4 0 c4)).trans g) hk.size (fun k e => by injection e with e; omega))).base hbb, hA, put8v_below hB hx, z.put⟩
theorem ba_app (a b : BS) : (⟨a.toArray⟩ : ByteArray) ++ ⟨b.toArray⟩ = ⟨(a ++ b).toArray⟩ := by
  rw [ByteArray.mk_append_mk]
theorem Z8.other {wx : World} {xb nb i : Nat} {u : Value} {a0 a1 a2 a3 a4 a5 a6 a7 : Value} (h : Z8 wx xb a0 a1 a2 a3 a4 a5 a6 a7) (hne : nb ≠ xb) : Z8 (wx.setCell ⟨nb, i, none⟩ u) xb a0 a1 a2 a3 a4 a5 a6 a7 := by
  have k : ∀ j, (wx.setCell ⟨nb, i, none⟩ u).cell? ⟨xb, j, none⟩ = wx.cell? ⟨xb, j, none⟩ := fun j => World.cell?_setCell_other _ _ _ _ (by simp)
  exact ⟨⟨(k 0).trans h.1.1, (k 1).trans h.1.2.1, (k 2).trans h.1.2.2.1, (k 3).trans h.1.2.2.2.1, (k 4).trans h.1.2.2.2.2.1, (k 5).trans h.1.2.2.2.2.2.1, (k 6).trans h.1.2.2.2.2.2.2.1, (k 7).trans h.1.2.2.2.2.2.2.2⟩, fun j => by simpa using h.2 j⟩
theorem OPost.drew {w w' : World} {q : RQ} {e : Ending} (h : OPost w q e w') : OPost w q e w'.drew := by
  obtain ⟨v, es, tA, tc, h1, h2, h3, h4⟩ := h
  exact ⟨v, es, tA, tc, h1, h2.below (Below.refl _ _).drew, h3, h4.drew⟩
/-- the result in its cells -/
theorem OPost.fin {w W W1 : World} {q : RQ} {H : AL} {xb c4 : Nat} {A4 : Option Addr} {v3 : Value} {es3 : List Ent} (hH : H = q.H) (hL : ∀ wx', W.grownBy wx' (some xb) → HL wx' (w.heap.size + 1) v3 es3) (hA : absE es3 = headsOf H)
    (hB : Below (w.heap.size + 1) (w.alloc zero31) W) (hx : w.heap.size + 1 ≤ xb) (hg : W.grownBy W1 (some xb)) :
    OPost w q (.returned (.agg #[str q.meth, str (urlOf q), str q.proto, str q.host, str q.uri, .int .i64 q.len, v3, .slice A4 0 c4])) (put8v W1 w.heap.size (str q.meth) (str (urlOf q)) (str q.proto) (str q.host) (str q.uri) (.int .i64 q.len) v3 (.slice A4 0 c4)) := by
  have g := put8v_grown W1 w.heap.size (str q.meth) (str (urlOf q)) (str q.proto) (str q.host) (str q.uri) (.int .i64 q.len) v3 (.slice A4 0 c4)
  have hz : w.heap.size + 1 ≤ W.heap.size := by have := hB.size; simpa using this
  have b1 : Below w.heap.size w W := (below_new w zero31).trans (hB.mono (by omega))
  have b2 : Below w.heap.size w W1 := b1.grown hg (by omega) (fun k hk => by injection hk with hk; omega)
  have b3 : Below w.heap.size w (put8v W1 w.heap.size (str q.meth) (str (urlOf q)) (str q.proto) (str q.host) (str q.uri) (.int .i64 q.len) v3 (.slice A4 0 c4)) := b2.grown g (by have := hg.size; omega) (fun k hk => by injection hk with hk; omega)
  exact ⟨v3, es3, A4, c4, rfl, ((hL W1 hg).grown g (by omega)).base (by omega), by rw [hA, hH], b3⟩
set_option maxHeartbeats 4000000 in
theorem of_at (rb ub b n base m : Nat) (es : List Ent) (q : RQ) (w : World) (h : ReqAt w rb ub b n base m es q) (hm : m ≤ 900000) (hes : es.length ≤ 900000) (hlu : q.uhost.length ≤ 2147483648) (hlt : q.utarget.length ≤ 2147483648) : Calls Tryz.prog 28 #[.pointer (some ⟨rb, 0, none⟩)] w (OPost w q) := by
  obtain ⟨N, hN⟩ : ∃ N, max n es.length = N := ⟨_, rfl⟩
  have hH := (h.hdr.wide (n' := N) (by omega)).below (below_new w zero31)
  have hN1 : N ≤ 900000 := by have := h.hn; omega
  have hN2 : es.length ≤ N := by omega
  have hil : ∀ e ∈ es, e.items.length ≤ 900000 := fun e he => by have := h.items e he; omega
  have hwz : (w.alloc zero31).heap.size = w.heap.size + 1 := by simp
  have S0 : SS w rb b q (w.alloc zero31) := ⟨bka (h.cells 0 _ rfl), bka (h.cells 2 _ rfl), bka (h.cells 8 _ rfl), bka (h.cells 10 _ rfl), bka (h.cells 7 _ rfl), bka (h.cells 5 _ rfl), bka (h.cells 9 _ rfl), by have := Below.refl (w.alloc zero31).heap.size (w.alloc zero31); rwa [hwz] at this⟩
  have hrb : rb < w.heap.size := World.block_lt_of_cell? w _ (h.cells 0 _ rfl)
  have HIL := Lib.hid hil
  have HA := Lib.hid h.abs
  have H0 := Lib.hid h
  have HWZ := Lib.hid hwz
  have hHd : ∀ W, Below (w.heap.size + 1) (w.alloc zero31) W → Hdr W base b N es := fun W k => hH.below (by rw [HWZ.out]; exact k)
  have HHD := Lib.hid hHd
  clear h hil hN hwz hH hHd
  go_enter Tryz.func28, Tryz.ntmps28
  go_wp2_with fail
  go_upto_region 1 with fail
  go_cut [3] (fun s3 wx => XRel w q (absE es) s3 wx)
  case first =>
    go_region_held3 (fun wx => wx.cell? ⟨rb, 0, none⟩ = some (str q.meth) ∧ wx.cell? ⟨rb, 2, none⟩ = some (str q.proto) ∧ wx.cell? ⟨rb, 8, none⟩ = some (str q.host) ∧ wx.cell? ⟨rb, 10, none⟩ = some (str q.uri) ∧ wx.cell? ⟨rb, 7, none⟩ = some (.int .i64 q.len) ∧ wx.cell? ⟨rb, 5, none⟩ = some (.map (some b)) ∧ wx.cell? ⟨rb, 9, none⟩ = some (.map none) ∧ Below (w.heap.size + 1) (w.alloc zero31) wx)
      (first
        | with_reducible exact SS.open S0.drew
        | with_reducible exact SS.open S0
        | with_reducible exact SS.open y3
        | with_reducible exact SS.open y4
        | (with_reducible refine SS.open ?_; with_reducible refine SS.set ?_ hrb ?_; repeat' (first | with_reducible exact y3 | with_reducible exact y4 | (with_reducible refine SS.set ?_ hrb ?_) | with_reducible exact y3.le | with_reducible exact y4.le | (simp; done)))
        | with_reducible exact SS.open (S0.drew.below (below_new _ _))
        | with_reducible exact SS.open (S0.below (below_new _ _))
        | with_reducible exact SS.open (y3.below (below_new _ _))
        | with_reducible exact SS.open (y4.below (below_new _ _)))
      (first
        | (go_at_call 35; refine (heads_at base b N es _ (HHD.out _ (by go_split_ands; assumption)) hN1 hN2 HIL.out).mono ?_; rintro e w3 ⟨v3, es3, rfl, hL3, hA3, hb3⟩; obtain ⟨A3, c3, rfl⟩ := row_form hL3.row; have y3 := SS.below (w := w) (rb := rb) (b := b) (q := q) (by unfold SS; go_split_ands; (refine ⟨?_, ?_, ?_, ?_, ?_, ?_, ?_, ?_⟩ <;> assumption)) hb3; (try have z3 := z4.below hb3); (try have z3 := Z8.newb hb3); (try have z3 := Z8.newbD hb3); (try rw [HWZ.out] at z3); (try (have z3' := z3; obtain ⟨⟨p0, p1, p2, p3, p4, p5, p6, p7⟩, pf⟩ := z3')); have HL3 := Lib.hid hL3; have HB3 := Lib.hid hb3; clear hL3 hb3)
        | (go_at_call 41; refine (names_nil _).mono ?_; rintro e w4 ⟨A4, c4, rfl, hR4, hc4, hb4⟩; have y4 := SS.below (w := w) (rb := rb) (b := b) (q := q) (by unfold SS; go_split_ands; (refine ⟨?_, ?_, ?_, ?_, ?_, ?_, ?_, ?_⟩ <;> assumption)) hb4; (try have z4 := z3.below hb4); (try have z4 := Z8.newb hb4); (try have z4 := Z8.newbD hb4); (try rw [HWZ.out] at z4); (try (have z4' := z4; obtain ⟨⟨p0, p1, p2, p3, p4, p5, p6, p7⟩, pf⟩ := z4')); have HB4 := Lib.hid hb4; clear hR4 hb4))
    all_goals go_wp2_with fail
    all_goals go_meet
    all_goals have l3 := y3.le
    all_goals have l4 := y4.le
    all_goals clear HHD HIL HA H0 S0
    all_goals first
      | (with_reducible refine XRel.alloc (w := w) (q := q) ⟨_, _, rfl⟩ ((HL3.out.below HB4.out).base ?_) hA3 y4.bel; (first | exact ⟨_, _, rfl⟩ | exact Nat.le_refl _ | exact l3 | exact l4 | (simp; done) | (simp; omega)))
      | (with_reducible refine XRel.alloc (w := w) (q := q) ⟨_, _, rfl⟩ (HL3.out.base ?_) hA3 y3.bel; (first | exact ⟨_, _, rfl⟩ | exact Nat.le_refl _ | exact l3 | exact l4 | (simp; done) | (simp; omega)))
      | (with_reducible refine XRel.putA (w := w) (q := q) ⟨_, _, rfl⟩ (HL3.out.below HB4.out) ?_ ?_ hA3 y4.bel ?_ z4 <;> (first | exact ⟨_, _, rfl⟩ | exact Nat.le_refl _ | exact l3 | exact l4 | (simp; done) | (simp; omega)))
      | (with_reducible refine XRel.putA (w := w) (q := q) ⟨_, _, rfl⟩ HL3.out ?_ ?_ hA3 y3.bel ?_ z3 <;> (first | exact ⟨_, _, rfl⟩ | exact Nat.le_refl _ | exact l3 | exact l4 | (simp; done) | (simp; omega)))
      | (with_reducible refine XRel.putB (w := w) (q := q) ⟨_, _, rfl⟩ HL3.out ((below_new w3 _).trans (HB4.out.mono ?_)) (Nat.le_refl _) ?_ hA3 y4.bel ?_ z4 <;> (first | exact ⟨_, _, rfl⟩ | exact Nat.le_refl _ | exact l3 | exact l4 | (simp; done) | (simp; omega)))
  case rest =>
    obtain ⟨xb, v3, A4, c4, es3, rfl, hxb, ⟨A3, k3, rfl⟩, hL, hA3, hB, hZ⟩ := hcut
    have hub : ub < w.heap.size := World.block_lt_of_cell? w _ (H0.out.url 0 _ rfl)
    have cc : ∀ r j v, r < w.heap.size → w.cell? ⟨r, j, none⟩ = some v → wc.cell? ⟨r, j, none⟩ = some v := fun r j v hr hv => (hB.cell (p := ⟨r, j, none⟩) (by dsimp only; omega)).trans (bka hv)
    have c1 := cc rb 1 _ hrb (H0.out.cells 1 _ rfl)
    have u0 := cc ub 0 _ hub (H0.out.url 0 _ rfl)
    have u1 := cc ub 1 _ hub (H0.out.url 1 _ rfl)
    have u2 := cc ub 2 _ hub (H0.out.url 2 _ rfl)
    have hz0 : Z8 wc w.heap.size (str []) (str []) (str []) (str []) (str []) (.int .i64 0) (.slice none 0 0) (.slice none 0 0) := by
      have h := Z8.new w (str []) (str []) (str []) (str []) (str []) (.int .i64 0) (.slice none 0 0) (.slice none 0 0) 31
      exact h.below (by rw [HWZ.out]; exact hB)
    have hz0' := hz0
    obtain ⟨⟨r0, r1, r2, r3, r4, r5, r6, r7⟩, rf⟩ := hz0'
    obtain ⟨⟨z0, z1, z2, z3, z4, z5, z6, z7⟩, zf⟩ := hZ
    have HFin := Lib.hid (fun W1 => OPost.fin (q := q) (W1 := W1) (A4 := A4) (c4 := c4) HA.out hL hA3 hB hxb)
    have HZ0 := Lib.hid hz0
    clear cc hL hA3 hB HHD HIL S0 hz0
    have b1 : ¬ (9223372036854775807 < q.utarget.length) := by omega
    have b2 : ¬ (9223372036854775807 < 2 + q.uhost.length) := by omega
    have b3 : ¬ (9223372036854775807 < 2 + q.uhost.length + q.utarget.length) := by omega
    have hne : xb ≠ w.heap.size := by omega
    by_cases hh : q.uhost = []
    · have f0 : (q.uhost == []) = true := by simp [hh]
      have hu : Value.string ({ data := #[] } ++ { data := q.utarget.toArray }) = str (urlOf q) := by
        rw [show ({ data := #[] } : ByteArray) = ⟨([] : BS).toArray⟩ from rfl, ba_app]
        unfold urlOf
        rw [if_pos hh]
      have HU := Lib.hid hu
      have HP := Lib.hid (HFin.out _ (grown_set wc xb 1 (str (urlOf q))))
      have HZ9 := Lib.hid ((HZ0.out.other (nb := xb) (i := 1) (u := str (urlOf q)) hne).put (u0 := str q.meth) (u1 := str (urlOf q)) (u2 := str q.proto) (u3 := str q.host) (u4 := str q.uri) (u5 := .int .i64 q.len) (u6 := .slice A3 es3.length k3) (u7 := .slice A4 0 c4))
      clear hh hu
      go_wp2_with fail
      go_region
      go_wp2_with fail
      rw [HU.out]
      have HP2 := HP.out.drew
      obtain ⟨⟨x0, x1, x2, x3, x4, x5, x6, x7⟩, xf⟩ := HZ9.out.drew
      exact ⟨rfl, _, (show _ = Result.ok (.agg #[str q.meth, str (urlOf q), str q.proto, str q.host, str q.uri, .int .i64 q.len, .slice A3 es3.length k3, .slice A4 0 c4]) _ by simp [results, Tryz.results28, go_sem, x0, x1, x2, x3, x4, x5, x6, x7]), HP2⟩
    · have f0 : (q.uhost == []) = false := by simp [hh]
      have hu : Value.string (({ data := #[] } ++ ({ data := #[47, 47] } ++ { data := q.uhost.toArray })) ++ { data := q.utarget.toArray }) = str (urlOf q) := by
        rw [show ({ data := #[] } : ByteArray) = ⟨([] : BS).toArray⟩ from rfl, show ({ data := #[47, 47] } : ByteArray) = ⟨([47, 47] : BS).toArray⟩ from rfl, ba_app, ba_app, ba_app]
        unfold urlOf
        rw [if_neg hh, List.nil_append]
      obtain ⟨U1, hU1⟩ : ∃ U1, Value.string ({ data := #[] } ++ ({ data := #[47, 47] } ++ { data := q.uhost.toArray })) = U1 := ⟨_, rfl⟩
      have HU1 := Lib.hid hU1
      have HU := Lib.hid hu
      have HP := Lib.hid (HFin.out _ ((grown_set wc xb 1 U1).trans (grown_set _ xb 1 (str (urlOf q)))))
      have HZ9 := Lib.hid (((HZ0.out.other (nb := xb) (i := 1) (u := U1) hne).other (nb := xb) (i := 1) (u := str (urlOf q)) hne).put (u0 := str q.meth) (u1 := str (urlOf q)) (u2 := str q.proto) (u3 := str q.host) (u4 := str q.uri) (u5 := .int .i64 q.len) (u6 := .slice A3 es3.length k3) (u7 := .slice A4 0 c4))
      clear hh hu hU1
      go_wp2_with fail
      go_region
      go_wp2_with fail
      go_region
      go_wp2_with fail
      rw [HU.out, HU1.out]
      have HP2 := HP.out.drew.drew
      obtain ⟨⟨x0, x1, x2, x3, x4, x5, x6, x7⟩, xf⟩ := HZ9.out.drew.drew
      exact ⟨rfl, _, (show _ = Result.ok (.agg #[str q.meth, str (urlOf q), str q.proto, str q.host, str q.uri, .int .i64 q.len, .slice A3 es3.length k3, .slice A4 0 c4]) _ by simp [results, Tryz.results28, go_sem, x0, x1, x2, x3, x4, x5, x6, x7]), HP2⟩

def ROfPost (w : World) (m : Nat) (r : Option RQ) (e : Ending) (w' : World) : Prop :=
  ∃ v ev, e = .returned (.tuple #[v, ev]) ∧ Below w.heap.size w w' ∧ ErrV r.isSome ev ∧
    (∀ q, r = some q → ∃ rb ub b n base es, v = .pointer (some ⟨rb, 0, none⟩) ∧ ReqAt w' rb ub b n base m es q) ∧ (r = none → v = .pointer none)

theorem reqof_at (A : Option Addr) (c m : Nat) (l : List (BS × BS)) (r : Option RQ) (w : World)
    (KR : Calls Tryz.prog 49 #[.func (.func 67) #[] #[.pointer (some ⟨w.heap.size, 0, none⟩)], .int .i64 1048576, .pointer none] (w.alloc (.cells #[.slice A l.length c] 66)) (RQPost (w.alloc (.cells #[.slice A l.length c] 66)) w.heap.size m r)) :
    Calls Tryz.prog 26 #[.slice A l.length c, .int .i64 1048576] w (ROfPost w m r) := by
  have HB := Lib.hid (below_new w (.cells #[.slice A l.length c] 66))
  go_enter Tryz.func26, Tryz.ntmps26
  go_wp2_with fail
  refine (funcOf_at A l.length c _).mono ?_
  rintro e w1 ⟨rfl, rfl⟩
  go_wp2_with fail
  refine KR.mono ?_
  rintro e w2 ⟨v, ev, rfl, hg, hev, h1, h2⟩
  have H1 := Lib.hid h1
  have H2 := Lib.hid h2
  have HEV := Lib.hid hev
  have HBL := Lib.hid (HB.out.grown hg HB.out.size (fun k hk => by injection hk with hk; omega))
  clear hev hg h1 h2 KR
  go_wp2_with fail
  go_ret2
  refine ⟨v, ev, rfl, HBL.out, HEV.out, fun q hq => ?_, H2.out⟩
  obtain ⟨rb, ub, n, es, k1, k2⟩ := H1.out q hq
  exact ⟨rb, ub, _, n, _, es, k1, k2⟩

/-- what is asked of the reading of a list of fields -/
def ReqOk (p : Addr) (l : List (BS × BS)) (m : Nat) (r : Option RQ) : Prop :=
  ∀ (W : World) (A : Option Addr) (c : Nat), Reads W W.heap.size 2 A l.length (fc l) → l.length ≤ c → Env W p → Calls Tryz.prog 26 #[.slice A l.length c, .int .i64 1048576] W (ROfPost W m r)
structure RQB (q : RQ) : Prop where
  len : q.H.length ≤ 900000
  uhost : q.uhost.length ≤ 2147483648
  utarget : q.utarget.length ≤ 2147483648

def reqV (r : Option RQ) (hv : Value) (tA : Option Addr) (tc : Nat) : Value := match r with
  | some q => .agg #[str q.meth, str (urlOf q), str q.proto, str q.host, str q.uri, .int .i64 q.len, hv, .slice tA 0 tc]
  | none => .agg #[str [], str [], str [], str [], str [], .int .i64 0, .slice none 0 0, .slice none 0 0]
def HRPost (w : World) (r : Option RQ) (e : Ending) (w' : World) : Prop :=
  ∃ hv es tA tc, e = .returned (.tuple #[reqV r hv tA tc, .bool r.isSome]) ∧ Below w.heap.size w w' ∧ HL w' w.heap.size hv es ∧ absE es = (match r with | some q => headsOf q.H | none => [])

theorem HRPost.fin {w w3 : World} {r : Option RQ} {hv : Value} {es3 : List Ent} {tA : Option Addr} {tc base : Nat} {v0 v1 v2 v3 v4 v5 v6 v7 u : Value} (hL : HL w3 base hv es3) (hbase : w.heap.size + 1 < base) (hA : absE es3 = (match r with | some q => headsOf q.H | none => [])) (hB : Below w.heap.size w w3) (hz : w.heap.size + 1 < w3.heap.size) :
    HRPost w r (.returned (.tuple #[reqV r hv tA tc, .bool r.isSome])) ((put8v w3 w.heap.size v0 v1 v2 v3 v4 v5 v6 v7).setCell ⟨w.heap.size + 1, 0, none⟩ u) := by
  have g := put8v_grown w3 w.heap.size v0 v1 v2 v3 v4 v5 v6 v7
  have g2 := grown_set (put8v w3 w.heap.size v0 v1 v2 v3 v4 v5 v6 v7) (w.heap.size + 1) 0 u
  refine ⟨hv, es3, tA, tc, rfl, ?_, ((hL.grown g (by omega)).grown g2 (by omega)).base (by omega), hA⟩
  have b2 : Below w.heap.size w (put8v w3 w.heap.size v0 v1 v2 v3 v4 v5 v6 v7) := hB.grown g (by omega) (fun k hk => by injection hk with hk; omega)
  exact b2.grown g2 (by have := g.size; omega) (fun k hk => by injection hk with hk; omega)
/-- the cells of the results -/
theorem fin_cells {w w3 : World} {B : Nat} {u u0 : Value} {v0 v1 v2 v3 v4 v5 v6 v7 a0 a1 a2 a3 a4 a5 a6 a7 : Value} (z : Z8 w3 B a0 a1 a2 a3 a4 a5 a6 a7) (h : w3.cell? ⟨B + 1, 0, none⟩ = some u0) : Z8 ((put8v w3 B v0 v1 v2 v3 v4 v5 v6 v7).setCell ⟨B + 1, 0, none⟩ u) B v0 v1 v2 v3 v4 v5 v6 v7 ∧ ((put8v w3 B v0 v1 v2 v3 v4 v5 v6 v7).setCell ⟨B + 1, 0, none⟩ u).cell? ⟨B + 1, 0, none⟩ = some u :=
  ⟨z.put.other (by omega), cs1 (((put8v_grown w3 B v0 v1 v2 v3 v4 v5 v6 v7).cell_far ⟨B + 1, 0, none⟩ (World.block_lt_of_cell? w3 _ h) (by simp)).trans h)⟩

/-- the same, of worlds of which more is known -/
def ReqOkG (G : World → Prop) (p : Addr) (l : List (BS × BS)) (m : Nat) (r : Option RQ) : Prop :=
  ∀ (W : World) (A : Option Addr) (c : Nat), Reads W W.heap.size 2 A l.length (fc l) → l.length ≤ c → Env W p → G W → Calls Tryz.prog 26 #[.slice A l.length c, .int .i64 1048576] W (ROfPost W m r)
set_option maxHeartbeats 4000000 in
theorem hrG_at (G : World → Prop) (A : Option Addr) (c m : Nat) (l : List (BS × BS)) (p : Addr) (r : Option RQ) (w : World) (hR : Reads w w.heap.size 2 A l.length (fc l)) (hl : l.length ≤ 32768) (hE : Env w p) (hm : m ≤ 900000) (hK : ReqOkG G p l m r) (hq : ∀ q, r = some q → RQB q) (hg : ∀ W, Below w.heap.size w W → G W) :
    Calls Tryz.prog 8 #[.slice A l.length c] w (HRPost w r) := by
  have hb0 := below_new w zero31
  have hb := hb0.alloc (w := w.alloc zero31) (by simp) (.cells #[.bool false] 4)
  have KF := fields_at A c l ((w.alloc zero31).alloc (.cells #[.bool false] 4)) (((hR.alloc (Nat.le_refl _) _).alloc (by simp) _).more hb.size) (by omega)
  have HB := Lib.hid hb
  have HE := Lib.hid (hE.cut hb hE.ge)
  have HK := Lib.hid hK
  have HQ := Lib.hid hq
  have HGG := Lib.hid hg
  have Z0 := Lib.hid ((Z8.new w (str []) (str []) (str []) (str []) (str []) (.int .i64 0) (.slice none 0 0) (.slice none 0 0) 31).below (below_new _ (.cells #[.bool false] 4)))
  clear hb hb0 hR hE hK hq hg
  go_enter_defers Tryz.func8, Tryz.ntmps8
  go_wp2_with fail
  refine KF.mono ?_
  rintro e w1 ⟨A1, c1, rfl, hrow1, hb1⟩
  have HB1 := Lib.hid (Below.next HB.out HB.out.size hb1)
  have R0 : Hid (w1.cell? ⟨w.heap.size + 1, 0, none⟩ = some (.bool false)) := Lib.hid ((hb1.cell (p := ⟨w.heap.size + 1, 0, none⟩) (by simp)).trans (by simp))
  have G0 : Hid (w1.frozen? ⟨w.heap.size + 1, 0, none⟩ = false) := Lib.hid ((hb1.frozen (p := ⟨w.heap.size + 1, 0, none⟩) (by simp)).trans (by simp))
  have Z1 := Lib.hid (Z0.out.below hb1)
  have hlt1 : w.heap.size + 1 < w1.heap.size := by have := hb1.size; simp at this; omega
  have KT := HK.out w1 A1 c1 (Reads.of_own hrow1) (row_cap hrow1) (HE.out.cut hb1 HE.out.ge) (HGG.out w1 HB1.out)
  clear hrow1 hb1 KF
  go_wp2_with fail
  refine KT.mono ?_
  rintro e w2 ⟨v, ev, rfl, hb2, hev, h1, h2⟩
  have HB2 := Lib.hid (Below.next HB1.out HB1.out.size hb2)
  have x0 := (hb2.cell (p := ⟨w.heap.size + 1, 0, none⟩) hlt1).trans R0.out
  have y0 := (hb2.frozen (p := ⟨w.heap.size + 1, 0, none⟩) hlt1).trans G0.out
  have Z2 := Lib.hid (Z1.out.below hb2)
  have hlt2 : w.heap.size + 1 < w2.heap.size := Nat.lt_of_lt_of_le hlt1 hb2.size
  have H1 := Lib.hid h1
  have H2 := Lib.hid h2
  clear hb2 h1 h2 KT
  cases r with
  | none =>
    obtain ⟨p3, rfl⟩ := hev
    obtain rfl := H2.out rfl
    obtain ⟨⟨z0, z1, z2, z3, z4, z5, z6, z7⟩, zf⟩ := Z2.out
    have HP := Lib.hid (HRPost.fin (r := none) (tA := none) (tc := 0) (u := .bool false) (v0 := str []) (v1 := str []) (v2 := str []) (v3 := str []) (v4 := str []) (v5 := .int .i64 0) (v6 := .slice none 0 0) (v7 := .slice none 0 0) (HL.nil w2 w2.heap.size) hlt2 rfl HB2.out hlt2)
    have HC := Lib.hid (fin_cells (w := w2) (u := .bool false) (v0 := str []) (v1 := str []) (v2 := str []) (v3 := str []) (v4 := str []) (v5 := .int .i64 0) (v6 := .slice none 0 0) (v7 := .slice none 0 0) Z2.out x0)
    go_wp2_with fail
    refine leaves_cons (f := 25) (args := #[.pointer (some ⟨w.heap.size + 1, 0, none⟩)]) (by simp) (by simp [go_sem]) ?_
    refine (caught_idle ⟨w.heap.size + 1, 0, none⟩ _).mono ?_
    rintro e u' w'' ⟨rfl, rfl, rfl⟩
    obtain ⟨⟨⟨x0, x1, x2, x3, x4, x5, x6, x7⟩, xf⟩, hbc⟩ := HC.out
    exact ⟨_, (show _ = Result.ok (Value.tuple #[.agg #[str [], str [], str [], str [], str [], .int .i64 0, .slice none 0 0, .slice none 0 0], .bool false]) _ by simp [results, Tryz.results8, go_sem, x0, x1, x2, x3, x4, x5, x6, x7, hbc]), HP.out⟩
  | some q =>
    obtain rfl : ev = .nilIface := hev
    obtain ⟨rb, ub, b, n, base, es, rfl, hRA⟩ := H1.out q rfl
    have hqb := HQ.out q rfl
    have KO := of_at rb ub b n base m es q w2 hRA hm (by rw [absE_len hRA.abs]; exact hqb.len) hqb.uhost hqb.utarget
    clear hRA hqb
    go_wp2_with fail
    refine KO.mono ?_
    rintro e w3 ⟨hv, es3, tA, tc, rfl, hL, hA, hb3⟩
    obtain ⟨A3, k3, rfl⟩ := row_form hL.row
    have HBF := Lib.hid (Below.next HB2.out HB2.out.size hb3)
    have q0 := (hb3.cell (p := ⟨w.heap.size + 1, 0, none⟩) hlt2).trans x0
    have g0 := (hb3.frozen (p := ⟨w.heap.size + 1, 0, none⟩) hlt2).trans y0
    have Z3 := Lib.hid (Z2.out.below hb3)
    obtain ⟨⟨z0, z1, z2, z3, z4, z5, z6, z7⟩, zf⟩ := Z3.out
    have HL3 := Lib.hid hL
    have HA3 := Lib.hid hA
    have HP := Lib.hid (HRPost.fin (r := some q) (tA := tA) (tc := tc) (u := .bool true) (v0 := str q.meth) (v1 := str (urlOf q)) (v2 := str q.proto) (v3 := str q.host) (v4 := str q.uri) (v5 := .int .i64 q.len) (v6 := .slice A3 es3.length k3) (v7 := .slice tA 0 tc) hL hlt2 hA HBF.out (Nat.lt_of_lt_of_le hlt2 hb3.size))
    have HC := Lib.hid (fin_cells (w := w2) (u := .bool true) (v0 := str q.meth) (v1 := str (urlOf q)) (v2 := str q.proto) (v3 := str q.host) (v4 := str q.uri) (v5 := .int .i64 q.len) (v6 := .slice A3 es3.length k3) (v7 := .slice tA 0 tc) Z3.out q0)
    clear hL hA hb3 KO x0 y0
    go_wp2_with fail
    refine leaves_cons (f := 25) (args := #[.pointer (some ⟨w.heap.size + 1, 0, none⟩)]) (by simp) (by simp [go_sem]) ?_
    refine (caught_idle ⟨w.heap.size + 1, 0, none⟩ _).mono ?_
    rintro e u' w'' ⟨rfl, rfl, rfl⟩
    obtain ⟨⟨⟨x0, x1, x2, x3, x4, x5, x6, x7⟩, xf⟩, hbc⟩ := HC.out
    exact ⟨_, (show _ = Result.ok (Value.tuple #[.agg #[str q.meth, str (urlOf q), str q.proto, str q.host, str q.uri, .int .i64 q.len, .slice A3 es3.length k3, .slice tA 0 tc], .bool true]) _ by simp [results, Tryz.results8, go_sem, x0, x1, x2, x3, x4, x5, x6, x7, hbc]), HP.out⟩
theorem hr_at (A : Option Addr) (c m : Nat) (l : List (BS × BS)) (p : Addr) (r : Option RQ) (w : World) (hR : Reads w w.heap.size 2 A l.length (fc l)) (hl : l.length ≤ 32768) (hE : Env w p) (hm : m ≤ 900000) (hK : ReqOk p l m r) (hq : ∀ q, r = some q → RQB q) :
    Calls Tryz.prog 8 #[.slice A l.length c] w (HRPost w r) :=
  hrG_at (fun _ => True) A c m l p r w hR hl hE hm (fun W A c h1 h2 h3 _ => hK W A c h1 h2 h3) hq (fun _ _ => trivial)

def awL : List (BS × BS) := [(kMethod, [71, 69, 84]), (kScheme, [104, 116, 116, 112, 115]), (kAuth, [104]), (kPath, [47]), ([120, 45, 97], [98])]
def awQ : RQ := ⟨[71, 69, 84], [], [47], kProto3, [104], [47], -1, [([88, 45, 65], [[98]])]⟩
theorem awQ_heads : headsOf awQ.H = [([88, 45, 65], [[98]])] := by
  unfold headsOf awQ sortK
  simp [getH]
theorem awQ_b : RQB awQ := ⟨by decide, by decide, by decide⟩

set_option maxHeartbeats 4000000 in
theorem awake_at (p : Addr) (m : Nat) (w : World) (hE : Env w p) (hm : m ≤ 900000) (hK : ReqOk p awL m (some awQ)) : Calls Tryz.prog 11 #[] w fun e w' => e = .returned (.bool true) ∧ Below w.heap.size w w' := by
  have hc := cells_new w (fc awL) 42
  have hb := below_new w (.cells (fc awL).toArray 42)
  have KH := hr_at (some ⟨w.heap.size, 0, none⟩) 5 m awL p (some awQ) (w.alloc (.cells (fc awL).toArray 42)) ⟨rfl, fun _ => ⟨_, rfl, by simp, hc⟩⟩ (by decide) (hE.cut hb hE.ge) hm hK (fun q hq => by injection hq with hq; rw [← hq]; exact awQ_b)
  have HB := Lib.hid hb
  clear hc hb hE hK
  go_enter Tryz.func11, Tryz.ntmps11
  go_wp2_with fail
  refine KH.mono ?_
  rintro e w1 ⟨hv, es, tA, tc, rfl, hb1, hL, hA⟩
  have HB1 := Lib.hid (Below.next HB.out HB.out.size hb1)
  have hlen : es.length = 1 := by have h := absE_len hA; simp only at h; rw [h, awQ_heads]; rfl
  obtain ⟨x, rfl⟩ := List.length_eq_one_iff.1 hlen
  have hk : x.key = [88, 45, 65] := by
    simp only at hA
    rw [awQ_heads] at hA
    simp [absE] at hA
    exact hA.1
  obtain ⟨A3, k3, rfl⟩ := row_form hL.row
  obtain ⟨ad, rfl, hbk, hcell⟩ := (Reads.of_own hL.row).2 (by simp)
  have n0 := hcell 0 (str x.key) rfl
  obtain ⟨bk3, o3, spot⟩ := ad
  have hspot : spot = none := by simpa [Addr.add] using World.cell?_spot n0
  subst hspot
  rw [Addr.add_lit, hk, Nat.add_zero] at n0
  have hr : reqV (some awQ) (.slice (some ⟨bk3, o3, none⟩) [x].length k3) tA tc = .agg #[str [71, 69, 84], str [47], str kProto3, str [104], str [47], .int .i64 (-1), .slice (some ⟨bk3, o3, none⟩) 1 k3, .slice tA 0 tc] := by
    simp [reqV, awQ, urlOf]
  rw [hr]
  have n1 := bka (o := .cells #[str [71, 69, 84], str [47], str kProto3, str [104], str [47], .int .i64 (-1), .slice (some ⟨bk3, o3, none⟩) 1 k3, .slice tA 0 tc] 31) n0
  clear hr hk hcell hbk hlen hL hA hb1 KH n0 HB
  go_wp2_with fail
  go_ret
  exact ⟨rfl, HB1.out.alloc HB1.out.size _⟩
end Go.Proofs.YtgcfnhchmmkndaaGreatDoor
