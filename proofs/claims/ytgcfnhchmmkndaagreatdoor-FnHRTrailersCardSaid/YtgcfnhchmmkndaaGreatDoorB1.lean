/- A header in memory: a map from strings to slices of strings. -/
import Derived.Test.YtgcfnhchmmkndaaGreatDoorA3
import Derived.Maps.OwnOps
import Derived.Maps.OwnSet
import Derived.Maps.RangeWalk
import Derived.Maps.AppendAt
import Derived.StringKeys
namespace Go.Proofs.YtgcfnhchmmkndaaGreatDoor
open Go.RowKit Go.Maps
set_option linter.unusedVariables false
set_option maxRecDepth 100000

def scells (l : List (List UInt8)) : List Value := l.map str
theorem scells_len (l : List (List UInt8)) : (scells l).length = l.length := by simp [scells]
theorem row_form {w : World} {e : TypeId} {size base n : Nat} {v : Value} {xs : List Value} (h : w.ownsRow base e size v n xs) : ∃ A c, v = .slice A n c := by
  rcases h.2 with ⟨rfl, rfl⟩ | ⟨g, cap, cur, rfl, _⟩
  · exact ⟨_, _, rfl⟩
  · exact ⟨_, _, rfl⟩
theorem own_base {w : World} {base base' : Nat} {e : TypeId} {size : Nat} {v : Value} {n : Nat} {xs : List Value} (h : w.ownsRow base e size v n xs) (hb : base' ≤ base) : w.ownsRow base' e size v n xs := by
  refine ⟨h.1, h.2.imp id ?_⟩
  rintro ⟨g, cap, cur, h1, h2, h3⟩
  exact ⟨g, cap, cur, h1, by omega, h3⟩
theorem undrew {w w' : World} {row : Option Nat} (h : w.drew.grownBy w' row) : w.grownBy w' row := ⟨h.os, h.tape, h.output, h.size, h.block⟩
theorem below_new (w : World) (o : Obj) : Below w.heap.size w (w.alloc o) := (Below.refl w.heap.size w).alloc (Nat.le_refl _) _
theorem grown_set (w : World) (t i : Nat) (v : Value) : w.grownBy (w.setCell ⟨t, i, none⟩ v) (some t) :=
  ⟨rfl, rfl, rfl, by simp, fun k hk hne => Below.heap_setCell w _ v k (fun e => hne (by rw [e]))⟩
theorem grown_below {w w' : World} (k : Below w.heap.size w w') : w.grownBy w' none := ⟨k.os, k.tape, k.output, k.size, fun j hj _ => k.block j hj⟩

/-- an entry: its key, the slice that the map holds, what the slice reads as -/
structure Ent where
  key : List UInt8
  val : Value
  items : List (List UInt8)

def hElem (v : Value) : Option (DataW Value × List MemPlace) := some (.held v, [])

theorem hElem_eq {v u : Value} {ps : List MemPlace} (h : hElem v = some (.held u, ps)) : v = u := by
  have h9 : v = u ∧ ps = [] := by simpa [hElem] using h
  exact h9.1

structure Hdr (w : World) (base b n : Nat) (es : List Ent) : Prop where
  own : ∃ D, w.ownsMap Tryz.prog 9 hElem b n D ∧ (∀ k, has D (.string k) = es.any (fun e => e.key == k)) ∧ ∀ e ∈ es, ∀ z, D.atKey (.string e.key) z = .held e.val
  nd : (es.map Ent.key).Nodup
  rows : ∀ e ∈ es, w.ownsRow base 9 1 e.val e.items.length (scells e.items)
  apart : es.Pairwise fun a c => a.val.ownBlock = none ∨ a.val.ownBlock ≠ c.val.ownBlock
  lb : b < base
  klen : ∀ e ∈ es, e.key.length ≤ 2147483648

theorem law9 : Keyed Tryz.prog 9 := string_keyed Tryz.underlying9
theorem zero29 (w : World) : (zeroValue 29).run Tryz.prog w = .ok (.slice none 0 0) w := by kernel_rfl
theorem key9 (k : List UInt8) (h : k.length ≤ 2147483648) : keyOf Tryz.prog 9 (str k) = some (.string k) := by
  have := Go.WideMaps.keyOf_string_mk (P := Tryz.prog) (k := 9) Tryz.underlying9 (s := ⟨k.toArray⟩) (by unfold maxLen; show k.toArray.size ≤ _; simp; omega)
  simpa using this
theorem strKey (k : List UInt8) : WideAt.IsKeyLit (.string k) := trivial

section
variable {w w' : World} {base b n : Nat} {es : List Ent}

theorem Hdr.lt (h : Hdr w base b n es) : b < w.heap.size := by
  obtain ⟨D, hD, _⟩ := h.own
  exact hD.lt
theorem Hdr.kept (h : Hdr w base b n es) {row : Option Nat} (g : w.grownBy w' row) (hb : some b ≠ row) (hr : ∀ e ∈ es, e.val.ownBlock = none ∨ e.val.ownBlock ≠ row) : Hdr w' base b n es where
  own := by
    obtain ⟨D, hD, h1⟩ := h.own
    exact ⟨D, hD.kept g hb, h1⟩
  nd := h.nd
  rows := fun e he => (h.rows e he).kept g (hr e he)
  apart := h.apart
  lb := h.lb
  klen := h.klen
theorem Hdr.below (h : Hdr w base b n es) (k : Below w.heap.size w w') : Hdr w' base b n es :=
  h.kept (grown_below k) (by simp) (fun e _ => by cases hv : e.val.ownBlock <;> simp)
theorem Hdr.drew (h : Hdr w base b n es) : Hdr w.drew base b n es := ⟨h.own, h.nd, h.rows, h.apart, h.lb, h.klen⟩
theorem Hdr.made (w : World) : Hdr (w.alloc (.map #[] 0)) (w.heap.size + 1) w.heap.size 0 [] where
  own := ⟨_, World.ownsMap_made w _ _ _, fun k => by simp [has], fun e he => by simp at he⟩
  nd := by simp
  rows := fun e he => by simp at he
  apart := List.Pairwise.nil
  lb := Nat.lt_succ_self _
  klen := fun e he => by simp at he
theorem Hdr.above (h : Hdr w base b n es) : ∀ e ∈ es, ∀ g, e.val.ownBlock = some g → base ≤ g ∧ g < w.heap.size := fun e he g hg => (h.rows e he).lt g hg

/-! ### a look-up -/
theorem Hdr.look (h : Hdr w base b n es) (e : Ent) (he : e ∈ es) : (Instr.lookup 78 (.map (some b)) (str e.key) false).run Tryz.prog w = .ok e.val w := by
  obtain ⟨D, hD, hh, ha⟩ := h.own
  obtain ⟨v, ps, hrun, hv⟩ := hD.lookup law9 Tryz.underlying78 (zero29 w) (zd := .held (.slice none 0 0)) (zp := []) rfl (key9 e.key (h.klen e he))
  rw [ha e he] at hv
  have : v = e.val := hElem_eq hv
  rw [hrun, this]
theorem Hdr.look_no (h : Hdr w base b n es) (k : List UInt8) (hk : k.length ≤ 2147483648) (hn : ∀ e ∈ es, e.key ≠ k) : (Instr.lookup 78 (.map (some b)) (str k) false).run Tryz.prog w = .ok (.slice none 0 0) w := by
  obtain ⟨D, hD, hh, ha⟩ := h.own
  obtain ⟨v, ps, hrun, hv⟩ := hD.lookup law9 Tryz.underlying78 (zero29 w) (zd := .held (.slice none 0 0)) (zp := []) rfl (key9 k hk)
  have hf : has D (.string k) = false := by
    rw [hh, List.any_eq_false]
    intro e he
    simpa using hn e he
  rw [atKey_of_not_has hf] at hv
  have : v = .slice none 0 0 := hElem_eq hv
  rw [hrun, this]
theorem Hdr.look_ok (h : Hdr w base b n es) (e : Ent) (he : e ∈ es) : (Instr.lookup 78 (.map (some b)) (str e.key) true).run Tryz.prog w = .ok (.tuple #[e.val, .bool true]) w := by
  obtain ⟨D, hD, hh, ha⟩ := h.own
  obtain ⟨v, ps, hrun, hv⟩ := hD.look_ok law9 Tryz.underlying78 (zero29 w) (zd := .held (.slice none 0 0)) (zp := []) rfl (key9 e.key (h.klen e he))
  rw [ha e he] at hv
  have h1 : v = e.val := hElem_eq hv
  have h2 : has D (.string e.key) = true := by
    rw [hh, List.any_eq_true]
    exact ⟨e, he, by simp⟩
  rw [hrun, h1, h2]
theorem Hdr.look_ok_no (h : Hdr w base b n es) (k : List UInt8) (hk : k.length ≤ 2147483648) (hn : ∀ e ∈ es, e.key ≠ k) : (Instr.lookup 78 (.map (some b)) (str k) true).run Tryz.prog w = .ok (.tuple #[.slice none 0 0, .bool false]) w := by
  obtain ⟨D, hD, hh, ha⟩ := h.own
  obtain ⟨v, ps, hrun, hv⟩ := hD.look_ok law9 Tryz.underlying78 (zero29 w) (zd := .held (.slice none 0 0)) (zp := []) rfl (key9 k hk)
  have hf : has D (.string k) = false := by
    rw [hh, List.any_eq_false]
    intro e he
    simpa using hn e he
  rw [atKey_of_not_has hf] at hv
  have h1 : v = .slice none 0 0 := hElem_eq hv
  rw [hrun, h1, hf]

/-! ### a store -/
def putEnt (es : List Ent) (x : Ent) : List Ent := if es.any (fun e => e.key == x.key) then es.map (fun e => if e.key = x.key then x else e) else es ++ [x]
theorem putEnt_keys_mem (es : List Ent) (x : Ent) (k : List UInt8) : (putEnt es x).any (fun e => e.key == k) = (es.any (fun e => e.key == k) || x.key == k) := by
  unfold putEnt
  split
  · rename_i hx
    rw [Bool.eq_iff_iff]
    simp only [List.any_eq_true, List.mem_map, Bool.or_eq_true, beq_iff_eq] at hx ⊢
    constructor
    · rintro ⟨e, ⟨a, ha, rfl⟩, hk⟩
      split at hk
      · exact .inr hk
      · exact .inl ⟨a, ha, hk⟩
    · rintro (⟨e, he, hk⟩ | hk)
      · by_cases hkx : e.key = x.key
        · exact ⟨x, ⟨e, he, by rw [if_pos hkx]⟩, by rw [← hkx]; exact hk⟩
        · exact ⟨e, ⟨e, he, by rw [if_neg hkx]⟩, hk⟩
      · obtain ⟨e, he, hk2⟩ := hx
        exact ⟨x, ⟨e, he, by rw [if_pos hk2]⟩, hk⟩
  · simp [List.any_append]
theorem putEnt_mem {es : List Ent} {x e : Ent} (h : e ∈ putEnt es x) : e = x ∨ (e ∈ es ∧ e.key ≠ x.key) := by
  unfold putEnt at h
  split at h
  · obtain ⟨a, ha, hh⟩ := List.mem_map.1 h
    split at hh
    · exact .inl hh.symm
    · subst hh; exact .inr ⟨ha, by assumption⟩
  · rename_i hx
    rcases List.mem_append.1 h with h | h
    · refine .inr ⟨h, fun e1 => hx ?_⟩
      rw [List.any_eq_true]
      exact ⟨e, h, by simpa using e1⟩
    · exact .inl (by simpa using h)
theorem putEnt_nd {es : List Ent} {x : Ent} (h : (es.map Ent.key).Nodup) : ((putEnt es x).map Ent.key).Nodup := by
  unfold putEnt
  split
  · have : (es.map (fun e => if e.key = x.key then x else e)).map Ent.key = es.map Ent.key := by
      rw [List.map_map]
      refine List.map_congr_left fun e he => ?_
      simp only [Function.comp]
      split
      · rename_i hh; exact hh.symm
      · rfl
    rw [this]; exact h
  · rename_i hx
    rw [List.map_append, List.nodup_append]
    refine ⟨h, by simp, fun a ha c hc e => hx ?_⟩
    obtain ⟨z, hz, rfl⟩ := List.mem_map.1 ha
    have hc : c = x.key := by simpa using hc
    rw [List.any_eq_true]
    exact ⟨z, hz, by simp [e, hc]⟩

theorem pairwise_put {es : List Ent} {x : Ent} {R : Ent → Ent → Prop} (hs : ∀ a c, R a c → R c a) (h : es.Pairwise R) (hnd : (es.map Ent.key).Nodup) (hx : ∀ e ∈ es, e.key ≠ x.key → R e x) : (putEnt es x).Pairwise R := by
  unfold putEnt
  split
  · rename_i h0
    clear h0
    induction es with
    | nil => exact List.Pairwise.nil
    | cons a es ih =>
      rw [List.map_cons]
      rw [List.map_cons, List.nodup_cons] at hnd
      rw [List.pairwise_cons] at h
      have ih' := ih h.2 hnd.2 (fun e he => hx e (List.mem_cons_of_mem _ he))
      rw [List.pairwise_cons]
      refine ⟨fun c hc => ?_, ih'⟩
      obtain ⟨z, hz, rfl⟩ := List.mem_map.1 hc
      by_cases h1 : a.key = x.key
      · rw [if_pos h1]
        have h2 : z.key ≠ x.key := fun e => hnd.1 (by rw [h1, ← e]; exact List.mem_map_of_mem hz)
        rw [if_neg h2]
        exact hs _ _ (hx z (List.mem_cons_of_mem _ hz) h2)
      · rw [if_neg h1]
        split
        · exact hx a (by simp) h1
        · exact h.1 z hz
  · rename_i hn
    refine List.pairwise_append.2 ⟨h, by simp, fun a ha c hc => ?_⟩
    obtain rfl : c = x := by simpa using hc
    refine hx a ha fun e => hn ?_
    rw [List.any_eq_true]
    exact ⟨a, ha, by simpa using e⟩

/-- A STORE, behind whatever has turned the old slice's own row (r) and new blocks alone -/
theorem Hdr.put {w1 : World} (h : Hdr w base b n es) {r : Option Nat} (g : w.grownBy w1 r) (hb : some b ≠ r) (x : Ent) (hr : ∀ e ∈ es, e.key ≠ x.key → e.val.ownBlock = none ∨ e.val.ownBlock ≠ r)
    (row : w1.ownsRow base 9 1 x.val x.items.length (scells x.items)) (loc : x.val.ownBlock = none ∨ x.val.ownBlock = r ∨ ∃ j, x.val.ownBlock = some j ∧ w.heap.size ≤ j) (hk : x.key.length ≤ 2147483648) (hn : n < 1000000) :
    ∃ w2, (Instr.mapUpdate 78 (.map (some b)) (str x.key) x.val).run Tryz.prog w1 = .ok () w2 ∧ Hdr w2 base b (n + 1) (putEnt es x) ∧ w1.grownBy w2 (some b) := by
  obtain ⟨D, hD, hh, ha⟩ := h.own
  obtain ⟨w2, hrun, hD2, hg2⟩ := (hD.kept g hb).update (val := x.val) law9 Tryz.underlying78 (by unfold maxLen; omega) (key9 x.key hk) (d := .held x.val) (ps := []) rfl
  have hne : ∀ v : Value, ∀ m xs, w1.ownsRow base 9 1 v m xs → v.ownBlock = none ∨ v.ownBlock ≠ some b := fun v m xs hv => by
    cases hvb : v.ownBlock with
    | none => exact .inl rfl
    | some j => exact .inr (fun e => by injection e with e; have := (hv.lt j hvb).1; have := h.lb; omega)
  refine ⟨w2, hrun, ⟨⟨_, hD2, fun k => ?_, fun e he z => ?_⟩, putEnt_nd h.nd, fun e he => ?_, ?_, h.lb, fun e he => ?_⟩, hg2⟩
  · rw [putEnt_keys_mem]
    by_cases e : k = x.key
    · subst e
      rw [has_put_same hD.isMap (strKey _)]
      simp
    · rw [has_put_other (by intro e2; injection e2 with e2; exact e e2), hh]
      simp [Ne.symm e]
  · rcases putEnt_mem he with rfl | ⟨he, hne⟩
    · rw [atKey_put_same hD.isMap (strKey _)]
    · rw [atKey_put_other (by intro e2; injection e2 with e2; exact hne e2), ha e he]
  · rcases putEnt_mem he with rfl | ⟨he, hne2⟩
    · exact row.kept hg2 (hne _ _ _ row)
    · have := (h.rows e he).kept g (hr e he hne2)
      exact this.kept hg2 (hne _ _ _ this)
  · refine pairwise_put ?_ h.apart h.nd ?_
    · intro a c hac
      rcases hac with hac | hac
      · cases hc : c.val.ownBlock with
        | none => exact .inl rfl
        | some j => exact .inr (by rw [hac]; simp)
      · exact .inr (Ne.symm hac)
    · intro e he hk
      rcases hr e he hk with h1 | h1
      · exact .inl h1
      · rcases loc with h2 | h2 | ⟨j, h2, h3⟩
        · cases hv : e.val.ownBlock with
          | none => exact .inl rfl
          | some i => exact .inr (by rw [h2]; simp)
        · exact .inr (by rw [h2]; exact h1)
        · cases hv : e.val.ownBlock with
          | none => exact .inl rfl
          | some i => exact .inr (by rw [h2]; intro e2; injection e2 with e2; have := (h.rows e he).lt i hv; omega)
  · rcases putEnt_mem he with rfl | ⟨he, _⟩
    · exact hk
    · exact h.klen e he
end
end Go.Proofs.YtgcfnhchmmkndaaGreatDoor
