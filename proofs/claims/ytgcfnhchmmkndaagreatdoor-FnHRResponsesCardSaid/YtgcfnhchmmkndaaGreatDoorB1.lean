/- A header in memory: a map from strings to slices of strings. -/
import Derived.Test.YtgcfnhchmmkndaaGreatDoorA1
import Derived.Maps.OwnOps
import Derived.Maps.OwnSet
import Derived.Maps.RangeWalk
import Derived.Maps.AppendAt
import Derived.StringKeys
namespace Go.Proofs.YtgcfnhchmmkndaaGreatDoor
open Go.RowKit Go.Maps
set_option linter.unusedVariables false
set_option maxRecDepth 100000

def scells (l : List (List UInt8)) : List Value := l.map str
theorem scells_len (l : List (List UInt8)) : (scells l).length = l.length := by simp [scells]
theorem row_form {w : World} {e : TypeId} {size base n : Nat} {v : Value} {xs : List Value} (h : w.ownsRow base e size v n xs) : ∃ A c, v = .slice A n c := by
  rcases h.2 with ⟨rfl, rfl⟩ | ⟨g, cap, cur, rfl, _⟩
  · exact ⟨_, _, rfl⟩
  · exact ⟨_, _, rfl⟩
theorem own_base {w : World} {base base' : Nat} {e : TypeId} {size : Nat} {v : Value} {n : Nat} {xs : List Value} (h : w.ownsRow base e size v n xs) (hb : base' ≤ base) : w.ownsRow base' e size v n xs := by
  refine ⟨h.1, h.2.imp id ?_⟩
  rintro ⟨g, cap, cur, h1, h2, h3⟩
  exact ⟨g, cap, cur, h1, by omega, h3⟩
theorem undrew {w w' : World} {row : Option Nat} (h : w.drew.grownBy w' row) : w.grownBy w' row := ⟨h.os, h.tape, h.output, h.size, h.block⟩
theorem below_new (w : World) (o : Obj) : Below w.heap.size w (w.alloc o) := (Below.refl w.heap.size w).alloc (Nat.le_refl _) _
theorem grown_set (w : World) (t i : Nat) (v : Value) : w.grownBy (w.setCell ⟨t, i, none⟩ v) (some t) :=
  ⟨rfl, rfl, rfl, by simp, fun k hk hne => Below.heap_setCell w _ v k (fun e => hne (by rw [e]))⟩
theorem grown_below {w w' : World} (k : Below w.heap.size w w') : w.grownBy w' none := ⟨k.os, k.tape, k.output, k.size, fun j hj _ => k.block j hj⟩

/-- an entry: its key, the slice that the map holds, what the slice reads as -/
structure Ent where
  key : List UInt8
  val : Value
  items : List (List UInt8)

def hElem (v : Value) : Option (DataW Value × List MemPlace) := some (.held v, [])

theorem hElem_eq {v u : Value} {ps : List MemPlace} (h : hElem v = some (.held u, ps)) : v = u := by
  have h9 : v = u ∧ ps = [] := by simpa [hElem] using h
  exact h9.1

structure Hdr (w : World) (base b n : Nat) (es : List Ent) : Prop where
  own : ∃ D, w.ownsMap Tryz.prog 9 hElem b n D ∧ (∀ k, has D (.string k) = es.any (fun e => e.key == k)) ∧ ∀ e ∈ es, ∀ z, D.atKey (.string e.key) z = .held e.val
  nd : (es.map Ent.key).Nodup
  rows : ∀ e ∈ es, w.ownsRow base 9 1 e.val e.items.length (scells e.items)
  apart : es.Pairwise fun a c => a.val.ownBlock = none ∨ a.val.ownBlock ≠ c.val.ownBlock
  lb : b < base
  klen : ∀ e ∈ es, e.key.length ≤ 2147483648

theorem law9 : Keyed Tryz.prog 9 := string_keyed Tryz.underlying9
theorem zero29 (w : World) : (zeroValue 29).run Tryz.prog w = .ok (.slice none 0 0) w := by kernel_rfl
theorem key9 (k : List UInt8) (h : k.length ≤ 2147483648) : keyOf Tryz.prog 9 (str k) = some (.string k) := by
  have := Go.WideMaps.keyOf_string_mk (P := Tryz.prog) (k := 9) Tryz.underlying9 (s := ⟨k.toArray⟩) (by unfold maxLen; show k.toArray.size ≤ _; simp; omega)
  simpa using this
theorem strKey (k : List UInt8) : WideAt.IsKeyLit (.string k) := trivial

section
variable {w w' : World} {base b n : Nat} {es : List Ent}

theorem Hdr.lt (h : Hdr w base b n es) : b < w.heap.size := by
  obtain ⟨D, hD, _⟩ := h.own
  exact hD.lt
theorem Hdr.kept (h : Hdr w base b n es) {row : Option Nat} (g : w.grownBy w' row) (hb : some b ≠ row) (hr : ∀ e ∈ es, e.val.ownBlock = none ∨ e.val.ownBlock ≠ row) : Hdr w' base b n es where
  own := by
    obtain ⟨D, hD, h1⟩ := h.own
    exact ⟨D, hD.kept g hb, h1⟩
  nd := h.nd
  rows := fun e he => (h.rows e he).kept g (hr e he)
  apart := h.apart
  lb := h.lb
  klen := h.klen
theorem Hdr.below (h : Hdr w base b n es) (k : Below w.heap.size w w') : Hdr w' base b n es :=
  h.kept (grown_below k) (by simp) (fun e _ => by cases hv : e.val.ownBlock <;> simp)
theorem Hdr.drew (h : Hdr w base b n es) : Hdr w.drew base b n es := ⟨h.own, h.nd, h.rows, h.apart, h.lb, h.klen⟩
theorem Hdr.made (w : World) : Hdr (w.alloc (.map #[] 0)) (w.heap.size + 1) w.heap.size 0 [] where
  own := ⟨_, World.ownsMap_made w _ _ _, fun k => by simp [has], fun e he => by simp at he⟩
  nd := by simp
  rows := fun e he => by simp at he
  apart := List.Pairwise.nil
  lb := Nat.lt_succ_self _
  klen := fun e he => by simp at he
theorem Hdr.above (h : Hdr w base b n es) : ∀ e ∈ es, ∀ g, e.val.ownBlock = some g → base ≤ g ∧ g < w.heap.size := fun e he g hg => (h.rows e he).lt g hg

/-! ### a look-up -/
theorem Hdr.look (h : Hdr w base b n es) (e : Ent) (he : e ∈ es) : (Instr.lookup 78 (.map (some b)) (str e.key) false).run Tryz.prog w = .ok e.val w := by
  obtain ⟨D, hD, hh, ha⟩ := h.own
  obtain ⟨v, ps, hrun, hv⟩ := hD.lookup law9 Tryz.underlying78 (zero29 w) (zd := .held (.slice none 0 0)) (zp := []) rfl (key9 e.key (h.klen e he))
  rw [ha e he] at hv
  have : v = e.val := hElem_eq hv
  rw [hrun, this]
theorem Hdr.look_no (h : Hdr w base b n es) (k : List UInt8) (hk : k.length ≤ 2147483648) (hn : ∀ e ∈ es, e.key ≠ k) : (Instr.lookup 78 (.map (some b)) (str k) false).run Tryz.prog w = .ok (.slice none 0 0) w := by
  obtain ⟨D, hD, hh, ha⟩ := h.own
  obtain ⟨v, ps, hrun, hv⟩ := hD.lookup law9 Tryz.underlying78 (zero29 w) (zd := .held (.slice none 0 0)) (zp := []) rfl (key9 k hk)
  have hf : has D (.string k) = false := by
    rw [hh, List.any_eq_false]
    intro e he
    simpa using hn e he
  rw [atKey_of_not_has hf] at hv
  have : v = .slice none 0 0 := hElem_eq hv
  rw [hrun, this]
theorem Hdr.look_ok (h : Hdr w base b n es) (e : Ent) (he : e ∈ es) : (Instr.lookup 78 (.map (some b)) (str e.key) true).run Tryz.prog w = .ok (.tuple #[e.val, .bool true]) w := by
  obtain ⟨D, hD, hh, ha⟩ := h.own
  obtain ⟨v, ps, hrun, hv⟩ := hD.look_ok law9 Tryz.underlying78 (zero29 w) (zd := .held (.slice none 0 0)) (zp := []) rfl (key9 e.key (h.klen e he))
  rw [ha e he] at hv
  have h1 : v = e.val := hElem_eq hv
  have h2 : has D (.string e.key) = true := by
    rw [hh, List.any_eq_true]
    exact ⟨e, he, by simp⟩
  rw [hrun, h1, h2]
theorem Hdr.look_ok_no (h : Hdr w base b n es) (k : List UInt8) (hk : k.length ≤ 2147483648) (hn : ∀ e ∈ es, e.key ≠ k) : (Instr.lookup 78 (.map (some b)) (str k) true).run Tryz.prog w = .ok (.tuple #[.slice none 0 0, .bool false]) w := by
  obtain ⟨D, hD, hh, ha⟩ := h.own
  obtain ⟨v, ps, hrun, hv⟩ := hD.look_ok law9 Tryz.underlying78 (zero29 w) (zd := .held (.slice none 0 0)) (zp := []) rfl (key9 k hk)
  have hf : has D (.string k) = false := by
    rw [hh, List.any_eq_false]
    intro e he
    simpa using hn e he
  rw [atKey_of_not_has hf] at hv
  have h1 : v = .slice none 0 0 := hElem_eq hv
  rw [hrun, h1, hf]

/-! ### a store -/
def putEnt (es : List Ent) (x : Ent) : List Ent := if es.any (fun e => e.key == x.key) then es.map (fun e => if e.key = x.key then x else e) else es ++ [x]
theorem putEnt_keys_mem (es : List Ent) (x : Ent) (k : List UInt8) : (putEnt es x).any (fun e => e.key == k) = (es.any (fun e => e.key == k) || x.key == k) := by
  unfold putEnt
  split
  · rename_i hx
    rw [Bool.eq_iff_iff]
    simp only [List.any_eq_true, List.mem_map, Bool.or_eq_true, beq_iff_eq] at hx ⊢
    constructor
    · rintro ⟨e, ⟨a, ha, rfl⟩, hk⟩
      split at hk
      · exact .inr hk
      · exact .inl ⟨a, ha, hk⟩
    · rintro (⟨e, he, hk⟩ | hk)
      · by_cases hkx : e.key = x.key
        · exact ⟨x, ⟨e, he, by rw [if_pos hkx]⟩, by rw [← hkx]; exact hk⟩
        · exact ⟨e, ⟨e, he, by rw [if_neg hkx]⟩, hk⟩
      · obtain ⟨e, he, hk2⟩ := hx
        exact ⟨x, ⟨e, he, by rw [if_pos hk2]⟩, hk⟩
  · simp [List.any_append]
theorem putEnt_mem {es : List Ent} {x e : Ent} (h : e ∈ putEnt es x) : e = x ∨ (e ∈ es ∧ e.key ≠ x.key) := by
  unfold putEnt at h
  split at h
  · obtain ⟨a, ha, hh⟩ := List.mem_map.1 h
    split at hh
    · exact .inl hh.symm
    · subst hh; exact .inr ⟨ha, by assumption⟩
  · rename_i hx
    rcases List.mem_append.1 h with h | h
    · refine .inr ⟨h, fun e1 => hx ?_⟩
      rw [List.any_eq_true]
      exact ⟨e, h, by simpa using e1⟩
    · exact .inl (by simpa using h)
theorem putEnt_nd {es : List Ent} {x : Ent} (h : (es.map Ent.key).Nodup) : ((putEnt es x).map Ent.key).Nodup := by
  unfold putEnt
  split
  · have : (es.map (fun e => if e.key = x.key then x else e)).map Ent.key = es.map Ent.key := by
      rw [List.map_map]
      refine List.map_congr_left fun e he => ?_
      simp only [Function.comp]
      split
      · rename_i hh; exact hh.symm
      · rfl
    rw [this]; exact h
  · rename_i hx
    rw [List.map_append, List.nodup_append]
    refine ⟨h, by simp, fun a ha c hc e => hx ?_⟩
    obtain ⟨z, hz, rfl⟩ := List.mem_map.1 ha
    have hc : c = x.key := by simpa using hc
    rw [List.any_eq_true]
    exact ⟨z, hz, by simp [e, hc]⟩

theorem pairwise_put {es : List Ent} {x : Ent} {R : Ent → Ent → Prop} (hs : ∀ a c, R a c → R c a) (h : es.Pairwise R) (hnd : (es.map Ent.key).Nodup) (hx : ∀ e ∈ es, e.key ≠ x.key → R e x) : (putEnt es x).Pairwise R := by
  unfold putEnt
  split
  · rename_i h0
    clear h0
    induction es with
    | nil => exact List.Pairwise.nil
    | cons a es ih =>
      rw [List.map_cons]
      rw [List.map_cons, List.nodup_cons] at hnd
      rw [List.pairwise_cons] at h
      have ih' := ih h.2 hnd.2 (fun e he => hx e (List.mem_cons_of_mem _ he))
      rw [List.pairwise_cons]
      refine ⟨fun c hc => ?_, ih'⟩
      obtain ⟨z, hz, rfl⟩ := List.mem_map.1 hc
      by_cases h1 : a.key = x.key
      · rw [if_pos h1]
        have h2 : z.key ≠ x.key := fun e => hnd.1 (by rw [h1, ← e]; exact List.mem_map_of_mem hz)
        rw [if_neg h2]
        exact hs _ _ (hx z (List.mem_cons_of_mem _ hz) h2)
      · rw [if_neg h1]
        split
        · exact hx a (by simp) h1
        · exact h.1 z hz
  · rename_i hn
    refine List.pairwise_append.2 ⟨h, by simp, fun a ha c hc => ?_⟩
    obtain rfl : c = x := by simpa using hc
    refine hx a ha fun e => hn ?_
    rw [List.any_eq_true]
    exact ⟨a, ha, by simpa using e⟩

/-- A STORE, behind whatever has turned the old slice's own row (r) and new blocks alone -/
theorem Hdr.put {w1 : World} (h : Hdr w base b n es) {r : Option Nat} (g : w.grownBy w1 r) (hb : some b ≠ r) (x : Ent) (hr : ∀ e ∈ es, e.key ≠ x.key → e.val.ownBlock = none ∨ e.val.ownBlock ≠ r)
    (row : w1.ownsRow base 9 1 x.val x.items.length (scells x.items)) (loc : x.val.ownBlock = none ∨ x.val.ownBlock = r ∨ ∃ j, x.val.ownBlock = some j ∧ w.heap.size ≤ j) (hk : x.key.length ≤ 2147483648) (hn : n < 1000000) :
    ∃ w2, (Instr.mapUpdate 78 (.map (some b)) (str x.key) x.val).run Tryz.prog w1 = .ok () w2 ∧ Hdr w2 base b (n + 1) (putEnt es x) ∧ w1.grownBy w2 (some b) := by
  obtain ⟨D, hD, hh, ha⟩ := h.own
  obtain ⟨w2, hrun, hD2, hg2⟩ := (hD.kept g hb).update (val := x.val) law9 Tryz.underlying78 (by unfold maxLen; omega) (key9 x.key hk) (d := .held x.val) (ps := []) rfl
  have hne : ∀ v : Value, ∀ m xs, w1.ownsRow base 9 1 v m xs → v.ownBlock = none ∨ v.ownBlock ≠ some b := fun v m xs hv => by
    cases hvb : v.ownBlock with
    | none => exact .inl rfl
    | some j => exact .inr (fun e => by injection e with e; have := (hv.lt j hvb).1; have := h.lb; omega)
  refine ⟨w2, hrun, ⟨⟨_, hD2, fun k => ?_, fun e he z => ?_⟩, putEnt_nd h.nd, fun e he => ?_, ?_, h.lb, fun e he => ?_⟩, hg2⟩
  · rw [putEnt_keys_mem]
    by_cases e : k = x.key
    · subst e
      rw [has_put_same hD.isMap (strKey _)]
      simp
    · rw [has_put_other (by intro e2; injection e2 with e2; exact e e2), hh]
      simp [Ne.symm e]
  · rcases putEnt_mem he with rfl | ⟨he, hne⟩
    · rw [atKey_put_same hD.isMap (strKey _)]
    · rw [atKey_put_other (by intro e2; injection e2 with e2; exact hne e2), ha e he]
  · rcases putEnt_mem he with rfl | ⟨he, hne2⟩
    · exact row.kept hg2 (hne _ _ _ row)
    · have := (h.rows e he).kept g (hr e he hne2)
      exact this.kept hg2 (hne _ _ _ this)
  · refine pairwise_put ?_ h.apart h.nd ?_
    · intro a c hac
      rcases hac with hac | hac
      · cases hc : c.val.ownBlock with
        | none => exact .inl rfl
        | some j => exact .inr (by rw [hac]; simp)
      · exact .inr (Ne.symm hac)
    · intro e he hk
      rcases hr e he hk with h1 | h1
      · exact .inl h1
      · rcases loc with h2 | h2 | ⟨j, h2, h3⟩
        · cases hv : e.val.ownBlock with
          | none => exact .inl rfl
          | some i => exact .inr (by rw [h2]; simp)
        · exact .inr (by rw [h2]; exact h1)
        · cases hv : e.val.ownBlock with
          | none => exact .inl rfl
          | some i => exact .inr (by rw [h2]; intro e2; injection e2 with e2; have := (h.rows e he).lt i hv; omega)
  · rcases putEnt_mem he with rfl | ⟨he, _⟩
    · exact hk
    · exact h.klen e he
end

abbrev BS := List UInt8
def absE (es : List Ent) : List (BS × List BS) := es.map fun e => (e.key, e.items)
def putH (l : List (BS × List BS)) (k : BS) (vs : List BS) : List (BS × List BS) := if l.any (fun p => p.1 == k) then l.map (fun p => if p.1 = k then (k, vs) else p) else l ++ [(k, vs)]
def getH (l : List (BS × List BS)) (k : BS) : List BS := ((l.find? fun p => p.1 == k).map Prod.snd).getD []
def addH (l : List (BS × List BS)) (k v : BS) : List (BS × List BS) := putH l k (getH l k ++ [v])

theorem absE_put (es : List Ent) (x : Ent) : absE (putEnt es x) = putH (absE es) x.key x.items := by
  unfold putEnt putH absE
  have : (es.map fun e => (e.key, e.items)).any (fun p => p.1 == x.key) = es.any fun e => e.key == x.key := by rw [List.any_map]; rfl
  rw [this]
  split
  · rw [List.map_map, List.map_map]
    refine List.map_congr_left fun e he => ?_
    simp only [Function.comp]
    split <;> rfl
  · simp

/-- the slice at a key, whether it is there or not -/
structure Slot (w : World) (base b : Nat) (es : List Ent) (k : BS) (v : Value) (items : List BS) : Prop where
  row : w.ownsRow base 9 1 v items.length (scells items)
  ne : some b ≠ v.ownBlock
  other : ∀ e ∈ es, e.key ≠ k → e.val.ownBlock = none ∨ e.val.ownBlock ≠ v.ownBlock
  get : getH (absE es) k = items
  src : items = [] ∨ ∃ e ∈ es, items = e.items

theorem getH_mem {es : List Ent} (hnd : (es.map Ent.key).Nodup) {e : Ent} (he : e ∈ es) : getH (absE es) e.key = e.items := by
  induction es with
  | nil => simp at he
  | cons a es ih =>
    rw [List.map_cons, List.nodup_cons] at hnd
    unfold getH absE
    rw [List.map_cons, List.find?_cons]
    by_cases h : a.key = e.key
    · rcases List.mem_cons.1 he with rfl | he
      · simp
      · exact absurd (h ▸ List.mem_map_of_mem he) hnd.1
    · have : (a.key == e.key) = false := by simpa using h
      rw [this]
      rcases List.mem_cons.1 he with rfl | he
      · exact absurd rfl h
      · exact ih hnd.2 he
theorem getH_none {es : List Ent} {k : BS} (h : ∀ e ∈ es, e.key ≠ k) : getH (absE es) k = [] := by
  unfold getH absE
  rw [List.find?_eq_none.2]
  · rfl
  · intro p hp
    obtain ⟨e, he, rfl⟩ := List.mem_map.1 hp
    simpa using h e he
section
variable {w w' : World} {base b n : Nat} {es : List Ent}
theorem Hdr.slot (h : Hdr w base b n es) (k : BS) (hk : k.length ≤ 2147483648) : ∃ A c items, (Instr.lookup 78 (.map (some b)) (str k) false).run Tryz.prog w = .ok (.slice A items.length c) w ∧ Slot w base b es k (.slice A items.length c) items := by
  by_cases hx : ∃ e ∈ es, e.key = k
  · obtain ⟨e, he, rfl⟩ := hx
    have hr := h.rows e he
    obtain ⟨A, c, hv⟩ := row_form hr
    refine ⟨A, c, e.items, by rw [← hv]; exact h.look e he, ?_⟩
    rw [← hv]
    refine ⟨hr, fun hb => ?_, fun e' he' hne => ?_, getH_mem h.nd he, .inr ⟨e, he, rfl⟩⟩
    · have := (h.above e he b hb.symm).1
      have := h.lb
      omega
    · have hp := h.apart
      rw [List.pairwise_iff_forall_sublist] at hp
      have hee : e' ≠ e := fun h => hne (by rw [h])
      rcases pair_sublist he' he hee with hs | hs
      · exact hp hs
      · rcases hp hs with h1 | h1
        · cases hv' : e'.val.ownBlock with
          | none => exact .inl rfl
          | some i => exact .inr (by rw [h1]; simp)
        · exact .inr (Ne.symm h1)
  · have hn : ∀ e ∈ es, e.key ≠ k := fun e he hk => hx ⟨e, he, hk⟩
    refine ⟨none, 0, [], h.look_no k hk hn, ⟨World.ownsRow_nil _ _ _ _, by simp [Value.ownBlock], fun e _ _ => ?_, getH_none hn, .inl rfl⟩⟩
    cases hv : e.val.ownBlock with
    | none => exact .inl rfl
    | some i => exact .inr (by simp [Value.ownBlock])
where
  pair_sublist {es : List Ent} {a c : Ent} (ha : a ∈ es) (hc : c ∈ es) (hne : a ≠ c) : [a, c].Sublist es ∨ [c, a].Sublist es := by
    induction es with
    | nil => simp at ha
    | cons x es ih =>
      rcases List.mem_cons.1 ha with rfl | ha'
      · rcases List.mem_cons.1 hc with rfl | hc
        · exact absurd rfl hne
        · exact .inl (List.Sublist.cons_cons _ (List.singleton_sublist.2 hc))
      · rcases List.mem_cons.1 hc with rfl | hc
        · exact .inr (List.Sublist.cons_cons _ (List.singleton_sublist.2 ha'))
        · exact (ih ha' hc).imp (List.Sublist.cons _) (List.Sublist.cons _)
end
theorem info9 : (Tryz.prog.info? 9).map (fun i => (i.zero, i.size, i.bytes)) = some (some (.string ⟨#[]⟩), 1, 16) := by kernel_rfl

theorem cells_new (w : World) (cs : List Value) (t : TypeId) : ∀ j u, cs[j]? = some u → (w.alloc (.cells cs.toArray t)).cell? ((⟨w.heap.size, 0, none⟩ : Addr).add j) = some u := by
  intro j u hj
  rw [Addr.add_lit, Nat.zero_add]
  rw [cell_of_row _ w.heap.size j cs.toArray t (0, 0) (heap_alloc_new w _)]
  simpa using hj

def AddPost (w : World) (base b n : Nat) (es : List Ent) (k v : BS) (e : Ending) (w' : World) : Prop :=
  ∃ es', e = .returned (.tuple #[]) ∧ Hdr w' base b (n + 1) es' ∧ absE es' = addH (absE es) k v ∧ Below b w w'

set_option maxHeartbeats 4000000 in
theorem add_at (key value : BS) (base b n : Nat) (es : List Ent) (w : World) (h : Hdr w base b n es) (hk : key.length ≤ 2147483648) (hn : n < 1000000) (hlen : ∀ e ∈ es, e.items.length ≤ 1000000) (hbase : base ≤ w.heap.size) :
    Calls Tryz.prog 71 #[.map (some b), str key, str value] w (AddPost w base b n es (canonL key) value) := by
  have HH := Lib.hid h
  have KC := canon_at ⟨key.toArray⟩ w (by show key.toArray.size ≤ _; simpa using hk)
  have hlt := h.lt
  clear h
  obtain ⟨i9, hi9, hz0, hz1, hz2⟩ := info_parts info9
  go_enter Tryz.func71, Tryz.ntmps71
  go_wp2_with fail
  refine KC.mono ?_
  rintro e w1 ⟨rfl, hb1⟩
  have HH1 := Lib.hid (HH.out.below hb1)
  have HB1 := Lib.hid hb1
  obtain ⟨A, c, items, hrun, hslot⟩ := HH1.out.slot (canonL key) (by rw [canonL_len]; exact hk)
  have HS := Lib.hid hslot
  have hil : items.length ≤ 1000000 := by
    rcases hslot.src with h | ⟨e, he, h⟩
    · rw [h]; simp
    · rw [h]; exact hlen e he
  clear hlen
  have hrow := hslot.row.alloc (.cells #[str value] 9)
  clear hb1 hslot
  go_wp2_with (at_builtin; refine wpList_append_own_at _ rfl (.tmp 12) (.tmp 14) 29 rfl base 9 i9 (.string ⟨#[]⟩) 1 16 Tryz.underlying29 hi9 hz0 hz1 hz2 rfl (by decide) _ items.length (scells items) rfl hrow ⟨w1.heap.size, 0, none⟩ 1 1 [str value] rfl rfl ?c1 ?c2 ?c3 ?c4 ?c5 ?_)
  case c1 => exact cells_new w1 [str value] 9
  case c2 => intro u hu; rw [List.mem_singleton] at hu; rw [hu]; rfl
  case c3 => unfold maxLen; omega
  case c4 => omega
  case c5 => have := HB1.out.size; simp; omega
  intro v9 w9 hown9 hg9 _ hat9
  have hg : w1.grownBy w9 (Value.slice A items.length c).ownBlock := (World.grownBy_alloc w1 _ _).trans hg9
  have hsc : scells items ++ [str value] = scells (items ++ [value]) := by simp [scells]
  have hle : items.length + 1 = (items ++ [value]).length := by simp
  rw [hsc, hle] at hown9
  obtain ⟨w2, hrun2, hH2, hg2⟩ := HH1.out.put hg HS.out.ne ⟨canonL key, v9, items ++ [value]⟩ HS.out.other hown9 (by
    rcases hat9 with h | h
    · exact .inr (.inl h)
    · exact .inr (.inr ⟨_, h, by simp⟩)) (by rw [canonL_len]; exact hk) hn
  have HH2 := Lib.hid hH2
  have hb2 : Below b w w2 := by
    have hlb := HH.out.lb
    refine ((HB1.out.mono (Nat.le_of_lt hlt)).grown hg (by have := HB1.out.size; omega) (fun k hk => ?_)).grown hg2 (by have := HB1.out.size; have := hg.size; omega) (fun k hk => by injection hk with hk; omega)
    have := (HS.out.row.lt k hk).1
    omega
  have HB2 := Lib.hid hb2
  have HSG := Lib.hid HS.out.get
  simp only at hrun2
  clear hH2 hb2 hown9 hg9 hat9 hg hg2 hrow hrun hsc hle HS
  go_wp2_with fail
  go_end0
  exact ⟨_, rfl, HH2.out, by rw [absE_put, addH, HSG.out], HB2.out⟩
end Go.Proofs.YtgcfnhchmmkndaaGreatDoor
