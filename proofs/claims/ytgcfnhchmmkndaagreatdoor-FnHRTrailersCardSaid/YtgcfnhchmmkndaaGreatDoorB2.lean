/- (http.Header).Add. -/
import Derived.Test.YtgcfnhchmmkndaaGreatDoorB1
namespace Go.Proofs.YtgcfnhchmmkndaaGreatDoor
open Go.RowKit Go.Maps
set_option linter.unusedVariables false
set_option maxRecDepth 100000

abbrev BS := List UInt8
def absE (es : List Ent) : List (BS × List BS) := es.map fun e => (e.key, e.items)
def putH (l : List (BS × List BS)) (k : BS) (vs : List BS) : List (BS × List BS) := if l.any (fun p => p.1 == k) then l.map (fun p => if p.1 = k then (k, vs) else p) else l ++ [(k, vs)]
def getH (l : List (BS × List BS)) (k : BS) : List BS := ((l.find? fun p => p.1 == k).map Prod.snd).getD []
def addH (l : List (BS × List BS)) (k v : BS) : List (BS × List BS) := putH l k (getH l k ++ [v])

theorem absE_put (es : List Ent) (x : Ent) : absE (putEnt es x) = putH (absE es) x.key x.items := by
  unfold putEnt putH absE
  have : (es.map fun e => (e.key, e.items)).any (fun p => p.1 == x.key) = es.any fun e => e.key == x.key := by rw [List.any_map]; rfl
  rw [this]
  split
  · rw [List.map_map, List.map_map]
    refine List.map_congr_left fun e he => ?_
    simp only [Function.comp]
    split <;> rfl
  · simp

/-- the slice at a key, whether it is there or not -/
structure Slot (w : World) (base b : Nat) (es : List Ent) (k : BS) (v : Value) (items : List BS) : Prop where
  row : w.ownsRow base 9 1 v items.length (scells items)
  ne : some b ≠ v.ownBlock
  other : ∀ e ∈ es, e.key ≠ k → e.val.ownBlock = none ∨ e.val.ownBlock ≠ v.ownBlock
  get : getH (absE es) k = items
  src : items = [] ∨ ∃ e ∈ es, items = e.items

theorem getH_mem {es : List Ent} (hnd : (es.map Ent.key).Nodup) {e : Ent} (he : e ∈ es) : getH (absE es) e.key = e.items := by
  induction es with
  | nil => simp at he
  | cons a es ih =>
    rw [List.map_cons, List.nodup_cons] at hnd
    unfold getH absE
    rw [List.map_cons, List.find?_cons]
    by_cases h : a.key = e.key
    · rcases List.mem_cons.1 he with rfl | he
      · simp
      · exact absurd (h ▸ List.mem_map_of_mem he) hnd.1
    · have : (a.key == e.key) = false := by simpa using h
      rw [this]
      rcases List.mem_cons.1 he with rfl | he
      · exact absurd rfl h
      · exact ih hnd.2 he
theorem getH_none {es : List Ent} {k : BS} (h : ∀ e ∈ es, e.key ≠ k) : getH (absE es) k = [] := by
  unfold getH absE
  rw [List.find?_eq_none.2]
  · rfl
  · intro p hp
    obtain ⟨e, he, rfl⟩ := List.mem_map.1 hp
    simpa using h e he
section
variable {w w' : World} {base b n : Nat} {es : List Ent}
theorem Hdr.slot (h : Hdr w base b n es) (k : BS) (hk : k.length ≤ 2147483648) : ∃ A c items, (Instr.lookup 78 (.map (some b)) (str k) false).run Tryz.prog w = .ok (.slice A items.length c) w ∧ Slot w base b es k (.slice A items.length c) items := by
  by_cases hx : ∃ e ∈ es, e.key = k
  · obtain ⟨e, he, rfl⟩ := hx
    have hr := h.rows e he
    obtain ⟨A, c, hv⟩ := row_form hr
    refine ⟨A, c, e.items, by rw [← hv]; exact h.look e he, ?_⟩
    rw [← hv]
    refine ⟨hr, fun hb => ?_, fun e' he' hne => ?_, getH_mem h.nd he, .inr ⟨e, he, rfl⟩⟩
    · have := (h.above e he b hb.symm).1
      have := h.lb
      omega
    · have hp := h.apart
      rw [List.pairwise_iff_forall_sublist] at hp
      have hee : e' ≠ e := fun h => hne (by rw [h])
      rcases pair_sublist he' he hee with hs | hs
      · exact hp hs
      · rcases hp hs with h1 | h1
        · cases hv' : e'.val.ownBlock with
          | none => exact .inl rfl
          | some i => exact .inr (by rw [h1]; simp)
        · exact .inr (Ne.symm h1)
  · have hn : ∀ e ∈ es, e.key ≠ k := fun e he hk => hx ⟨e, he, hk⟩
    refine ⟨none, 0, [], h.look_no k hk hn, ⟨World.ownsRow_nil _ _ _ _, by simp [Value.ownBlock], fun e _ _ => ?_, getH_none hn, .inl rfl⟩⟩
    cases hv : e.val.ownBlock with
    | none => exact .inl rfl
    | some i => exact .inr (by simp [Value.ownBlock])
where
  pair_sublist {es : List Ent} {a c : Ent} (ha : a ∈ es) (hc : c ∈ es) (hne : a ≠ c) : [a, c].Sublist es ∨ [c, a].Sublist es := by
    induction es with
    | nil => simp at ha
    | cons x es ih =>
      rcases List.mem_cons.1 ha with rfl | ha'
      · rcases List.mem_cons.1 hc with rfl | hc
        · exact absurd rfl hne
        · exact .inl (List.Sublist.cons_cons _ (List.singleton_sublist.2 hc))
      · rcases List.mem_cons.1 hc with rfl | hc
        · exact .inr (List.Sublist.cons_cons _ (List.singleton_sublist.2 ha'))
        · exact (ih ha' hc).imp (List.Sublist.cons _) (List.Sublist.cons _)
end
theorem info9 : (Tryz.prog.info? 9).map (fun i => (i.zero, i.size, i.bytes)) = some (some (.string ⟨#[]⟩), 1, 16) := by kernel_rfl

theorem cells_new (w : World) (cs : List Value) (t : TypeId) : ∀ j u, cs[j]? = some u → (w.alloc (.cells cs.toArray t)).cell? ((⟨w.heap.size, 0, none⟩ : Addr).add j) = some u := by
  intro j u hj
  rw [Addr.add_lit, Nat.zero_add]
  rw [cell_of_row _ w.heap.size j cs.toArray t (0, 0) (heap_alloc_new w _)]
  simpa using hj

def AddPost (w : World) (base b n : Nat) (es : List Ent) (k v : BS) (e : Ending) (w' : World) : Prop :=
  ∃ es', e = .returned (.tuple #[]) ∧ Hdr w' base b (n + 1) es' ∧ absE es' = addH (absE es) k v ∧ Below b w w'

set_option maxHeartbeats 4000000 in
theorem add_at (key value : BS) (base b n : Nat) (es : List Ent) (w : World) (h : Hdr w base b n es) (hk : key.length ≤ 2147483648) (hn : n < 1000000) (hlen : ∀ e ∈ es, e.items.length ≤ 1000000) (hbase : base ≤ w.heap.size) :
    Calls Tryz.prog 71 #[.map (some b), str key, str value] w (AddPost w base b n es (canonL key) value) := by
  have HH := Lib.hid h
  have KC := canon_at ⟨key.toArray⟩ w (by show key.toArray.size ≤ _; simpa using hk)
  have hlt := h.lt
  clear h
  obtain ⟨i9, hi9, hz0, hz1, hz2⟩ := info_parts info9
  go_enter Tryz.func71, Tryz.ntmps71
  go_wp2_with fail
  refine KC.mono ?_
  rintro e w1 ⟨rfl, hb1⟩
  have HH1 := Lib.hid (HH.out.below hb1)
  have HB1 := Lib.hid hb1
  obtain ⟨A, c, items, hrun, hslot⟩ := HH1.out.slot (canonL key) (by rw [canonL_len]; exact hk)
  have HS := Lib.hid hslot
  have hil : items.length ≤ 1000000 := by
    rcases hslot.src with h | ⟨e, he, h⟩
    · rw [h]; simp
    · rw [h]; exact hlen e he
  clear hlen
  have hrow := hslot.row.alloc (.cells #[str value] 9)
  clear hb1 hslot
  go_wp2_with (at_builtin; refine wpList_append_own_at _ rfl (.tmp 12) (.tmp 14) 29 rfl base 9 i9 (.string ⟨#[]⟩) 1 16 Tryz.underlying29 hi9 hz0 hz1 hz2 rfl (by decide) _ items.length (scells items) rfl hrow ⟨w1.heap.size, 0, none⟩ 1 1 [str value] rfl rfl ?c1 ?c2 ?c3 ?c4 ?c5 ?_)
  case c1 => exact cells_new w1 [str value] 9
  case c2 => intro u hu; rw [List.mem_singleton] at hu; rw [hu]; rfl
  case c3 => unfold maxLen; omega
  case c4 => omega
  case c5 => have := HB1.out.size; simp; omega
  intro v9 w9 hown9 hg9 _ hat9
  have hg : w1.grownBy w9 (Value.slice A items.length c).ownBlock := (World.grownBy_alloc w1 _ _).trans hg9
  have hsc : scells items ++ [str value] = scells (items ++ [value]) := by simp [scells]
  have hle : items.length + 1 = (items ++ [value]).length := by simp
  rw [hsc, hle] at hown9
  obtain ⟨w2, hrun2, hH2, hg2⟩ := HH1.out.put hg HS.out.ne ⟨canonL key, v9, items ++ [value]⟩ HS.out.other hown9 (by
    rcases hat9 with h | h
    · exact .inr (.inl h)
    · exact .inr (.inr ⟨_, h, by simp⟩)) (by rw [canonL_len]; exact hk) hn
  have HH2 := Lib.hid hH2
  have hb2 : Below b w w2 := by
    have hlb := HH.out.lb
    refine ((HB1.out.mono (Nat.le_of_lt hlt)).grown hg (by have := HB1.out.size; omega) (fun k hk => ?_)).grown hg2 (by have := HB1.out.size; have := hg.size; omega) (fun k hk => by injection hk with hk; omega)
    have := (HS.out.row.lt k hk).1
    omega
  have HB2 := Lib.hid hb2
  have HSG := Lib.hid HS.out.get
  simp only at hrun2
  clear hH2 hb2 hown9 hg9 hat9 hg hg2 hrow hrun hsc hle HS
  go_wp2_with fail
  go_end0
  exact ⟨_, rfl, HH2.out, by rw [absE_put, addH, HSG.out], HB2.out⟩
end Go.Proofs.YtgcfnhchmmkndaaGreatDoor
