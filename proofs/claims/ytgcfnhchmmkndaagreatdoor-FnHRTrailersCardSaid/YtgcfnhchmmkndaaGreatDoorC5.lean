/- Header.Add, Set, Get and delete, with what stays of the blocks ahead. -/
import Derived.Test.YtgcfnhchmmkndaaGreatDoorC4
namespace Go.Proofs.YtgcfnhchmmkndaaGreatDoor
open Go.RowKit Go.Maps
set_option linter.unusedVariables false
set_option maxRecDepth 100000

/-- the blocks below base are as they were, but for block b -/
structure Off (base b : Nat) (w w' : World) : Prop where
  os : w'.os = w.os
  tape : w'.tape = w.tape
  output : w'.output = w.output
  size : w.heap.size ≤ w'.heap.size
  block : ∀ j, j < base → j ≠ b → w'.heap[j]? = w.heap[j]?
theorem Off.refl (base b : Nat) (w : World) : Off base b w w := ⟨rfl, rfl, rfl, Nat.le_refl _, fun _ _ _ => rfl⟩
theorem Off.trans {base b : Nat} {w w' w'' : World} (h : Off base b w w') (k : Off base b w' w'') : Off base b w w'' :=
  ⟨k.os.trans h.os, k.tape.trans h.tape, k.output.trans h.output, Nat.le_trans h.size k.size, fun j hj hne => (k.block j hj hne).trans (h.block j hj hne)⟩
theorem Off.of_below {base b : Nat} {w w' : World} (k : Below w.heap.size w w') (hb : base ≤ w.heap.size) : Off base b w w' := ⟨k.os, k.tape, k.output, k.size, fun j hj _ => k.block j (by omega)⟩
theorem Off.of_grown {base b : Nat} {w w' : World} {r : Option Nat} (g : w.grownBy w' r) (hr : ∀ g, r = some g → base ≤ g) (hb : base ≤ w.heap.size) : Off base b w w' :=
  ⟨g.os, g.tape, g.output, g.size, fun j hj _ => g.block j (by omega) (fun e => by have := hr j e.symm; omega)⟩
theorem Off.of_map {base b : Nat} {w w' : World} (g : w.grownBy w' (some b)) (hb : base ≤ w.heap.size) : Off base b w w' :=
  ⟨g.os, g.tape, g.output, g.size, fun j hj hne => g.block j (by omega) (fun e => hne (by injection e))⟩
theorem Off.grown {base b : Nat} {w w' w'' : World} {r : Option Nat} (h : Off base b w w') (g : w'.grownBy w'' r) (hr : ∀ g, r = some g → base ≤ g) (hb : base ≤ w'.heap.size) : Off base b w w'' := h.trans (Off.of_grown g hr hb)
theorem Off.map {base b : Nat} {w w' w'' : World} (h : Off base b w w') (g : w'.grownBy w'' (some b)) (hb : base ≤ w'.heap.size) : Off base b w w'' := h.trans (Off.of_map g hb)
theorem Off.cell {base b : Nat} {w w' : World} (h : Off base b w w') {p : Addr} (hp : p.block < base) (hne : p.block ≠ b) : w'.cell? p = w.cell? p := World.cell?_of_block (h.block _ hp hne)
theorem Off.frozen {base b : Nat} {w w' : World} (h : Off base b w w') {p : Addr} (hp : p.block < base) (hne : p.block ≠ b) : w'.frozen? p = w.frozen? p := World.frozen?_of_block (h.block _ hp hne)

def AddPost2 (w : World) (base b n : Nat) (es : List Ent) (k v : BS) (e : Ending) (w' : World) : Prop :=
  ∃ es', e = .returned (.tuple #[]) ∧ Hdr w' base b (n + 1) es' ∧ absE es' = addH (absE es) k v ∧ Off base b w w'

set_option maxHeartbeats 4000000 in
theorem add_at2 (key value : BS) (base b n : Nat) (es : List Ent) (w : World) (h : Hdr w base b n es) (hk : key.length ≤ 2147483648) (hn : n < 1000000) (hlen : ∀ e ∈ es, e.items.length ≤ 1000000) (hbase : base ≤ w.heap.size) :
    Calls Tryz.prog 71 #[.map (some b), str key, str value] w (AddPost2 w base b n es (canonL key) value) := by
  have HH := Lib.hid h
  have KC := canon_at ⟨key.toArray⟩ w (by show key.toArray.size ≤ _; simpa using hk)
  have hlt := h.lt
  clear h
  obtain ⟨i9, hi9, hz0, hz1, hz2⟩ := info_parts info9
  go_enter Tryz.func71, Tryz.ntmps71
  go_wp2_with fail
  refine KC.mono ?_
  rintro e w1 ⟨rfl, hb1⟩
  have HH1 := Lib.hid (HH.out.below hb1)
  have HB1 := Lib.hid hb1
  obtain ⟨A, c, items, hrun, hslot⟩ := HH1.out.slot (canonL key) (by rw [canonL_len]; exact hk)
  have HS := Lib.hid hslot
  have hil : items.length ≤ 1000000 := by
    rcases hslot.src with h | ⟨e, he, h⟩
    · rw [h]; simp
    · rw [h]; exact hlen e he
  clear hlen
  have hrow := hslot.row.alloc (.cells #[str value] 9)
  clear hb1 hslot
  go_wp2_with (at_builtin; refine wpList_append_own_at _ rfl (.tmp 12) (.tmp 14) 29 rfl base 9 i9 (.string ⟨#[]⟩) 1 16 Tryz.underlying29 hi9 hz0 hz1 hz2 rfl (by decide) _ items.length (scells items) rfl hrow ⟨w1.heap.size, 0, none⟩ 1 1 [str value] rfl rfl ?c1 ?c2 ?c3 ?c4 ?c5 ?_)
  case c1 => exact cells_new w1 [str value] 9
  case c2 => intro u hu; rw [List.mem_singleton] at hu; rw [hu]; rfl
  case c3 => unfold maxLen; omega
  case c4 => omega
  case c5 => have := HB1.out.size; simp; omega
  intro v9 w9 hown9 hg9 _ hat9
  have hg : w1.grownBy w9 (Value.slice A items.length c).ownBlock := (World.grownBy_alloc w1 _ _).trans hg9
  have hsc : scells items ++ [str value] = scells (items ++ [value]) := by simp [scells]
  have hle : items.length + 1 = (items ++ [value]).length := by simp
  rw [hsc, hle] at hown9
  obtain ⟨w2, hrun2, hH2, hg2⟩ := HH1.out.put hg HS.out.ne ⟨canonL key, v9, items ++ [value]⟩ HS.out.other hown9 (by
    rcases hat9 with h | h
    · exact .inr (.inl h)
    · exact .inr (.inr ⟨_, h, by simp⟩)) (by rw [canonL_len]; exact hk) hn
  have HH2 := Lib.hid hH2
  have hb2 : Off base b w w2 := ((Off.of_below HB1.out hbase).grown hg (fun k hk => (HS.out.row.lt k hk).1) (by have := HB1.out.size; omega)).map hg2 (by have := HB1.out.size; have := hg.size; omega)
  have HB2 := Lib.hid hb2
  have HSG := Lib.hid HS.out.get
  simp only at hrun2
  clear hH2 hb2 hown9 hg9 hat9 hg hg2 hrow hrun hsc hle HS
  go_wp2_with fail
  go_end0
  exact ⟨_, rfl, HH2.out, by rw [absE_put, addH, HSG.out], HB2.out⟩

def SetPost (w : World) (base b n : Nat) (es : List Ent) (k v : BS) (e : Ending) (w' : World) : Prop :=
  ∃ es', e = .returned (.tuple #[]) ∧ Hdr w' base b (n + 1) es' ∧ absE es' = putH (absE es) k [v] ∧ Off base b w w'

theorem row_one (w : World) (v : BS) (base : Nat) (hb : base ≤ w.heap.size) : (w.alloc (.cells #[str v] 9)).ownsRow base 9 1 (.slice (some ⟨w.heap.size, 0, none⟩) 1 1) [v].length (scells [v]) :=
  ⟨rfl, .inr ⟨w.heap.size, 1, #[str v], rfl, hb, by unfold World.alloc; exact Array.getElem?_push_size, Nat.le_refl _, by unfold maxLen; omega, rfl, rfl⟩⟩

set_option maxHeartbeats 4000000 in
theorem set_at (key value : BS) (base b n : Nat) (es : List Ent) (w : World) (h : Hdr w base b n es) (hk : key.length ≤ 2147483648) (hn : n < 1000000) (hbase : base ≤ w.heap.size) :
    Calls Tryz.prog 61 #[.map (some b), str key, str value] w (SetPost w base b n es (canonL key) value) := by
  have KC := canon_at' key w hk
  have HH := Lib.hid h
  clear h
  go_enter Tryz.func61, Tryz.ntmps61
  go_wp2_with fail
  refine KC.mono ?_
  rintro e w1 ⟨rfl, hb1⟩
  have HH1 := HH.out.below hb1
  have hs1 := hb1.size
  have g := World.grownBy_alloc w1 (.cells #[str value] 9) none
  obtain ⟨w2, hrun2, hH2, hg2⟩ := HH1.put g (by simp) ⟨canonL key, .slice (some ⟨w1.heap.size, 0, none⟩) 1 1, [value]⟩ (fun e _ _ => by cases hv : e.val.ownBlock <;> simp) (row_one w1 value base (by omega)) (.inr (.inr ⟨w1.heap.size, rfl, Nat.le_refl _⟩)) (by rw [canonL_len]; exact hk) hn
  have HP : Hid (SetPost w base b n es (canonL key) value (.returned (.tuple #[])) w2) := Lib.hid ⟨_, rfl, hH2, absE_put _ _, (Off.of_below (Below.alloc hb1 hs1 (.cells #[str value] 9)) hbase).map hg2 (by simp; omega)⟩
  simp only at hrun2
  clear hH2 hg2 g HH1 HH KC hb1
  go_wp2_with fail
  go_end0
  exact HP.out

set_option maxHeartbeats 4000000 in
theorem get_at (key : BS) (base b n : Nat) (es : List Ent) (w : World) (h : Hdr w base b n es) (hk : key.length ≤ 2147483648) :
    Calls Tryz.prog 59 #[.map (some b), str key] w fun e w' => e = .returned (str ((getH (absE es) (canonL key)).headD [])) ∧ Below w.heap.size w w' := by
  have KC := canon_at' key w hk
  have HH := Lib.hid h
  clear h
  go_enter Tryz.func59, Tryz.ntmps59
  go_wp2_with fail
  refine KC.mono ?_
  rintro e w1 ⟨rfl, hb1⟩
  obtain ⟨A, c, items, hrun, hslot⟩ := (HH.out.below hb1).slot (canonL key) (by rw [canonL_len]; exact hk)
  have HG := Lib.hid hslot.get
  cases items with
  | nil =>
    have HB := Lib.hid hb1
    clear hslot hb1
    go_wp2_with fail
    go_ret
    exact ⟨by rw [HG.out]; rfl, HB.out⟩
  | cons x t =>
    obtain ⟨b1, o1, rfl, _, _, g1⟩ := reads_strs (Reads.of_own hslot.row) (by simp)
    have e0 := g1 0 (by simp)
    have HB := Lib.hid hb1
    have hpos : (0 : Int) < ((x :: t).length : Int) := by simp
    simp only [List.getElem_cons_zero, Nat.add_zero] at e0
    clear hslot hb1 g1
    go_wp2_with fail
    go_ret
    exact ⟨by rw [HG.out]; rfl, HB.out⟩

def delH (l : List (BS × List BS)) (k : BS) : List (BS × List BS) := l.filter fun p => p.1 != k
theorem Hdr.del {w : World} {base b n : Nat} {es : List Ent} (h : Hdr w base b n es) (k : BS) (hk : k.length ≤ 2147483648) (ty : TypeId) :
    ∃ w', (Builtin.delete_ #[78, 9] ty #[.map (some b), str k]).run Tryz.prog w = .ok (.tuple #[]) w' ∧ Hdr w' base b n (es.filter fun e => e.key != k) ∧ w.grownBy w' (some b) := by
  obtain ⟨D, hD, hh, ha⟩ := h.own
  obtain ⟨w', hrun, hD', ht⟩ := hD.drop law9 Tryz.underlying78 (key9 k hk) ty
  have g := ht.grown
  refine ⟨w', hrun, ⟨⟨_, hD', fun q => ?_, fun e he z => ?_⟩, ?_, fun e he => ?_, h.apart.filter _, h.lb, fun e he => h.klen e (List.mem_filter.1 he).1⟩, g⟩
  · by_cases e : q = k
    · subst e
      rw [has_del_same]
      symm
      rw [List.any_eq_false]
      intro e he
      simpa using (List.mem_filter.1 he).2
    · rw [has_del_other (by intro e2; injection e2 with e2; exact e e2), hh, Bool.eq_iff_iff]
      simp only [List.any_eq_true, List.mem_filter, beq_iff_eq, bne_iff_ne]
      constructor
      · rintro ⟨x, hx, rfl⟩; exact ⟨x, ⟨hx, e⟩, rfl⟩
      · rintro ⟨x, ⟨hx, _⟩, rfl⟩; exact ⟨x, hx, rfl⟩
  · have hm := List.mem_filter.1 he
    rw [atKey_del_other (by intro e2; injection e2 with e2; simpa [e2] using hm.2)]
    exact ha e hm.1 z
  · exact (h.nd.sublist ((List.filter_sublist).map _))
  · have hm := List.mem_filter.1 he
    have hr := h.rows e hm.1
    refine hr.kept g ?_
    cases hv : e.val.ownBlock with
    | none => exact .inl rfl
    | some j => exact .inr (fun e2 => by injection e2 with e2; have := (hr.lt j hv).1; have := h.lb; omega)
theorem absE_del (es : List Ent) (k : BS) : absE (es.filter fun e => e.key != k) = delH (absE es) k := by
  unfold absE delH
  rw [List.filter_map]
  rfl
end Go.Proofs.YtgcfnhchmmkndaaGreatDoor
