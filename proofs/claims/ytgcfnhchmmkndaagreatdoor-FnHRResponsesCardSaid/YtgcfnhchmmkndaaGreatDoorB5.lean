/- sort.Strings; (http.Header).Names. -/
import Derived.Test.YtgcfnhchmmkndaaGreatDoorB3
import Derived.Handy
import Derived.Deep.RegionLaw
namespace Go.Proofs.YtgcfnhchmmkndaaGreatDoor
open Go.RowKit Go.Maps
set_option linter.unusedVariables false
set_option maxRecDepth 100000

abbrev encS : BS → Value := fun l => str l
def sortK (ks : List BS) : List BS := ks.mergeSort fun x y => decide (x ≤ y)
theorem sortK_perm (ks : List BS) : (sortK ks).Perm ks := List.mergeSort_perm ks _
theorem sortK_sorted (ks : List BS) : (sortK ks).Pairwise (fun x y => x ≤ y) := by
  have := List.pairwise_mergeSort (le := fun x y : List UInt8 => decide (x ≤ y)) (fun a b c h1 h2 => by simp at *; exact List.le_trans h1 h2) (fun a b => by simp; exact List.le_total a b) ks
  simpa [sortK] using this
theorem sortK_of_perm {ks gs : List BS} (h : ks.Perm gs) : sortK ks = sortK gs := by
  refine List.Perm.eq_of_pairwise (le := fun x y => x ≤ y) (fun a b _ _ h1 h2 => List.le_antisymm h1 h2) (sortK_sorted _) (sortK_sorted _) ?_
  exact ((sortK_perm ks).trans h).trans (sortK_perm gs).symm
theorem sortK_len (ks : List BS) : (sortK ks).length = ks.length := (sortK_perm ks).length_eq

theorem add_plain (g j : Nat) : (⟨g, 0, none⟩ : Addr).add j = ⟨g, j, none⟩ := by
  unfold Addr.add
  split
  · next e => rw [e]
  · simp

theorem sort_any (A : Option Addr) (c base : Nat) (ds : List BS) (w : World) (hown : w.ownsRow base 9 1 (.slice A ds.length c) ds.length (scells ds)) (hl : ds.length ≤ 1000000) :
    Calls Tryz.prog 54 #[.slice A ds.length c] w fun e w' => e = .returned (.tuple #[]) ∧ w.grownBy w' (Value.slice A ds.length c).ownBlock ∧ Reads w' w'.heap.size 1 A ds.length (scells (sortK ds)) := by
  rcases Nat.eq_zero_or_pos ds.length with h0 | hp
  · obtain rfl : ds = [] := List.eq_nil_of_length_eq_zero h0
    refine (Tryz.sort_Strings_none A c w).mono ?_
    rintro e w' ⟨rfl, rfl⟩
    exact ⟨rfl, World.grownBy.refl _ _, by simp [scells, sortK], fun h => by simp at h⟩
  · obtain ⟨g, cap, cur, hv, hb, hg, hle, _, hcs, hct⟩ : ∃ g cap cur, Value.slice A ds.length c = .slice (some ⟨g, 0, none⟩) ds.length cap ∧ base ≤ g ∧ w.heap[g]? = some (.cells cur 9 (0, 0)) ∧ ds.length ≤ cap ∧ cap ≤ maxLen ∧ cur.size = cap * 1 ∧ cur.toList.take (ds.length * 1) = scells ds := by
      rcases hown.2 with ⟨_, h0⟩ | h
      · omega
      · exact h
    have hA : A = some ⟨g, 0, none⟩ := by injection hv
    subst hA
    have hglt : g < w.heap.size := (Array.getElem?_eq_some_iff.1 hg).1
    have hH : Sort.Holds encS w g 0 ds.toArray := by
      intro j hj
      have hj' : j < ds.length := by simpa using hj
      refine ⟨?_, by simp [World.frozen?, hg]⟩
      have := hown.cells (g := g) rfl j (str ds[j]) (by rw [scells, List.getElem?_map, List.getElem?_eq_getElem hj']; rfl)
      rw [add_plain] at this
      rw [Nat.zero_add, this]
      simp [encS, hj']
    refine (Tryz.sort_Strings g 0 c ds w hH hglt (by omega)).mono ?_
    rintro e w' ⟨he, n, os, rfl⟩
    have hs : ((sortK ds).toArray).size = ds.toArray.size := by simp [sortK_len]
    refine ⟨he, ⟨rfl, rfl, rfl, by simp, fun k hk hne => ?_⟩, ?_⟩
    · rw [Sort.heap_grow_old _ _ (by simpa using hk)]
      have hne' : g ≠ k := fun e => hne (by rw [e]; rfl)
      show (w.heap.modify g _)[k]? = w.heap[k]?
      rw [Array.getElem?_modify, if_neg hne']
    · refine ⟨by rw [scells_len, sortK_len]; omega, fun hn => ⟨_, rfl, by simp; omega, fun j u hu => ?_⟩⟩
      have hj : j < ds.length := by
        have := (List.getElem?_eq_some_iff.1 hu).1
        simpa [scells, sortK_len] using this
      rw [add_plain, Sort.cell?_grow _ _ _ (by simpa using hglt)]
      have := Sort.cell?_putRow encS (Sort.ahead w n) g 0 ds.toArray (sortK ds).toArray (Sort.holds_ahead _ _ _ _ _ _ hH) hs j (by simpa [sortK_len] using hj)
      rw [Nat.zero_add] at this
      rw [show (ds.mergeSort fun x y => decide (x ≤ y)).toArray = (sortK ds).toArray from rfl, this]
      have hj2 : j < (sortK ds).length := by rw [sortK_len]; exact hj
      rw [scells, List.getElem?_map, List.getElem?_eq_getElem hj2] at hu
      simp [hj2] at hu ⊢
      exact hu

def NamesPost (w : World) (ks : List BS) (e : Ending) (w' : World) : Prop :=
  ∃ A c, e = .returned (.slice A ks.length c) ∧ Reads w' w'.heap.size 1 A ks.length (scells (sortK ks)) ∧ ks.length ≤ c ∧ Below w.heap.size w w'

/-- what is gathered: no key twice, each of the map; what is left: those not gathered -/
structure Gath (keys : List BS) (left : Lit → Bool) (gs : List BS) : Prop where
  nd : gs.Nodup
  sub : ∀ k ∈ gs, k ∈ keys
  left_ : ∀ k : BS, left (.string k) = true ↔ k ∈ keys ∧ k ∉ gs
theorem Gath.snoc {keys gs : List BS} {left : Lit → Bool} (h : Gath keys left gs) (k : BS) (hk : left (.string k) = true) : Gath keys (fun z => left z && !z.sameKey (.string k)) (gs ++ [k]) where
  nd := by
    rw [List.nodup_append]
    refine ⟨h.nd, by simp, ?_⟩
    intro a ha b hb
    rw [List.mem_singleton] at hb
    subst hb
    exact fun e => ((h.left_ _).1 hk).2 (e ▸ ha)
  sub := fun j hj => by
    rcases List.mem_append.1 hj with hj | hj
    · exact h.sub j hj
    · rw [List.mem_singleton] at hj
      subst hj
      exact ((h.left_ _).1 hk).1
  left_ := fun j => by
    by_cases e : j = k
    · subst e
      simp [WideAt.sameKey_self (strKey _)]
    · have : (Lit.string j).sameKey (.string k) = false := sameKey_ne (by intro e2; injection e2 with e2; exact e e2)
      simp only [this, Bool.not_false, Bool.and_true, h.left_, List.mem_append, List.mem_singleton]
      constructor
      · rintro ⟨a, b⟩
        exact ⟨a, fun hc => hc.elim b e⟩
      · rintro ⟨a, b⟩
        exact ⟨a, fun hc => b (.inl hc)⟩
theorem Gath.done {keys gs : List BS} {left : Lit → Bool} (h : Gath keys left gs) (hn : keys.Nodup) (hl : ∀ kl, left kl = false) : keys.Perm gs := by
  refine (List.perm_ext_iff_of_nodup hn h.nd).2 fun k => ⟨fun hk => ?_, h.sub k⟩
  by_cases hc : k ∈ gs
  · exact hc
  · have := (h.left_ k).2 ⟨hk, hc⟩
    rw [hl] at this
    exact absurd this (by simp)
theorem nodup_len {ks : List BS} : ∀ {l : List BS}, ks.Nodup → (∀ k ∈ ks, k ∈ l) → ks.length ≤ l.length := by
  induction ks with
  | nil => intro l _ _; simp
  | cons k ks ih =>
    intro l hn hs
    have h1 := List.nodup_cons.1 hn
    have hk := hs k (by simp)
    have := ih (l := l.erase k) h1.2 (fun x hx => (List.mem_erase_of_ne (fun (e : x = k) => h1.1 (by rw [← e]; exact hx))).2 (hs x (by simp [hx])))
    rw [List.length_erase_of_mem hk] at this
    have : 0 < l.length := List.length_pos_of_mem hk
    simp only [List.length_cons]
    omega

theorem key9_inv {key : Value} {kl : Lit} (h : keyOf Tryz.prog 9 key = some kl) : ∃ k : BS, key = str k ∧ kl = .string k := by
  obtain ⟨s, rfl, rfl, _⟩ := Go.WideMaps.string_of_keyOf Tryz.underlying9 h
  exact ⟨s.data.toList, by simp [str], rfl⟩

set_option maxHeartbeats 2000000 in
theorem names_at (base b n : Nat) (es : List Ent) (w : World) (h : Hdr w base b n es) (hn : n ≤ 900000) (hes : es.length ≤ n) : Calls Tryz.prog 41 #[.map (some b)] w (NamesPost w (es.map Ent.key)) := by
  obtain ⟨D, hown, hD, _⟩ := h.own
  have HND := Lib.hid h.nd
  have HG0 : Hid (Gath (es.map Ent.key) (has D) []) := Lib.hid ⟨List.nodup_nil, fun k hk => by simp at hk, fun k => by
    rw [hD, List.any_eq_true]
    constructor
    · rintro ⟨e, he, hk⟩
      have hk : e.key = k := by simpa using hk
      exact ⟨hk ▸ List.mem_map_of_mem he, by simp⟩
    · rintro ⟨hk, _⟩
      obtain ⟨e, he, rfl⟩ := List.mem_map.1 hk
      exact ⟨e, he, by simp⟩⟩
  have hblt := hown.lt
  obtain ⟨keys, hkeys⟩ : ∃ keys, es.map Ent.key = keys := ⟨_, rfl⟩
  have hkl : keys.length ≤ 900000 := by rw [← hkeys]; simp; omega
  rw [hkeys] at HND HG0 ⊢
  clear h hD hkeys
  go_enter Tryz.func41, Tryz.ntmps41
  go_wp2_with (first
    | (at_range; refine wpList_range_own _ rfl _ 78 rfl 9 29 law9 Tryz.underlying78 _ b n _ rfl hown ?_; intro w0 hrg0 hg0 hs0)
    | fail)
  go_frame
  obtain ⟨it, hit⟩ : ∃ it, w.heap.size = it := ⟨_, rfl⟩
  rw [hit] at hrg0 hs0 ⊢
  go_loopw [3] (fun s3 wx => ∃ (left : Lit → Bool) (cnt : Nat) (A : Option Addr) (c : Nat) (gs : List BS), s3 = .slice A gs.length c ∧ wx.ranges Tryz.prog 9 hElem b it n D left cnt ∧ Gath keys left gs ∧ wx.ownsRow (it + 1) 9 1 (.slice A gs.length c) gs.length (scells gs) ∧ Below it w wx)
    (fun _ wx => wx.rangeLeft b it)
  case atStart => exact ⟨_, _, none, 0, [], rfl, hrg0, HG0.out, World.ownsRow_nil _ _ _ _, (Below.refl it w).grown hg0 (by omega) (fun k hk => by cases hk)⟩
  case round =>
    obtain ⟨left, cnt, A, c, gs, rfl, hrg, hG, hrow, hbel⟩ := hrel
    have HG := Lib.hid hG
    have HR := Lib.hid hrow
    have HB := Lib.hid hbel
    clear hG hrow hbel
    have hgl : gs.length ≤ keys.length := nodup_len HG.out.nd HG.out.sub
    go_wp2_with (first
      | (at_next; refine wpList_next_ranges _ rfl _ rfl 9 law9 hElem (fun k : BS => str k) (fun v : Value => v) (fun key kl h => by obtain ⟨k, h1, _⟩ := key9_inv h; exact ⟨k, h1⟩) (fun v y _ => ⟨v, rfl⟩) b it n _ _ _ rfl hrg ?_ ?_)
      | fail)
    · intro _ hl0
      have hP := HG.out.done HND.out hl0
      have HSrt := sort_any A c (it + 1) gs wr HR.out (by omega)
      have hPl := hP.length_eq
      go_wp2_with fail
      refine HSrt.mono ?_
      rintro e w9 ⟨rfl, hg9, hR9⟩
      have HR9 := Lib.hid hR9
      have HG9 := Lib.hid hg9
      have HPL := Lib.hid hPl
      have HPP := Lib.hid hP
      clear hR9 hg9 hPl hP
      go_wp2_with fail
      go_ret
      have hcc : gs.length ≤ c := by
        rcases HR.out.2 with ⟨e1, e2⟩ | ⟨g, cap, cur, e1, _, _, e2, _⟩
        · omega
        · injection e1 with _ _ e4; omega
      refine ⟨A, c, by rw [HPL.out]; rfl, by rw [HPL.out, sortK_of_perm HPP.out]; exact HR9.out, by rw [HPL.out]; exact hcc, ?_⟩
      subst hit
      exact HB.out.grown HG9.out HB.out.size (fun j hj => by have := (HR.out.lt _ hj).1; omega)
    · intro k v kl ya yb w1 cnt1 hkey hlk hRv hat hrg1 hlt hg1 hs1 hen
      obtain ⟨k', hk1, rfl⟩ := key9_inv hkey
      obtain rfl : k' = k := by simpa using hk1.symm
      have hRow1 := HR.out.kept hg1 (.inr (fun e => by have := (HR.out.lt _ e).1; omega))
      have hitw : it ≤ wr.heap.size := by have := HB.out.size; omega
      have HB1 := Lib.hid (HB.out.grown hg1 hitw (fun j hj => by injection hj with hj; omega))
      have HG1 := Lib.hid (HG.out.snoc k' hlk)
      have hgl1 : (gs ++ [k']).length ≤ keys.length := nodup_len HG1.out.nd HG1.out.sub
      rw [List.length_append, List.length_singleton] at hgl1
      have hrow2 := hRow1.alloc (.cells #[str k'] 9)
      have HROW1 := Lib.hid hRow1
      obtain ⟨i9, hi9, hy0, hy1, hy2⟩ := info_parts info9
      have HS1 := Lib.hid hs1
      have hbl : b < it := by rw [← hit]; exact hblt
      clear hRow1 hRv hat hkey hk1 hlk hs1 hit
      go_wp2_with (at_builtin; refine wpList_append_own _ rfl (.tmp 11) (.tmp 13) 29 rfl (it + 1) 9 i9 (.string ⟨#[]⟩) 1 16 Tryz.underlying29 hi9 hy0 hy1 hy2 rfl (by decide) _ gs.length (scells gs) rfl hrow2 ⟨w1.heap.size, 0, none⟩ 1 1 [str k'] rfl rfl ?c1 ?c2 ?c3 ?c4 ?c5 ?_)
      case c1 => exact cells_new w1 [str k'] 9
      case c2 => intro u hu; rw [List.mem_singleton] at hu; subst hu; rfl
      case c3 => unfold maxLen; omega
      case c4 => omega
      case c5 => have := HS1.out; simp; omega
      intro v' w9 hown' hgrow _
      obtain ⟨A9, c9v, rfl⟩ := row_form hown'
      have hne : ∀ g, (Value.slice A gs.length c).ownBlock = some g → it + 1 ≤ g := fun g hg => (HR.out.lt g hg).1
      have hbit : b ≠ it := fun e => by omega
      have HRG9 := Lib.hid ((hrg1.alloc (.cells #[str k'] 9)).kept hgrow (fun e => by have := hne _ e.symm; omega) (fun e => by have := hne _ e.symm; omega))
      have HB9 := Lib.hid ((HB1.out.alloc (by have := hrg1.lt; omega) (.cells #[str k'] 9)).grown hgrow (by have := hrg1.lt; simp; omega) (fun g hg => by have := hne g hg; omega))
      have hO : w9.ownsRow (it + 1) 9 1 (.slice A9 (gs ++ [k']).length c9v) (gs ++ [k']).length (scells (gs ++ [k'])) := by
        have : scells (gs ++ [k']) = scells gs ++ [str k'] := by simp [scells]
        rw [this, List.length_append, List.length_singleton]
        exact hown'
      have HO := Lib.hid hO
      clear hgrow hown' hg1 hi9 hy0 hy1 hy2 hO hrow2 hrg1
      go_wp2_with fail
      go_roundw
      case rel => exact ⟨_, cnt1, A9, c9v, gs ++ [k'], by rw [List.length_append]; rfl, HRG9.out, HG1.out, HO.out, HB9.out⟩
      case measure => rw [HRG9.out.left_eq, hrg.left_eq]; exact hlt

set_option maxHeartbeats 2000000 in
theorem names_nil (w : World) : Calls Tryz.prog 41 #[.map none] w (NamesPost w []) := by
  have hrg := run_range_nilMap (P := Tryz.prog) w 78 9 29 Tryz.underlying78
  have hnx : ∀ ty, (Instr.next (.pointer (some ⟨w.heap.size, 0, none⟩)) false ty).run Tryz.prog (w.alloc (.mapIter none 0 #[] 0)) = _ := fun ty => run_next_nilMap w ty 0 0 #[]
  have hbel := below_new w (.mapIter none 0 #[] 0)
  obtain ⟨w1, hw1⟩ : ∃ w1 : World, (w.alloc (.mapIter none 0 #[] 0)) = w1 := ⟨_, rfl⟩
  rw [hw1] at hrg hnx hbel
  obtain ⟨it, hit⟩ : ∃ it, w.heap.size = it := ⟨_, rfl⟩
  rw [hit] at hrg hnx
  have HBel := Lib.hid hbel
  clear hbel hw1 hit
  have HSrt := Tryz.sort_Strings_none none 0 w1
  go_enter Tryz.func41, Tryz.ntmps41
  go_wp2_with fail
  refine wp_loop_rounds 1 ?_
  rw [rounds_succ]
  go_wp2_with (go_at_call 54; refine HSrt.mono ?_; rintro e w9 ⟨rfl, rfl⟩)
  go_ret
  exact ⟨none, 0, rfl, ⟨by simp [scells, sortK], fun h => by simp at h⟩, Nat.le_refl _, HBel.out⟩

def hcells (es : List Ent) : List Value := es.flatMap fun e => [str e.key, e.val]
theorem hcells_len (l : List Ent) : (hcells l).length = l.length * 2 := by
  induction l with
  | nil => rfl
  | cons p l ih => simp only [hcells, List.flatMap_cons, List.length_append, List.length_cons, List.length_nil] at ih ⊢; omega
theorem hcells_append (a b : List Ent) : hcells (a ++ b) = hcells a ++ hcells b := by simp [hcells]

/-- what an entry's slice reads as -/
structure ItemsAt (w : World) (own : Option Nat) (e : Ent) : Prop where
  ex : ∃ A c, e.val = .slice A e.items.length c ∧ Reads w w.heap.size 1 A e.items.length (scells e.items) ∧ e.items.length ≤ c ∧ (0 < e.items.length → ∀ ad, A = some ad → own ≠ some ad.block)

/-- a list of heads in memory -/
structure HL (w : World) (base : Nat) (v : Value) (es : List Ent) : Prop where
  row : w.ownsRow base 72 2 v es.length (hcells es)
  vals : ∀ e ∈ es, ItemsAt w v.ownBlock e
  lo : ∀ e ∈ es, 0 < e.items.length → ∀ g, e.val.ownBlock = some g → base ≤ g

theorem ItemsAt.grown {w w' : World} {own r : Option Nat} {e : Ent} (h : ItemsAt w own e) (g : w.grownBy w' r) (hr : 0 < e.items.length → ∀ A c ad, e.val = .slice A e.items.length c → A = some ad → r ≠ some ad.block) : ItemsAt w' own e where
  ex := by
    obtain ⟨A, c, h1, h2, h3, h4⟩ := h.ex
    refine ⟨A, c, h1, ?_, h3, h4⟩
    refine Reads.more ⟨h2.1, fun hn => ?_⟩ g.size
    obtain ⟨ad, e1, hb, hc⟩ := h2.2 hn
    refine ⟨ad, e1, hb, fun j u hu => ?_⟩
    refine (World.cell?_of_block (g.block _ ?_ ?_)).trans (hc j u hu)
    · rw [block_of_add]; exact hb
    · rw [block_of_add]; exact fun e2 => hr hn A c ad h1 e1 e2.symm
theorem HL.below {w w' : World} {base : Nat} {v : Value} {es : List Ent} (h : HL w base v es) (k : Below w.heap.size w w') : HL w' base v es where
  row := h.row.kept (grown_below k) (by cases v.ownBlock <;> simp)
  vals := fun e he => (h.vals e he).grown (grown_below k) (fun _ _ _ _ _ _ => by simp)
  lo := h.lo
theorem HL.nil (w : World) (base : Nat) : HL w base (.slice none 0 0) [] := ⟨World.ownsRow_nil _ _ _ _, fun e he => by simp at he, fun e he => by simp at he⟩
theorem HL.base {w : World} {base base' : Nat} {v : Value} {es : List Ent} (h : HL w base v es) (hb : base' ≤ base) : HL w base' v es := ⟨own_base h.row hb, h.vals, fun e he hn g hg => Nat.le_trans hb (h.lo e he hn g hg)⟩
theorem HL.grown {w w' : World} {base r : Nat} {v : Value} {es : List Ent} (h : HL w base v es) (g : w.grownBy w' (some r)) (hr : r < base) : HL w' base v es where
  row := h.row.kept g (.inr (fun e => by have := (h.row.lt _ e).1; omega))
  vals := fun e he => (h.vals e he).grown g (fun hn A c ad hv hA e2 => by
    injection e2 with e2
    have := h.lo e he hn ad.block (by rw [hv, hA]; rfl)
    omega)
  lo := h.lo

theorem info72 : (Tryz.prog.info? 72).map (fun i => (i.zero, i.size, i.bytes)) = some (some (.agg #[str [], .slice none 0 0]), 2, 40) := by kernel_rfl

/-- an append of one entry, whose slice is new or elsewhere -/
theorem HL.snoc {w w' : World} {base : Nat} {v v' : Value} {es : List Ent} {x : Ent} (h : HL w base v es) (g : w.grownBy w' v.ownBlock) (hx : ItemsAt w' v'.ownBlock x)
    (row : w'.ownsRow base 72 2 v' (es.length + 1) (hcells es ++ [str x.key, x.val])) (hat : v'.ownBlock = v.ownBlock ∨ ∃ j, v'.ownBlock = some j ∧ w.heap.size ≤ j) (hlo : 0 < x.items.length → ∀ g, x.val.ownBlock = some g → base ≤ g) : HL w' base v' (es ++ [x]) where
  lo := fun e he => by
    rcases List.mem_append.1 he with he | he
    · exact h.lo e he
    · rw [List.mem_singleton] at he
      subst he
      exact hlo
  row := by
    rw [hcells_append, List.length_append, List.length_singleton]
    exact row
  vals := fun e he => by
    rcases List.mem_append.1 he with he | he
    · obtain ⟨A, c, h1, h2, h3, h4⟩ := (h.vals e he).ex
      have := (h.vals e he).grown g (fun hn A' c' ad hv hA => by
        rw [h1] at hv
        injection hv with hv1 hv2 hv3
        subst hv1
        exact h4 hn ad hA)
      obtain ⟨A', c', h1', h2', h3', h4'⟩ := this.ex
      refine ⟨A', c', h1', h2', h3', fun hn ad e1 => ?_⟩
      rw [h1] at h1'
      injection h1' with i1 i2 i3
      subst i1
      rcases hat with ha | ⟨j, ha, hj⟩
      · rw [ha]; exact h4 hn ad e1
      · rw [ha]
        intro e2
        injection e2 with e2
        obtain ⟨ad', e3, hb, _⟩ := h2.2 hn
        rw [e1] at e3
        injection e3 with e3
        subst e3
        omega
    · rw [List.mem_singleton] at he
      subst he
      exact hx

theorem reads_strs {w : World} {B n : Nat} {A : Option Addr} {l : List BS} (h : Reads w B 1 A n (scells l)) (hn : 0 < n) :
    ∃ b o, A = some ⟨b, o, none⟩ ∧ b < B ∧ l.length = n ∧ ∀ k, (hk : k < l.length) → w.cell? ⟨b, o + k, none⟩ = some (str l[k]) := by
  obtain ⟨ad, e, hb, hc⟩ := h.2 hn
  have hl : l.length = n := by have := h.1; rw [scells_len] at this; omega
  have h0 := hc 0 (str (l[0]'(by omega))) (by simp [scells, List.getElem?_eq_getElem (show 0 < l.length by omega)])
  obtain ⟨b, o, spot⟩ := ad
  have hspot : spot = none := by simpa [Addr.add] using World.cell?_spot h0
  subst hspot
  refine ⟨b, o, e, hb, hl, fun k hk => ?_⟩
  have := hc k (str l[k]) (by simp [scells, List.getElem?_eq_getElem hk])
  rwa [Addr.add_lit] at this
theorem scells_one (l : List BS) : ∀ u ∈ scells l, u.oneCell' = true := fun u hu => by obtain ⟨b, _, rfl⟩ := List.mem_map.1 hu; rfl
theorem row_cap {w : World} {base size n c : Nat} {e : TypeId} {A : Option Addr} {xs : List Value} (h : w.ownsRow base e size (.slice A n c) n xs) : n ≤ c := by
  rcases h.2 with ⟨e1, e2⟩ | ⟨g, cap, cur, e1, _, _, e2, _⟩
  · omega
  · injection e1 with _ _ e4; omega

def HeadsPost (w : World) (H : List (BS × List BS)) (e : Ending) (w' : World) : Prop := ∃ v es, e = .returned v ∧ HL w' w.heap.size v es ∧ absE es = H ∧ Below w.heap.size w w'
/-- the names in order, each with its values -/
def headsOf (H : List (BS × List BS)) : List (BS × List BS) := (sortK (H.map Prod.fst)).map fun k => (k, getH H k)

set_option maxHeartbeats 4000000 in
theorem heads_at (base b n : Nat) (es : List Ent) (w : World) (h : Hdr w base b n es) (hn : n ≤ 900000) (hes : es.length ≤ n) (hil : ∀ e ∈ es, e.items.length ≤ 900000) : Calls Tryz.prog 35 #[.map (some b)] w (HeadsPost w (headsOf (absE es))) := by
  have KN := names_at base b n es w h hn hes
  have HH := Lib.hid h
  have HIL := Lib.hid hil
  obtain ⟨ks, hks⟩ : ∃ ks, sortK (es.map Ent.key) = ks := ⟨_, rfl⟩
  have hkl : ks.length = (es.map Ent.key).length := by rw [← hks, sortK_len]
  have HKS : Hid (headsOf (absE es) = ks.map fun k => (k, getH (absE es) k)) := Lib.hid (by
    unfold headsOf
    rw [← hks]
    unfold absE
    rw [List.map_map]
    rfl)
  have hkk : ∀ k ∈ ks, k.length ≤ 2147483648 := fun k hk => by
    rw [← hks] at hk
    obtain ⟨e, he, rfl⟩ := List.mem_map.1 ((sortK_perm _).mem_iff.1 hk)
    exact h.klen e he
  have HKK := Lib.hid hkk
  have hkn : ks.length ≤ 900000 := by rw [hkl]; simp; omega
  unfold NamesPost at KN
  rw [hks, ← hkl] at KN
  clear h hil hks hkk hkl
  go_enter Tryz.func35, Tryz.ntmps35
  go_wp2_with fail
  refine KN.mono ?_
  rintro e w1 ⟨A, c, rfl, hR, hc, hb1⟩
  have HR := Lib.hid hR
  have HB1 := Lib.hid hb1
  clear KN hR hb1
  go_wp2_with fail
  go_loopw [3, 9] (fun s3 s9 wx => ∃ (k : Nat) (v : Value) (xs : List Ent), k ≤ ks.length ∧ s9 = .int .i64 (k : Int) ∧ s3 = v ∧ HL wx w1.heap.size v xs ∧ xs.length = k ∧ absE xs = (ks.take k).map (fun k => (k, getH (absE es) k)) ∧ Below w.heap.size w wx ∧ w1.grownBy wx none) (fun _ s9 _ => ks.length - (intOf s9).toNat)
  case atStart => exact ⟨0, _, [], by omega, rfl, rfl, HL.nil _ _, rfl, rfl, HB1.out, World.grownBy.refl _ _⟩
  case round =>
    obtain ⟨k, v, xs, hk, rfl, rfl, hL, rfl, hab, hbel, hg⟩ := hrel
    obtain ⟨A3, c3, rfl⟩ := row_form hL.row
    have HL0 := Lib.hid hL
    have HAB := Lib.hid hab
    have HB := Lib.hid hbel
    have HG := Lib.hid hg
    clear hL hab hbel hg
    rcases Nat.lt_or_ge xs.length ks.length with hkl | hkl
    · obtain ⟨b1, o1, rfl, hb1, _, hcs⟩ := reads_strs (HR.out.grown HG.out (Nat.le_refl _) (fun g hg => by cases hg)) (by omega)
      have e0 := hcs xs.length hkl
      have hnk := HKK.out (ks[xs.length]) (List.getElem_mem hkl)
      obtain ⟨nk, hnke⟩ : ∃ nk, ks[xs.length] = nk := ⟨_, rfl⟩
      rw [hnke] at e0 hnk
      have HNK := Lib.hid hnke
      obtain ⟨A2, c2, items, hrun, hslot⟩ := (HH.out.below HB.out).slot nk hnk
      have hil : items.length ≤ 900000 := by
        rcases hslot.src with h | ⟨e, he, h⟩
        · rw [h]; simp
        · rw [h]; exact HIL.out e he
      have hRd := Reads.of_own hslot.row
      have hone := scells_one items
      have HSL := Lib.hid hslot
      obtain ⟨i9, hi9, hz0, hz1, hz2⟩ := info_parts info9
      clear hcs hslot hnke
      go_wp2_with (refine wpList_append_any _ rfl (.const (.slice none 0 0)) (.tmp 17) 29 rfl wr.heap.size 9 i9 (.string ⟨#[]⟩) 1 16 Tryz.underlying29 hi9 hz0 hz1 hz2 rfl (by decide) (.slice none 0 0) 0 [] rfl (World.ownsRow_nil _ _ _ _) wr.heap.size A2 items.length c2 (scells items) rfl hRd hone ?c1 ?c2 ?c3 ?_)
      case c1 => unfold maxLen; omega
      case c2 => omega
      intro v5 w5 hrow5 hg5 hat5
      obtain ⟨A5, c5, rfl⟩ := row_form hrow5
      have HROW5 := Lib.hid hrow5
      have HG5 := Lib.hid hg5
      have hg5n : wr.grownBy w5 none := hg5
      have hbel5 : Below wr.heap.size wr w5 := ⟨hg5n.os, hg5n.tape, hg5n.output, hg5n.size, fun j hj => hg5n.block j hj (by simp)⟩
      have HL5 := Lib.hid (HL0.out.below hbel5)
      have HB5 := Lib.hid hbel5
      have hrow6 := HL5.out.row.alloc (.cells #[str nk, .slice A5 items.length c5] 72)
      obtain ⟨i7, hi7, hy0, hy1, hy2⟩ := info_parts info72
      have hz5 := hbel5.size
      have hws := HB.out.size
      have hw1 := HG.out.size
      clear hrow5 hg5 hat5 hg5n hbel5 hRd hrun hi9 hz0 hz1 hz2
      go_wp2_with (at_builtin; refine wpList_append_own_at _ rfl (.tmp 13) (.tmp 20) 28 rfl w1.heap.size 72 i7 (.agg #[str [], .slice none 0 0]) 2 40 Tryz.underlying28 hi7 hy0 hy1 hy2 rfl (by decide) _ xs.length (hcells xs) rfl hrow6 ⟨w5.heap.size, 0, none⟩ 1 1 [str nk, .slice A5 items.length c5] rfl rfl ?d1 ?d2 ?d3 ?d4 ?d5 ?_)
      case d1 => exact cells_new w5 [str nk, .slice A5 items.length c5] 72
      case d2 => intro u hu; simp only [List.mem_cons, List.mem_nil_iff, or_false] at hu; rcases hu with rfl | rfl <;> rfl
      case d3 => unfold maxLen; omega
      case d4 => omega
      case d5 => simp; omega
      intro v9 w9 hrow9 hg9 _ hat9
      obtain ⟨A9, c9, rfl⟩ := row_form hrow9
      have hgA : w5.grownBy w9 (Value.slice A3 xs.length c3).ownBlock := (World.grownBy_alloc w5 _ _).trans hg9
      have hrowB : ∀ g, (Value.slice A3 xs.length c3).ownBlock = some g → w1.heap.size ≤ g ∧ g < wr.heap.size := fun g hg => HL0.out.row.lt g hg
      have HX : ItemsAt w9 (Value.slice A9 (xs.length + 1) c9).ownBlock ⟨nk, .slice A5 items.length c5, items⟩ := ⟨A5, c5, rfl, by
          have hR5 := Reads.of_own HROW5.out
          refine Reads.more ⟨hR5.1, fun hn => ?_⟩ hgA.size
          obtain ⟨ad, e1, hb, hc⟩ := hR5.2 hn
          refine ⟨ad, e1, hb, fun j u hu => ?_⟩
          refine (World.cell?_of_block (hgA.block _ ?_ ?_)).trans (hc j u hu)
          · rw [block_of_add]; exact hb
          · rw [block_of_add]
            intro e2
            have h1 := (HROW5.out.lt ad.block (by rw [e1]; rfl)).1
            have h2 := (hrowB _ e2.symm).2
            omega, row_cap HROW5.out, fun hn ad e1 e2 => by
          have h1 := HROW5.out.lt ad.block (by rw [e1]; rfl)
          rcases hat9 with h | h
          · rw [h] at e2
            have h2 := (hrowB _ e2).2
            omega
          · rw [h] at e2
            injection e2 with e2
            have h3 : (w5.alloc (.cells #[str nk, .slice A5 items.length c5] 72)).heap.size = w5.heap.size + 1 := by simp
            omega⟩
      have hL9 : HL w9 w1.heap.size (.slice A9 (xs.length + 1) c9) (xs ++ [⟨nk, .slice A5 items.length c5, items⟩]) := HL5.out.snoc hgA HX hrow9 (by
        rcases hat9 with h | h
        · exact .inl h
        · exact .inr ⟨_, h, by simp⟩) (fun hn g hg => by have := (HROW5.out.lt g hg).1; omega)
      have HL9 := Lib.hid hL9
      have HB9 := Lib.hid ((HB.out.trans (HB5.out.mono HB.out.size)).grown hgA (by omega) (fun g hg => Nat.le_trans HB1.out.size (hrowB g hg).1))
      have HGET := Lib.hid HSL.out.get
      have hg9' : w1.grownBy w9 none := by
        have h1 := HG.out.trans (grown_below HB5.out)
        exact ⟨hgA.os.trans h1.os, hgA.tape.trans h1.tape, hgA.output.trans h1.output, Nat.le_trans h1.size hgA.size, fun j hj hne => by
          have := h1.block j hj hne
          rw [← this]
          refine hgA.block j (Nat.lt_of_lt_of_le hj h1.size) (fun e => ?_)
          have := (hrowB j e.symm).1
          omega⟩
      have HG9 := Lib.hid hg9'
      clear hg9' hL9 HX hgA hrow9 hg9 hat9 hrow6 hi7 hy0 hy1 hy2
      go_wp2_with fail
      refine ⟨⟨xs.length + 1, _, _, hkl, by go_num, rfl, HL9.out, by simp, ?_, HB9.out, HG9.out⟩, by simp [intOf]; omega⟩
      rw [List.take_succ_eq_append_getElem hkl, List.map_append, HNK.out, ← HAB.out]
      show (xs ++ [_]).map _ = xs.map _ ++ _
      rw [List.map_append]
      simp [HGET.out]
    · have e : xs.length = ks.length := by omega
      have hLf := HL0.out
      rw [e] at hLf
      rw [e]
      have HLF := Lib.hid hLf
      have HE := Lib.hid e
      clear e hLf
      have f1 : decide ((ks.length : Int) < (ks.length : Int)) = false := by simp
      go_wp2_with fail
      go_ret
      exact ⟨.slice A3 ks.length c3, xs, rfl, HLF.out.base HB1.out.size, by rw [HAB.out, HE.out, List.take_length, HKS.out], HB.out⟩

theorem sortK_nil : sortK [] = [] := by simp [sortK]
set_option maxHeartbeats 2000000 in
theorem heads_nil (w : World) : Calls Tryz.prog 35 #[.map none] w (HeadsPost w []) := by
  have KN := names_nil w
  unfold NamesPost at KN
  rw [sortK_nil] at KN
  go_enter Tryz.func35, Tryz.ntmps35
  go_wp2_with fail
  refine KN.mono ?_
  rintro e w1 ⟨A, c, rfl, hR, hc, hb1⟩
  have HB1 := Lib.hid hb1
  clear KN hR hb1
  go_wp2_with fail
  refine wp_loop_rounds 1 ?_
  rw [rounds_succ]
  go_wp2_with fail
  go_ret
  exact ⟨_, [], rfl, HL.nil _ _, rfl, HB1.out⟩

theorem caught_idle (p : Addr) (w : World) :
    CallsD Tryz.prog 25 #[.pointer (some p)] .returning w fun e u' w' => e = .returned (.tuple #[]) ∧ u' = .returning ∧ w' = w := by
  refine callsD_of_wpS Tryz.func25 rfl fun c₀ cs hu => ?_
  apply wpS_seq
  apply wpS_region
  simp [wpOpsS, go_sem, recoverD, hu, Tryz.ntmps25, Exit.thenS]
  refine wpS_cond (t := false) (by simp [Act.eval, Array.replicate]) ?_
  simp only [Bool.false_eq_true, if_false]
  refine wpS_of_wp (wp_skip ?_)
  cases c₀
  simp_all [bodyPostS, results, Tryz.results25]

theorem funcOf_at (A : Option Addr) (n c : Nat) (w : World) : Calls Tryz.prog 50 #[.slice A n c] w fun e w' => e = .returned (.func (.func 67) #[] #[.pointer (some ⟨w.heap.size, 0, none⟩)]) ∧ w' = w.alloc (.cells #[.slice A n c] 66) := by
  go_enter Tryz.func50, Tryz.ntmps50
  go_wp2_with fail
  go_ret
  exact ⟨rfl, rfl⟩

def TOfPost (w : World) (l : List (BS × BS)) (e : Ending) (w' : World) : Prop :=
  ∃ v ev, e = .returned (.tuple #[v, ev]) ∧ ErrV (l.all trFieldOk) ev ∧ Below w.heap.size w w' ∧
    (l.all trFieldOk = true → ∃ b n es, v = .map (some b) ∧ Hdr w' (b + 1) b n es ∧ absE es = trFold l ∧ n ≤ l.length) ∧ (l.all trFieldOk = false → v = .map none)

theorem Feed.made (w : World) (A : Option Addr) (c : Nat) (l : List (BS × BS)) (h : Reads w w.heap.size 2 A l.length (fc l)) (hc : l.length ≤ c) : Feed (w.alloc (.cells #[.slice A l.length c] 66)) w.heap.size l :=
  ⟨⟨A, c, by simp, h.alloc (Nat.le_refl _) _, hc⟩, by simp, by simp⟩

set_option maxHeartbeats 2000000 in
theorem tof_at (A : Option Addr) (c : Nat) (l : List (BS × BS)) (p : Addr) (w : World) (hR : Reads w w.heap.size 2 A l.length (fc l)) (hc : l.length ≤ c) (hi : TrIn l) (hE : Env w p) :
    Calls Tryz.prog 34 #[.slice A l.length c, .int .i64 1048576] w (TOfPost w l) := by
  have hb := below_new w (.cells #[.slice A l.length c] 66)
  have KP := parse_at l w.heap.size p _ hi (Feed.made w A c l hR hc) (hE.cut hb hE.ge) hE.ge
  have HB := Lib.hid hb
  clear hb hR hi hE
  go_enter Tryz.func34, Tryz.ntmps34
  go_wp2_with fail
  refine (funcOf_at A l.length c _).mono ?_
  rintro e w1 ⟨rfl, rfl⟩
  go_wp2_with fail
  refine KP.mono ?_
  rintro e w2 ⟨v, ev, rfl, hev, hg, h1, h2⟩
  have H1 := Lib.hid h1
  have H2 := Lib.hid h2
  have HEV := Lib.hid hev
  have HBL := Lib.hid (HB.out.grown hg HB.out.size (fun k hk => by injection hk with hk; omega))
  clear hev hg h1 h2 KP
  go_wp2_with fail
  go_ret2
  refine ⟨v, ev, rfl, HEV.out, HBL.out, fun ht => ?_, H2.out⟩
  obtain ⟨b, n, es, k1, k2, k3, k4, k5⟩ := H1.out ht
  exact ⟨b, n, es, k1, k3, k4, k5⟩

/-- a piece that ends in its normal exit alone (in a function that defers: the ways of a panic read the frame) -/
def OnlyNormal (Q : Exit → Act → World → Prop) : Exit → Act → World → Prop := fun e a w => match e with | .normal => Q .normal a w | _ => False
theorem wp_normal {P : Program} {c : Code} {Q : Exit → Act → World → Prop} {a : Act} {w : World} (h : c.wp P (OnlyNormal Q) a w) : c.wp P Q a w :=
  Code.wp_mono (fun e a w h => by cases e <;> first | exact h | exact h.elim) h

def HTPost (w : World) (l : List (BS × BS)) (e : Ending) (w' : World) : Prop :=
  ∃ v es, e = .returned (.tuple #[v, .bool (l.all trFieldOk)]) ∧ HL w' w.heap.size v es ∧ absE es = (if l.all trFieldOk then headsOf (trFold l) else []) ∧ Below w.heap.size w w'

theorem absE_len {es : List Ent} {H : List (BS × List BS)} (h : absE es = H) : es.length = H.length := by rw [← h]; simp [absE]
theorem addH_len (H : List (BS × List BS)) (k v : BS) : (addH H k v).length ≤ H.length + 1 := by
  unfold addH putH
  split <;> simp
theorem trFold_len (l : List (BS × BS)) : (trFold l).length ≤ l.length := by
  have h : ∀ (l : List (BS × BS)) (H : List (BS × List BS)), (l.foldl (fun H p => addH H (canonL p.1) p.2) H).length ≤ H.length + l.length := by
    intro l
    induction l with
    | nil => intro H; simp
    | cons p l ih =>
      intro H
      have := ih (addH H (canonL p.1) p.2)
      have h2 := addH_len H (canonL p.1) p.2
      simp only [List.foldl_cons, List.length_cons]
      omega
  have := h l []
  rw [List.length_nil, Nat.zero_add] at this
  exact this
theorem putH_items {H : List (BS × List BS)} {k : BS} {vs : List BS} {m : Nat} (h : ∀ q ∈ H, q.2.length ≤ m) (hv : vs.length ≤ m) : ∀ q ∈ putH H k vs, q.2.length ≤ m := by
  intro q hq
  unfold putH at hq
  split at hq
  · obtain ⟨a, ha, rfl⟩ := List.mem_map.1 hq
    split
    · exact hv
    · exact h a ha
  · rcases List.mem_append.1 hq with hq | hq
    · exact h q hq
    · rw [List.mem_singleton] at hq
      subst hq
      exact hv
theorem getH_items {H : List (BS × List BS)} {m : Nat} (h : ∀ q ∈ H, q.2.length ≤ m) (k : BS) : (getH H k).length ≤ m := by
  unfold getH
  cases hf : H.find? fun p => p.1 == k with
  | none => simp
  | some q => simpa using h q (List.mem_of_find?_eq_some hf)
theorem trFold_items (l : List (BS × BS)) : ∀ q ∈ trFold l, q.2.length ≤ l.length := by
  have h : ∀ (l : List (BS × BS)) (H : List (BS × List BS)) (m : Nat), (∀ q ∈ H, q.2.length ≤ m) → ∀ q ∈ l.foldl (fun H p => addH H (canonL p.1) p.2) H, q.2.length ≤ m + l.length := by
    intro l
    induction l with
    | nil => intro H m hm q hq; exact hm q hq
    | cons p l ih =>
      intro H m hm q hq
      have := ih (addH H (canonL p.1) p.2) (m + 1) (putH_items (fun q hq => Nat.le_succ_of_le (hm q hq)) (by have := getH_items hm (canonL p.1); simp; omega)) q hq
      simp only [List.length_cons]
      omega
  intro q hq
  have := h l [] 0 (fun q hq => by simp at hq) q hq
  rw [Nat.zero_add] at this
  exact this

set_option maxHeartbeats 4000000 in
theorem ht_at (A : Option Addr) (c : Nat) (l : List (BS × BS)) (p : Addr) (w : World) (hR : Reads w w.heap.size 2 A l.length (fc l)) (hc : l.length ≤ c) (hi : TrIn l) (hE : Env w p) :
    Calls Tryz.prog 16 #[.slice A l.length c] w (HTPost w l) := by
  have hlen : l.length ≤ 32768 := by have := trSize_len l; have := hi.size; omega
  have hb := below_new w (.cells #[.bool false] 4)
  have KF := fields_at A c l (w.alloc (.cells #[.bool false] 4)) ((hR.alloc (Nat.le_refl _) _).more hb.size) (by omega)
  have HB := Lib.hid hb
  have HI := Lib.hid hi
  have HE := Lib.hid (hE.cut hb hE.ge)
  clear hb hR hi hE
  go_enter_defers Tryz.func16, Tryz.ntmps16
  go_wp2_with fail
  refine KF.mono ?_
  rintro e w1 ⟨A1, c1, rfl, hrow1, hb1⟩
  have HB1 := Lib.hid (Below.next HB.out HB.out.size hb1)
  have R0 : Hid (w1.cell? ⟨w.heap.size, 0, none⟩ = some (.bool false)) := Lib.hid ((hb1.cell (p := ⟨w.heap.size, 0, none⟩) (by simp)).trans (by simp))
  have Z0 : Hid (w1.frozen? ⟨w.heap.size, 0, none⟩ = false) := Lib.hid ((hb1.frozen (p := ⟨w.heap.size, 0, none⟩) (by simp)).trans (by simp))
  have hlt1 : w.heap.size < w1.heap.size := by have := hb1.size; simp at this; omega
  have KT := tof_at A1 c1 l p w1 (Reads.of_own hrow1) (row_cap hrow1) HI.out (HE.out.cut hb1 HE.out.ge)
  clear hrow1 hb1 KF
  go_wp2_with fail
  refine KT.mono ?_
  rintro e w2 ⟨v, ev, rfl, hev, hb2, h1, h2⟩
  have HB2 := Lib.hid (Below.next HB1.out HB1.out.size hb2)
  have x0 := (hb2.cell (p := ⟨w.heap.size, 0, none⟩) hlt1).trans R0.out
  have z0 := (hb2.frozen (p := ⟨w.heap.size, 0, none⟩) hlt1).trans Z0.out
  have hlt2 : w.heap.size < w2.heap.size := Nat.lt_of_lt_of_le hlt1 hb2.size
  have H1 := Lib.hid h1
  have H2 := Lib.hid h2
  obtain ⟨r, hr⟩ : ∃ r, l.all trFieldOk = r := ⟨_, rfl⟩
  rw [hr] at hev H1 H2
  have HRR := Lib.hid hr
  clear hb2 h1 h2 KT hr
  have X0 := Lib.hid x0
  have Zz := Lib.hid z0
  have finish : ∀ (w3 : World) (v3 : Value) (es3 : List Ent), HL w3 w2.heap.size v3 es3 → absE es3 = (if r then headsOf (trFold l) else []) → Below w.heap.size w w3 → HTPost w l (.returned (.tuple #[v3, .bool r])) (w3.setCell ⟨w.heap.size, 0, none⟩ (.bool r)) := by
    intro w3 v3 es3 hL hA hBB
    exact ⟨v3, es3, by rw [HRR.out], (hL.grown (grown_set w3 w.heap.size 0 (.bool r)) hlt2).base (Nat.le_of_lt hlt2), by rw [hA, HRR.out], hBB.grown (grown_set w3 w.heap.size 0 (.bool r)) hBB.size (fun k hk => by injection hk with hk; omega)⟩
  have HFin := Lib.hid finish
  clear finish x0 z0
  cases r
  · obtain ⟨p3, rfl⟩ := hev
    obtain rfl := H2.out rfl
    go_upto_region 3 with fail
    go_cut [2] from 12 to 15 (fun s2 wx => ∃ A3 n3 c3, s2 = .slice A3 n3 c3 ∧ wx.cell? ⟨w.heap.size, 0, none⟩ = some (.bool false) ∧ HTPost w l (.returned (.tuple #[.slice A3 n3 c3, .bool false])) wx)
    case first =>
      go_wp2_with fail
      refine wp_normal ?_
      go_region_with (go_at_call 35; refine (heads_nil _).mono ?_; rintro e w3 ⟨v3, es3, rfl, hL3, hA3, hb3⟩; obtain ⟨A3, c3, rfl⟩ := row_form hL3.row; have y0 := (hb3.cell (p := ⟨w.heap.size, 0, none⟩) hlt2).trans X0.out; have q0 := (hb3.frozen (p := ⟨w.heap.size, 0, none⟩) hlt2).trans Zz.out)
      all_goals unfold OnlyNormal
      all_goals go_wp2_with fail
      all_goals go_meet
      all_goals exact ⟨_, _, _, rfl, World.cell?_setCell_same _ _ _ y0, HFin.out w3 _ es3 hL3 hA3 (by first | exact Below.nextD HB2.out HB2.out.size hb3 | exact Below.next HB2.out HB2.out.size hb3)⟩
    case rest =>
      obtain ⟨A3, n3, c3, rfl, y0, hP⟩ := hcut
      have HP := Lib.hid hP
      clear hP
      go_wp2_with fail
      refine leaves_cons (f := 25) (args := #[.pointer (some ⟨w.heap.size, 0, none⟩)]) (by simp) (by simp [go_sem]) ?_
      refine (caught_idle ⟨w.heap.size, 0, none⟩ _).mono ?_
      rintro e u' w'' ⟨rfl, rfl, rfl⟩
      refine ⟨_, (show _ = Result.ok (Value.tuple #[.slice A3 n3 c3, .bool false]) _ by simp [results, Tryz.results16, go_sem, y0]), HP.out⟩
  · obtain rfl : ev = .nilIface := hev
    obtain ⟨b, n, es, rfl, hH, hab, hnl⟩ := H1.out rfl
    have hel : es.length ≤ 900000 := by have := absE_len hab; have := trFold_len l; omega
    have hei : ∀ e ∈ es, e.items.length ≤ 900000 := fun e he => by
      have hm : (e.key, e.items) ∈ absE es := List.mem_map_of_mem (f := fun e : Ent => (e.key, e.items)) he
      rw [hab] at hm
      have := trFold_items l _ hm
      simp only at this
      omega
    have KH : ∀ W, Hdr W (b + 1) b (max n es.length) es → Calls Tryz.prog 35 #[.map (some b)] W (HeadsPost W (headsOf (absE es))) := fun W h => heads_at (b + 1) b (max n es.length) es W h (by omega) (Nat.le_max_right _ _) hei
    have hH2 : Hdr w2 (b + 1) b (max n es.length) es := ⟨by obtain ⟨D, k1, k2⟩ := hH.own; exact ⟨D, k1.mono (Nat.le_max_left _ _), k2⟩, hH.nd, hH.rows, hH.apart, hH.lb, hH.klen⟩
    have K0 := KH w2 hH2
    have K1 := KH w2.drew hH2.drew
    rw [hab] at K0 K1
    clear KH hH hab hnl hel hei hH2
    go_upto_region 3 with fail
    go_cut [2] from 12 to 15 (fun s2 wx => ∃ A3 n3 c3, s2 = .slice A3 n3 c3 ∧ wx.cell? ⟨w.heap.size, 0, none⟩ = some (.bool true) ∧ HTPost w l (.returned (.tuple #[.slice A3 n3 c3, .bool true])) wx)
    case first =>
      go_wp2_with fail
      refine wp_normal ?_
      go_region_with (go_at_call 35; (first | (with_reducible refine K0.mono ?_) | (with_reducible refine K1.mono ?_)); rintro e w3 ⟨v3, es3, rfl, hL3, hA3, hb3⟩; obtain ⟨A3, c3, rfl⟩ := row_form hL3.row; have y0 := (hb3.cell (p := ⟨w.heap.size, 0, none⟩) hlt2).trans X0.out; have q0 := (hb3.frozen (p := ⟨w.heap.size, 0, none⟩) hlt2).trans Zz.out)
      all_goals unfold OnlyNormal
      all_goals go_wp2_with fail
      all_goals go_meet
      all_goals exact ⟨_, _, _, rfl, World.cell?_setCell_same _ _ _ y0, HFin.out w3 _ es3 hL3 hA3 (by first | exact Below.nextD HB2.out HB2.out.size hb3 | exact Below.next HB2.out HB2.out.size hb3)⟩
    case rest =>
      obtain ⟨A3, n3, c3, rfl, y0, hP⟩ := hcut
      have HP := Lib.hid hP
      clear hP
      go_wp2_with fail
      refine leaves_cons (f := 25) (args := #[.pointer (some ⟨w.heap.size, 0, none⟩)]) (by simp) (by simp [go_sem]) ?_
      refine (caught_idle ⟨w.heap.size, 0, none⟩ _).mono ?_
      rintro e u' w'' ⟨rfl, rfl, rfl⟩
      refine ⟨_, (show _ = Result.ok (Value.tuple #[.slice A3 n3 c3, .bool true]) _ by simp [results, Tryz.results16, go_sem, y0]), HP.out⟩
end Go.Proofs.YtgcfnhchmmkndaaGreatDoor
