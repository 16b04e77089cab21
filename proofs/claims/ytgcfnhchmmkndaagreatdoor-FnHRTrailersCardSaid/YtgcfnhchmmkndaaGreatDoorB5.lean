/- sort.Strings; (http.Header).Names. -/
import Derived.Test.YtgcfnhchmmkndaaGreatDoorB4
namespace Go.Proofs.YtgcfnhchmmkndaaGreatDoor
open Go.RowKit Go.Maps
set_option linter.unusedVariables false
set_option maxRecDepth 100000

abbrev encS : BS → Value := fun l => str l
def sortK (ks : List BS) : List BS := ks.mergeSort fun x y => decide (x ≤ y)
theorem sortK_perm (ks : List BS) : (sortK ks).Perm ks := List.mergeSort_perm ks _
theorem sortK_sorted (ks : List BS) : (sortK ks).Pairwise (fun x y => x ≤ y) := by
  have := List.pairwise_mergeSort (le := fun x y : List UInt8 => decide (x ≤ y)) (fun a b c h1 h2 => by simp at *; exact List.le_trans h1 h2) (fun a b => by simp; exact List.le_total a b) ks
  simpa [sortK] using this
theorem sortK_of_perm {ks gs : List BS} (h : ks.Perm gs) : sortK ks = sortK gs := by
  refine List.Perm.eq_of_pairwise (le := fun x y => x ≤ y) (fun a b _ _ h1 h2 => List.le_antisymm h1 h2) (sortK_sorted _) (sortK_sorted _) ?_
  exact ((sortK_perm ks).trans h).trans (sortK_perm gs).symm
theorem sortK_len (ks : List BS) : (sortK ks).length = ks.length := (sortK_perm ks).length_eq

theorem add_plain (g j : Nat) : (⟨g, 0, none⟩ : Addr).add j = ⟨g, j, none⟩ := by
  unfold Addr.add
  split
  · next e => rw [e]
  · simp

theorem sort_any (A : Option Addr) (c base : Nat) (ds : List BS) (w : World) (hown : w.ownsRow base 9 1 (.slice A ds.length c) ds.length (scells ds)) (hl : ds.length ≤ 1000000) :
    Calls Tryz.prog 54 #[.slice A ds.length c] w fun e w' => e = .returned (.tuple #[]) ∧ w.grownBy w' (Value.slice A ds.length c).ownBlock ∧ Reads w' w'.heap.size 1 A ds.length (scells (sortK ds)) := by
  rcases Nat.eq_zero_or_pos ds.length with h0 | hp
  · obtain rfl : ds = [] := List.eq_nil_of_length_eq_zero h0
    refine (Tryz.sort_Strings_none A c w).mono ?_
    rintro e w' ⟨rfl, rfl⟩
    exact ⟨rfl, World.grownBy.refl _ _, by simp [scells, sortK], fun h => by simp at h⟩
  · obtain ⟨g, cap, cur, hv, hb, hg, hle, _, hcs, hct⟩ : ∃ g cap cur, Value.slice A ds.length c = .slice (some ⟨g, 0, none⟩) ds.length cap ∧ base ≤ g ∧ w.heap[g]? = some (.cells cur 9 (0, 0)) ∧ ds.length ≤ cap ∧ cap ≤ maxLen ∧ cur.size = cap * 1 ∧ cur.toList.take (ds.length * 1) = scells ds := by
      rcases hown.2 with ⟨_, h0⟩ | h
      · omega
      · exact h
    have hA : A = some ⟨g, 0, none⟩ := by injection hv
    subst hA
    have hglt : g < w.heap.size := (Array.getElem?_eq_some_iff.1 hg).1
    have hH : Sort.Holds encS w g 0 ds.toArray := by
      intro j hj
      have hj' : j < ds.length := by simpa using hj
      refine ⟨?_, by simp [World.frozen?, hg]⟩
      have := hown.cells (g := g) rfl j (str ds[j]) (by rw [scells, List.getElem?_map, List.getElem?_eq_getElem hj']; rfl)
      rw [add_plain] at this
      rw [Nat.zero_add, this]
      simp [encS, hj']
    refine (Tryz.sort_Strings g 0 c ds w hH hglt (by omega)).mono ?_
    rintro e w' ⟨he, n, os, rfl⟩
    have hs : ((sortK ds).toArray).size = ds.toArray.size := by simp [sortK_len]
    refine ⟨he, ⟨rfl, rfl, rfl, by simp, fun k hk hne => ?_⟩, ?_⟩
    · rw [Sort.heap_grow_old _ _ (by simpa using hk)]
      have hne' : g ≠ k := fun e => hne (by rw [e]; rfl)
      show (w.heap.modify g _)[k]? = w.heap[k]?
      rw [Array.getElem?_modify, if_neg hne']
    · refine ⟨by rw [scells_len, sortK_len]; omega, fun hn => ⟨_, rfl, by simp; omega, fun j u hu => ?_⟩⟩
      have hj : j < ds.length := by
        have := (List.getElem?_eq_some_iff.1 hu).1
        simpa [scells, sortK_len] using this
      rw [add_plain, Sort.cell?_grow _ _ _ (by simpa using hglt)]
      have := Sort.cell?_putRow encS (Sort.ahead w n) g 0 ds.toArray (sortK ds).toArray (Sort.holds_ahead _ _ _ _ _ _ hH) hs j (by simpa [sortK_len] using hj)
      rw [Nat.zero_add] at this
      rw [show (ds.mergeSort fun x y => decide (x ≤ y)).toArray = (sortK ds).toArray from rfl, this]
      have hj2 : j < (sortK ds).length := by rw [sortK_len]; exact hj
      rw [scells, List.getElem?_map, List.getElem?_eq_getElem hj2] at hu
      simp [hj2] at hu ⊢
      exact hu

def NamesPost (w : World) (ks : List BS) (e : Ending) (w' : World) : Prop :=
  ∃ A c, e = .returned (.slice A ks.length c) ∧ Reads w' w'.heap.size 1 A ks.length (scells (sortK ks)) ∧ ks.length ≤ c ∧ Below w.heap.size w w'

/-- what is gathered: no key twice, each of the map; what is left: those not gathered -/
structure Gath (keys : List BS) (left : Lit → Bool) (gs : List BS) : Prop where
  nd : gs.Nodup
  sub : ∀ k ∈ gs, k ∈ keys
  left_ : ∀ k : BS, left (.string k) = true ↔ k ∈ keys ∧ k ∉ gs
theorem Gath.snoc {keys gs : List BS} {left : Lit → Bool} (h : Gath keys left gs) (k : BS) (hk : left (.string k) = true) : Gath keys (fun z => left z && !z.sameKey (.string k)) (gs ++ [k]) where
  nd := by
    rw [List.nodup_append]
    refine ⟨h.nd, by simp, ?_⟩
    intro a ha b hb
    rw [List.mem_singleton] at hb
    subst hb
    exact fun e => ((h.left_ _).1 hk).2 (e ▸ ha)
  sub := fun j hj => by
    rcases List.mem_append.1 hj with hj | hj
    · exact h.sub j hj
    · rw [List.mem_singleton] at hj
      subst hj
      exact ((h.left_ _).1 hk).1
  left_ := fun j => by
    by_cases e : j = k
    · subst e
      simp [WideAt.sameKey_self (strKey _)]
    · have : (Lit.string j).sameKey (.string k) = false := sameKey_ne (by intro e2; injection e2 with e2; exact e e2)
      simp only [this, Bool.not_false, Bool.and_true, h.left_, List.mem_append, List.mem_singleton]
      constructor
      · rintro ⟨a, b⟩
        exact ⟨a, fun hc => hc.elim b e⟩
      · rintro ⟨a, b⟩
        exact ⟨a, fun hc => b (.inl hc)⟩
theorem Gath.done {keys gs : List BS} {left : Lit → Bool} (h : Gath keys left gs) (hn : keys.Nodup) (hl : ∀ kl, left kl = false) : keys.Perm gs := by
  refine (List.perm_ext_iff_of_nodup hn h.nd).2 fun k => ⟨fun hk => ?_, h.sub k⟩
  by_cases hc : k ∈ gs
  · exact hc
  · have := (h.left_ k).2 ⟨hk, hc⟩
    rw [hl] at this
    exact absurd this (by simp)
theorem nodup_len {ks : List BS} : ∀ {l : List BS}, ks.Nodup → (∀ k ∈ ks, k ∈ l) → ks.length ≤ l.length := by
  induction ks with
  | nil => intro l _ _; simp
  | cons k ks ih =>
    intro l hn hs
    have h1 := List.nodup_cons.1 hn
    have hk := hs k (by simp)
    have := ih (l := l.erase k) h1.2 (fun x hx => (List.mem_erase_of_ne (fun (e : x = k) => h1.1 (by rw [← e]; exact hx))).2 (hs x (by simp [hx])))
    rw [List.length_erase_of_mem hk] at this
    have : 0 < l.length := List.length_pos_of_mem hk
    simp only [List.length_cons]
    omega

theorem key9_inv {key : Value} {kl : Lit} (h : keyOf Tryz.prog 9 key = some kl) : ∃ k : BS, key = str k ∧ kl = .string k := by
  obtain ⟨s, rfl, rfl, _⟩ := Go.WideMaps.string_of_keyOf Tryz.underlying9 h
  exact ⟨s.data.toList, by simp [str], rfl⟩

set_option maxHeartbeats 2000000 in
theorem names_at (base b n : Nat) (es : List Ent) (w : World) (h : Hdr w base b n es) (hn : n ≤ 900000) (hes : es.length ≤ n) : Calls Tryz.prog 41 #[.map (some b)] w (NamesPost w (es.map Ent.key)) := by
  obtain ⟨D, hown, hD, _⟩ := h.own
  have HND := Lib.hid h.nd
  have HG0 : Hid (Gath (es.map Ent.key) (has D) []) := Lib.hid ⟨List.nodup_nil, fun k hk => by simp at hk, fun k => by
    rw [hD, List.any_eq_true]
    constructor
    · rintro ⟨e, he, hk⟩
      have hk : e.key = k := by simpa using hk
      exact ⟨hk ▸ List.mem_map_of_mem he, by simp⟩
    · rintro ⟨hk, _⟩
      obtain ⟨e, he, rfl⟩ := List.mem_map.1 hk
      exact ⟨e, he, by simp⟩⟩
  have hblt := hown.lt
  obtain ⟨keys, hkeys⟩ : ∃ keys, es.map Ent.key = keys := ⟨_, rfl⟩
  have hkl : keys.length ≤ 900000 := by rw [← hkeys]; simp; omega
  rw [hkeys] at HND HG0 ⊢
  clear h hD hkeys
  go_enter Tryz.func41, Tryz.ntmps41
  go_wp2_with (first
    | (at_range; refine wpList_range_own _ rfl _ 78 rfl 9 29 law9 Tryz.underlying78 _ b n _ rfl hown ?_; intro w0 hrg0 hg0 hs0)
    | fail)
  go_frame
  obtain ⟨it, hit⟩ : ∃ it, w.heap.size = it := ⟨_, rfl⟩
  rw [hit] at hrg0 hs0 ⊢
  go_loopw [3] (fun s3 wx => ∃ (left : Lit → Bool) (cnt : Nat) (A : Option Addr) (c : Nat) (gs : List BS), s3 = .slice A gs.length c ∧ wx.ranges Tryz.prog 9 hElem b it n D left cnt ∧ Gath keys left gs ∧ wx.ownsRow (it + 1) 9 1 (.slice A gs.length c) gs.length (scells gs) ∧ Below it w wx)
    (fun _ wx => wx.rangeLeft b it)
  case atStart => exact ⟨_, _, none, 0, [], rfl, hrg0, HG0.out, World.ownsRow_nil _ _ _ _, (Below.refl it w).grown hg0 (by omega) (fun k hk => by cases hk)⟩
  case round =>
    obtain ⟨left, cnt, A, c, gs, rfl, hrg, hG, hrow, hbel⟩ := hrel
    have HG := Lib.hid hG
    have HR := Lib.hid hrow
    have HB := Lib.hid hbel
    clear hG hrow hbel
    have hgl : gs.length ≤ keys.length := nodup_len HG.out.nd HG.out.sub
    go_wp2_with (first
      | (at_next; refine wpList_next_ranges _ rfl _ rfl 9 law9 hElem (fun k : BS => str k) (fun v : Value => v) (fun key kl h => by obtain ⟨k, h1, _⟩ := key9_inv h; exact ⟨k, h1⟩) (fun v y _ => ⟨v, rfl⟩) b it n _ _ _ rfl hrg ?_ ?_)
      | fail)
    · intro _ hl0
      have hP := HG.out.done HND.out hl0
      have HSrt := sort_any A c (it + 1) gs wr HR.out (by omega)
      have hPl := hP.length_eq
      go_wp2_with fail
      refine HSrt.mono ?_
      rintro e w9 ⟨rfl, hg9, hR9⟩
      have HR9 := Lib.hid hR9
      have HG9 := Lib.hid hg9
      have HPL := Lib.hid hPl
      have HPP := Lib.hid hP
      clear hR9 hg9 hPl hP
      go_wp2_with fail
      go_ret
      have hcc : gs.length ≤ c := by
        rcases HR.out.2 with ⟨e1, e2⟩ | ⟨g, cap, cur, e1, _, _, e2, _⟩
        · omega
        · injection e1 with _ _ e4; omega
      refine ⟨A, c, by rw [HPL.out]; rfl, by rw [HPL.out, sortK_of_perm HPP.out]; exact HR9.out, by rw [HPL.out]; exact hcc, ?_⟩
      subst hit
      exact HB.out.grown HG9.out HB.out.size (fun j hj => by have := (HR.out.lt _ hj).1; omega)
    · intro k v kl ya yb w1 cnt1 hkey hlk hRv hat hrg1 hlt hg1 hs1 hen
      obtain ⟨k', hk1, rfl⟩ := key9_inv hkey
      obtain rfl : k' = k := by simpa using hk1.symm
      have hRow1 := HR.out.kept hg1 (.inr (fun e => by have := (HR.out.lt _ e).1; omega))
      have hitw : it ≤ wr.heap.size := by have := HB.out.size; omega
      have HB1 := Lib.hid (HB.out.grown hg1 hitw (fun j hj => by injection hj with hj; omega))
      have HG1 := Lib.hid (HG.out.snoc k' hlk)
      have hgl1 : (gs ++ [k']).length ≤ keys.length := nodup_len HG1.out.nd HG1.out.sub
      rw [List.length_append, List.length_singleton] at hgl1
      have hrow2 := hRow1.alloc (.cells #[str k'] 9)
      have HROW1 := Lib.hid hRow1
      obtain ⟨i9, hi9, hy0, hy1, hy2⟩ := info_parts info9
      have HS1 := Lib.hid hs1
      have hbl : b < it := by rw [← hit]; exact hblt
      clear hRow1 hRv hat hkey hk1 hlk hs1 hit
      go_wp2_with (at_builtin; refine wpList_append_own _ rfl (.tmp 11) (.tmp 13) 29 rfl (it + 1) 9 i9 (.string ⟨#[]⟩) 1 16 Tryz.underlying29 hi9 hy0 hy1 hy2 rfl (by decide) _ gs.length (scells gs) rfl hrow2 ⟨w1.heap.size, 0, none⟩ 1 1 [str k'] rfl rfl ?c1 ?c2 ?c3 ?c4 ?c5 ?_)
      case c1 => exact cells_new w1 [str k'] 9
      case c2 => intro u hu; rw [List.mem_singleton] at hu; subst hu; rfl
      case c3 => unfold maxLen; omega
      case c4 => omega
      case c5 => have := HS1.out; simp; omega
      intro v' w9 hown' hgrow _
      obtain ⟨A9, c9v, rfl⟩ := row_form hown'
      have hne : ∀ g, (Value.slice A gs.length c).ownBlock = some g → it + 1 ≤ g := fun g hg => (HR.out.lt g hg).1
      have hbit : b ≠ it := fun e => by omega
      have HRG9 := Lib.hid ((hrg1.alloc (.cells #[str k'] 9)).kept hgrow (fun e => by have := hne _ e.symm; omega) (fun e => by have := hne _ e.symm; omega))
      have HB9 := Lib.hid ((HB1.out.alloc (by have := hrg1.lt; omega) (.cells #[str k'] 9)).grown hgrow (by have := hrg1.lt; simp; omega) (fun g hg => by have := hne g hg; omega))
      have hO : w9.ownsRow (it + 1) 9 1 (.slice A9 (gs ++ [k']).length c9v) (gs ++ [k']).length (scells (gs ++ [k'])) := by
        have : scells (gs ++ [k']) = scells gs ++ [str k'] := by simp [scells]
        rw [this, List.length_append, List.length_singleton]
        exact hown'
      have HO := Lib.hid hO
      clear hgrow hown' hg1 hi9 hy0 hy1 hy2 hO hrow2 hrg1
      go_wp2_with fail
      go_roundw
      case rel => exact ⟨_, cnt1, A9, c9v, gs ++ [k'], by rw [List.length_append]; rfl, HRG9.out, HG1.out, HO.out, HB9.out⟩
      case measure => rw [HRG9.out.left_eq, hrg.left_eq]; exact hlt
end Go.Proofs.YtgcfnhchmmkndaaGreatDoor
