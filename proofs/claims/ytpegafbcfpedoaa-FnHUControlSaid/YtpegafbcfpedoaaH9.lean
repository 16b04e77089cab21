/- http3.ids: the keys of a map, in order. -/
import Derived.Test.YtpegafbcfpedoaaH8
namespace Go.Proofs.Ytpegafbcfpedoaa
open Go.RowKit Go.Maps
set_option linter.unusedVariables false
set_option maxRecDepth 100000

def ukey (x : Int) : Lit := .int .u64 x
theorem ukey_is (x : Int) : WideAt.IsKeyLit (ukey x) := trivial
theorem ukey_ne {x y : Int} (h : x ≠ y) : ukey x ≠ ukey y := fun e => h (by unfold ukey at e; injection e)
theorem put_isMap (D : DataW Unit) (h : IsMap D) (ps : List (Nat × Nat)) : IsMap (ps.foldl (fun D p => D.put (.int .u64 (p.1 : Int)) (.lit (.int .u64 (p.2 : Int)))) D) := by
  induction ps generalizing D with
  | nil => exact h
  | cons p ps ih => exact ih _ (h.put _ _)
theorem has_put_fold (D : DataW Unit) (h : IsMap D) (ps : List (Nat × Nat)) (x : Int) : has (ps.foldl (fun D p => D.put (.int .u64 (p.1 : Int)) (.lit (.int .u64 (p.2 : Int)))) D) (ukey x) = true ↔ has D (ukey x) = true ∨ ∃ p ∈ ps, (p.1 : Int) = x := by
  induction ps generalizing D with
  | nil => simp
  | cons p ps ih =>
    rw [List.foldl_cons, ih _ (h.put _ _)]
    by_cases e : x = (p.1 : Int)
    · subst e
      have := has_put_same h (ukey_is (p.1 : Int)) (.lit (.int .u64 (p.2 : Int)))
      constructor
      · exact fun _ => .inr ⟨p, by simp, rfl⟩
      · exact fun _ => .inl this
    · have := has_put_other (D := D) (ukey_ne e) (.lit (.int .u64 (p.2 : Int)))
      unfold ukey at this ⊢
      rw [this]
      constructor
      · rintro (h1 | ⟨q, hq, rfl⟩)
        · exact .inl h1
        · exact .inr ⟨q, by simp [hq], rfl⟩
      · rintro (h1 | ⟨q, hq, rfl⟩)
        · exact .inl h1
        · rcases List.mem_cons.1 hq with rfl | hq
          · exact absurd rfl e
          · exact .inr ⟨q, hq, rfl⟩
theorem has_mapD (ps : List (Nat × Nat)) (x : Int) : has (mapD ps) (ukey x) = true ↔ ∃ p ∈ ps, (p.1 : Int) = x := by
  unfold mapD
  rw [has_put_fold _ isMap_empty]
  constructor
  · rintro (h | h)
    · exact absurd h (by simp [has])
    · exact h
  · exact .inr
theorem at_put_other (D : DataW Unit) (ps : List (Nat × Nat)) (x : Int) (hn : ∀ p ∈ ps, (p.1 : Int) ≠ x) (z : DataW Unit) : (ps.foldl (fun D p => D.put (.int .u64 (p.1 : Int)) (.lit (.int .u64 (p.2 : Int)))) D).atKey (ukey x) z = D.atKey (ukey x) z := by
  induction ps generalizing D with
  | nil => rfl
  | cons p ps ih =>
    rw [List.foldl_cons, ih _ (fun q hq => hn q (by simp [hq]))]
    exact atKey_put_other (ukey_ne (fun e => hn p (by simp) e.symm)) _ z
theorem at_put_fold (D : DataW Unit) (h : IsMap D) (ps : List (Nat × Nat)) (hn : Asc ps) (q : Nat × Nat) (hq : q ∈ ps) (z : DataW Unit) : (ps.foldl (fun D p => D.put (.int .u64 (p.1 : Int)) (.lit (.int .u64 (p.2 : Int)))) D).atKey (ukey (q.1 : Int)) z = .lit (.int .u64 (q.2 : Int)) := by
  induction ps generalizing D with
  | nil => simp at hq
  | cons p ps ih =>
    rw [List.foldl_cons]
    have hn' := List.pairwise_cons.1 hn
    rcases List.mem_cons.1 hq with rfl | hq
    · rw [at_put_other _ ps _ (fun r hr => by have := hn'.1 r hr; omega)]
      exact atKey_put_same h (ukey_is _) _ z
    · exact ih _ (h.put _ _) hn'.2 hq
theorem at_mapD (ps : List (Nat × Nat)) (hn : Asc ps) (q : Nat × Nat) (hq : q ∈ ps) (z : DataW Unit) : (mapD ps).atKey (ukey (q.1 : Int)) z = .lit (.int .u64 (q.2 : Int)) := at_put_fold _ isMap_empty ps hn q hq z

def ucells (ks : List Nat) : List Value := ks.map un
theorem ucells_length (ks : List Nat) : (ucells ks).length = ks.length := by simp [ucells]

/-- what is gathered: no number twice, each of the map; what is left: those not gathered -/
structure Gath (ps : List (Nat × Nat)) (left : Lit → Bool) (ks : List Nat) : Prop where
  nd : ks.Nodup
  sub : ∀ k ∈ ks, k ∈ ps.map Prod.fst
  left_ : ∀ k : Nat, left (ukey (k : Int)) = true ↔ k ∈ ps.map Prod.fst ∧ k ∉ ks
theorem Gath.start (ps : List (Nat × Nat)) : Gath ps (has (mapD ps)) [] where
  nd := List.nodup_nil
  sub := fun k hk => by simp at hk
  left_ := fun k => by
    rw [has_mapD, List.mem_map]
    constructor
    · rintro ⟨p, hp, e⟩
      exact ⟨⟨p, hp, by omega⟩, by simp⟩
    · rintro ⟨⟨p, hp, e⟩, _⟩
      exact ⟨p, hp, by omega⟩
theorem Gath.snoc {ps : List (Nat × Nat)} {left : Lit → Bool} {ks : List Nat} (h : Gath ps left ks) (k : Nat) (hk : left (ukey (k : Int)) = true) : Gath ps (fun z => left z && !z.sameKey (ukey (k : Int))) (ks ++ [k]) where
  nd := by
    rw [List.nodup_append]
    refine ⟨h.nd, by simp, ?_⟩
    intro a ha b hb
    rw [List.mem_singleton] at hb
    subst hb
    exact fun e => ((h.left_ _).1 hk).2 (e ▸ ha)
  sub := fun j hj => by
    rcases List.mem_append.1 hj with hj | hj
    · exact h.sub j hj
    · rw [List.mem_singleton] at hj
      subst hj
      exact ((h.left_ _).1 hk).1
  left_ := fun j => by
    by_cases e : j = k
    · subst e
      simp [WideAt.sameKey_self (ukey_is _)]
    · have : (ukey (j : Int)).sameKey (ukey (k : Int)) = false := sameKey_ne (ukey_ne (by omega))
      simp only [this, Bool.not_false, Bool.and_true, h.left_, List.mem_append, List.mem_singleton]
      constructor
      · rintro ⟨a, b⟩
        exact ⟨a, fun hc => hc.elim b e⟩
      · rintro ⟨a, b⟩
        exact ⟨a, fun hc => b (.inl hc)⟩
theorem Gath.done {ps : List (Nat × Nat)} {left : Lit → Bool} {ks : List Nat} (h : Gath ps left ks) (ha : Asc ps) (hl : ∀ kl, left kl = false) : (ps.map Prod.fst).Perm ks := by
  refine (List.perm_ext_iff_of_nodup ?_ h.nd).2 fun k => ⟨fun hk => ?_, h.sub k⟩
  · refine List.Pairwise.imp (R := (· < ·)) (fun h => Nat.ne_of_lt h) ?_
    rw [List.pairwise_map]
    exact ha
  · by_cases hc : k ∈ ks
    · exact hc
    · have := (h.left_ k).2 ⟨hk, hc⟩
      rw [hl] at this
      exact absurd this (by simp)

structure IdSt (w wr : World) (v : Value) (ks : List Nat) : Prop where
  c : Blk wr w.heap.size [v]
  row : wr.ownsRow (w.heap.size + 1 + 1) 26 1 v ks.length (ucells ks)
  bel : Below w.heap.size w wr

section
variable {w wr wr' : World} {v v' : Value} {ks : List Nat}
theorem IdSt.alloc (h : IdSt w wr v ks) (o : Obj) : IdSt w (wr.alloc o) v ks where
  c := h.c.below (below_new _ _)
  row := h.row.alloc o
  bel := h.bel.alloc h.bel.size o
theorem IdSt.grown (h : IdSt w wr v ks) {r : Nat} (g : wr.grownBy wr' (some r)) (hr : w.heap.size + 1 ≤ r) (hv : v.ownBlock ≠ some r) : IdSt w wr' v ks where
  c := h.c.grown g (by simp; omega)
  row := h.row.kept g (.inr hv)
  bel := h.bel.grown g h.bel.size (fun k hk => by injection hk with hk; omega)
end

theorem nodup_len {ks : List Nat} : ∀ {l : List Nat}, ks.Nodup → (∀ k ∈ ks, k ∈ l) → ks.length ≤ l.length := by
  induction ks with
  | nil => intro l _ _; simp
  | cons k ks ih =>
    intro l hn hs
    have hn' := List.nodup_cons.1 hn
    have hk := hs k (by simp)
    have := ih (l := l.erase k) hn'.2 (fun j hj => (List.mem_erase_of_ne (fun e => hn'.1 (by rw [← e]; exact hj))).2 (hs j (by simp [hj])))
    rw [List.length_erase_of_mem hk] at this
    have := List.length_pos_of_mem hk
    simp only [List.length_cons]
    omega
theorem Gath.len {ps : List (Nat × Nat)} {left : Lit → Bool} {ks : List Nat} (h : Gath ps left ks) : ks.length ≤ ps.length := by
  simpa using nodup_len h.nd h.sub
theorem IdSt.append {w wr wr' : World} {v v' : Value} {ks : List Nat} (h : IdSt w wr v ks) (k : Nat) (row' : wr'.ownsRow (w.heap.size + 1 + 1) 26 1 v' (ks.length + 1) (ucells ks ++ [un k])) (g : wr.grownBy wr' v.ownBlock) : IdSt w (wr'.setCell ⟨w.heap.size, 0, none⟩ v') v' (ks ++ [k]) where
  c := by
    have := (h.c.grown g (fun e => by have := (h.row.lt _ e.symm).1; omega)).set 0 v' (by simp)
    simpa using this
  row := by
    have e : v'.ownBlock ≠ some w.heap.size := fun e => by have := (row'.lt _ e).1; omega
    have := row'.kept (grown_set wr' w.heap.size 0 v') (.inr e)
    simpa [ucells] using this
  bel := (h.bel.grown g h.bel.size (fun j hj => by have := (h.row.lt _ hj).1; omega)).grown (grown_set wr' w.heap.size 0 v') (Nat.le_trans h.bel.size g.size) (fun j hj => by injection hj with hj; omega)
theorem info26 : (Try.prog.info? 26).map (fun i => (i.zero, i.size, i.bytes)) = some (some (.int .u64 0), 1, 8) := by kernel_rfl

theorem u64_nat {x : Int} (h : (Lit.int .u64 x).wf = true) : ∃ k : Nat, x = (k : Int) := by
  have h1 := of_decide_eq_true ((Bool.and_eq_true _ _).mp h).1
  have h0 : IntKind.u64.min = 0 := by decide
  rw [h0] at h1
  exact ⟨x.toNat, by omega⟩

theorem add_plain (g j : Nat) : (⟨g, 0, none⟩ : Addr).add j = ⟨g, j, none⟩ := by
  unfold Addr.add
  split
  · next e => rw [e]
  · simp
set_option maxHeartbeats 2000000 in
theorem sort_any (A : Option Addr) (c C base : Nat) (ds qs : List Nat) (w : World) (hown : w.ownsRow base 26 1 (.slice A ds.length c) ds.length (ucells ds)) (hc : w.cell? ⟨C, 0, none⟩ = some (.slice A ds.length c)) (hCb : C < base) (hCl : C < w.heap.size)
    (hp : qs.Perm ds) (hq : asc qs) (h12 : ds.length ≤ 12) :
    Calls Try.prog 27 #[.iface 43 (.slice A ds.length c), .func (.func 28) #[] #[.pointer (some ⟨C, 0, none⟩)]] w fun e w' =>
      e = .returned (.tuple #[]) ∧ w.grownBy w' (Value.slice A ds.length c).ownBlock ∧ Reads w' w'.heap.size 1 A qs.length (ucells qs) := by
  have hlen : qs.length = ds.length := hp.length_eq
  rcases Nat.lt_or_ge ds.length 2 with h1 | h2
  · have hqd : qs = ds := by
      match ds, h1, hp with
      | [], _, hp => exact List.perm_nil.1 hp
      | [d], _, hp => exact List.perm_singleton.1 hp
    subst hqd
    have key : ∀ f, Try.prog.funcs.findIdx? (·.name == "internal/reflectlite" ++ ".Swapper$" ++ toString (Lib.swapperK qs.length siE 11)) = some f →
        Calls Try.prog 27 #[.iface 43 (.slice A qs.length c), .func (.func 28) #[] #[.pointer (some ⟨C, 0, none⟩)]] w fun e w' => e = .returned (.tuple #[]) ∧ ∃ os, w' = Sort.grow w os := fun f hf =>
      Any.sort_Slice_tiny Try.laysGg6 43 26 siT siE (by kernel_rfl) (by kernel_rfl) (by kernel_rfl) (by kernel_rfl) 11 (fun _ => by kernel_rfl) A qs.length c (by omega) f hf (.func 28) #[] #[.pointer (some ⟨C, 0, none⟩)] w
    have hf : ∃ f, Try.prog.funcs.findIdx? (·.name == "internal/reflectlite" ++ ".Swapper$" ++ toString (Lib.swapperK qs.length siE 11)) = some f := by
      rcases (by omega : qs.length = 0 ∨ qs.length = 1) with e | e
      · exact ⟨34, by rw [e]; kernel_rfl⟩
      · exact ⟨35, by rw [e]; kernel_rfl⟩
    obtain ⟨f, hf⟩ := hf
    refine (key f hf).mono ?_
    rintro e w' ⟨he, os, rfl⟩
    have g : w.grownBy (Sort.grow w os) none := ⟨rfl, rfl, rfl, by simp, fun k hk _ => Sort.heap_grow_old _ _ hk⟩
    exact ⟨he, g.but _, ((Reads.of_own hown).grown g (Nat.le_refl _) (fun k hk => by cases hk)).more g.size⟩
  · obtain ⟨g, cap, cur, hv, hb, hg, hle, _, hcs, hct⟩ : ∃ g cap cur, Value.slice A ds.length c = .slice (some ⟨g, 0, none⟩) ds.length cap ∧ base ≤ g ∧ w.heap[g]? = some (.cells cur 26 (0, 0)) ∧ ds.length ≤ cap ∧ cap ≤ maxLen ∧ cur.size = cap * 1 ∧ cur.toList.take (ds.length * 1) = ucells ds := by
      rcases hown.2 with ⟨_, h0⟩ | h
      · omega
      · exact h
    have hA : A = some ⟨g, 0, none⟩ := by injection hv
    subst hA
    have hglt : g < w.heap.size := (Array.getElem?_eq_some_iff.1 hg).1
    have hr : ∀ j, (hj : j < ds.length) → w.cell? ⟨g, j, none⟩ = some (un ds[j]) ∧ w.frozen? ⟨g, j, none⟩ = false := by
      intro j hj
      refine ⟨?_, by simp [World.frozen?, hg]⟩
      have := hown.cells (g := g) rfl j (un ds[j]) (by rw [ucells, List.getElem?_map, List.getElem?_eq_getElem hj]; rfl)
      rw [add_plain] at this
      exact this
    refine (sort_at g c C ds qs w h2 h12 hp hq hglt hCl (by omega) hc hr).mono ?_
    rintro e w' ⟨he, hgr, hcells⟩
    refine ⟨he, hgr, by simp [ucells], fun hn => ⟨_, rfl, Nat.lt_of_lt_of_le hglt hgr.size, fun j u hu => ?_⟩⟩
    have hj : j < qs.length := by
      have := (List.getElem?_eq_some_iff.1 hu).1
      simpa [ucells] using this
    have hu' : u = un qs[j] := by
      simp [ucells, hj] at hu
      exact hu.symm
    subst hu'
    rw [add_plain]
    exact hcells j hj

def IdsPost (w : World) (ps : List (Nat × Nat)) (e : Ending) (w' : World) : Prop :=
  ∃ A c, e = .returned (.slice A ps.length c) ∧ Reads w' w'.heap.size 1 A ps.length (ucells (ps.map Prod.fst)) ∧ Below w.heap.size w w' ∧ ∀ ad, A = some ad → w.heap.size ≤ ad.block

set_option maxHeartbeats 2000000 in
theorem ids_some (b : Nat) (ps : List (Nat × Nat)) (w : World) (hown : w.ownsMap Try.prog 26 (plainElem Try.prog 26) b ps.length (mapD ps)) (ha : Asc ps) (hl : ps.length ≤ 5) (hv : ∀ p ∈ ps, p.1 < 4611686018427387904) :
    Calls Try.prog 26 #[.map (some b)] w (IdsPost w ps) := by
  have HA := Lib.hid ha
  have HV := Lib.hid hv
  clear ha hv
  have hblt := hown.lt
  go_enter Try.func26, Try.ntmps26
  go_wp2_with (first
    | (at_range; refine wpList_range_own _ rfl _ 56 rfl 26 26 law26 Try.underlying56 _ b ps.length _ rfl (hown.alloc _) ?_; intro w0 hrg0 hg0 hs0)
    | go_in)
  go_frame
  obtain ⟨it, hit⟩ : ∃ it, (w.alloc (.cells #[.slice none 0 0] 43)).heap.size = it := ⟨_, rfl⟩
  rw [hit] at hrg0 hs0 ⊢
  have hit' : it = w.heap.size + 1 := by rw [← hit]; simp
  clear hit
  go_loopw [4] (fun _ wx => ∃ (left : Lit → Bool) (cnt : Nat) (v : Value) (ks : List Nat), wx.ranges Try.prog 26 (plainElem Try.prog 26) b it ps.length (mapD ps) left cnt ∧ Gath ps left ks ∧ IdSt w wx v ks)
    (fun _ wx => wx.rangeLeft b it)
  case atStart =>
    refine ⟨_, _, .slice none 0 0, [], hrg0, Gath.start ps, ?_⟩
    exact { c := (Blk.new w #[.slice none 0 0] 43).grown hg0 (by simp), row := ⟨rfl, .inl ⟨rfl, rfl⟩⟩, bel := ((Below.refl _ w).alloc (Nat.le_refl _) _).grown hg0 (by simp) (fun k hk => by cases hk) }
  case round =>
    obtain ⟨left, cnt, v, ks, hrg, hG, hI⟩ := hrel
    obtain ⟨A0, cp0, rfl⟩ := row_form hI.row
    have HG := Lib.hid hG
    have HI := Lib.hid hI
    clear hG hI
    have c0 := HI.out.c.at_ 0 _ rfl
    have z0 := HI.out.c.fz 0 (by simp)
    go_wp2_with (first
      | (at_next; refine wpList_next_ranges_ii _ rfl _ rfl 26 26 .u64 .u64 law26 Try.underlying26 Try.underlying26 b it ps.length _ _ _ rfl hrg ?_ ?_)
      | fail)
    · intro _ hl0
      have hP := HG.out.done HA.out hl0
      have hq : asc (ps.map Prod.fst) := by
        unfold asc
        rw [List.pairwise_map]
        exact HA.out
      have hkl := HG.out.len
      have HSrt := sort_any A0 cp0 w.heap.size (w.heap.size + 1 + 1) ks (ps.map Prod.fst) wr HI.out.row c0 (by omega) HI.out.c.lt hP hq (by omega)
      have hPl := hP.length_eq
      go_wp2_with (go_at_call 27; refine HSrt.mono ?_; rintro e w9 ⟨rfl, hg9, hR9⟩; have d0 := (HI.out.c.grown hg9 (fun e => by have := (HI.out.row.lt _ e.symm).1; omega)).at_ 0 _ rfl)
      have e : ks.length = ps.length := by rw [← hPl]; simp
      go_ret
      have hR := hR9
      rw [List.length_map] at hR
      exact ⟨A0, cp0, by rw [e]; rfl, hR, HI.out.bel.grown hg9 HI.out.bel.size (fun j hj => by have := (HI.out.row.lt _ hj).1; omega), fun ad ea => by have := (HI.out.row.lt ad.block (by rw [ea]; rfl)).1; omega⟩
    · intro x c w1 cnt1 hwx hwc hlx hat hrg1 hlt hg1 hs1 hen
      obtain ⟨k, rfl⟩ := u64_nat hwx
      have HI1 := Lib.hid (HI.out.grown hg1 (by omega) (fun e => by have := (HI.out.row.lt _ e).1; omega))
      have c1 := HI1.out.c.at_ 0 _ rfl
      have z1 := HI1.out.c.fz 0 (by simp)
      have HG1 := Lib.hid (HG.out.snoc k hlx)
      have hkl := HG1.out.len
      rw [List.length_append, List.length_singleton] at hkl
      obtain ⟨i9, hi9, hy0, hy1, hy2⟩ := info_parts info26
      go_wp2_with (at_builtin; refine wpList_append_own _ rfl (.tmp 11) (.tmp 13) 43 rfl (w.heap.size + 1 + 1) 26 i9 (.int .u64 0) 1 8 Try.underlying43 hi9 hy0 hy1 hy2 rfl (by decide) _ _ _ rfl (HI1.out.row.alloc _) ⟨wr.heap.size, 0, none⟩ 1 1 [un k] rfl rfl ?c1 ?c2 ?c3 ?c4 ?c5 ?_)
      case c1 => rw [← hs1]; exact cells_new w1 [un k] 26
      case c2 => intro u hu; rw [List.mem_singleton] at hu; subst hu; rfl
      case c3 => unfold maxLen; omega
      case c4 => omega
      case c5 => have := HI1.out.bel.size; have := hrg1.lt; simp; omega
      intro v' w9 hown' hgrow _
      obtain ⟨A9, c9v, rfl⟩ := row_form hown'
      have HI9 := Lib.hid ((HI1.out.alloc (.cells #[un k] 26)).append k hown' hgrow)
      have hb9 := (HI1.out.alloc (.cells #[un k] 26)).c.grown hgrow (fun e => by have := (HI1.out.row.lt _ e.symm).1; omega)
      have c9 := hb9.at_ 0 _ rfl
      have z9 := hb9.fz 0 (by simp)
      have hrg9 := (((hrg1.alloc (.cells #[un k] 26)).kept hgrow (fun e => by have := (HI1.out.row.lt _ e.symm).1; omega) (fun e => by have := (HI1.out.row.lt _ e.symm).1; omega)).kept (grown_set w9 w.heap.size 0 (.slice A9 (ks.length + 1) c9v)) (by simp; omega) (by simp))
      clear hgrow hown' hg1 hi9 hy0 hy1 hy2 hb9
      go_wp2_with fail
      go_roundw
      case rel => subst hit'; exact ⟨_, _, _, _, _, _, _, _, _, ⟨_, cnt1, _, ks ++ [k], hrg9, HG1.out, HI9.out⟩, rfl⟩
      case measure => subst hit'; rw [hrg9.left_eq, hrg.left_eq]; exact hlt

set_option maxHeartbeats 2000000 in
theorem ids_none (w : World) : Calls Try.prog 26 #[.map none] w (IdsPost w []) := by
  have hrg := run_range_nilMap (P := Try.prog) (w.alloc (.cells #[.slice none 0 0] 43)) 56 26 26 Try.underlying56
  have hnx : ∀ ty, (Instr.next (.pointer (some ⟨(w.alloc (.cells #[.slice none 0 0] 43)).heap.size, 0, none⟩)) false ty).run Try.prog ((w.alloc (.cells #[.slice none 0 0] 43)).alloc (.mapIter none 0 #[] 0)) = _ := fun ty => run_next_nilMap (w.alloc (.cells #[.slice none 0 0] 43)) ty 0 0 #[]
  have hB := (Blk.new w #[.slice none 0 0] 43).below (below_new _ (.mapIter none 0 #[] 0))
  have hbel := ((Below.refl w.heap.size w).alloc (Nat.le_refl _) (.cells #[.slice none 0 0] 43)).alloc (by simp) (.mapIter none 0 #[] 0)
  have hzlt : w.heap.size < ((w.alloc (.cells #[.slice none 0 0] 43)).alloc (.mapIter none 0 #[] 0)).heap.size := by simp; omega
  obtain ⟨w1, hw1⟩ : ∃ w1 : World, ((w.alloc (.cells #[.slice none 0 0] 43)).alloc (.mapIter none 0 #[] 0)) = w1 := ⟨_, rfl⟩
  rw [hw1] at hrg hnx hB hbel hzlt
  have c0 := hB.at_ 0 _ rfl
  obtain ⟨it, hit⟩ : ∃ it, (w.alloc (.cells #[.slice none 0 0] 43)).heap.size = it := ⟨_, rfl⟩
  rw [hit] at hrg hnx
  have HB := Lib.hid hB
  have HBel := Lib.hid hbel
  clear hB hbel hw1 hit
  have HSrt := sort_any none 0 w.heap.size (w.heap.size + 1) [] [] w1 ⟨rfl, .inl ⟨rfl, rfl⟩⟩ c0 (by omega) hzlt (List.Perm.refl _) List.Pairwise.nil (by simp)
  go_enter Try.func26, Try.ntmps26
  go_wp2_with fail
  refine wp_loop_rounds 1 ?_
  rw [rounds_succ]
  go_wp2_with (go_at_call 27; refine HSrt.mono ?_; rintro e w9 ⟨rfl, hg9, hR9⟩; have d0 := (HB.out.grown hg9 (by simp [Value.ownBlock])).at_ 0 _ rfl)
  go_ret
  exact ⟨none, 0, rfl, hR9, HBel.out.grown hg9 HBel.out.size (fun j hj => by cases hj), fun ad ea => by cases ea⟩
theorem ids_at (mv : Value) (ps : List (Nat × Nat)) (w : World) (h : MapIs w mv ps) (ha : Asc ps) (hl : ps.length ≤ 5) (hv : ∀ p ∈ ps, p.1 < 4611686018427387904) : Calls Try.prog 26 #[mv] w (IdsPost w ps) := by
  rcases h with ⟨rfl, rfl⟩ | ⟨b, rfl, hown⟩
  · exact ids_none w
  · exact ids_some b ps w hown ha hl hv
end Go.Proofs.Ytpegafbcfpedoaa
