/- spec.H3Told: its plain law and the words for its memory. -/
import Derived.Test.YtpegafbcfpedoaaH4
import Derived.Deep.RegionLaw
namespace Go.Proofs.Ytpegafbcfpedoaa
open Go.RowKit
set_option linter.unusedVariables false
set_option maxRecDepth 100000

/-! ### a block known cell by cell -/
structure Blk (w : World) (b : Nat) (vs : List Value) : Prop where
  at_ : ∀ j u, vs[j]? = some u → w.cell? ⟨b, j, none⟩ = some u
  fz : ∀ j, j < vs.length → w.frozen? ⟨b, j, none⟩ = false
  lt : b < w.heap.size

section
variable {w w' : World} {b : Nat} {vs : List Value}
theorem Blk.below (h : Blk w b vs) (k : Below w.heap.size w w') : Blk w' b vs where
  at_ := fun j u hu => (k.cell h.lt).trans (h.at_ j u hu)
  fz := fun j hj => (k.frozen h.lt).trans (h.fz j hj)
  lt := Nat.lt_of_lt_of_le h.lt k.size
theorem Blk.grown {row : Option Nat} (h : Blk w b vs) (g : w.grownBy w' row) (hne : some b ≠ row) : Blk w' b vs where
  at_ := fun j u hu => g.cell (h.at_ j u hu) hne
  fz := fun j hj => (g.frozen_far ⟨b, j, none⟩ h.lt hne).trans (h.fz j hj)
  lt := Nat.lt_of_lt_of_le h.lt g.size
theorem Blk.set (h : Blk w b vs) (i : Nat) (x : Value) (hi : i < vs.length) : Blk (w.setCell ⟨b, i, none⟩ x) b (vs.set i x) where
  at_ := fun j u hu => by
    by_cases e : j = i
    · subst e
      rw [List.getElem?_set_self hi] at hu
      injection hu with hu
      subst hu
      exact World.cell?_setCell_same _ _ _ (h.at_ j vs[j] (List.getElem?_eq_getElem hi))
    · rw [List.getElem?_set_ne (Ne.symm e)] at hu
      exact (World.cell?_setCell_other _ _ _ _ (by simp; try omega)).trans (h.at_ j u hu)
  fz := fun j hj => by
    have := h.fz j (by simpa using hj)
    simpa using this
  lt := by simpa using h.lt
theorem cell_other (w : World) (a p : Addr) (u : Value) (h : p.block ≠ a.block) : (w.setCell p u).cell? a = w.cell? a :=
  World.cell?_setCell_other _ _ _ _ (fun e => h (by rw [e]))
theorem Blk.other (h : Blk w b vs) {p : Addr} (x : Value) (hp : p.block ≠ b) : Blk (w.setCell p x) b vs where
  at_ := fun j u hu => (cell_other _ _ _ _ hp).trans (h.at_ j u hu)
  fz := fun j hj => by
    have := h.fz j hj
    simpa using this
  lt := by simpa using h.lt
theorem Blk.new (w : World) (vs : Array Value) (t : TypeId) : Blk (w.alloc (.cells vs t)) w.heap.size vs.toList where
  at_ := fun j u hu => by
    rw [cell_of_row _ w.heap.size j vs t (0, 0) (heap_alloc_new w _)]
    simpa using hu
  fz := fun j hj => by simp
  lt := by simp
theorem Blk.cut {B : Nat} (h : Blk w b vs) (k : Below B w w') (hb : b < B) : Blk w' b vs where
  at_ := fun j u hu => (k.cell (p := ⟨b, j, none⟩) hb).trans (h.at_ j u hu)
  fz := fun j hj => (k.frozen (p := ⟨b, j, none⟩) hb).trans (h.fz j hj)
  lt := Nat.lt_of_lt_of_le h.lt k.size
theorem Blk.drewN (h : Blk w b vs) (k : Nat) : Blk (w.drewN k) b vs := ⟨h.at_, h.fz, h.lt⟩
theorem Blk.sets8 {x0 x1 x2 x3 x4 x5 x6 x7 : Value} (h : Blk w b vs) (hl : vs.length = 8) :
    Blk ((((((((w.setCell ⟨b, 0, none⟩ x0).setCell ⟨b, 1, none⟩ x1).setCell ⟨b, 2, none⟩ x2).setCell ⟨b, 3, none⟩ x3).setCell ⟨b, 4, none⟩ x4).setCell ⟨b, 5, none⟩ x5).setCell ⟨b, 6, none⟩ x6).setCell ⟨b, 7, none⟩ x7) b [x0, x1, x2, x3, x4, x5, x6, x7] := by
  obtain ⟨a0, a1, a2, a3, a4, a5, a6, a7, rfl⟩ : ∃ a0 a1 a2 a3 a4 a5 a6 a7, vs = [a0, a1, a2, a3, a4, a5, a6, a7] := by
    match vs, hl with
    | [a0, a1, a2, a3, a4, a5, a6, a7], _ => exact ⟨_, _, _, _, _, _, _, _, rfl⟩
  exact ((((((((h.set 0 x0 (by simp)).set 1 x1 (by simp)).set 2 x2 (by simp)).set 3 x3 (by simp)).set 4 x4 (by simp)).set 5 x5 (by simp)).set 6 x6 (by simp)).set 7 x7 (by simp))
end

theorem step_append_any {P : Program} (w : World) {ops : Array Oper} {o : Oper} {a : Act} {K : Act → World → Prop} {Q : Exit → Act → World → Prop} {E : Prop} (hgd : o.guard = none) (s x : Operand) (t : TypeId)
    (ho : o.op = .call { callee := .builtin .append, args := #[s, x], argTypes := #[t, t] })
    (base : Nat) (e : TypeId) (i : TypeInfo) (z : Value) (size bytes : Nat) (ht : P.underlying t = some (.slice e)) (hi : P.info? e = some i) (hz : i.zero = some z)
    (hsize : i.size = size) (hby : i.bytes = bytes) (hzs : z.cells.size = size) (hsz : 0 < size)
    (v : Value) (n : Nat) (xs : List Value) (hs : a.eval s = v) (hown : w.ownsRow base e size v n xs)
    (B : Nat) (A : Option Addr) (m c : Nat) (news : List Value) (hx : a.eval x = .slice A m c) (hr : Reads w B size A m news) (h1 : ∀ u ∈ news, u.oneCell' = true)
    (h63 : n + m ≤ maxLen) (hbytes : (n + m) * bytes ≤ 140737488355328) (hbase : base ≤ w.heap.size)
    (h : ∀ v' w', w'.ownsRow base e size v' (n + m) (xs ++ news) → w.grownBy w' v.ownBlock → (v'.ownBlock = v.ownBlock ∨ v'.ownBlock = some w.heap.size) → K (a.put o.dst v') w') :
    if Region.wanted o (yielded ops a.tmps) = true then Oper.wp P o a w K Q else E := by
  have hw : Region.wanted o (yielded ops a.tmps) = true := by simp [Region.wanted, hgd]
  rw [if_pos hw]
  exact wp_append_any w s x t ho base e i z size bytes ht hi hz hsize hby hzs hsz v n xs hs hown B A m c news hx hr h1 h63 hbytes hbase h

theorem own_prefix {w : World} {base n k c size : Nat} {e : TypeId} {A : Option Addr} {xs : List Value} (h : w.ownsRow base e size (.slice A n c) n xs) (hk : k ≤ n) : w.ownsRow base e size (.slice A k c) k (xs.take (k * size)) := by
  have hmul : k * size ≤ n * size := Nat.mul_le_mul_right _ hk
  refine ⟨by rw [List.length_take, h.1]; omega, ?_⟩
  rcases h.2 with ⟨e1, e2⟩ | ⟨g, cap, cur, e1, hb, hg, hnc, hcm, hcs, ht⟩
  · left
    injection e1 with e1 e3 e4
    have : k = 0 := by omega
    subst this e1 e4
    exact ⟨rfl, rfl⟩
  · right
    injection e1 with e1 _ e4
    subst e1 e4
    refine ⟨g, c, cur, rfl, hb, hg, by omega, hcm, hcs, ?_⟩
    rw [← ht, List.take_take, Nat.min_eq_left hmul]
theorem reads_rest {w : World} {base n k c size : Nat} {e : TypeId} {g : Nat} {xs : List Value} {B : Nat} (h : w.ownsRow base e size (.slice (some ⟨g, 0, none⟩) n c) n xs) (hk : k ≤ n) (hw : w.heap.size ≤ B) : Reads w B size (some ⟨g, k * size, none⟩) (n - k) (xs.drop (k * size)) := by
  refine ⟨by rw [List.length_drop, h.1, Nat.sub_mul], fun hn => ⟨_, rfl, by have := (h.lt g rfl).2; show g < B; omega, fun j u hu => ?_⟩⟩
  rw [List.getElem?_drop] at hu
  have hc := h.cells (g := g) rfl _ _ hu
  rw [Addr.add_lit] at hc ⊢
  simpa [Nat.add_assoc] using hc

/-! ### what settings say -/
def Oth (i : Nat) : Prop := i ≠ 6 ∧ i ≠ 8 ∧ i ≠ 51
instance (i : Nat) : Decidable (Oth i) := by unfold Oth; infer_instance
def Asc (ps : List (Nat × Nat)) : Prop := ps.Pairwise fun a b => a.1 < b.1
structure Told (l : List (Nat × Nat)) (mx : Int) (dat ext : Bool) (ps : List (Nat × Nat)) : Prop where
  m0 : (∀ p ∈ l, p.1 ≠ 6) → mx = -1
  m1 : ∀ p ∈ l, p.1 = 6 → mx = (p.2 : Int)
  d : dat = decide ((51, 1) ∈ l)
  e : ext = decide ((8, 1) ∈ l)
  asc : Asc ps
  mem : ∀ p, p ∈ ps ↔ p ∈ l ∧ Oth p.1

theorem Told.nil : Told [] (-1) false false [] := ⟨fun _ => rfl, fun _ h => by simp at h, by simp, by simp, List.Pairwise.nil, fun p => by simp⟩

section
variable {l : List (Nat × Nat)} {mx : Int} {dat ext : Bool} {ps : List (Nat × Nat)} {i v : Nat}
theorem mem_snoc {p q : Nat × Nat} : p ∈ l ++ [q] ↔ p ∈ l ∨ p = q := by simp
theorem Told.six (h : Told l mx dat ext ps) (hn : 6 ∉ l.map Prod.fst) : Told (l ++ [(6, v)]) (v : Int) dat ext ps where
  m0 := fun hh => absurd rfl (hh (6, v) (by simp))
  m1 := fun p hp h6 => by
    rcases mem_snoc.1 hp with hp | rfl
    · exact absurd (h6 ▸ List.mem_map_of_mem (f := Prod.fst) hp) hn
    · rfl
  d := by rw [h.d]; simp
  e := by rw [h.e]; simp
  asc := h.asc
  mem := fun p => by
    rw [h.mem, mem_snoc]
    refine ⟨fun hp => ⟨.inl hp.1, hp.2⟩, fun hp => ⟨?_, hp.2⟩⟩
    rcases hp with ⟨hp | rfl, ho⟩
    · exact hp
    · exact absurd rfl ho.1
theorem Told.eight (h : Told l mx dat ext ps) (hn : 8 ∉ l.map Prod.fst) : Told (l ++ [(8, v)]) mx dat (decide (v = 1)) ps where
  m0 := fun hh => h.m0 fun p hp => hh p (by simp [hp])
  m1 := fun p hp h6 => by
    rcases mem_snoc.1 hp with hp | rfl
    · exact h.m1 p hp h6
    · simp at h6
  d := by rw [h.d]; simp
  e := by
    rw [decide_eq_decide, mem_snoc]
    refine ⟨fun hv => .inr (by rw [hv]), fun hh => ?_⟩
    rcases hh with hh | hh
    · exact absurd (List.mem_map_of_mem (f := Prod.fst) hh) hn
    · injection hh with _ hh; exact hh.symm
  asc := h.asc
  mem := fun p => by
    rw [h.mem, mem_snoc]
    refine ⟨fun hp => ⟨.inl hp.1, hp.2⟩, fun hp => ⟨?_, hp.2⟩⟩
    rcases hp with ⟨hp | rfl, ho⟩
    · exact hp
    · exact absurd rfl ho.2.1
theorem Told.data (h : Told l mx dat ext ps) (hn : 51 ∉ l.map Prod.fst) : Told (l ++ [(51, v)]) mx (decide (v = 1)) ext ps where
  m0 := fun hh => h.m0 fun p hp => hh p (by simp [hp])
  m1 := fun p hp h6 => by
    rcases mem_snoc.1 hp with hp | rfl
    · exact h.m1 p hp h6
    · simp at h6
  e := by rw [h.e]; simp
  d := by
    rw [decide_eq_decide, mem_snoc]
    refine ⟨fun hv => .inr (by rw [hv]), fun hh => ?_⟩
    rcases hh with hh | hh
    · exact absurd (List.mem_map_of_mem (f := Prod.fst) hh) hn
    · injection hh with _ hh; exact hh.symm
  asc := h.asc
  mem := fun p => by
    rw [h.mem, mem_snoc]
    refine ⟨fun hp => ⟨.inl hp.1, hp.2⟩, fun hp => ⟨?_, hp.2⟩⟩
    rcases hp with ⟨hp | rfl, ho⟩
    · exact hp
    · exact absurd rfl ho.2.2
/-- an insertion at its place -/
theorem Told.other (h : Told l mx dat ext ps) (ho : Oth i) (hn : i ∉ l.map Prod.fst) (k : Nat) (hk : k ≤ ps.length) (hr : ∀ p ∈ ps.drop k, i < p.1) (hl : ∀ hk0 : 0 < k, (ps[k - 1]'(by omega)).1 ≤ i) :
    Told (l ++ [(i, v)]) mx dat ext (ps.take k ++ (i, v) :: ps.drop k) where
  m0 := fun hh => h.m0 fun p hp => hh p (by simp [hp])
  m1 := fun p hp h6 => by
    rcases mem_snoc.1 hp with hp | rfl
    · exact h.m1 p hp h6
    · exact absurd h6 ho.1
  d := by
    rw [h.d, decide_eq_decide, mem_snoc]
    refine ⟨.inl, fun hh => hh.resolve_right ?_⟩
    rintro e
    injection e with e1 _
    exact ho.2.2 e1.symm
  e := by
    rw [h.e, decide_eq_decide, mem_snoc]
    refine ⟨.inl, fun hh => hh.resolve_right ?_⟩
    rintro e
    injection e with e1 _
    exact ho.2.1 e1.symm
  asc := by
    have hne : ∀ p ∈ ps, p.1 ≠ i := fun p hp e => hn (by
      have := ((h.mem p).1 hp).1
      exact e ▸ List.mem_map_of_mem (f := Prod.fst) this)
    have ha : Asc (ps.take k ++ ps.drop k) := by rw [List.take_append_drop]; exact h.asc
    obtain ⟨a1, a2, a3⟩ := List.pairwise_append.1 ha
    refine List.pairwise_append.2 ⟨a1, List.pairwise_cons.2 ⟨hr, a2⟩, fun a ha b hb => ?_⟩
    rcases List.mem_cons.1 hb with rfl | hb
    · have hk0 : 0 < k := by
        rcases Nat.eq_zero_or_pos k with h0 | h0
        · subst h0; simp at ha
        · exact h0
      have h1 := hl hk0
      have h2 := hne a (List.mem_of_mem_take ha)
      suffices a.1 ≤ (ps[k - 1]'(by omega)).1 by show a.1 < i; omega
      obtain ⟨j, hj, rfl⟩ := List.getElem_of_mem ha
      have hj' : j < k := by simp at hj; omega
      rw [List.getElem_take]
      rcases Nat.lt_or_ge j (k - 1) with hlt | hge
      · exact Nat.le_of_lt (List.pairwise_iff_getElem.1 h.asc j (k - 1) (by omega) (by omega) hlt)
      · have : j = k - 1 := by omega
        subst this
        exact Nat.le_refl _
    · exact a3 a ha b hb
  mem := fun p => by
    rw [mem_snoc, List.mem_append, List.mem_cons]
    have hm : p ∈ ps ↔ p ∈ ps.take k ∨ p ∈ ps.drop k := by rw [← List.mem_append, List.take_append_drop]
    have h2 := h.mem p
    constructor
    · rintro (hp | rfl | hp)
      · exact ⟨.inl (h2.1 (hm.2 (.inl hp))).1, (h2.1 (hm.2 (.inl hp))).2⟩
      · exact ⟨.inr rfl, ho⟩
      · exact ⟨.inl (h2.1 (hm.2 (.inr hp))).1, (h2.1 (hm.2 (.inr hp))).2⟩
    · rintro ⟨hp | rfl, ho'⟩
      · rcases hm.1 (h2.2 ⟨hp, ho'⟩) with hp | hp
        · exact .inl hp
        · exact .inr (.inr hp)
      · exact .inr (.inl rfl)
end
end Go.Proofs.Ytpegafbcfpedoaa
