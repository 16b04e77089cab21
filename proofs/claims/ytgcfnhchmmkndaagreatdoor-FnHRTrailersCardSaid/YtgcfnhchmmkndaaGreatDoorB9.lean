/- spec.HRAdd. -/
import Derived.Test.YtgcfnhchmmkndaaGreatDoorB8
namespace Go.Proofs.YtgcfnhchmmkndaaGreatDoor
open Go.RowKit Go.Maps
set_option linter.unusedVariables false
set_option maxRecDepth 100000

theorem ItemsAt.move {w w' : World} {o o' : Option Nat} {e : Ent} (h : ItemsAt w o e) (k : Below w.heap.size w w') (ho : ∀ g, o' = some g → w.heap.size ≤ g) : ItemsAt w' o' e where
  ex := by
    obtain ⟨A, c, h1, h2, h3, h4⟩ := h.ex
    refine ⟨A, c, h1, (h2.below k).more k.size, h3, fun hn ad e1 e2 => ?_⟩
    obtain ⟨ad', e3, hb, _⟩ := h2.2 hn
    rw [e1] at e3
    injection e3 with e3
    subst e3
    have := ho _ e2
    omega

theorem HL.app {w w' : World} {base : Nat} {v v' : Value} {es ys : List Ent} (h : HL w base v es) (g : w.grownBy w' v.ownBlock) (hy : ∀ y ∈ ys, ItemsAt w v.ownBlock y)
    (row : w'.ownsRow base 72 2 v' (es.length + ys.length) (hcells es ++ hcells ys)) (hat : v'.ownBlock = v.ownBlock ∨ v'.ownBlock = some w.heap.size)
    (hlo : ∀ y ∈ ys, 0 < y.items.length → ∀ g, y.val.ownBlock = some g → base ≤ g) : HL w' base v' (es ++ ys) where
  lo := fun e he => by
    rcases List.mem_append.1 he with he | he
    · exact h.lo e he
    · exact hlo e he
  row := by
    rw [hcells_append, List.length_append]
    exact row
  vals := fun e he => by
    have hI : ItemsAt w v.ownBlock e := by
      rcases List.mem_append.1 he with he | he
      · exact h.vals e he
      · exact hy e he
    obtain ⟨A, c, h1, h2, h3, h4⟩ := hI.ex
    have := hI.grown g (fun hn A' c' ad hv hA => by
      rw [h1] at hv
      injection hv with hv1 hv2 hv3
      subst hv1
      exact h4 hn ad hA)
    obtain ⟨A', c', h1', h2', h3', h4'⟩ := this.ex
    refine ⟨A', c', h1', h2', h3', fun hn ad e1 => ?_⟩
    rw [h1] at h1'
    injection h1' with i1 i2 i3
    subst i1
    rcases hat with ha | ha
    · rw [ha]; exact h4 hn ad e1
    · rw [ha]
      intro e2
      injection e2 with e2
      obtain ⟨ad', e3, hb, _⟩ := h2.2 hn
      rw [e1] at e3
      injection e3 with e3
      subst e3
      omega

theorem hcells_one {w : World} {o : Option Nat} {ys : List Ent} (hy : ∀ y ∈ ys, ItemsAt w o y) : ∀ u ∈ hcells ys, u.oneCell' = true := by
  intro u hu
  obtain ⟨y, hm, hu⟩ := List.mem_flatMap.1 hu
  simp only [List.mem_cons, List.mem_nil_iff, or_false] at hu
  rcases hu with rfl | rfl
  · rfl
  · obtain ⟨A, c, h1, _⟩ := (hy y hm).ex
    rw [h1]; rfl

theorem wpList_append_hl {ops : Array Oper} {rest : List Oper} {o : Oper} {a : Act} {w : World} {Q : Exit → Act → World → Prop} (hgd : o.guard = none) (s x : Operand)
    (ho : o.op = .call { callee := .builtin .append, args := #[s, x], argTypes := #[28, 28] })
    (base : Nat) (v : Value) (es : List Ent) (hs : a.eval s = v) (hL : HL w base v es) (A : Option Addr) (m c : Nat) (ys : List Ent) (hx : a.eval x = .slice A m c) (hR : Reads w w.heap.size 2 A m (hcells ys))
    (hm : ys.length = m) (hy : ∀ y ∈ ys, ItemsAt w v.ownBlock y) (hlo : ∀ y ∈ ys, 0 < y.items.length → ∀ g, y.val.ownBlock = some g → base ≤ g) (hb : base ≤ w.heap.size) (hn : es.length + m ≤ 4000000)
    (h : ∀ v' w', HL w' base v' (es ++ ys) → w.grownBy w' v.ownBlock → (v'.ownBlock = v.ownBlock ∨ v'.ownBlock = some w.heap.size) → wpList Tryz.prog ops Q rest (a.put o.dst v') w') : wpList Tryz.prog ops Q (o :: rest) a w := by
  obtain ⟨i7, hi7, hy0, hy1, hy2⟩ := info_parts info72
  refine wpList_append_any _ hgd s x 28 ho base 72 i7 (.agg #[str [], .slice none 0 0]) 2 40 Tryz.underlying28 hi7 hy0 hy1 hy2 rfl (by decide) v es.length (hcells es) hs hL.row w.heap.size A m c (hcells ys) hx hR (hcells_one hy) (by unfold maxLen; omega) (by omega) hb ?_
  intro v' w' h1 h2 h3
  exact h v' w' (hL.app h2 hy (by rw [hm]; exact h1) h3 hlo) h2 h3

theorem hcells_drop (es : List Ent) (k : Nat) : (hcells es).drop (k * 2) = hcells (es.drop k) := by
  induction es generalizing k with
  | nil => simp [hcells]
  | cons e t ih =>
    cases k with
    | zero => simp
    | succ k => rw [show (k + 1) * 2 = k * 2 + 2 by omega]; exact ih k
theorem hcells_take (es : List Ent) (k : Nat) : (hcells es).take (k * 2) = hcells (es.take k) := by
  induction es generalizing k with
  | nil => simp [hcells]
  | cons e t ih =>
    cases k with
    | zero => simp [hcells]
    | succ k =>
      rw [show (k + 1) * 2 = k * 2 + 2 by omega]
      show str e.key :: e.val :: (hcells t).take (k * 2) = str e.key :: e.val :: hcells (t.take k)
      rw [ih k]
theorem hcells_at (es : List Ent) (k : Nat) (h : k < es.length) : (hcells es)[k * 2]? = some (str es[k].key) ∧ (hcells es)[k * 2 + 1]? = some es[k].val := by
  induction es generalizing k with
  | nil => simp at h
  | cons e t ih =>
    cases k with
    | zero => exact ⟨rfl, rfl⟩
    | succ k =>
      rw [show (k + 1) * 2 = k * 2 + 2 by omega]
      exact ih k (by simpa using h)

structure HRow (w : World) (b : Nat) (es : List Ent) : Prop where
  key : ∀ k, (h : k < es.length) → w.cell? ⟨b, k * 2, none⟩ = some (str es[k].key)
  val : ∀ k, (h : k < es.length) → w.cell? ⟨b, k * 2 + 1, none⟩ = some es[k].val
  drop : ∀ k, k ≤ es.length → Reads w w.heap.size 2 (some ⟨b, k * 2, none⟩) (es.length - k) (hcells (es.drop k))
  take : ∀ k, k ≤ es.length → Reads w w.heap.size 2 (some ⟨b, 0, none⟩) k (hcells (es.take k))
theorem HRow.below {w w' : World} {b : Nat} {es : List Ent} (h : HRow w b es) (hb : b < w.heap.size) (k : Below w.heap.size w w') : HRow w' b es where
  key := fun i hi => (k.cell hb).trans (h.key i hi)
  val := fun i hi => (k.cell hb).trans (h.val i hi)
  drop := fun i hi => ((h.drop i hi).below k).more k.size
  take := fun i hi => ((h.take i hi).below k).more k.size

theorem HL.parts {w : World} {base : Nat} {v : Value} {es : List Ent} (h : HL w base v es) :
    (v = .slice none 0 0 ∧ es = []) ∨ ∃ b c, v = .slice (some ⟨b, 0, none⟩) es.length c ∧ base ≤ b ∧ b < w.heap.size ∧ es.length ≤ c ∧ HRow w b es := by
  rcases h.row.2 with ⟨h1, h2⟩ | ⟨g, cap, cur, h1, h2, h3, h4, _⟩
  · exact .inl ⟨h1, List.eq_nil_of_length_eq_zero h2⟩
  · refine .inr ⟨g, cap, h1, h2, ?_, h4, ?_⟩
    · exact (h.row.lt g (by rw [h1]; rfl)).2
    · have hb := (h.row.lt g (by rw [h1]; rfl)).2
      have hc : ∀ j u, (hcells es)[j]? = some u → w.cell? ⟨g, j, none⟩ = some u := fun j u hu => by
        have := h.row
        rw [h1] at this
        have := this.cells (g := g) rfl j u hu
        rwa [add_plain] at this
      refine ⟨fun k hk => hc _ _ (hcells_at es k hk).1, fun k hk => hc _ _ (hcells_at es k hk).2, fun k hk => ⟨?_, fun _ => ⟨_, rfl, hb, fun j u hu => ?_⟩⟩, fun k hk => ⟨?_, fun _ => ⟨_, rfl, hb, fun j u hu => ?_⟩⟩⟩
      · rw [hcells_len, List.length_drop]
      · rw [Addr.add_lit]
        rw [← hcells_drop, List.getElem?_drop] at hu
        exact hc _ _ hu
      · rw [hcells_len, List.length_take, Nat.min_eq_left hk]
      · rw [add_plain]
        rw [← hcells_take, List.getElem?_take] at hu
        split at hu
        · exact hc _ _ hu
        · simp at hu

def hrAdd : List (BS × List BS) → BS → BS → List (BS × List BS)
  | [], k, v => [(k, [v])]
  | (a, vs) :: t, k, v => if a < k then (a, vs) :: hrAdd t k v else if a = k then (k, vs ++ [v]) :: t else (k, [v]) :: (a, vs) :: t

theorem hrAdd_split (H : List (BS × List BS)) (k v : BS) (i : Nat) (hi : i ≤ H.length) (hl : ∀ q, (h : q < i) → (H[q]'(by omega)).1 < k) (hs : (h : i < H.length) → ¬ H[i].1 < k) :
    hrAdd H k v = H.take i ++ (if h : i < H.length then if H[i].1 = k then (k, H[i].2 ++ [v]) :: H.drop (i + 1) else (k, [v]) :: H.drop i else [(k, [v])]) := by
  induction H generalizing i with
  | nil => simp [hrAdd]
  | cons p t ih =>
    obtain ⟨a, vs⟩ := p
    cases i with
    | zero =>
      have h0 := hs (by simp)
      simp only [List.getElem_cons_zero] at h0
      simp [hrAdd, h0]
    | succ i =>
      have h0 := hl 0 (by omega)
      simp only [List.getElem_cons_zero] at h0
      have := ih i (by simpa using hi) (fun q hq => by have := hl (q + 1) (by omega); simpa using this) (fun h => by have := hs (by simpa using h); simpa using this)
      simp only [hrAdd, h0, if_true, this, List.take_succ_cons, List.cons_append, List.length_cons, List.drop_succ_cons, List.getElem_cons_succ, Nat.add_lt_add_iff_right]

def HAddPost (w : World) (base : Nat) (H : List (BS × List BS)) (e : Ending) (w' : World) : Prop :=
  ∃ v es, e = .returned v ∧ HL w' base v es ∧ absE es = H ∧ Below w.heap.size w w' ∧ ∀ g, v.ownBlock = some g → w.heap.size ≤ g

/-- the entry that is made: a row of one string, and a head of it -/
def newW (w : World) (k v : BS) : World := (w.alloc (.cells #[str v] 9)).alloc (.cells #[str k, .slice (some ⟨w.heap.size, 0, none⟩) 1 1] 72)
def newE (w : World) (k v : BS) : Ent := ⟨k, .slice (some ⟨w.heap.size, 0, none⟩) 1 1, [v]⟩
theorem newW_eq (w : World) (k v : BS) : (w.alloc (.cells #[str v] 9)).alloc (.cells #[str k, .slice (some ⟨w.heap.size, 0, none⟩) 1 1] 72) = newW w k v := rfl
theorem newW_size (w : World) (k v : BS) : (newW w k v).heap.size = w.heap.size + 2 := by simp [newW]
theorem newW_below (w : World) (k v : BS) : Below w.heap.size w (newW w k v) := ((Below.refl w.heap.size w).alloc (Nat.le_refl _) _).alloc (by simp) _
theorem newE_at (w : World) (k v : BS) (o : Option Nat) (ho : ∀ g, o = some g → g < w.heap.size) : ItemsAt (newW w k v) o (newE w k v) where
  ex := ⟨_, _, rfl, ⟨rfl, fun _ => ⟨_, rfl, by rw [newW_size]; simp, fun j u hu => by
    match j, hu with
    | 0, hu =>
      simp [newE, scells] at hu
      subst hu
      simp [newW, Addr.add]⟩⟩, Nat.le_refl _, fun _ ad e1 e2 => by
    injection e1 with e1
    subst e1
    have := ho _ e2
    simp at this⟩
theorem newE_reads (w : World) (k v : BS) : Reads (newW w k v) (newW w k v).heap.size 2 (some ⟨w.heap.size + 1, 0, none⟩) 1 (hcells [newE w k v]) :=
  ⟨rfl, fun _ => ⟨_, rfl, by rw [newW_size]; simp, fun j u hu => by
    match j, hu with
    | 0, hu => simp [newE, hcells] at hu; subst hu; simp [newW, Addr.add]
    | 1, hu => simp [newE, hcells] at hu; subst hu; simp [newW, Addr.add]⟩⟩

/-- after the first appends -/
structure Out1 (w wx : World) (base : Nat) (v : Value) (es : List Ent) : Prop where
  hl : HL wx base v es
  bel : Below w.heap.size w wx
  own : ∀ g, v.ownBlock = some g → w.heap.size ≤ g
theorem Out1.app {w w1 w2 : World} {base : Nat} {v v' : Value} {es es' : List Ent} (h : Out1 w w1 base v es) (hL : HL w2 base v' es') (g : w1.grownBy w2 v.ownBlock) (hat : v'.ownBlock = v.ownBlock ∨ v'.ownBlock = some w1.heap.size) : Out1 w w2 base v' es' where
  hl := hL
  bel := h.bel.grown g h.bel.size (fun k hk => h.own k hk)
  own := fun g' hg => by
    rcases hat with e | e
    · exact h.own g' (e ▸ hg)
    · rw [e] at hg
      injection hg with hg
      have := h.bel.size
      omega
theorem Out1.new {w w1 : World} {base : Nat} {v : Value} {es : List Ent} (h : Out1 w w1 base v es) (k u : BS) : Out1 w (newW w1 k u) base v es where
  hl := h.hl.below (newW_below _ _ _)
  bel := Below.next h.bel h.bel.size (newW_below _ _ _)
  own := h.own

/-- the new entry's append, and the last one -/
def Tail (w : World) (base : Nat) (es : List Ent) (H : List (BS × List BS)) (v : Value) (w1 : World) : Prop := ∃ v' es', HL w1 base v' es'
set_option maxHeartbeats 4000000 in
theorem hradd_nil (k v : BS) (base : Nat) (w : World) (hb : base ≤ w.heap.size) : Calls Tryz.prog 36 #[.slice none 0 0, str k, str v] w (HAddPost w base (hrAdd [] k v)) := by
  go_enter Tryz.func36, Tryz.ntmps36
  go_wp2_with fail
  refine wp_loop_rounds 1 ?_
  rw [rounds_succ]
  go_wp2_with (at_builtin; refine wpList_append_hl rfl (.tmp 24) (.tmp 27) rfl base _ [] rfl (HL.nil _ _) none 0 0 [] rfl Reads.none_ rfl (fun y hy => by cases hy) (fun y hy => by cases hy) hb (by decide) ?_)
  intro v1 w1 hL1 hg1 hat1
  have O1 := Lib.hid ((⟨HL.nil _ _, Below.refl _ _, fun g hg => by cases hg⟩ : Out1 w w base (.slice none 0 0) []).app hL1 hg1 hat1)
  obtain ⟨A1, c1, rfl⟩ := row_form hL1.row
  clear hL1 hg1 hat1
  have N1 := Lib.hid (O1.out.new k v)
  have hb1 : base ≤ (newW w1 k v).heap.size := by have := N1.out.bel.size; omega
  have E1 := newE_at w1 k v (Value.slice A1 0 c1).ownBlock (fun g hg => (O1.out.hl.row.lt g hg).2)
  have R1 := newE_reads w1 k v
  go_wp2_with (at_builtin; rw [newW_eq]; refine wpList_append_hl rfl (.tmp 63) (.tmp 68) rfl base _ [] rfl N1.out.hl (some ⟨w1.heap.size + 1, 0, none⟩) 1 1 [newE w1 k v] rfl R1 rfl (fun y hy => by rw [List.mem_singleton.1 hy]; exact E1) (fun y hy hn g hg => by rw [List.mem_singleton.1 hy] at hg; injection hg with hg; have := O1.out.bel.size; simp at hg; omega) hb1 (by decide) ?_)
  intro v2 w2 hL2 hg2 hat2
  have O2 := Lib.hid (N1.out.app hL2 hg2 hat2)
  obtain ⟨A2, c2, rfl⟩ := row_form hL2.row
  have hb2 : base ≤ w2.heap.size := by have := O2.out.bel.size; omega
  clear hL2 hg2 hat2 E1 R1 hb1
  go_wp2_with (at_builtin; refine wpList_append_hl rfl (.tmp 70) (.tmp 73) rfl base _ [newE w1 k v] rfl O2.out.hl none 0 0 [] rfl Reads.none_ rfl (fun y hy => by cases hy) (fun y hy => by cases hy) hb2 (by simp) ?_)
  intro v3 w3 hL3 hg3 hat3
  have O3 := Lib.hid (O2.out.app hL3 hg3 hat3)
  clear hL3 hg3 hat3
  go_wp2_with fail
  go_ret
  exact ⟨v3, _, rfl, O3.out.hl, rfl, O3.out.bel, O3.out.own⟩
end Go.Proofs.YtgcfnhchmmkndaaGreatDoor
