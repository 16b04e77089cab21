/- slices.Delete of one field out of a slice of fields of this call's own; words on such rows. -/
import Derived.Test.YtgcfnhchmmkndaaGreatDoorD4
import Derived.Deep.RegionLaw
import Derived.Laws.OwnMore
import Derived.WalkKit
import Derived.Test.YtgcfnhchmmkndaaGreatDoorD3z
import Derived.Test.YtgcfnhchmmkndaaGreatDoorL8
namespace Go.Proofs.YtgcfnhchmmkndaaGreatDoor
open Go.RowKit Go.Maps
set_option linter.unusedVariables false
set_option maxRecDepth 100000

def setAll : List Value → Nat → List Value → List Value
  | xs, _, [] => xs
  | xs, o, v :: t => setAll (xs.set o v) (o + 1) t
theorem setAll_eq : ∀ (L xs : List Value) (o : Nat), o + L.length ≤ xs.length → setAll xs o L = xs.take o ++ L ++ xs.drop (o + L.length)
  | [], xs, o, h => by simp [setAll]
  | v :: t, xs, o, h => by
    simp only [List.length_cons] at h
    have ih := setAll_eq t (xs.set o v) (o + 1) (by rw [List.length_set]; omega)
    show setAll (xs.set o v) (o + 1) t = _
    rw [ih]
    have h1 : (xs.set o v).take (o + 1) = xs.take o ++ [v] := by
      rw [List.take_succ_eq_append_getElem (by rw [List.length_set]; omega), List.getElem_set_self, List.take_set_of_le (Nat.le_refl _)]
    have h2 : (xs.set o v).drop (o + 1 + t.length) = xs.drop (o + (v :: t).length) := by
      rw [List.drop_set_of_lt (by omega), List.length_cons, show o + 1 + t.length = o + (t.length + 1) by omega]
    rw [h1, h2]
    simp
theorem row_setCells {base : Nat} {e : TypeId} {size g n cap : Nat} : ∀ (L : List Value) (w : World) (xs : List Value) (o : Nat), w.ownsRow base e size (.slice (some ⟨g, 0, none⟩) n cap) n xs →
    (w.setCells g o L).ownsRow base e size (.slice (some ⟨g, 0, none⟩) n cap) n (setAll xs o L) ∧ w.grownBy (w.setCells g o L) (some g)
  | [], w, xs, o, h => ⟨h, World.grownBy.refl w _⟩
  | v :: t, w, xs, o, h => by
    have h1 := h.stored o v
    have h2 := row_setCells t (w.setCell ⟨g, o, none⟩ v) (xs.set o v) (o + 1) h1.1
    exact ⟨h2.1, h1.2.trans h2.2⟩
theorem row_shrink {w : World} {base : Nat} {e : TypeId} {size g n m cap : Nat} {xs : List Value} (h : w.ownsRow base e size (.slice (some ⟨g, 0, none⟩) n cap) n xs) (hm : m ≤ n) : w.ownsRow base e size (.slice (some ⟨g, 0, none⟩) m cap) m (xs.take (m * size)) := by
  have hmul : m * size ≤ n * size := Nat.mul_le_mul_right _ hm
  rcases h.2 with ⟨h', _⟩ | ⟨g', cap', cur, h', hb, hg, hnc, hcm, hcs, htake⟩
  · simp at h'
  · simp only [Value.slice.injEq, Option.some.injEq, Addr.mk.injEq, and_true, true_and] at h'
    obtain ⟨rfl, rfl⟩ := h'
    refine ⟨by rw [List.length_take, h.1]; omega, .inr ⟨g, cap, cur, rfl, hb, hg, Nat.le_trans hm hnc, hcm, hcs, ?_⟩⟩
    rw [← htake, List.take_take, Nat.min_eq_left hmul]
theorem fc_take (l : List (BS × BS)) : ∀ k, (fc l).take (k * 2) = fc (l.take k) := by
  induction l with
  | nil => intro k; simp [fc]
  | cons q t ih =>
    intro k
    cases k with
    | zero => simp [fc]
    | succ k =>
      rw [show (k + 1) * 2 = k * 2 + 2 by omega]
      show (str q.1 :: str q.2 :: fc t).take (k * 2 + 2) = str q.1 :: str q.2 :: fc (t.take k)
      rw [List.take_succ_cons, List.take_succ_cons, ih]
theorem fc_set (l : List (BS × BS)) (a b : BS) : ∀ i, i < l.length → ((fc l).set (i * 2) (str a)).set (i * 2 + 1) (str b) = fc (l.set i (a, b)) := by
  induction l with
  | nil => intro i hi; cases hi
  | cons q t ih =>
    intro i hi
    cases i with
    | zero => rfl
    | succ k =>
      rw [show (k + 1) * 2 = k * 2 + 2 by omega]
      show ((str q.1 :: str q.2 :: fc t).set (k * 2 + 2) (str a)).set (k * 2 + 2 + 1) (str b) = str q.1 :: str q.2 :: fc (t.set k (a, b))
      rw [List.set_cons_succ, List.set_cons_succ, List.set_cons_succ, List.set_cons_succ, ih k (by simpa using hi)]
/-- a row is a block of its own -/
theorem row_block {w : World} {base : Nat} {e : TypeId} {size n c : Nat} {A : Option Addr} {xs : List Value} (h : w.ownsRow base e size (.slice A n c) n xs) (hn : 0 < n) : ∃ g, A = some ⟨g, 0, none⟩ ∧ base ≤ g ∧ g < w.heap.size ∧ n ≤ c := by
  rcases h.2 with ⟨h', h0⟩ | ⟨g, cap, cur, h', hb, hg, hnc, hcm, hcs, htake⟩
  · omega
  · simp only [Value.slice.injEq] at h'
    obtain ⟨rfl, -, rfl⟩ := h'
    exact ⟨g, rfl, hb, (h.lt g rfl).2, hnc⟩
theorem clear_one (W : World) (ty : TypeId) (b o c : Nat) (hc : ∀ j, j < 2 → (W.cell? ⟨b, o + j, none⟩).isSome = true) (hf : ∀ j, j < 2 → W.frozen? ⟨b, o + j, none⟩ = false) :
    (Builtin.clear_ #[26] ty #[.slice (some ⟨b, o, none⟩) 1 c]).run Tryz.prog W = .ok (.tuple #[]) (W.setCells b o [str [], str []]) := by
  have hv : ∀ w, (zeroValue 42).run Tryz.prog w = .ok (fldV [] []) w := fun w => by kernel_rfl
  have hst := run_storeCells_cells (P := Tryz.prog) b o [str [], str []] 0 W (by simpa using hc) (by simpa using hf) (by intro v hv'; rcases List.mem_cons.1 hv' with rfl | hv'; rfl; rw [List.mem_singleton] at hv'; subst hv'; rfl)
  simp only [Nat.add_zero] at hst
  have hzc : (Builtin.zeroCells (fldV [] []).cells 1).toList = [str [], str []] := by kernel_rfl
  simp [Builtin.clear_, run_underlying Tryz.underlying26, hv, hzc, hst]
def DelPost (w : World) (base g cap i : Nat) (l : List (BS × BS)) (e : Ending) (w' : World) : Prop :=
  e = .returned (.slice (some ⟨g, 0, none⟩) (l.eraseIdx i).length cap) ∧ w'.ownsRow base 42 2 (.slice (some ⟨g, 0, none⟩) (l.eraseIdx i).length cap) (l.eraseIdx i).length (fc (l.eraseIdx i)) ∧ w.grownBy w' (some g)
set_option maxHeartbeats 8000000 in
theorem delete_at (l : List (BS × BS)) (base g cap i : Nat) (w : World) (hi : i < l.length) (hrow : w.ownsRow base 42 2 (.slice (some ⟨g, 0, none⟩) l.length cap) l.length (fc l)) (hcap : cap ≤ 9223372036854775807) :
    Calls Tryz.prog 23 #[.slice (some ⟨g, 0, none⟩) l.length cap, .int .i64 (i : Int), .int .i64 ((i : Int) + 1)] w (DelPost w base g cap i l) := by
  obtain ⟨i0, hi0, hz0, hz1, hz2⟩ := info_parts info42
  have hlc : l.length ≤ cap := by
    obtain ⟨_, _, _, _, h⟩ := row_block hrow (by omega)
    exact h
  have hfl : (fc l).length = l.length * 2 := fc_len l
  have hcell : ∀ j, j < l.length * 2 → w.cell? ⟨g, j, none⟩ = (fc l)[j]? := fun j hj => hrow.cellAt j hj
  obtain ⟨news, hnews⟩ : ∃ news, news = (fc l).drop ((i + 1) * 2) := ⟨_, rfl⟩
  have hnl : news.length = (l.length - (i + 1)) * 2 := by rw [hnews, List.length_drop, hfl]; omega
  obtain ⟨A, hA, hsrc⟩ : ∃ A : Addr, (if cap = i + 1 then some (⟨g, 0, none⟩ : Addr) else some ⟨g, (i + 1) * 2, none⟩) = some A ∧ Hid (∀ j u, news[j]? = some u → w.drew.cell? (A.add j) = some u) := by
    by_cases h : cap = i + 1
    · refine ⟨⟨g, 0, none⟩, by simp [h], fun j u hu => ?_⟩
      have h0 : news.length = 0 := by rw [hnl]; omega
      rw [List.length_eq_zero_iff.1 h0] at hu
      simp at hu
    · refine ⟨⟨g, (i + 1) * 2, none⟩, by simp [h], fun j u hu => ?_⟩
      have hj : j < (l.length - (i + 1)) * 2 := by rw [← hnl]; exact (List.getElem?_eq_some_iff.1 hu).1
      rw [hnews, List.getElem?_drop] at hu
      rw [Addr.add_lit]
      exact (hcell _ (by omega)).trans hu
  have s1 : Hid (news.length = (l.length - (i + 1)) * 2) := Lib.hid hnl
  have s2 : Hid (∀ u ∈ news, u.oneCell' = true) := Lib.hid fun u hu => fc_one l u (by rw [hnews] at hu; exact List.mem_of_mem_drop hu)
  have s3 : Hid (∀ j, j < news.length → (w.drew.cell? ⟨g, 0 + i * 2 + j, none⟩).isSome = true ∧ w.drew.frozen? ⟨g, 0 + i * 2 + j, none⟩ = false) := Lib.hid fun j hj => by
    rw [hnl] at hj
    refine ⟨?_, hrow.frozenAt _⟩
    show (w.cell? _).isSome = true
    rw [hcell _ (by omega), List.getElem?_eq_getElem (by rw [hfl]; omega)]
    rfl
  obtain ⟨W1, hW1⟩ : ∃ W1, W1 = w.drew.setCells g (0 + i * 2) news := ⟨_, rfl⟩
  have hR1 := row_setCells news w.drew (fc l) (0 + i * 2) hrow.drew
  rw [← hW1] at hR1
  have hcl : ∀ ty, (Builtin.clear_ #[26] ty #[.slice (some ⟨g, (l.length - 1) * 2, none⟩) 1 (cap - (l.length - 1))]).run Tryz.prog W1 = .ok (.tuple #[]) (W1.setCells g ((l.length - 1) * 2) [str [], str []]) := fun ty =>
    clear_one W1 ty g ((l.length - 1) * 2) (cap - (l.length - 1)) (fun j hj => by
      rw [hR1.1.cellAt _ (by omega), List.getElem?_eq_getElem (by rw [hR1.1.1]; omega)]
      rfl) (fun j hj => hR1.1.frozenAt _)
  have hR2 := row_setCells [str [], str []] W1 _ ((l.length - 1) * 2) hR1.1
  have hR3 := row_shrink (m := l.length - 1) hR2.1 (by omega)
  have hel : (l.eraseIdx i).length = l.length - 1 := by rw [List.length_eraseIdx]; simp [hi]
  have hcells : (setAll (setAll (fc l) (0 + i * 2) news) ((l.length - 1) * 2) [str [], str []]).take ((l.length - 1) * 2) = fc (l.eraseIdx i) := by
    have e1 : setAll (fc l) (0 + i * 2) news = (fc l).take (i * 2) ++ news ++ (fc l).drop ((l.length - 1) * 2) := by
      rw [setAll_eq _ _ _ (by rw [hfl, hnl]; omega), Nat.zero_add, hnl, show i * 2 + (l.length - (i + 1)) * 2 = (l.length - 1) * 2 by omega]
    have hl1 : ((fc l).take (i * 2) ++ news).length = (l.length - 1) * 2 := by rw [List.length_append, List.length_take, hfl, hnl]; omega
    rw [setAll_eq _ _ _ (by rw [e1, List.length_append, hl1, List.length_drop, hfl]; simp; omega), e1, List.take_append_of_le_length (by rw [List.length_append, List.length_take, List.length_append, hl1]; omega), List.take_append_of_le_length (by rw [List.length_take, List.length_append, hl1]; omega), List.take_take, Nat.min_self, List.take_append_of_le_length (by omega), List.take_of_length_le (by omega), hnews, fc_take, fc_drop, ← fc_append, List.eraseIdx_eq_take_drop_succ]
  have HF : Hid (DelPost w base g cap i l (.returned (.slice (some ⟨g, 0, none⟩) (l.eraseIdx i).length cap)) (W1.setCells g ((l.length - 1) * 2) [str [], str []])) := Lib.hid ⟨rfl, by rw [hel, ← hcells]; exact hR3, ⟨(hR1.2.trans hR2.2).os, (hR1.2.trans hR2.2).tape, (hR1.2.trans hR2.2).output, (hR1.2.trans hR2.2).size, (hR1.2.trans hR2.2).block⟩⟩
  have X : Hid (W1 = w.drew.setCells g (0 + i * 2) news) := Lib.hid hW1
  have HEL := Lib.hid hel
  have hic : i ≤ cap := by omega
  have hwr : IntKind.i64.wrap ((i : Int) + 1) = (i : Int) + 1 := by rw [IntKind.wrap_i64]; omega
  have hp0 : (0 : Int) ≤ (i : Int) + 1 := by omega
  have hp1 : (i : Int) + 1 ≤ (l.length : Int) := by omega
  have hp2 : ((i : Int) + 1).toNat = i + 1 := by omega
  have hn1 : i + (l.length - (i + 1)) = l.length - 1 := by omega
  have hn2 : l.length - (l.length - 1) = 1 := by omega
  have hne : ((i : Int) == (i : Int) + 1) = false := by simp; omega
  clear hR1 hR2 hR3 hcells hcell hrow hW1 hel hnews hnl hfl
  go_enter Tryz.func23, Tryz.ntmps23
  go_wp2_with fail
  go_region_law (refine step_append_room rfl (.tmp 22) (.tmp 25) 26 rfl 42 i0 2 Tryz.underlying26 hi0 hz1 g 0 i cap (by simp [Act.eval, Act.put]) A (l.length - (i + 1)) (cap - (i + 1)) news (by simp [Act.eval, Act.put]) s1.out hsrc.out s2.out (by omega) s3.out ?_; rw [← X.out])
  go_wp2_with fail
  go_ret
  have h := HF.out
  rw [HEL.out] at h
  exact h

/-- the maker's bytes -/
structure MG (w wx : World) (mb K : Nat) : Prop where
  mkr : Mk wx mb K
  g : w.grownBy wx (some mb)
  lt : mb < w.heap.size
section
variable {w wx w' : World} {mb K : Nat}
theorem MG.start (h : Mk w mb K) : MG w w mb K := ⟨h, World.grownBy.refl w _, h.lt⟩
theorem MG.byte (h : MG w wx mb K) (hM : Mk w' mb K) (g : wx.grownBy w' (some mb)) : MG w w' mb K := ⟨hM, h.g.trans g, h.lt⟩
theorem MG.al {o : Obj} (h : MG w wx mb K) : MG w (wx.alloc o) mb K := h.byte h.mkr.al (World.grownBy_alloc _ _ _)
theorem MG.drew (h : MG w wx mb K) : MG w wx.drew mb K := ⟨h.mkr.drew, ⟨h.g.os, h.g.tape, h.g.output, h.g.size, h.g.block⟩, h.lt⟩
/-- another block of this call's own is written -/
theorem MG.own {r : Option Nat} (h : MG w wx mb K) (g : wx.grownBy w' r) (hr : ∀ k, r = some k → w.heap.size ≤ k) : MG w w' mb K where
  mkr := by
    cases r with
    | none => exact h.mkr.below ⟨g.os, g.tape, g.output, g.size, fun k hk => g.block k hk (by simp)⟩
    | some k => exact h.mkr.grown g (by have := hr k rfl; have := h.mkr.ge; have := h.lt; omega) (by have := hr k rfl; have := h.lt; omega)
  g := ⟨g.os.trans h.g.os, g.tape.trans h.g.tape, g.output.trans h.g.output, Nat.le_trans h.g.size g.size, fun j hj hne => (g.block j (by have := h.g.size; omega) (by
    cases r with
    | none => simp
    | some k => have := hr k rfl; simp; omega)).trans (h.g.block j hj hne)⟩
  lt := h.lt
end
/-- and the list that is made -/
structure ML (w wx : World) (mb K : Nat) (v : Value) (n : Nat) (l : List (BS × BS)) : Prop where
  m : MG w wx mb K
  row : wx.ownsRow w.heap.size 42 2 v n (fc l)
  n : n = l.length
section
variable {w wx w' : World} {mb K n : Nat} {v : Value} {l : List (BS × BS)}
theorem ML.byte (h : ML w wx mb K v n l) (hM : Mk w' mb K) (g : wx.grownBy w' (some mb)) : ML w w' mb K v n l where
  m := h.m.byte hM g
  row := h.row.kept g (by
    cases hv : v.ownBlock with
    | none => exact .inl rfl
    | some k => exact .inr (by have := (h.row.lt k hv).1; have := h.m.lt; intro e; injection e with e; omega))
  n := h.n
theorem ML.al {o : Obj} (h : ML w wx mb K v n l) : ML w (wx.alloc o) mb K v n l := ⟨h.m.al, h.row.alloc _, h.n⟩
theorem ML.drew (h : ML w wx mb K v n l) : ML w wx.drew mb K v n l := ⟨h.m.drew, h.row.drew, h.n⟩
theorem ML.own {v' : Value} {n' : Nat} {l' : List (BS × BS)} (h : ML w wx mb K v n l) (g : wx.grownBy w' v.ownBlock) (row : w'.ownsRow w.heap.size 42 2 v' n' (fc l')) (hn : n' = l'.length) : ML w w' mb K v' n' l' :=
  ⟨h.m.own g (fun k hk => (h.row.lt k hk).1), row, hn⟩
end
def ReqLPost (w : World) (mb K : Nat) (e : Ending) (w' : World) : Prop := ∃ A c l, e = .returned (.slice A (List.length l) c) ∧ MkL l ∧ l.length ≤ 11 ∧ ML w w' mb K (.slice A l.length c) l.length l
theorem seq_set_pair (W : World) {base g n cap : Nat} {l : List (BS × BS)} (h : W.ownsRow base 42 2 (.slice (some ⟨g, 0, none⟩) n cap) n (fc l)) (hn : n = l.length) (i : Nat) (hi : i < l.length) (a b : BS) :
    ((W.setCell ⟨g, i * 2, none⟩ (str a)).setCell ⟨g, i * 2 + 1, none⟩ (str b)).ownsRow base 42 2 (.slice (some ⟨g, 0, none⟩) n cap) n (fc (l.set i (a, b))) ∧ W.grownBy ((W.setCell ⟨g, i * 2, none⟩ (str a)).setCell ⟨g, i * 2 + 1, none⟩ (str b)) (some g) := by
  have h1 := h.stored (i * 2) (str a)
  have h2 := h1.1.stored (i * 2 + 1) (str b)
  rw [fc_set l a b i hi] at h2
  exact ⟨h2.1, h1.2.trans h2.2⟩
theorem swap_mem {l : List (BS × BS)} {i j : Nat} (hi : i < l.length) (hj : j < l.length) (q : BS × BS) : q ∈ swapL l i j ↔ q ∈ l := by
  have e : ∀ k, k < l.length → l.getD k ([], []) = l[k]! := fun k hk => by simp [List.getD_eq_getElem?_getD, hk]
  have hp : (swapL l i j).Perm l := by
    unfold swapL
    rw [List.getD_eq_getElem?_getD, List.getD_eq_getElem?_getD, List.getElem?_eq_getElem hi, List.getElem?_eq_getElem hj]
    exact List.set_set_perm hi hj
  exact hp.mem_iff
theorem swap_len (l : List (BS × BS)) (i j : Nat) : (swapL l i j).length = l.length := by unfold swapL; simp
/-- a literal row -/
theorem row_lit (W : World) {base : Nat} (hb : base ≤ W.heap.size) (l : List (BS × BS)) (hl : l.length ≤ 100) : (W.alloc (.cells (fc l).toArray 42)).ownsRow base 42 2 (.slice (some ⟨W.heap.size, 0, none⟩) l.length l.length) l.length (fc l) := by
  have h := World.ownsRow_lit (e := 42) (size := 2) W (fc l).toArray l.length hb (by unfold maxLen; omega) (by simp [fc_len])
  simpa using h
/-- the function's statements behind the first n -/
noncomputable def tail7 (n : Nat) : Code := seqTail n (Tryz.f7.body.getD .skip)
end Go.Proofs.YtgcfnhchmmkndaaGreatDoor
