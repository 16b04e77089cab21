import Derived.Test.YtdgpfgbocacgeaaDoorProg
import Derived.WalkKit
import Derived.Below
import Derived.WalkLawsBesides
import Derived.WalkSpells
import Derived.Outline
import Derived.Lib.Hide
import Derived.Laws.Tables
import Derived.Laws.Rows
import Derived.Great.BuildSlice
namespace Go.Proofs.YtdgpfgbocacgeaaDoor
open Go.RowKit

noncomputable def buildAct (P : Program) (o : Oper) (a : Act) : Option Act :=
  match o.op with
  | .build t parts => if o.guard.isNone then (P.built t (parts.map fun (i, x) => (i, a.eval x)).toList).map fun cells => a.put o.dst (.agg cells) else none
  | _ => none

noncomputable def buildsAct (P : Program) : List Oper → Act → Option Act
  | [], a => some a
  | o :: l, a => (buildAct P o a).bind (buildsAct P l)

theorem wpList_build1 {P : Program} {ops : Array Oper} {Q : Exit → Act → World → Prop} {rest : List Oper} {o : Oper} {a a' : Act} {w : World}
    (h : buildAct P o a = some a') (k : wpList P ops Q rest a' w) : wpList P ops Q (o :: rest) a w := by
  unfold buildAct at h
  split at h
  next t parts ho =>
    split at h
    next hg =>
      rw [Option.map_eq_some_iff] at h
      obtain ⟨cells, hc, rfl⟩ := h
      exact wpList_buildTo (by simpa using hg) t parts ho _ rfl cells hc k
    next => exact absurd h (by simp)
  next => exact absurd h (by simp)

theorem wpList_builds {P : Program} {ops : Array Oper} {Q : Exit → Act → World → Prop} {rest : List Oper} {w : World} :
    ∀ (l : List Oper) (a a' : Act), buildsAct P l a = some a' → wpList P ops Q rest a' w → wpList P ops Q (l ++ rest) a w
  | [], a, a', h, k => by simp only [buildsAct, Option.some.injEq] at h; subst h; exact k
  | o :: l, a, a', h, k => by
    simp only [buildsAct, Option.bind_eq_some_iff] at h
    obtain ⟨b, hb, hl⟩ := h
    exact wpList_build1 hb (wpList_builds l b a' hl k)

theorem wp_builds {P : Program} {id : Nat} {ops : Array Oper} {Q : Exit → Act → World → Prop} {w : World} {a : Act} (l : List Oper) (rest : List Oper) (a' : Act)
    (h : ops.toList = l ++ rest) (hb : buildsAct P l a = some a') (k : wpList P ops Q rest a' w) : (Code.region id ops false).wp P Q a w :=
  wp_region_list (by rw [h]; exact wpList_builds l a a' hb k)

theorem wpList_run {P : Program} {ops : Array Oper} {Q : Exit → Act → World → Prop} {rest : List Oper} {o : Oper} {a : Act} {w w' : World} (v : Value)
    (hg : o.guard = none) (hr : (execOp a.eval o).run P w = .ok (.value v) w') (h : wpList P ops Q rest (a.put o.dst v) w') : wpList P ops Q (o :: rest) a w :=
  wpList_plain hg fun _ hK => by
    unfold Oper.wp
    rw [hr]
    exact hK _ _ h

theorem below_setRow {B : Nat} {a w : World} (h : Below B a w) {g : Nat} (hp : B ≤ g) (cs : Array Value) : Below B a (w.setRow g cs) :=
  ⟨h.os, h.tape, h.output, by simpa [World.setRow] using h.size, fun k hk => by
    have hne : g ≠ k := by omega
    simpa [World.setRow, Array.getElem?_modify, hne] using h.block k hk⟩

noncomputable def tabOps : List Oper :=
  match Tryd.f39.body with
  | some (.seq _ (.seq (.region _ ops _) _)) => ops.toList
  | _ => []

noncomputable def tabZ : Array Value := Array.replicate 198 (.string ⟨#[]⟩)

noncomputable def tabStart (n : Nat) : Act := { tmps := #[.pointer (some ⟨n, 0, none⟩)] ++ Array.replicate 100 undef, defers := [] }

noncomputable def tabEnd (n : Nat) : Act := (buildsAct Tryd.prog (tabOps.take 100) (tabStart n)).getD (tabStart n)

/-- The cells of the table. -/
noncomputable def tabC : Array Value := ((tabEnd 0).tmps.getD 100 undef).cells

set_option maxRecDepth 100000 in
theorem tab_alloc (w : World) : (Instr.alloc 87 true (.tuple #[])).run Tryd.prog w = .ok (.pointer (some ⟨w.heap.size, 0, none⟩)) (w.alloc (.cells tabZ 87)) := by kernel_rfl

set_option maxRecDepth 100000 in
theorem tab_builds (n : Nat) : buildsAct Tryd.prog (tabOps.take 100) (tabStart n) = some (tabEnd n) := by kernel_rfl

set_option maxRecDepth 100000 in
theorem tab_end (n : Nat) : (tabEnd n).tmps.getD 100 undef = .agg tabC := by kernel_rfl

set_option maxRecDepth 100000 in
theorem tab_end0 (n : Nat) : (tabEnd n).tmps.getD 0 undef = .pointer (some ⟨n, 0, none⟩) := by kernel_rfl

theorem tab_size : tabC.size = 198 := by kernel_rfl
theorem tab_one : tabC.all (·.oneCell') = true := by kernel_rfl
theorem tab_34 : tabC[34]? = some (.string ⟨#[58, 109, 101, 116, 104, 111, 100]⟩) := by kernel_rfl
theorem tab_35 : tabC[35]? = some (.string ⟨#[71, 69, 84]⟩) := by kernel_rfl
theorem tab_info : (Tryd.prog.info? 87).map (·.size) = some 198 := by kernel_rfl

noncomputable def tabAlloc : Oper :=
  match Tryd.f39.body with
  | some (.seq (.region _ ops _) _) => ops[0]!
  | _ => default

noncomputable def tabStore : Oper := tabOps[100]!

set_option maxRecDepth 100000 in
theorem tab_body : Tryd.f39.body = some (.seq (.region 0 [tabAlloc].toArray false) (.seq (.region 1 (tabOps.take 100 ++ [tabStore]).toArray false) .ret)) := by kernel_rfl

theorem tab_alloc_op : tabAlloc.op = .alloc 87 := by kernel_rfl
theorem tab_alloc_guard : tabAlloc.guard = none := by kernel_rfl
theorem tab_alloc_dst : tabAlloc.dst = some 0 := by kernel_rfl
theorem tab_store_op : tabStore.op = .store 87 (.tmp 0) (.tmp 100) := by kernel_rfl
theorem tab_store_guard : tabStore.guard = none := by kernel_rfl
theorem tab_store_dst : tabStore.dst = none := by kernel_rfl
theorem tab_start (n : Nat) : Act.put { tmps := #[] ++ Array.replicate (Tryd.f39.ntmps - (#[] : Array Value).size) undef, defers := [] } (some 0) (.pointer (some ⟨n, 0, none⟩)) = tabStart n := by kernel_rfl
theorem tab_results : Tryd.f39.results = #[.cell 0 87] := by kernel_rfl
theorem tab_under : Tryd.prog.underlying 87 = some (.array 99 59) := by kernel_rfl
theorem tab_defers (n : Nat) : (tabEnd n).defers = [] := by kernel_rfl

set_option maxRecDepth 100000 in
theorem tab_index17 (w : World) : (Instr.index 87 (.agg tabC) (.int .u64 17)).run Tryd.prog w =
    .ok (.agg #[.string ⟨#[58, 109, 101, 116, 104, 111, 100]⟩, .string ⟨#[71, 69, 84]⟩]) w := by kernel_rfl

attribute [irreducible] tabOps tabAlloc tabStore tabEnd tabC tabZ tabStart

theorem tabZ_size : tabZ.size = 198 := by unfold tabZ; simp

set_option maxRecDepth 100000 in
theorem table_any (w : World) : Calls Tryd.prog 39 #[] w fun e w' => e = .returned (.agg tabC) ∧ Below w.heap.size w w' := by
  refine calls_of_wp Tryd.func39 tab_body ?_
  refine wp_seq (wp_region_lit ?_)
  refine wpList_run (.pointer (some ⟨w.heap.size, 0, none⟩)) tab_alloc_guard (w' := w.alloc (.cells tabZ 87)) (by
    simp only [execOp, tab_alloc_op, Sem.run_bind, tab_alloc, Result.andThen_ok, Sem.run_pure]) ?_
  rw [tab_alloc_dst, tab_start]
  refine wpList_nil ?_
  show Code.wp _ _ _ _ _
  refine wp_seq (wp_builds (tabOps.take 100) [tabStore] (tabEnd w.heap.size) (by simp) (tab_builds w.heap.size) ?_)
  refine wpList_store_rowTo tab_store_guard 87 (.tmp 0) (.tmp 100) tab_store_op tab_store_dst w.heap.size tabC (tab_end0 _) (tab_end _) 87 tabZ (heap_alloc_new _ _) (by rw [tab_info, tab_size])
    (by rw [tabZ_size, tab_size]) tab_one ?_
  refine wpList_nil ?_
  show Code.wp _ _ _ _ _
  refine wp_ret ?_
  refine ⟨tab_defers _, _, results_cell_row tab_results _ _ w.heap.size 87 tabC (0, 0) _ (tab_end0 _) (setRow_heap _ _ tabZ _ _ _ (heap_alloc_new _ _)) tab_under rfl (by rw [tab_info, tab_size]), rfl, ?_⟩
  exact below_setRow ((Below.refl _ w).alloc (Nat.le_refl _) _) (Nat.le_refl _) _

end Go.Proofs.YtdgpfgbocacgeaaDoor
