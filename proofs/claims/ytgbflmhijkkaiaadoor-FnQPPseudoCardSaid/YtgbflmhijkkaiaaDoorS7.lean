/- laws.qpSame, laws.qpAwake and the law's walk. -/
import Derived.Test.YtgbflmhijkkaiaaDoorS6
namespace Go.Proofs.YtgbflmhijkkaiaaDoor
open Go.RowKit
set_option linter.unusedVariables false

def RelS (w : World) (g h : Nat) (i : Value) (wr : World) : Prop :=
  (i = .int .i64 0 ∨ i = .int .i64 1) ∧ Below w.heap.size w wr ∧ wr.cell? ⟨g, 0, none⟩ = some M ∧ wr.cell? ⟨g, 1, none⟩ = some G ∧ wr.cell? ⟨h, 0, none⟩ = some M ∧ wr.cell? ⟨h, 1, none⟩ = some G

set_option maxRecDepth 100000 in
theorem same_awake (g h c c' : Nat) (w : World) (a0 : w.cell? ⟨g, 0, none⟩ = some M) (a1 : w.cell? ⟨g, 1, none⟩ = some G) (b0 : w.cell? ⟨h, 0, none⟩ = some M) (b1 : w.cell? ⟨h, 1, none⟩ = some G) :
    Calls Tryd.prog 8 #[.slice (some ⟨g, 0, none⟩) 1 c, .slice (some ⟨h, 0, none⟩) 1 c'] w fun e w' => e = .returned (.bool true) ∧ Below w.heap.size w w' := by
  have hne : ∀ w, (binOp .neq 31 (.agg #[M, G]) (.agg #[M, G])).run Tryd.prog w = .ok (.bool false) w := fun w => by kernel_rfl
  go_enter Tryd.func8, Tryd.ntmps8
  go_wp2_with fail
  go_loopw [13] (fun i wr => RelS w g h i wr) (fun i _ => 1 - (intOf i).toNat)
  case atStart => exact ⟨.inl rfl, Below.refl _ _, a0, a1, b0, b1⟩
  case round =>
    obtain ⟨rfl | rfl, hb, r0, r1, r2, r3⟩ := hrel
    · clear a0 a1 b0 b1
      go_wp2_with fail
      go_quiet (fail)
      go_wp2_with fail
      exact ⟨⟨.inr rfl, ⟨hb.os, hb.tape, hb.output, hb.size, hb.block⟩, r0, r1, r2, r3⟩, by simp [intOf]⟩
    · go_wp2_with fail
      go_ret
      exact ⟨rfl, hb⟩
set_option maxRecDepth 100000 in
theorem awake (w : World) (p0 : Addr) (hg : w.cell? ⟨0, 0, none⟩ = some (.iface 51 (.pointer (some p0)))) :
    Calls Tryd.prog 5 #[] w fun e w' => e = .returned (.bool true) ∧ Below w.heap.size w w' := by
  have HG := Lib.hid hg
  clear hg
  go_enter Tryd.func5, Tryd.ntmps5
  go_wp2_with fail
  refine (qpread_awake w.heap.size _ (by simp) (by simp) (by simp) (by simp) p0 (cell?_alloc_old _ HG.out)).mono ?_
  rintro e w1 ⟨⟨g, c', rfl, hg1, m0, m1⟩, hb⟩
  have HB := Lib.hid hb
  have H0 := Lib.hid m0
  have H1 := Lib.hid m1
  clear hb m0 m1 HG
  go_wp2_with fail
  refine (same_awake g w1.heap.size c' 1 _ (cell?_alloc_old _ H0.out) (cell?_alloc_old _ H1.out) (by simp) (by simp)).mono ?_
  rintro e w2 ⟨rfl, hb2⟩
  go_wp2_with fail
  go_ret
  refine ⟨rfl, ?_⟩
  have h1 := below_step (below_new w _) HB.out
  exact below_step h1 (below_step (below_new w1 _) hb2)

theorem colon_path : colon ⟨#[58, 112, 97, 116, 104]⟩ = true := by decide

set_option maxRecDepth 100000 in
theorem law_at (s : ByteArray) (w : World) (p0 : Addr) (hg : w.cell? ⟨0, 0, none⟩ = some (.iface 51 (.pointer (some p0)))) :
    Calls Tryd.prog 3 #[.string s] w fun e w' => e = .returned (.bool true) ∧ Below w.heap.size w w' := by
  by_cases hbig : 2147483647 < s.size
  · have hd : decide ((2147483647 : Int) < (s.size : Int)) = true := by simp; omega
    go_enter Tryd.func3, Tryd.ntmps3
    go_wp2_with fail
    go_ret
    exact ⟨rfl, Below.refl _ _⟩
  have hd : decide ((2147483647 : Int) < (s.size : Int)) = false := by simp; omega
  have HG := Lib.hid hg
  clear hg
  by_cases h : 0 < s.size
  · have hs : s ≠ ByteArray.empty := by rintro rfl; exact absurd h (by decide)
    have h2 : s.size ≠ 0 := by omega
    have hc : ((s[0].toNat : Int) == 58) = colon s := by
      simp only [colon, h, dif_pos]
      rw [Bool.eq_iff_iff]
      simp only [beq_iff_eq]
      omega
    have h3 : ¬ s.toList = [] := by rw [toList_nil_iff_emptyBytes]; exact hs
    have h4 : s.toList.isEmpty = false := by simpa using h3
    generalize hcb : colon s = cb at hc
    have HC : Hid (colon s = cb) := Lib.hid hcb
    clear hcb
    cases cb
    all_goals
      go_enter Tryd.func3, Tryd.ntmps3
      go_wp2_with fail
    all_goals
      refine (pseudo_at s _).mono ?_
      rintro e w1 ⟨rfl, hb1⟩
      rw [HC.out]
    all_goals go_wp2_with fail
    all_goals
      refine (pseudo_at _ _).mono ?_
      rintro e w2 ⟨rfl, hb2⟩
      rw [colon_path]
    all_goals go_wp2_with fail
    all_goals
      have hb3 := below_step hb1 hb2
      refine (awake _ p0 ((hb3.cell (World.block_lt_of_cell? w _ HG.out)).trans HG.out)).mono ?_
      rintro e w3 ⟨rfl, hb4⟩
    all_goals go_wp2_with fail
    all_goals
      go_ret
      refine ⟨?_, below_step hb3 hb4⟩
      first | rfl | (show Ending.returned (Value.bool (!s.toList.isEmpty)) = _; rw [h4]; rfl)
  · have h0 : s.size = 0 := by omega
    have hs : s = ByteArray.empty := by
      apply ByteArray.ext
      exact Array.eq_empty_of_size_eq_zero h0
    subst hs
    clear hd
    have HC : colon ByteArray.empty = false := by decide
    go_enter Tryd.func3, Tryd.ntmps3
    go_wp2_with fail
    refine (pseudo_at _ _).mono ?_
    rintro e w1 ⟨rfl, hb1⟩
    rw [HC]
    go_wp2_with fail
    refine (pseudo_at _ _).mono ?_
    rintro e w2 ⟨rfl, hb2⟩
    rw [colon_path]
    go_wp2_with fail
    have hb3 := below_step hb1 hb2
    refine (awake _ p0 ((hb3.cell (World.block_lt_of_cell? w _ HG.out)).trans HG.out)).mono ?_
    rintro e w3 ⟨rfl, hb4⟩
    go_wp2_with fail
    go_ret
    exact ⟨rfl, below_step hb3 hb4⟩
end Go.Proofs.YtgbflmhijkkaiaaDoor
