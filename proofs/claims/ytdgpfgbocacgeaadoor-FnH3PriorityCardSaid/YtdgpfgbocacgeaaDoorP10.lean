/- spec.sfText.member. -/
import Derived.Test.YtdgpfgbocacgeaaDoorP9
import Derived.Deep.RegionWith
namespace Go.Proofs.YtdgpfgbocacgeaaDoor
open Go.RowKit
set_option linter.unusedVariables false

/-- what stands within parentheses: ahead of an item nothing or a blank -/
inductive Inner : List UInt8 → Prop
  | nil : Inner []
  | sp (r : List UInt8) : Inner r → Inner (r ++ [32])
  | item (r c p : List UInt8) (k n : Int) : Inner r → (r = [] ∨ ∃ r', r = r' ++ [32]) → ItemIs c k n → Params p → Inner (r ++ (c ++ p))

theorem ItemIs.ne32 {x : UInt8} {r : List UInt8} {k n : Int} (h : ItemIs (x :: r) k n) : x ≠ 32 := by
  rintro rfl
  rcases h with ⟨h1, _⟩ | ⟨_, b, e, _⟩ | ⟨_, _, ht⟩ | ⟨_, ⟨_, e⟩ | ⟨_, e⟩⟩
  · exact absurd (h1 32 (by simp)) (by decide)
  · simp at e
  · exact absurd (ht 32 (by simp)) (by decide)
  · simp at e
  · simp at e
theorem ItemIs.ne_nil {k n : Int} (h : ItemIs [] k n) : False := by
  rcases h with ⟨_, h1, _⟩ | ⟨_, b, e, _⟩ | ⟨_, ⟨_, _, e, _⟩, _⟩ | ⟨_, ⟨_, e⟩ | ⟨_, e⟩⟩
  · exact h1 rfl
  all_goals simp at e

def MemberIs (c : List UInt8) (k n : Int) : Prop :=
  (∃ a b, c = a ++ b ∧ ItemIs a k n ∧ Params b) ∨ (k = 0 ∧ ∃ a b, c = 40 :: (a ++ 41 :: b) ∧ Inner a ∧ Params b)

def MemberPost (w : World) (t : Nat) (s : ByteArray) (o : Bool) (e : Ending) (w' : World) : Prop :=
  ∃ (k n : Int) (is : Bool) (s' : ByteArray) (o' : Bool), e = .returned (.tuple #[.agg #[iv k, iv n], .bool is]) ∧ Tx w' t s' o' ∧ w.grownBy w' (some t) ∧ (o = true → o' = true) ∧
    (is = true → s'.size < s.size ∧ headB s' ≠ 59 ∧ ∃ c, s.data.toList = c ++ s'.data.toList ∧ MemberIs c k n)

set_option maxHeartbeats 4000000 in
set_option maxRecDepth 100000 in
theorem member_item (t : Nat) (s : ByteArray) (o : Bool) (w : World) (T : Tx w t s o) (hs : s.size ≤ 2147483647) (hh : headB s ≠ 40) : Calls Tryd.prog 10 #[.pointer (some ⟨t, 0, none⟩)] w (MemberPost w t s o) := by
  have HT : Tx (w.alloc (.cells #[iv 0, iv 0] 33)) t s o := T.below (below_new w _)
  have HR : Pr (w.alloc (.cells #[iv 0, iv 0] 33)) w.heap.size (iv 0) (iv 0) := Pr.new w _ _ _
  have ht : t ≠ w.heap.size := by have := T.lt; omega
  have hg0 : w.grownBy (w.alloc (.cells #[iv 0, iv 0] 33)) (some t) := World.grownBy_alloc _ _ _
  have f1 : (((headB s).toNat : Int) != 40) = true := ne_true (c := 40) hh
  go_enter Tryd.func10, Tryd.ntmps10
  go_wp2_with fail
  refine (at_at t s o _ HT).mono ?_
  rintro e w' ⟨rfl, hw'⟩
  subst hw'
  go_wp2_with fail
  refine (item_at t s o _ HT hs).mono ?_
  rintro e W1 ⟨k, n, is, s1, o1, rfl, T1, g1, ho1, hi⟩
  have R0 := pr_grown HR g1 (Ne.symm ht)
  have R1 := (pr_grown HR g1 (Ne.symm ht)).below (below_new W1 (.cells #[iv k, iv n] 33))
  have T2 := T1.below (below_new W1 (.cells #[iv k, iv n] 33))
  have G2 := (hg0.trans g1).trans (World.grownBy_alloc W1 (.cells #[iv k, iv n] 33) _)
  have P2 := Pr.new W1 (iv k) (iv n) 33
  have HI := Lib.hid hi
  have HO := Lib.hid ho1
  have HG1 := Lib.hid g1
  have HGT := Lib.hid (hg0.trans g1)
  have HT1 := Lib.hid T1
  clear hi ho1 HT HR hg0 T1 g1
  have hR : w.heap.size < W1.heap.size := by
    have h1 := HG1.out.size
    simp at h1
    omega
  have hT : t < W1.heap.size := HT1.out.lt
  have hne : w.heap.size ≠ W1.heap.size := by omega
  have hne2 : W1.heap.size ≠ t := by omega
  go_wp2_with fail
  cases is
  · obtain ⟨c0, c1, q0, q1, ql⟩ := id R0
    obtain ⟨d0, d1, p0, p1, pl⟩ := id P2
    go_region
    go_wp2_with fail
    have z0 := cell?_alloc_old (.cells #[iv k, iv n] 33) (two_0 W1 w.heap.size (iv k) (iv n) _ c0)
    have z1 := cell?_alloc_old (.cells #[iv k, iv n] 33) (two_1 W1 w.heap.size (iv k) (iv n) _ c1)
    exact ⟨rfl, _, (show _ = Result.ok (.tuple #[.agg #[iv k, iv n], .bool false]) _ by simp [results, Tryd.results10, go_sem, z0, z1]), k, n, false, s1, o1, rfl,
      (((HT1.out.other _ (Ne.symm ht)).other _ (Ne.symm ht)).below (below_new _ _)).below (below_drew _), ((grown_new (grown_new HGT.out _ (Nat.le_refl _)) _ (Nat.le_refl _)).trans (World.grownBy_alloc _ _ _)).trans (grown_drew _ _), HO.out, fun h => by cases h⟩
  · have HI2 := Lib.hid (HI.out rfl)
    clear HI
    go_region_with (go_at_call 11; refine (params_at t s1 o1 _ (by first | exact T2 | exact T2.below (below_drew _)) (by have := HI2.out.1; omega)).mono ?_; rintro e W5 ⟨is5, s5, o5, rfl, T5, g5, ho5, hp5⟩; obtain ⟨c0, c1, q0, q1, ql⟩ := pr_grown (w' := W5) (t := t) (by first | exact R1 | exact R1.below (below_drew _)) g5 (by omega); obtain ⟨d0, d1, p0, p1, pl⟩ := pr_grown (w' := W5) (t := t) (by first | exact P2 | exact P2.below (below_drew _)) g5 hne2)
    all_goals go_wp2_with fail
    all_goals
      have z0 := two_0 W5 w.heap.size (iv k) (iv n) _ c0
      have z1 := two_1 W5 w.heap.size (iv k) (iv n) _ c1
      have G5 : w.grownBy W5 (some t) := (HGT.out.trans (World.grownBy_alloc W1 (.cells #[iv k, iv n] 33) _)).trans (by first | exact g5 | exact (grown_drew _ _).trans g5)
      refine ⟨rfl, _, (show _ = Result.ok (.tuple #[.agg #[iv k, iv n], .bool is5]) _ by simp [Act.put, results, Tryd.results10, go_sem, z0, z1]), k, n, is5, s5, o5, rfl, (T5.other _ (Ne.symm ht)).other _ (Ne.symm ht),
        grown_new (grown_new G5 _ (Nat.le_refl _)) _ (Nat.le_refl _), fun h => ho5 (HO.out h), fun h => ?_⟩
      obtain ⟨q1, q2, q3⟩ := hp5 h
      have q4 := HI2.out.1
      refine ⟨by omega, q2, ?_⟩
      obtain ⟨b, e2, hb⟩ := q3
      obtain ⟨a, e1, ha⟩ := HI2.out.2
      exact ⟨a ++ b, by rw [e1, e2]; simp, .inl ⟨a, b, rfl, ha, hb⟩⟩
end Go.Proofs.YtdgpfgbocacgeaaDoor
