/- qpack.HeaderField.IsPseudo, impl.QPPseudo, readVarInt at three numbers. -/
import Derived.Test.YtgbflmhijkkaiaaDoorS1
import Derived.Test.YtgbflmhijkkaiaaDoorMem2
import Derived.WalkKit
import Derived.Below
import Derived.WalkLawsBesides
import Derived.WalkSpells
import Derived.Outline
import Derived.Lib.Hide
import Derived.Stop.LaidErr
import Derived.Recover
import Derived.RegionTactic
import Derived.Deep.QuietTactic
namespace Go.Proofs.YtgbflmhijkkaiaaDoor
open Go.RowKit
set_option linter.unusedVariables false

/-- The text begins with a colon. -/
def colon (s : ByteArray) : Bool := if h : 0 < s.size then s[0].toNat == 58 else false

set_option maxRecDepth 100000 in
theorem pseudo_at (s : ByteArray) (w : World) :
    Calls Tryd.prog 4 #[.string s] w fun e w' => e = .returned (.bool (colon s)) ∧ Below w.heap.size w w' := by
  by_cases h : 0 < s.size
  · have hs : s ≠ ByteArray.empty := by rintro rfl; exact absurd h (by decide)
    have h1 : ((s.size : Int) != 0) = true := by simp; omega
    have h2 : s.size ≠ 0 := by omega
    have hc : colon s = ((s[0].toNat : Int) == 58) := by
      simp only [colon, h, dif_pos]
      rw [Bool.eq_iff_iff]
      simp only [beq_iff_eq]
      omega
    go_enter Tryd.func4, Tryd.ntmps4
    go_wp2
    go_ret
    refine ⟨?_, (Below.refl _ w).alloc (Nat.le_refl _) _⟩
    rw [hc]
    rfl
  · have h0 : s.size = 0 := by omega
    have hs : s = ByteArray.empty := by
      apply ByteArray.ext
      exact Array.eq_empty_of_size_eq_zero h0
    subst hs
    go_enter Tryd.func4, Tryd.ntmps4
    go_wp2
    go_ret
    exact ⟨rfl, (Below.refl _ w).alloc (Nat.le_refl _) _⟩

set_option maxRecDepth 100000 in
theorem readv8 (b o n c : Nat) (w : World) (hn : 2 ≤ n) (hnc : n ≤ c) (h0 : w.cell? ⟨b, o, none⟩ = some (.int .u8 0)) :
    Calls Tryd.prog 13 #[.int .u8 8, .slice (some ⟨b, o, none⟩) n c] w fun e w' =>
      e = .returned (.tuple #[.int .u64 0, .slice (some ⟨b, o + 1, none⟩) (n - 1) (c - 1), .nilIface]) ∧ Below w.heap.size w w' := by
  have q1 : (1 : Int) ≤ (n : Int) := by omega
  have q2 : (n : Int) ≤ (c : Int) := by omega
  have q3 : ((n : Int) == 0) = false := by simp; omega
  have q4 : 0 < n := by omega
  have q5 : c ≠ 1 := by omega
  go_enter Tryd.func13, Tryd.ntmps13
  go_wp2
  go_quiet (fail)
  all_goals (try (exfalso; omega))
  go_wp2
  go_ret3
  exact ⟨rfl, ⟨rfl, rfl, rfl, Nat.le_refl _, fun _ _ => rfl⟩⟩

set_option maxRecDepth 100000 in
theorem readv7 (b o n c : Nat) (w : World) (hn : 2 ≤ n) (hnc : n ≤ c) (h0 : w.cell? ⟨b, o, none⟩ = some (.int .u8 0)) :
    Calls Tryd.prog 13 #[.int .u8 7, .slice (some ⟨b, o, none⟩) n c] w fun e w' =>
      e = .returned (.tuple #[.int .u64 0, .slice (some ⟨b, o + 1, none⟩) (n - 1) (c - 1), .nilIface]) ∧ Below w.heap.size w w' := by
  have q1 : (1 : Int) ≤ (n : Int) := by omega
  have q2 : (n : Int) ≤ (c : Int) := by omega
  have q3 : ((n : Int) == 0) = false := by simp; omega
  have q4 : 0 < n := by omega
  have q5 : c ≠ 1 := by omega
  go_enter Tryd.func13, Tryd.ntmps13
  go_wp2
  go_quiet (fail)
  all_goals (try (exfalso; omega))
  go_wp2
  go_ret3
  exact ⟨rfl, ⟨rfl, rfl, rfl, Nat.le_refl _, fun _ _ => rfl⟩⟩

set_option maxRecDepth 100000 in
theorem readv6 (b o c : Nat) (w : World) (hnc : 1 ≤ c) (h0 : w.cell? ⟨b, o, none⟩ = some (.int .u8 209)) :
    Calls Tryd.prog 13 #[.int .u8 6, .slice (some ⟨b, o, none⟩) 1 c] w fun e w' =>
      (∃ A c', e = .returned (.tuple #[.int .u64 17, .slice A 0 c', .nilIface])) ∧ Below w.heap.size w w' := by
  have q2 : (1 : Int) ≤ (c : Int) := by omega
  have hb17 : bits .and .u64 209 63 = 17 := by kernel_rfl
  go_enter Tryd.func13, Tryd.ntmps13
  go_wp2
  go_quiet (fail)
  all_goals go_wp2
  all_goals
    go_ret3
    exact ⟨⟨_, _, rfl⟩, ⟨rfl, rfl, rfl, Nat.le_refl _, fun _ _ => rfl⟩⟩

end Go.Proofs.YtgbflmhijkkaiaaDoor
