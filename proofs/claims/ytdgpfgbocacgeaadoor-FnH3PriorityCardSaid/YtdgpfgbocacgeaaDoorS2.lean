/- qpack.HeaderField.IsPseudo, impl.QPPseudo, readVarInt at three numbers. -/
import Derived.Test.YtdgpfgbocacgeaaDoorS1
import Derived.Test.YtdgpfgbocacgeaaDoorMem2
import Derived.WalkKit
import Derived.Below
import Derived.WalkLawsBesides
import Derived.WalkSpells
import Derived.Outline
import Derived.Lib.Hide
import Derived.Stop.LaidErr
import Derived.Recover
import Derived.RegionTactic
import Derived.Deep.QuietTactic
namespace Go.Proofs.YtdgpfgbocacgeaaDoor
open Go.RowKit
set_option linter.unusedVariables false

set_option maxRecDepth 100000 in
theorem readv8 (b o n c : Nat) (w : World) (hn : 2 ≤ n) (hnc : n ≤ c) (h0 : w.cell? ⟨b, o, none⟩ = some (.int .u8 0)) :
    Calls Tryd.prog 26 #[.int .u8 8, .slice (some ⟨b, o, none⟩) n c] w fun e w' =>
      e = .returned (.tuple #[.int .u64 0, .slice (some ⟨b, o + 1, none⟩) (n - 1) (c - 1), .nilIface]) ∧ Below w.heap.size w w' := by
  have q1 : (1 : Int) ≤ (n : Int) := by omega
  have q2 : (n : Int) ≤ (c : Int) := by omega
  have q3 : ((n : Int) == 0) = false := by simp; omega
  have q4 : 0 < n := by omega
  have q5 : c ≠ 1 := by omega
  go_enter Tryd.func26, Tryd.ntmps26
  go_wp2
  go_quiet (fail)
  all_goals (try (exfalso; omega))
  go_wp2
  go_ret3
  exact ⟨rfl, ⟨rfl, rfl, rfl, Nat.le_refl _, fun _ _ => rfl⟩⟩

set_option maxRecDepth 100000 in
theorem readv7 (b o n c : Nat) (w : World) (hn : 2 ≤ n) (hnc : n ≤ c) (h0 : w.cell? ⟨b, o, none⟩ = some (.int .u8 0)) :
    Calls Tryd.prog 26 #[.int .u8 7, .slice (some ⟨b, o, none⟩) n c] w fun e w' =>
      e = .returned (.tuple #[.int .u64 0, .slice (some ⟨b, o + 1, none⟩) (n - 1) (c - 1), .nilIface]) ∧ Below w.heap.size w w' := by
  have q1 : (1 : Int) ≤ (n : Int) := by omega
  have q2 : (n : Int) ≤ (c : Int) := by omega
  have q3 : ((n : Int) == 0) = false := by simp; omega
  have q4 : 0 < n := by omega
  have q5 : c ≠ 1 := by omega
  go_enter Tryd.func26, Tryd.ntmps26
  go_wp2
  go_quiet (fail)
  all_goals (try (exfalso; omega))
  go_wp2
  go_ret3
  exact ⟨rfl, ⟨rfl, rfl, rfl, Nat.le_refl _, fun _ _ => rfl⟩⟩

set_option maxRecDepth 100000 in
theorem readv6 (b o c : Nat) (w : World) (hnc : 1 ≤ c) (h0 : w.cell? ⟨b, o, none⟩ = some (.int .u8 209)) :
    Calls Tryd.prog 26 #[.int .u8 6, .slice (some ⟨b, o, none⟩) 1 c] w fun e w' =>
      (∃ A c', e = .returned (.tuple #[.int .u64 17, .slice A 0 c', .nilIface])) ∧ Below w.heap.size w w' := by
  have q2 : (1 : Int) ≤ (c : Int) := by omega
  have hb17 : bits .and .u64 209 63 = 17 := by kernel_rfl
  go_enter Tryd.func26, Tryd.ntmps26
  go_wp2
  go_quiet (fail)
  all_goals go_wp2
  all_goals
    go_ret3
    exact ⟨⟨_, _, rfl⟩, ⟨rfl, rfl, rfl, Nat.le_refl _, fun _ _ => rfl⟩⟩

end Go.Proofs.YtdgpfgbocacgeaaDoor
