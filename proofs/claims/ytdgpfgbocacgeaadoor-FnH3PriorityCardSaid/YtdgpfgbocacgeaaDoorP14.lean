/- The law's walk. -/
import Derived.Test.YtdgpfgbocacgeaaDoorI3
import Derived.Test.YtdgpfgbocacgeaaDoorP13
namespace Go.Proofs.YtdgpfgbocacgeaaDoor
open Go.RowKit
set_option linter.unusedVariables false

theorem urg_le (a b : Int) : 0 ≤ urgOf a b ∧ urgOf a b ≤ 7 := by unfold urgOf; split <;> omega

set_option maxHeartbeats 1000000 in
set_option maxRecDepth 100000 in
theorem law_at (s : ByteArray) (w : World) (p0 : Addr) (hg : w.cell? ⟨0, 0, none⟩ = some (.iface 75 (.pointer (some p0)))) (tab : Tab w) :
    Calls Tryd.prog 3 #[.string s] w fun e w' => e = .returned (.bool true) ∧ Below w.heap.size w w' := by
  by_cases hbig : 2147483647 < s.size
  · have hd : decide ((2147483647 : Int) < (s.size : Int)) = true := by simp; omega
    go_enter Tryd.func3, Tryd.ntmps3
    go_wp2_with fail
    go_ret
    exact ⟨rfl, Below.refl _ _⟩
  have hd : decide ((2147483647 : Int) < (s.size : Int)) = false := by simp; omega
  have hs : s.size ≤ 2147483647 := by omega
  have HG := Lib.hid hg
  have HT := Lib.hid tab
  clear hg tab
  go_enter Tryd.func3, Tryd.ntmps3
  go_wp2_with fail
  refine (read_at s w hs).mono ?_
  rintro e w1 ⟨hb1, ur, inc, ok, rfl, hok⟩
  have HB1 := Lib.hid hb1
  have HOK := Lib.hid hok
  clear hb1 hok
  by_cases h100 : 100 < s.size
  · have f1 : decide ((100 : Int) < (s.size : Int)) = true := by simp; omega
    go_wp2_with fail
    refine (awake w1 p0 ((HB1.out.cell (World.block_lt_of_cell? w _ HG.out)).trans HG.out)).mono ?_
    rintro e w3 ⟨rfl, hb3⟩
    go_wp2_with fail
    go_ret
    exact ⟨rfl, below_step HB1.out hb3⟩
  · have f1 : decide ((100 : Int) < (s.size : Int)) = false := by simp; omega
    cases ok
    · go_wp2_with fail
      refine (awake w1 p0 ((HB1.out.cell (World.block_lt_of_cell? w _ HG.out)).trans HG.out)).mono ?_
      rintro e w3 ⟨rfl, hb3⟩
      go_wp2_with fail
      go_ret
      exact ⟨rfl, below_step HB1.out hb3⟩
    · obtain ⟨⟨ua, ub⟩, ⟨ia, ib⟩, hw, rfl, rfl⟩ := HOK.out rfl
      obtain ⟨hasc, hpp⟩ := hw.pp
      have hu := urg_le ua ub
      have hpp' : ppAll s.data.toList = (urgOf ua ub, incOf ia ib) := hpp
      have HC := Lib.hid (h3prio_at s _ _ w1 hs hasc (tab_below HT.out HB1.out) hpp' hu.1 hu.2)
      clear hw hasc hpp hpp' hu HOK
      simp only at HC ⊢
      generalize urgOf ua ub = ur at HC ⊢
      generalize incOf ia ib = inc at HC ⊢
      go_wp2_with fail
      refine HC.out.mono ?_
      rintro e w2 ⟨rfl, hb2⟩
      have HB2 := Lib.hid (below_step HB1.out hb2)
      clear hb2 HC
      go_wp2_with fail
      refine (awake w2 p0 ((HB2.out.cell (World.block_lt_of_cell? w _ HG.out)).trans HG.out)).mono ?_
      rintro e w3 ⟨rfl, hb3⟩
      go_wp2_with fail
      go_ret
      exact ⟨rfl, below_step HB2.out hb3⟩
end Go.Proofs.YtdgpfgbocacgeaaDoor
