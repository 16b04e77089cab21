/- http3.Priority, impl.H3Priority. -/
import Derived.Test.YtdgpfgbocacgeaaDoorI2
namespace Go.Proofs.YtdgpfgbocacgeaaDoor
open Go.RowKit
set_option linter.unusedVariables false

def PrioPost (k : IntKind) (u : Int) (inc : Bool) (w : World) (e : Ending) (w' : World) : Prop :=
  e = .returned (.tuple #[.int k u, .bool inc]) ∧ Below w.heap.size w w'

set_option maxRecDepth 100000 in
theorem prio_at (v : ByteArray) (u : Int) (inc : Bool) (w : World) (hs : v.size ≤ 2147483647) (hasc : ∀ x ∈ v.data.toList, x.toNat < 128) (tab : Tab w) (h : ppAll v.data.toList = (u, inc)) :
    Calls Tryd.prog 14 #[.string v] w (PrioPost .i8 u inc w) := by
  have HC := Lib.hid (parse_at v w hs hasc tab)
  have H := Lib.hid h
  clear tab hasc h
  go_enter Tryd.func14, Tryd.ntmps14
  go_wp2_with fail
  refine HC.out.mono ?_
  rintro e w' ⟨rfl, hb⟩
  rw [H.out]
  have HB := Lib.hid hb
  clear hb HC
  go_wp2_with fail
  go_ret2
  exact ⟨rfl, HB.out⟩

set_option maxRecDepth 100000 in
theorem h3prio_at (v : ByteArray) (u : Int) (inc : Bool) (w : World) (hs : v.size ≤ 2147483647) (hasc : ∀ x ∈ v.data.toList, x.toNat < 128) (tab : Tab w) (h : ppAll v.data.toList = (u, inc)) (h0 : 0 ≤ u) (h7 : u ≤ 7) :
    Calls Tryd.prog 6 #[.string v] w (PrioPost .i64 u inc w) := by
  have HC := Lib.hid (prio_at v u inc w hs hasc tab h)
  clear tab hasc h
  go_enter Tryd.func6, Tryd.ntmps6
  go_wp2_with fail
  refine HC.out.mono ?_
  rintro e w' ⟨rfl, hb⟩
  have HB := Lib.hid hb
  clear hb HC
  go_wp2_with fail
  go_ret2
  exact ⟨rfl, HB.out⟩
end Go.Proofs.YtdgpfgbocacgeaaDoor
