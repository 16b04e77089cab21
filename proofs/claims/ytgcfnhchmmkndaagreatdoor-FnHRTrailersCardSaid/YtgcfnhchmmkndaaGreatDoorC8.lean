/- small functions of the requests' reader. -/
import Derived.Test.YtgcfnhchmmkndaaGreatDoorC6
namespace Go.Proofs.YtgcfnhchmmkndaaGreatDoor
open Go.RowKit Go.Maps
set_option linter.unusedVariables false
set_option maxRecDepth 100000

theorem new_at9 (s : ByteArray) (w : World) : Calls Tryz.prog 57 #[.string s] w fun e w' => ∃ q : Addr, e = .returned (.iface 136 (.pointer (some q))) ∧ Below w.heap.size w w' :=
  (new_at s w).mono fun e w' h => ⟨_, h.1, h.2⟩
theorem method_at (l : BS) (w : World) (hs : l.length ≤ 2147483648) (ht : TokTab w) : Calls Tryz.prog 58 #[str l] w fun e w' => e = .returned (.bool (nameOk l)) ∧ w' = w := by
  have K := name_at' l w hs ht
  clear ht
  go_enter Tryz.func58, Tryz.ntmps58
  go_wp2_with (go_at_call 77; refine K.mono ?_; rintro e w2 ⟨rfl, rfl⟩)
  go_ret
  exact ⟨rfl, rfl⟩
theorem protocol_at (l : BS) (w : World) (hs : l.length ≤ 2147483648) (ht : TokTab w) : Calls Tryz.prog 63 #[str l] w fun e w' => e = .returned (.bool (nameOk l)) ∧ w' = w := by
  have K := name_at' l w hs ht
  clear ht
  go_enter Tryz.func63, Tryz.ntmps63
  go_wp2_with (go_at_call 77; refine K.mono ?_; rintro e w2 ⟨rfl, rfl⟩)
  go_ret
  exact ⟨rfl, rfl⟩

abbrev kTrailer : BS := [84, 114, 97, 105, 108, 101, 114]
theorem announced_at (base b n : Nat) (es : List Ent) (w : World) (h : Hdr w base b n es) (hn : ∀ e ∈ es, e.key ≠ [84, 114, 97, 105, 108, 101, 114]) :
    Calls Tryz.prog 66 #[.map (some b)] w fun e w' => e = .returned (.map none) ∧ w' = w := by
  have hl := h.look_ok_no [84, 114, 97, 105, 108, 101, 114] (by simp) hn
  clear h hn
  go_enter Tryz.func66, Tryz.ntmps66
  go_wp2_with fail
  go_ret
  exact ⟨rfl, rfl⟩

def hexN (c : Nat) : Bool := decide (48 ≤ c ∧ c ≤ 57 ∨ 97 ≤ c ∧ c ≤ 102 ∨ 65 ≤ c ∧ c ≤ 70)
set_option maxHeartbeats 2000000 in
theorem hex_at (c : Nat) (hc : c < 256) (w : World) : Calls Tryz.prog 84 #[.int .u8 (c : Int)] w fun e w' => e = .returned (.bool (hexN c)) ∧ w' = w := by
  have hcase : c < 48 ∨ (48 ≤ c ∧ c ≤ 57) ∨ (57 < c ∧ c < 65) ∨ (65 ≤ c ∧ c ≤ 70) ∨ (70 < c ∧ c < 97) ∨ (97 ≤ c ∧ c ≤ 102) ∨ 102 < c := by omega
  rcases hcase with h | ⟨h, h2⟩ | ⟨h, h2⟩ | ⟨h, h2⟩ | ⟨h, h2⟩ | ⟨h, h2⟩ | h
  all_goals
    first
      | rw [show hexN c = true by unfold hexN; rw [decide_eq_true_iff]; omega]
      | rw [show hexN c = false by unfold hexN; rw [decide_eq_false_iff_not]; omega]
    go_enter Tryz.func84, Tryz.ntmps84
    go_wp2_with fail
    go_ret
    refine ⟨?_, rfl⟩
    first
      | rfl
      | (simp; omega)
      | (refine congrArg (fun b => Ending.returned (Value.bool b)) (?_ : true = _); symm; simp; omega)
      | (refine congrArg (fun b => Ending.returned (Value.bool b)) (?_ : false = _); symm; simp; omega)
end Go.Proofs.YtgcfnhchmmkndaaGreatDoor
