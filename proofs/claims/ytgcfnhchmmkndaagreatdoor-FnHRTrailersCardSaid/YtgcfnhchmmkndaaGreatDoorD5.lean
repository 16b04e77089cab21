/- hrMade.byte once more: it makes no block. -/
import Derived.Test.YtgcfnhchmmkndaaGreatDoorD4
namespace Go.Proofs.YtgcfnhchmmkndaaGreatDoor
open Go.RowKit
set_option linter.unusedVariables false
set_option maxRecDepth 100000

def BytePost2 (w : World) (mb K : Nat) (e : Ending) (w' : World) : Prop :=
  ∃ c : Nat, c < 256 ∧ e = .returned (.int .i64 (c : Int)) ∧ Mk w' mb K ∧ w.grownBy w' (some mb) ∧ w'.heap.size = w.heap.size

set_option maxHeartbeats 1000000 in
theorem byte_at2 (mb K : Nat) (w : World) (h : Mk w mb K) : Calls Tryz.prog 15 #[.pointer (some ⟨mb, 0, none⟩)] w (BytePost2 w mb K) := by
  have HM := Lib.hid h
  obtain ⟨⟨A, n, c, bs, h1, h2, h3, h4⟩, fz, ge, lt⟩ := h
  rcases Nat.eq_zero_or_pos n with h0 | hn
  · subst h0
    go_enter Tryz.func15, Tryz.ntmps15
    go_wp2_with fail
    go_ret
    exact ⟨0, by omega, rfl, HM.out, grown_refl _ _, rfl⟩
  · obtain ⟨b, o, rfl, hb, hl, hc⟩ := h2.byte hn
    obtain ⟨x, h00⟩ : ∃ x : UInt8, w.cell? ⟨b, o, none⟩ = some (.int .u8 (x.toNat : Int)) := ⟨_, hc 0 (by omega)⟩
    have hlt : x.toNat < 256 := x.toNat_lt
    have hne : ((n : Int) == 0) = false := by simp; omega
    have hn' : (0 : Int) < (n : Int) := by omega
    have hT := Lib.hid (reads_tail h2 hn)
    have hH := Lib.hid h2
    clear hc hl h2
    by_cases hc1 : c = 1
    · subst hc1
      obtain rfl : n = 1 := by omega
      go_enter Tryz.func15, Tryz.ntmps15
      go_wp2_with fail
      go_ret
      exact ⟨_, hlt, rfl, HM.out.sets (reads_zero w K _) (by omega) (by omega), grown_set _ _ _ _, by simp⟩
    · go_enter Tryz.func15, Tryz.ntmps15
      go_wp2_with fail
      go_ret
      exact ⟨_, hlt, rfl, HM.out.sets hT.out (by omega) (by omega), grown_set _ _ _ _, by simp⟩
end Go.Proofs.YtgcfnhchmmkndaaGreatDoor
