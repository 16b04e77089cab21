/- laws.hfAll at one frame. -/
import Derived.Test.YtpegafbcfpedoaaH16
import Derived.StillTailTactics
namespace Go.Proofs.Ytpegafbcfpedoaa
open Go.RowKit Go.Maps
set_option linter.unusedVariables false
set_option maxRecDepth 100000

set_option maxHeartbeats 4000000 in
theorem all_at (mx : Int) (dat ext : Bool) (A1 A2 : Option Addr) (c1 c2 g1 g2 d1 d2 : Nat) (ps : List (Nat × Nat)) (w : World) (h1 : Reads w w.heap.size 2 A1 ps.length (pcells ps)) (h2 : Reads w w.heap.size 2 A2 ps.length (pcells ps)) (hl : ps.length ≤ 100)
    (k1 : ∀ j u, (fcells mx dat ext (.slice A1 ps.length c1))[j]? = some u → w.cell? ⟨g1, j, none⟩ = some u) (k2 : ∀ j u, (fcells mx dat ext (.slice A2 ps.length c2))[j]? = some u → w.cell? ⟨g2, j, none⟩ = some u) :
    Calls Try.prog 8 #[.slice (some ⟨g1, 0, none⟩) 1 d1, .slice (some ⟨g2, 0, none⟩) 1 d2] w (fun e w' => e = .returned (.bool true) ∧ Below w.heap.size w w') := by
  have H1 := Lib.hid h1
  have H2 := Lib.hid h2
  have K1 := Lib.hid k1
  have K2 := Lib.hid k2
  clear h1 h2 k1 k2
  go_enter Try.func8, Try.ntmps8
  go_wp2_with fail
  go_loopw [13] (fun s wx => ∃ k : Nat, k ≤ 1 ∧ s = .int .i64 (k : Int) ∧ Below w.heap.size w wx ∧ (k = 0 → wx = w)) (fun s _ => 1 - (intOf s).toNat)
  case atStart => exact ⟨0, by omega, rfl, Below.refl _ _, fun _ => rfl⟩
  case round =>
    obtain ⟨k, hk, rfl, hB, hw⟩ := hrel
    rcases (by omega : k = 0 ∨ k = 1) with rfl | rfl
    · obtain rfl := hw rfl
      clear hB hw
      have KS := same_at mx dat ext A1 A2 c1 c2 ps wr H1.out H2.out hl
      have KS2 : Calls Try.prog 16 #[frameV mx dat ext (.slice A1 ps.length c1), frameV mx dat ext (.slice A2 ps.length c2)] wr.drew (fun e w' => e = .returned (.bool true) ∧ Below wr.heap.size wr w') :=
        (same_at mx dat ext A1 A2 c1 c2 ps wr.drew H1.out H2.out hl).mono fun e w' h => ⟨h.1, ⟨h.2.os, h.2.tape, h.2.output, h.2.size, h.2.block⟩⟩
      unfold frameV fcells at KS KS2
      have x0 := K1.out 0 _ rfl
      have y0 := K2.out 0 _ rfl
      have x1 := K1.out 1 _ rfl
      have y1 := K2.out 1 _ rfl
      have x2 := K1.out 2 _ rfl
      have y2 := K2.out 2 _ rfl
      have x3 := K1.out 3 _ rfl
      have y3 := K2.out 3 _ rfl
      have x4 := K1.out 4 _ rfl
      have y4 := K2.out 4 _ rfl
      have x5 := K1.out 5 _ rfl
      have y5 := K2.out 5 _ rfl
      have x6 := K1.out 6 _ rfl
      have y6 := K2.out 6 _ rfl
      have x7 := K1.out 7 _ rfl
      have y7 := K2.out 7 _ rfl
      go_wp2_with fail
      go_still_tail 8, (by kernel_rfl)
      change wpList _ _ _ _ _ wr.drew
      go_wp2_with ((with_reducible refine KS2.mono ?_); rintro e w2 ⟨rfl, hb2⟩)
      exact ⟨⟨1, Nat.le_refl _, rfl, hb2, fun h => by omega⟩, by simp [intOf]⟩
    · go_wp2_with fail
      go_ret
      exact ⟨rfl, hB⟩
end Go.Proofs.Ytpegafbcfpedoaa
