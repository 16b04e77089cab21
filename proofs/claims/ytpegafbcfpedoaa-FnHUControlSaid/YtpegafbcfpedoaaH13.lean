/- caught with nothing thrown. (H3Control is to follow.) -/
import Derived.Test.YtpegafbcfpedoaaH12
import Derived.LaidEql
import Derived.Handy
namespace Go.Proofs.Ytpegafbcfpedoaa
open Go.RowKit Go.Maps
set_option linter.unusedVariables false

theorem caught_idle (p : Addr) (w : World) :
    CallsD Try.prog 11 #[.pointer (some p)] .returning w fun e u' w' => e = .returned (.tuple #[]) ∧ u' = .returning ∧ w' = w := by
  refine callsD_of_wpS Try.func11 rfl fun c₀ cs hu => ?_
  apply wpS_seq
  apply wpS_region
  simp [wpOpsS, go_sem, recoverD, hu, Try.ntmps11, Exit.thenS]
  refine wpS_cond (t := false) (by simp [Act.eval, Array.replicate]) ?_
  simp only [Bool.false_eq_true, if_false]
  refine wpS_of_wp (wp_skip ?_)
  cases c₀
  simp_all [bodyPostS, results, Try.results11]

def scells : List Value := [.int .i64 0, .slice none 0 0, .bool false, .int .u64 0, .slice none 0 0, .bool false, .bool false, .int .u64 0, .bool false, .int .u64 0, .bool false, .int .i8 0, .bool false]
set_option maxHeartbeats 4000000 in
theorem h3control_at (mx : Int) (dat ext : Bool) (A : Option Addr) (n c : Nat) (ps : List (Nat × Nat)) (w : World) (hF : ∀ w', Below w.heap.size w w' → Calls Try.prog 13 #[iframeV mx dat ext (.slice A n c)] w' (FramePost w' mx dat ext ps))
    (hmx : mx < 4611686018427387904) (hmn : -1 ≤ mx) (ha : Asc ps) (hl : ps.length ≤ 5) (hv : ∀ p ∈ ps, p.1 < 4611686018427387904 ∧ p.2 < 4611686018427387904) (hlen : (outBytes mx dat ext ps).length ≤ 4096) (hpos : 0 < (outBytes mx dat ext ps).length) :
    Calls Try.prog 6 #[iframeV mx dat ext (.slice A n c)] w (fun e w' => ∃ v', e = .returned (.tuple #[v', .bool true]) ∧ w'.ownsRow w.heap.size 5 1 v' (outBytes mx dat ext ps).length (bcells (outBytes mx dat ext ps)) ∧ Below w.heap.size w w') := by
  have hbel : Below w.heap.size w (((w.alloc (.cells (icells mx dat ext (.slice A n c)).toArray 29)).alloc (.cells #[.bool false] 4)).alloc (.cells scells.toArray 52)) := (((Below.refl w.heap.size w).alloc (Nat.le_refl _) _).alloc (by simp) _).alloc (by simp; omega) _
  have hFw := hF _ hbel
  have hS := Blk.new ((w.alloc (.cells (icells mx dat ext (.slice A n c)).toArray 29)).alloc (.cells #[.bool false] 4)) scells.toArray 52
  rw [show ((w.alloc (.cells (icells mx dat ext (.slice A n c)).toArray 29)).alloc (.cells #[.bool false] 4)).heap.size = w.heap.size + 1 + 1 by simp] at hS
  have hO := (Blk.new (w.alloc (.cells (icells mx dat ext (.slice A n c)).toArray 29)) #[.bool false] 4).below (below_new _ (.cells scells.toArray 52))
  rw [show (w.alloc (.cells (icells mx dat ext (.slice A n c)).toArray 29)).heap.size = w.heap.size + 1 by simp] at hO
  unfold iframeV icells scells at *
  go_enter_defers Try.func6, Try.ntmps6
  go_wp2_with (go_at_call 13; refine hFw.mono ?_; rintro e w4 ⟨mv, rfl, hM, hb4⟩; obtain ⟨mo, rfl⟩ : ∃ mo, mv = .map mo := by { rcases hM with ⟨_, h⟩ | ⟨b, h, _⟩ <;> exact ⟨_, h⟩ }; have hS4 := hS.below hb4; have hO4 := hO.below hb4; have KC := control_at mx dat ext mo ps (w.heap.size + 1 + 1) w4 hM (hS4.at_ 8 _ rfl) (hS4.at_ 5 _ rfl) (hS4.at_ 4 _ rfl) (hS4.fz 4 (by simp)) hS4.lt hmx hmn ha hl hv hlen hpos)
  refine KC.mono ?_
  rintro e w5 ⟨v5, rfl, h5, hr5, hg5⟩
  obtain ⟨A5, c5, rfl⟩ := row_form hr5
  have hO5 := hO4.grown hg5 (by simp)
  have o5 := hO5.at_ 0 _ rfl
  have p5 := hO5.fz 0 (by simp)
  go_wp2_with fail
  go_region
  go_wp2_with fail
  refine leaves_cons (f := 11) (args := #[.pointer (some ⟨w.heap.size + 1, 0, none⟩)]) (by simp) (by simp [go_sem]) ?_
  refine (caught_idle ⟨w.heap.size + 1, 0, none⟩ _).mono ?_
  rintro e u' w'' ⟨rfl, rfl, rfl⟩
  have k6 := World.cell?_setCell_same w5 ⟨w.heap.size + 1, 0, none⟩ (.bool true) o5
  refine ⟨_, (show _ = Result.ok (Value.tuple #[.slice A5 (outBytes mx dat ext ps).length c5, .bool true]) _ by simp [results, Try.results6, go_sem, k6]), _, rfl, ?_, ?_⟩
  · have g := grown_set w5 (w.heap.size + 1) 0 (.bool true)
    have g6 : w5.grownBy (w5.setCell ⟨w.heap.size + 1, 0, none⟩ (.bool true)).drew (some (w.heap.size + 1)) := ⟨g.os, g.tape, g.output, g.size, g.block⟩
    exact (own_base' hr5 (Nat.le_trans hbel.size hb4.size)).kept g6 (.inr (fun e => by have := (hr5.lt _ e).1; have := hO4.lt; omega))
  · have g := grown_set w5 (w.heap.size + 1) 0 (.bool true)
    have g6 : w5.grownBy (w5.setCell ⟨w.heap.size + 1, 0, none⟩ (.bool true)).drew (some (w.heap.size + 1)) := ⟨g.os, g.tape, g.output, g.size, g.block⟩
    exact ((hbel.trans (hb4.mono hbel.size)).grown hg5 (Nat.le_trans hbel.size hb4.size) (fun k hk => by injection hk with hk; omega)).grown g6 (Nat.le_trans (Nat.le_trans hbel.size hb4.size) hg5.size) (fun k hk => by injection hk with hk; omega)
end Go.Proofs.Ytpegafbcfpedoaa
