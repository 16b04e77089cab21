/- spec.H3Same, laws.hfAll. -/
import Derived.Test.YtpegafbcfpedoaaH15
import Derived.BigQuiet
import Derived.Deep.QuietTactic
namespace Go.Proofs.Ytpegafbcfpedoaa
open Go.RowKit Go.Maps
set_option linter.unusedVariables false
set_option maxRecDepth 100000

theorem run_equalIn_arr2 {P : Program} (w : World) (d : Nat) (t e : TypeId) (k : IntKind) (a b : Int) (ht : P.underlying t = some (.array 2 e)) (he : P.underlying e = some (.int k)) (hs : (sizeOf e).run P w = .ok 1 w)
    (p0 : (part e #[.int k a, .int k b] 0).run P w = .ok (.int k a) w) (p1 : (part e #[.int k a, .int k b] 1).run P w = .ok (.int k b) w) :
    (Op.equalIn (d + 2) t (.agg #[.int k a, .int k b]) (.agg #[.int k a, .int k b])).run P w = .ok true w := by
  have q0 := run_equalIn_int w d e k k a a he
  have q1 := run_equalIn_int w d e k k b b he
  rw [Op.equalIn]
  simp only [Sem.run_bind, run_underlying ht, Result.andThen_ok, hs]
  simp [Std.Legacy.Range.forIn_eq_forIn_range', Std.Legacy.Range.size, List.range'_succ, p0, p1, q0, q1]
theorem neq41 (w : World) (a b : Int) : (binOp .neq 41 (.agg #[.int .u64 a, .int .u64 b]) (.agg #[.int .u64 a, .int .u64 b])).run Try.prog w = .ok (.bool false) w := by
  have h41 : Try.prog.underlying 41 = some (.array 2 26) := Try.underlying41
  have h26 : Try.prog.underlying 26 = some (.int .u64) := Try.underlying26
  have hs : (sizeOf 26).run Try.prog w = .ok 1 w := by kernel_rfl
  have p0 : (part 26 #[.int .u64 a, .int .u64 b] 0).run Try.prog w = .ok (.int .u64 a) w := by kernel_rfl
  have p1 : (part 26 #[.int .u64 a, .int .u64 b] 1).run Try.prog w = .ok (.int .u64 b) w := by kernel_rfl
  have h := run_equalIn_arr2 w 9998 41 26 .u64 a b h41 h26 hs p0 p1
  rw [run_neq_struct, h]
  rfl
theorem guard41 : Try.prog.eqGuardType Try.prog.depth 41 = false := by kernel_rfl

set_option maxHeartbeats 4000000 in
theorem same_at (mx : Int) (dat ext : Bool) (A1 A2 : Option Addr) (c1 c2 : Nat) (ps : List (Nat × Nat)) (w : World) (h1 : Reads w w.heap.size 2 A1 ps.length (pcells ps)) (h2 : Reads w w.heap.size 2 A2 ps.length (pcells ps)) (hl : ps.length ≤ 100) :
    Calls Try.prog 16 #[frameV mx dat ext (.slice A1 ps.length c1), frameV mx dat ext (.slice A2 ps.length c2)] w (fun e w' => e = .returned (.bool true) ∧ Below w.heap.size w w') := by
  have H1 := Lib.hid h1
  have H2 := Lib.hid h2
  clear h1 h2
  unfold frameV fcells
  go_enter Try.func16, Try.ntmps16
  go_wp2_with fail
  have hX := (Blk.new w (fcells mx dat ext (.slice A1 ps.length c1)).toArray 29).below (below_new _ (.cells (fcells mx dat ext (.slice A2 ps.length c2)).toArray 29))
  have hY := Blk.new (w.alloc (.cells (fcells mx dat ext (.slice A1 ps.length c1)).toArray 29)) (fcells mx dat ext (.slice A2 ps.length c2)).toArray 29
  have hbel : Below w.heap.size w ((w.alloc (.cells (fcells mx dat ext (.slice A1 ps.length c1)).toArray 29)).alloc (.cells (fcells mx dat ext (.slice A2 ps.length c2)).toArray 29)) := ((Below.refl _ w).alloc (Nat.le_refl _) _).alloc (by simp) _
  rw [show (w.alloc (.cells (fcells mx dat ext (.slice A1 ps.length c1)).toArray 29)).heap.size = w.heap.size + 1 by simp] at hY
  have HX := Lib.hid hX
  have HY := Lib.hid hY
  have HB := Lib.hid hbel
  clear hX hY hbel
  go_loopw [68] (fun s wx => ∃ k : Nat, k ≤ ps.length ∧ s = .int .i64 (k : Int) ∧ Blk wx w.heap.size (fcells mx dat ext (.slice A1 ps.length c1)) ∧ Blk wx (w.heap.size + 1) (fcells mx dat ext (.slice A2 ps.length c2)) ∧ Below w.heap.size w wx) (fun s _ => ps.length - (intOf s).toNat)
  case atStart => exact ⟨0, by omega, rfl, HX.out, HY.out, HB.out⟩
  case round =>
    clear HX HY HB
    obtain ⟨k, hk, rfl, hX, hY, hB⟩ := hrel
    have HX := Lib.hid hX
    have HY := Lib.hid hY
    have HB := Lib.hid hB
    clear hX hY hB
    rcases Nat.lt_or_ge k ps.length with hkl | hkl
    · obtain ⟨b1, o1, rfl, hb1, hc1⟩ := reads_pairs (H1.out.below HB.out) (by omega)
      obtain ⟨b2, o2, rfl, hb2, hc2⟩ := reads_pairs (H2.out.below HB.out) (by omega)
      obtain ⟨e10, e11⟩ := hc1 k hkl
      obtain ⟨e20, e21⟩ := hc2 k hkl
      generalize ps[k] = p at e10 e11 e20 e21
      obtain ⟨pa, pb⟩ := p
      simp only at e10 e11 e20 e21
      clear hc1 hc2
      have x6 := HX.out.at_ 6 _ rfl
      have y6 := HY.out.at_ 6 _ rfl
      go_wp2_with fail
      have g2 : (0 : Int) ≤ (k : Int) := by omega
      have g4 : (k : Int) < (ps.length : Int) := by omega
      have hg41 := guard41
      have hn41 := fun w => neq41 w pa pb
      go_quiet (fail)
      clear hn41 hg41
      go_wp2_with fail
      exact ⟨⟨k + 1, hkl, by go_num, HX.out.drewN _, HY.out.drewN _, ⟨HB.out.os, HB.out.tape, HB.out.output, HB.out.size, HB.out.block⟩⟩, by simp [intOf]; omega⟩
    · have e : k = ps.length := by omega
      subst e
      go_wp2_with fail
      go_ret
      exact ⟨rfl, HB.out⟩
end Go.Proofs.Ytpegafbcfpedoaa
