/- impl.caught, binary.BigEndian.Uint64, quicvarint.Parse and impl.VNParse: what they answer for any bytes. -/
import Derived.Test.YtpegafbcfpedoaaDoorT1
import Derived.Stop.LaidErr
import Derived.Recover
import Derived.RegionTactic
import Derived.Deep.QuietTactic
namespace Go.Proofs.YtpegafbcfpedoaaDoor
open Go.RowKit
set_option linter.unusedVariables false

theorem caught_idle (p : Addr) (w : World) :
    CallsD Tryd.prog 16 #[.pointer (some p)] .returning w fun e u' w' => e = .returned (.tuple #[]) ∧ u' = .returning ∧ w' = w := by
  refine callsD_of_wpS Tryd.func16 rfl fun c₀ cs hu => ?_
  apply wpS_seq
  apply wpS_region
  simp [wpOpsS, go_sem, recoverD, hu, Tryd.ntmps16, Exit.thenS]
  refine wpS_cond (t := false) (by simp [Act.eval, Array.replicate]) ?_
  simp only [Bool.false_eq_true, if_false]
  refine wpS_of_wp (wp_skip ?_)
  cases c₀
  simp_all [bodyPostS, results, Tryd.results16]

set_option maxHeartbeats 1000000 in
set_option maxRecDepth 100000 in
theorem be64 (b o n c : Nat) (bs : List UInt8) (w : World) (hn : 8 ≤ n) (hl : 8 ≤ bs.length)
    (hc : ∀ k, (hk : k < bs.length) → w.cell? ⟨b, o + k, none⟩ = some (.int .u8 ((bs[k]).toNat : Int))) :
    Calls Tryd.prog 24 #[.agg #[], .slice (some ⟨b, o, none⟩) n c] w fun e w' => e = .returned (.int .u64 (Lib.beNat (bs.take 8))) ∧ Below w.heap.size w w' := by
  obtain ⟨b0, b1, b2, b3, b4, b5, b6, b7, r, rfl⟩ : ∃ b0 b1 b2 b3 b4 b5 b6 b7 r, bs = b0 :: b1 :: b2 :: b3 :: b4 :: b5 :: b6 :: b7 :: r := by
    match bs, hl with
    | b0 :: b1 :: b2 :: b3 :: b4 :: b5 :: b6 :: b7 :: r, _ => exact ⟨b0, b1, b2, b3, b4, b5, b6, b7, r, rfl⟩
  have c0 : w.cell? ⟨b, o, none⟩ = some (.int .u8 (b0.toNat : Int)) := hc 0 (by simp)
  have c1 : w.cell? ⟨b, o + 1, none⟩ = some (.int .u8 (b1.toNat : Int)) := hc 1 (by simp)
  have c2 : w.cell? ⟨b, o + 2, none⟩ = some (.int .u8 (b2.toNat : Int)) := hc 2 (by simp)
  have c3 : w.cell? ⟨b, o + 3, none⟩ = some (.int .u8 (b3.toNat : Int)) := hc 3 (by simp)
  have c4 : w.cell? ⟨b, o + 4, none⟩ = some (.int .u8 (b4.toNat : Int)) := hc 4 (by simp)
  have c5 : w.cell? ⟨b, o + 5, none⟩ = some (.int .u8 (b5.toNat : Int)) := hc 5 (by simp)
  have c6 : w.cell? ⟨b, o + 6, none⟩ = some (.int .u8 (b6.toNat : Int)) := hc 6 (by simp)
  have c7 : w.cell? ⟨b, o + 7, none⟩ = some (.int .u8 (b7.toNat : Int)) := hc 7 (by simp)
  have d0 := cell?_alloc_old (.cells #[] 56) c0
  have d1 := cell?_alloc_old (.cells #[] 56) c1
  have d2 := cell?_alloc_old (.cells #[] 56) c2
  have d3 := cell?_alloc_old (.cells #[] 56) c3
  have d4 := cell?_alloc_old (.cells #[] 56) c4
  have d5 := cell?_alloc_old (.cells #[] 56) c5
  have d6 := cell?_alloc_old (.cells #[] 56) c6
  have d7 := cell?_alloc_old (.cells #[] 56) c7
  have h0 := b0.toNat_lt; have h1 := b1.toNat_lt; have h2 := b2.toNat_lt; have h3 := b3.toNat_lt
  have h4 := b4.toNat_lt; have h5 := b5.toNat_lt; have h6 := b6.toNat_lt; have h7 := b7.toNat_lt
  have hv : ((Lib.beNat [b0, b1, b2, b3, b4, b5, b6, b7] : Nat) : Int) = (b7.toNat : Int) + (b6.toNat : Int) * 256 + (b5.toNat : Int) * 65536 + (b4.toNat : Int) * 16777216 + (b3.toNat : Int) * 4294967296 + (b2.toNat : Int) * 1099511627776 + (b1.toNat : Int) * 281474976710656 + (b0.toNat : Int) * 72057594037927936 := by
    simp only [Lib.beNat, Lib.beFrom]
    push_cast
    omega
  have HV := Lib.hid hv
  have q0 : 0 < n := by omega
  have q1 : (1 : Int) < (n : Int) := by omega
  have q2 : (2 : Int) < (n : Int) := by omega
  have q3 : (3 : Int) < (n : Int) := by omega
  have q4 : (4 : Int) < (n : Int) := by omega
  have q5 : (5 : Int) < (n : Int) := by omega
  have q6 : (6 : Int) < (n : Int) := by omega
  have q7 : (7 : Int) < (n : Int) := by omega
  clear hc hv
  go_enter Tryd.func24, Tryd.ntmps24
  go_wp2
  go_quiet (fail)
  go_wp2
  go_ret
  refine ⟨?_, ((Below.refl _ w).alloc (Nat.le_refl _) _).trans ⟨rfl, rfl, rfl, Nat.le_refl _, fun _ _ => rfl⟩⟩
  simp (disch := omega) only [u64_or8, u64_or16, u64_or24, u64_or32, u64_or40, u64_or48, u64_or56]
  show _ = Ending.returned (Value.int IntKind.u64 (Lib.beNat [b0, b1, b2, b3, b4, b5, b6, b7] : Nat))
  rw [HV.out]
  rfl
end Go.Proofs.YtpegafbcfpedoaaDoor
