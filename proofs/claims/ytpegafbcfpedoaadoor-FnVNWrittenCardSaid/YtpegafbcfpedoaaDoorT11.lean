/- laws.FnVNWritten: it returns true for any number, any length, any bytes behind. -/
import Derived.Test.YtpegafbcfpedoaaDoorT10
import Derived.Test.YtpegafbcfpedoaaDoorMem2
namespace Go.Proofs.YtpegafbcfpedoaaDoor
open Go.RowKit
set_option linter.unusedVariables false

def vnBound (K : Nat) : Nat := if K = 1 then 64 else if K = 2 then 16384 else if K = 4 then 1073741824 else 4611686018427387904

theorem u8mod (x : Nat) : ((x % 256).toUInt8).toNat = x % 256 := Lib.toUInt8_mod x
theorem vnBytes_len (m K : Nat) : (vnBytes m K).length = K := by unfold vnBytes; rw [Lib.beBytes_length]

theorem vnBytes_eq1 (m : Nat) : vnBytes m 1 = [((m + 0) % 256).toUInt8] := rfl
theorem vnBytes_read1 (m : Nat) (tl : List UInt8) (h : m < 64) : vnUsed (vnBytes m 1 ++ tl) = 1 ∧ vnNum (vnBytes m 1 ++ tl) = m := by
  rw [vnBytes_eq1]
  have hu : vnUsed ([((m + 0) % 256).toUInt8] ++ tl) = 1 := by
    simp only [List.nil_append, List.cons_append, vnUsed, u8mod]
    rw [show (m + 0) % 256 / 64 = 0 by omega, if_neg (by first | omega | (simp only [List.length_cons]; omega))]
  refine ⟨hu, ?_⟩
  rw [vnNum_of _ _ hu (by omega)]
  simp only [List.nil_append, List.cons_append, vnVal, List.headD_cons, u8mod, List.drop_succ_cons, List.drop_zero, Nat.reduceSub, List.take_zero, Lib.beFrom]
  omega
theorem vnBytes_eq2 (m : Nat) : vnBytes m 2 = [((m + 16384) / 256 % 256).toUInt8, ((m + 16384) % 256).toUInt8] := rfl
theorem vnBytes_read2 (m : Nat) (tl : List UInt8) (h : m < 16384) : vnUsed (vnBytes m 2 ++ tl) = 2 ∧ vnNum (vnBytes m 2 ++ tl) = m := by
  rw [vnBytes_eq2]
  have hu : vnUsed ([((m + 16384) / 256 % 256).toUInt8, ((m + 16384) % 256).toUInt8] ++ tl) = 2 := by
    simp only [List.nil_append, List.cons_append, vnUsed, u8mod]
    rw [show (m + 16384) / 256 % 256 / 64 = 1 by omega, if_neg (by first | omega | (simp only [List.length_cons]; omega))]
  refine ⟨hu, ?_⟩
  rw [vnNum_of _ _ hu (by omega)]
  simp only [List.nil_append, List.cons_append, vnVal, List.headD_cons, u8mod, List.drop_succ_cons, List.drop_zero, Nat.reduceSub, List.take_succ_cons, List.take_zero, Lib.beFrom]
  omega
theorem vnBytes_eq4 (m : Nat) : vnBytes m 4 = [((m + 2147483648) / 256 / 256 / 256 % 256).toUInt8, ((m + 2147483648) / 256 / 256 % 256).toUInt8, ((m + 2147483648) / 256 % 256).toUInt8, ((m + 2147483648) % 256).toUInt8] := rfl
theorem vnBytes_read4 (m : Nat) (tl : List UInt8) (h : m < 1073741824) : vnUsed (vnBytes m 4 ++ tl) = 4 ∧ vnNum (vnBytes m 4 ++ tl) = m := by
  rw [vnBytes_eq4]
  have hu : vnUsed ([((m + 2147483648) / 256 / 256 / 256 % 256).toUInt8, ((m + 2147483648) / 256 / 256 % 256).toUInt8, ((m + 2147483648) / 256 % 256).toUInt8, ((m + 2147483648) % 256).toUInt8] ++ tl) = 4 := by
    simp only [List.nil_append, List.cons_append, vnUsed, u8mod]
    rw [show (m + 2147483648) / 256 / 256 / 256 % 256 / 64 = 2 by omega, if_neg (by first | omega | (simp only [List.length_cons]; omega))]
  refine ⟨hu, ?_⟩
  rw [vnNum_of _ _ hu (by omega)]
  simp only [List.nil_append, List.cons_append, vnVal, List.headD_cons, u8mod, List.drop_succ_cons, List.drop_zero, Nat.reduceSub, List.take_succ_cons, List.take_zero, Lib.beFrom]
  omega
theorem vnBytes_eq8 (m : Nat) : vnBytes m 8 = [((m + 13835058055282163712) / 256 / 256 / 256 / 256 / 256 / 256 / 256 % 256).toUInt8, ((m + 13835058055282163712) / 256 / 256 / 256 / 256 / 256 / 256 % 256).toUInt8, ((m + 13835058055282163712) / 256 / 256 / 256 / 256 / 256 % 256).toUInt8, ((m + 13835058055282163712) / 256 / 256 / 256 / 256 % 256).toUInt8, ((m + 13835058055282163712) / 256 / 256 / 256 % 256).toUInt8, ((m + 13835058055282163712) / 256 / 256 % 256).toUInt8, ((m + 13835058055282163712) / 256 % 256).toUInt8, ((m + 13835058055282163712) % 256).toUInt8] := rfl
theorem vnBytes_read8 (m : Nat) (tl : List UInt8) (h : m < 4611686018427387904) : vnUsed (vnBytes m 8 ++ tl) = 8 ∧ vnNum (vnBytes m 8 ++ tl) = m := by
  rw [vnBytes_eq8]
  have hu : vnUsed ([((m + 13835058055282163712) / 256 / 256 / 256 / 256 / 256 / 256 / 256 % 256).toUInt8, ((m + 13835058055282163712) / 256 / 256 / 256 / 256 / 256 / 256 % 256).toUInt8, ((m + 13835058055282163712) / 256 / 256 / 256 / 256 / 256 % 256).toUInt8, ((m + 13835058055282163712) / 256 / 256 / 256 / 256 % 256).toUInt8, ((m + 13835058055282163712) / 256 / 256 / 256 % 256).toUInt8, ((m + 13835058055282163712) / 256 / 256 % 256).toUInt8, ((m + 13835058055282163712) / 256 % 256).toUInt8, ((m + 13835058055282163712) % 256).toUInt8] ++ tl) = 8 := by
    simp only [List.nil_append, List.cons_append, vnUsed, u8mod]
    rw [show (m + 13835058055282163712) / 256 / 256 / 256 / 256 / 256 / 256 / 256 % 256 / 64 = 3 by omega, if_neg (by first | omega | (simp only [List.length_cons]; omega))]
  refine ⟨hu, ?_⟩
  rw [vnNum_of _ _ hu (by omega)]
  simp only [List.nil_append, List.cons_append, vnVal, List.headD_cons, u8mod, List.drop_succ_cons, List.drop_zero, Nat.reduceSub, List.take_succ_cons, List.take_zero, Lib.beFrom]
  omega
theorem vnBytes_read (m K : Nat) (tl : List UInt8) (hK : K = 1 ∨ K = 2 ∨ K = 4 ∨ K = 8) (h : m < vnBound K) : vnUsed (vnBytes m K ++ tl) = K ∧ vnNum (vnBytes m K ++ tl) = m := by
  rcases hK with rfl | rfl | rfl | rfl
  · exact vnBytes_read1 m tl h
  · exact vnBytes_read2 m tl h
  · exact vnBytes_read4 m tl h
  · exact vnBytes_read8 m tl h

theorem bytes_any (m K : Nat) (w : World) (hK : K = 1 ∨ K = 2 ∨ K = 4 ∨ K = 8) (h : m < vnBound K) : Calls Tryd.prog 13 #[.int .u64 m, .int .i64 K] w (New w K (bcells (vnBytes m K))) := by
  rcases hK with rfl | rfl | rfl | rfl
  · exact bytes_1 m w h
  · exact bytes_2 m w h
  · exact bytes_4 m w h
  · exact bytes_8 m w h
theorem vnLen_ok (m : Nat) (h : m < 4611686018427387904) : (vnLen m = 1 ∨ vnLen m = 2 ∨ vnLen m = 4 ∨ vnLen m = 8) ∧ m < vnBound (vnLen m) := by
  rcases vnLen_cases m with ⟨e, h1⟩ | ⟨e, h1, h2⟩ | ⟨e, h1, h2⟩ | ⟨e, h1⟩
  all_goals rw [e]; simp [vnBound]; omega
theorem vnBound_mono (m K : Nat) (h : m < 4611686018427387904) (hK : K = 1 ∨ K = 2 ∨ K = 4 ∨ K = 8) (hle : vnLen m ≤ K) : m < vnBound K := by
  rcases vnLen_cases m with ⟨e, h1⟩ | ⟨e, h1, h2⟩ | ⟨e, h1, h2⟩ | ⟨e, h1⟩ <;> rcases hK with rfl | rfl | rfl | rfl <;> simp [vnBound] <;> omega
end Go.Proofs.YtpegafbcfpedoaaDoor
