/- laws.FnVNAny: it returns true for any bytes. -/
import Derived.Test.YtpegafbcfpedoaaDoorT9
namespace Go.Proofs.YtpegafbcfpedoaaDoor
open Go.RowKit
set_option linter.unusedVariables false

theorem reads_old {w w1 : World} {n : Nat} {A : Option Addr} {xs : List Value} (h : Reads w w.heap.size 1 A n xs) (hb : Below w.heap.size w w1) : Reads w1 w1.heap.size 1 A n xs := (h.below hb).more hb.size
theorem glob_old {w w1 : World} {k : Nat} {v : Value} (h : w.cell? ⟨k, 0, none⟩ = some v) (hb : Below w.heap.size w w1) : w1.cell? ⟨k, 0, none⟩ = some v := (hb.cell (p := ⟨k, 0, none⟩) (World.block_lt_of_cell? w _ h)).trans h
theorem below_step {w w1 w2 : World} (h : Below w.heap.size w w1) (k : Below w1.heap.size w1 w2) : Below w.heap.size w w2 := h.trans (k.mono h.size)

theorem any_big (A : Option Addr) (n c : Nat) (w : World) (hn : 2147483647 < n) : Calls Tryd.prog 3 #[.slice A n c] w fun e w' => e = .returned (.bool true) ∧ Below w.heap.size w w' := by
  go_enter Tryd.func3, Tryd.ntmps3
  go_wp2
  go_ret
  exact ⟨rfl, Below.refl _ _⟩

theorem any_mid (A : Option Addr) (n c : Nat) (w : World) (hn : n ≤ 2147483647) (hn2 : 40 < n) (t0 : TypeId) (v0 : Value) (g0 : w.cell? ⟨0, 0, none⟩ = some (.iface t0 v0)) :
    Calls Tryd.prog 3 #[.slice A n c] w fun e w' => e = .returned (.bool true) ∧ Below w.heap.size w w' := by
  have HA := Lib.hid (vnawake w t0 v0 g0)
  go_enter Tryd.func3, Tryd.ntmps3
  go_wp2_with (first | (go_at_call 5; refine HA.out.mono ?_; rintro e w1 ⟨rfl, hb1⟩))
  go_ret
  exact ⟨rfl, hb1⟩

theorem any_none (A : Option Addr) (n c : Nat) (bs : List UInt8) (w : World) (hr : Reads w w.heap.size 1 A n (bcells bs)) (hn : n ≤ 40) (t0 t1 : TypeId) (v0 v1 : Value)
    (g0 : w.cell? ⟨0, 0, none⟩ = some (.iface t0 v0)) (g1 : w.cell? ⟨1, 0, none⟩ = some (.iface t1 v1)) (hu : vnUsed bs = 0) :
    Calls Tryd.prog 3 #[.slice A n c] w fun e w' => e = .returned (.bool true) ∧ Below w.heap.size w w' := by
  have h1 := take_any A n c bs w _ (by omega) hr
  have h2 := vnparse_any A n c bs w hr t0 t1 v0 v1 g0 g1
  rw [hu] at h1 h2
  have H1 := Lib.hid h1
  have H2 := Lib.hid h2
  have HR := Lib.hid hr
  have HG := Lib.hid g0
  have HU := Lib.hid hu
  clear h1 h2 hr g0 g1 hu
  go_enter Tryd.func3, Tryd.ntmps3
  go_wp2_with (first | (go_at_call 6; refine H1.out.mono ?_; rintro e w1 ⟨rfl, rfl⟩) | (go_at_call 7; refine H2.out.mono ?_; rintro e w2 ⟨rfl, hb2⟩))
  refine (vnread_any A n c bs w2 (reads_old HR.out hb2) (by omega) t0 v0 (glob_old HG.out hb2)).mono ?_
  rintro e w3 ⟨hv, hb3⟩
  have hb := below_step hb2 hb3
  rcases hv with ⟨hne, _⟩ | ⟨_, j, rfl⟩
  · exact absurd HU.out hne
  have HA := Lib.hid (vnawake w3 t0 v0 (glob_old HG.out hb))
  go_wp2_with (first | (go_at_call 5; refine HA.out.mono ?_; rintro e w1 ⟨rfl, hb1⟩))
  go_ret
  exact ⟨rfl, below_step hb hb1⟩

theorem any_some (A : Option Addr) (n c : Nat) (bs : List UInt8) (w : World) (hr : Reads w w.heap.size 1 A n (bcells bs)) (hn : n ≤ 40) (t0 t1 : TypeId) (v0 v1 : Value)
    (g0 : w.cell? ⟨0, 0, none⟩ = some (.iface t0 v0)) (g1 : w.cell? ⟨1, 0, none⟩ = some (.iface t1 v1)) (hu : vnUsed bs ≠ 0) :
    Calls Tryd.prog 3 #[.slice A n c] w fun e w' => e = .returned (.bool true) ∧ Below w.heap.size w w' := by
  have h1 := take_any A n c bs w _ (by omega) hr
  have h2 := vnparse_any A n c bs w hr t0 t1 v0 v1 g0 g1
  rw [show decide (vnUsed bs ≠ 0) = true from by simpa using hu] at h2
  have hle : vnUsed bs ≤ n := by have h3 := vnUsed_le bs; have h4 := hr.1; rw [bcells_length] at h4; omega
  have hne : ((vnUsed bs : Int) == 0) = false := by simp; omega
  have H1 := Lib.hid h1
  have H2 := Lib.hid h2
  have HR := Lib.hid hr
  have HG := Lib.hid g0
  have HU := Lib.hid hu
  clear h1 h2 hr g0 g1 hu
  go_enter Tryd.func3, Tryd.ntmps3
  go_wp2_with (first | (go_at_call 6; refine H1.out.mono ?_; rintro e w1 ⟨rfl, rfl⟩) | (go_at_call 7; refine H2.out.mono ?_; rintro e w2 ⟨rfl, hb2⟩))
  refine (vnread_any A n c bs w2 (reads_old HR.out hb2) (by omega) t0 v0 (glob_old HG.out hb2)).mono ?_
  rintro e w3 ⟨hv, hb3⟩
  have hb := below_step hb2 hb3
  rcases hv with ⟨_, rfl⟩ | ⟨h0, _⟩
  rotate_left
  · exact absurd h0 HU.out
  have HA := Lib.hid (vnawake w3 t0 v0 (glob_old HG.out hb))
  have hsub : ((n - vnUsed bs : Nat) : Int) = (n : Int) - (vnUsed bs : Int) := by omega
  go_wp2_with (first | (go_at_call 5; refine HA.out.mono ?_; rintro e w1 ⟨rfl, hb1⟩))
  go_ret
  exact ⟨rfl, below_step hb hb1⟩

theorem any_any (A : Option Addr) (n c : Nat) (bs : List UInt8) (w : World) (hr : Reads w w.heap.size 1 A n (bcells bs)) (t0 t1 : TypeId) (v0 v1 : Value)
    (g0 : w.cell? ⟨0, 0, none⟩ = some (.iface t0 v0)) (g1 : w.cell? ⟨1, 0, none⟩ = some (.iface t1 v1)) :
    Calls Tryd.prog 3 #[.slice A n c] w fun e w' => e = .returned (.bool true) ∧ Below w.heap.size w w' := by
  by_cases h1 : 2147483647 < n
  · exact any_big A n c w h1
  by_cases h2 : 40 < n
  · exact any_mid A n c w (by omega) h2 t0 v0 g0
  by_cases hu : vnUsed bs = 0
  · exact any_none A n c bs w hr (by omega) t0 t1 v0 v1 g0 g1 hu
  · exact any_some A n c bs w hr (by omega) t0 t1 v0 v1 g0 g1 hu
end Go.Proofs.YtpegafbcfpedoaaDoor
