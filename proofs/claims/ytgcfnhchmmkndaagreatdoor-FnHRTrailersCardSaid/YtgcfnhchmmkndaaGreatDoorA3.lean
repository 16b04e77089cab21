/- httpguts: ValidHeaderFieldValue, ValidHeaderFieldName; http3.invalidField. -/
import Derived.Test.YtgcfnhchmmkndaaGreatDoorA2
namespace Go.Proofs.YtgcfnhchmmkndaaGreatDoor
open Go.RowKit
set_option linter.unusedVariables false
set_option maxRecDepth 100000

def valC (c : Nat) : Bool := (decide (32 ≤ c) && decide (c ≠ 127)) || decide (c = 9)
def valOk (l : List UInt8) : Bool := l.all fun c => valC c.toNat

theorem all_take (l : List UInt8) (p : UInt8 → Bool) (k : Nat) (hk : k < l.length) (h : (l.take k).all p = true) (hp : p l[k] = true) : (l.take (k + 1)).all p = true := by
  rw [List.take_succ_eq_append_getElem hk, List.all_append, h]
  simp [hp]
theorem all_not (l : List UInt8) (p : UInt8 → Bool) (k : Nat) (hk : k < l.length) (hp : p l[k] = false) : l.all p = false := by
  rw [List.all_eq_false]
  exact ⟨l[k], List.getElem_mem hk, by simp [hp]⟩

set_option maxHeartbeats 4000000 in
theorem value_at (s : ByteArray) (w : World) (hs : s.size ≤ 2147483648) : Calls Tryz.prog 87 #[.string s] w fun e w' => e = .returned (.bool (valOk s.data.toList)) ∧ w' = w := by
  go_enter Tryz.func87, Tryz.ntmps87
  go_wp2_with fail
  go_loop [3] (fun i => ∃ k : Nat, k ≤ s.size ∧ i = .int .i64 (k : Int) ∧ (s.data.toList.take k).all (fun c => valC c.toNat) = true) (fun i => s.size - (intOf i).toNat)
  case atStart => exact ⟨0, by omega, rfl, rfl⟩
  case round =>
    obtain ⟨k, hk, rfl, hall⟩ := hrel
    have HA := Lib.hid hall
    clear hall
    rcases Nat.lt_or_ge k s.size with hkl | hkl
    · have hkl' : k < s.data.toList.length := by simpa using hkl
      have hg : s.data.toList[k] = s[k] := by simp; rfl
      have HG := Lib.hid hg
      clear hg
      have hcase : (32 ≤ s[k].toNat ∧ s[k].toNat ≠ 127) ∨ s[k].toNat = 9 ∨ (s[k].toNat < 32 ∧ s[k].toNat ≠ 9) ∨ s[k].toNat = 127 := by omega
      rcases hcase with h | h | h | h
      · obtain ⟨h1, h2⟩ := h
        have f1 : decide ((s[k].toNat : Int) < 32) = false := by simp; omega
        have f2 : ((s[k].toNat : Int) == 127) = false := by simp; omega
        have HV : Hid (valC s[k].toNat = true) := Lib.hid (by unfold valC; simp [h1, h2])
        clear h1 h2
        go_wp2
        exact ⟨⟨k + 1, by omega, by go_num, all_take _ _ k hkl' HA.out (by rw [HG.out]; exact HV.out)⟩, by simp [intOf]; omega⟩
      · have f1 : decide ((s[k].toNat : Int) < 32) = true := by simp; omega
        have f2 : ((s[k].toNat : Int) == 32) = false := by simp; omega
        have f3 : ((s[k].toNat : Int) == 9) = true := by simp; omega
        have HV : Hid (valC s[k].toNat = true) := Lib.hid (by unfold valC; simp [h])
        clear h
        go_wp2
        exact ⟨⟨k + 1, by omega, by go_num, all_take _ _ k hkl' HA.out (by rw [HG.out]; exact HV.out)⟩, by simp [intOf]; omega⟩
      · obtain ⟨h1, h2⟩ := h
        have f1 : decide ((s[k].toNat : Int) < 32) = true := by simp; omega
        have f2 : ((s[k].toNat : Int) == 32) = false := by simp; omega
        have f3 : ((s[k].toNat : Int) == 9) = false := by simp; omega
        have HV : Hid (valC s[k].toNat = false) := Lib.hid (by unfold valC; simp; omega)
        clear h1 h2
        go_wp2
        go_ret
        exact ⟨ret_bool (all_not _ _ k hkl' (by rw [HG.out]; exact HV.out)).symm, rfl⟩
      · have f1 : decide ((s[k].toNat : Int) < 32) = false := by simp; omega
        have f0 : ((s[k].toNat : Int) == 127) = true := by simp; omega
        have f2 : ((s[k].toNat : Int) == 32) = false := by simp; omega
        have f3 : ((s[k].toNat : Int) == 9) = false := by simp; omega
        have HV : Hid (valC s[k].toNat = false) := Lib.hid (by unfold valC; simp; omega)
        clear h
        go_wp2
        go_ret
        exact ⟨ret_bool (all_not _ _ k hkl' (by rw [HG.out]; exact HV.out)).symm, rfl⟩
    · have e : k = s.size := by omega
      subst e
      go_wp2
      go_ret
      exact ⟨ret_bool (by have h := HA.out; rw [List.take_of_length_le (by simp)] at h; exact h.symm), rfl⟩

/-- the table of the bytes of a name, as the program lays it -/
def TokTab (w : World) : Prop := ∀ c, c < 256 → w.cell? ⟨2, c, none⟩ = some (.bool (tokN c))

def nameOk (l : List UInt8) : Bool := !l.isEmpty && tokAll l

set_option maxHeartbeats 4000000 in
theorem name_at (s : ByteArray) (w : World) (hs : s.size ≤ 2147483648) (ht : TokTab w) : Calls Tryz.prog 77 #[.string s] w fun e w' => e = .returned (.bool (nameOk s.data.toList)) ∧ w' = w := by
  have HT := Lib.hid ht
  clear ht
  rcases Nat.eq_zero_or_pos s.size with h0 | hpos
  · have f0 : ((s.size : Int) == 0) = true := by rw [h0]; rfl
    have hl : s.data.toList = [] := by
      apply List.eq_nil_of_length_eq_zero
      simpa using h0
    have HL := Lib.hid hl
    clear hl h0
    go_enter Tryz.func77, Tryz.ntmps77
    go_wp2_with fail
    go_ret
    exact ⟨ret_bool (by rw [HL.out]; rfl), rfl⟩
  · have f0 : ((s.size : Int) == 0) = false := beq_eq_false_iff_ne.2 (by omega)
    go_enter Tryz.func77, Tryz.ntmps77
    go_wp2_with fail
    go_loop [3] (fun i => ∃ k : Nat, k ≤ s.size ∧ i = .int .i64 (k : Int) ∧ (s.data.toList.take k).all (fun c => tokN c.toNat) = true) (fun i => s.size - (intOf i).toNat)
    case atStart => exact ⟨0, by omega, rfl, rfl⟩
    case round =>
      obtain ⟨k, hk, rfl, hall⟩ := hrel
      have HA := Lib.hid hall
      clear hall
      rcases Nat.lt_or_ge k s.size with hkl | hkl
      · have hkl' : k < s.data.toList.length := by simpa using hkl
        have hg : s.data.toList[k] = s[k] := by simp; rfl
        have HG := Lib.hid hg
        clear hg
        have hlt : s[k].toNat < 256 := s[k].toNat_lt
        have e0 := HT.out s[k].toNat hlt
        obtain ⟨t, htk⟩ : ∃ t, tokN s[k].toNat = t := ⟨_, rfl⟩
        rw [htk] at e0
        have HTK := Lib.hid htk
        clear htk
        have g1 : (s[k].toNat : Int) < 256 := by omega
        cases t
        · go_wp2_with fail
          go_ret
          refine ⟨ret_bool ?_, rfl⟩
          unfold nameOk tokAll
          rw [all_not _ _ k hkl' (by rw [HG.out]; exact HTK.out)]
          simp
        · go_wp2_with fail
          exact ⟨⟨k + 1, by omega, by go_num, all_take _ _ k hkl' HA.out (by rw [HG.out]; exact HTK.out)⟩, by simp [intOf]; omega⟩
      · have e : k = s.size := by omega
        subst e
        go_wp2_with fail
        go_ret
        refine ⟨ret_bool ?_, rfl⟩
        have h := HA.out
        rw [List.take_of_length_le (by simp)] at h
        unfold nameOk tokAll
        rw [h]
        have : s.data.toList ≠ [] := by
          intro e
          have h2 : s.data.toList.length = 0 := by rw [e]; rfl
          rw [Array.length_toList] at h2
          have h3 : s.size = s.data.size := rfl
          omega
        cases hh : s.data.toList
        · exact absurd hh this
        · rfl
end Go.Proofs.YtgcfnhchmmkndaaGreatDoor
