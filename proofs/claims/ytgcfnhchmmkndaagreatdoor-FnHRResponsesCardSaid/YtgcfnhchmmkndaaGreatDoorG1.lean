/- the specification's small tests: hrLower, HRValue. -/
import Derived.Test.YtgcfnhchmmkndaaGreatDoorA1
import Derived.IntWalk
import Derived.Test.YtgcfnhchmmkndaaGreatDoorB1
import Derived.Lib.SlBytesConst
import Derived.Test.YtgcfnhchmmkndaaGreatDoorA4
import Derived.Test.YtgcfnhchmmkndaaGreatDoorC5
namespace Go.Proofs.YtgcfnhchmmkndaaGreatDoor
open Go.RowKit
set_option linter.unusedVariables false
set_option maxRecDepth 100000

def lowC (c : Nat) : Bool := !(decide (65 ≤ c) && decide (c ≤ 90))
def lowOk (l : List UInt8) : Bool := l.all fun c => lowC c.toNat

set_option maxHeartbeats 4000000 in
theorem low_at (s : ByteArray) (w : World) (hs : s.size ≤ 2147483648) : Calls Tryz.prog 42 #[.string s] w fun e w' => e = .returned (.bool (lowOk s.data.toList)) ∧ w' = w := by
  go_enter Tryz.func42, Tryz.ntmps42
  go_wp2_with fail
  go_loop [6] (fun i => ∃ k : Nat, k ≤ s.size ∧ i = .int .i64 (k : Int) ∧ (s.data.toList.take k).all (fun c => lowC c.toNat) = true) (fun i => s.size - (intOf i).toNat)
  case atStart => exact ⟨0, by omega, rfl, rfl⟩
  case round =>
    obtain ⟨k, hk, rfl, hall⟩ := hrel
    have HA := Lib.hid hall
    clear hall
    rcases Nat.lt_or_ge k s.size with hkl | hkl
    · have hkl' : k < s.data.toList.length := by simpa using hkl
      have hg : s.data.toList[k] = s[k] := by simp; rfl
      have HG := Lib.hid hg
      clear hg
      have hcase : s[k].toNat < 65 ∨ (65 ≤ s[k].toNat ∧ s[k].toNat ≤ 90) ∨ 90 < s[k].toNat := by omega
      rcases hcase with h | ⟨h1, h2⟩ | h
      · have HV : Hid (lowC s[k].toNat = true) := Lib.hid (by unfold lowC; simp; omega)
        have h' : ((s[k].toNat : Int)) < 65 := by omega
        clear h
        go_wp2
        exact ⟨⟨k + 1, by omega, by go_num, all_take _ _ k hkl' HA.out (by rw [HG.out]; exact HV.out)⟩, by simp [intOf]; omega⟩
      · have HV : Hid (lowC s[k].toNat = false) := Lib.hid (by unfold lowC; simp; omega)
        have f1 : (65 : Int) ≤ ((s[k].toNat : Int)) := by omega
        have f2 : ((s[k].toNat : Int)) ≤ 90 := by omega
        clear h1 h2
        go_wp2
        go_ret
        exact ⟨ret_bool (all_not _ _ k hkl' (by rw [HG.out]; exact HV.out)).symm, rfl⟩
      · have HV : Hid (lowC s[k].toNat = true) := Lib.hid (by unfold lowC; simp; omega)
        have f1 : (65 : Int) ≤ ((s[k].toNat : Int)) := by omega
        have h' : (90 : Int) < ((s[k].toNat : Int)) := by omega
        clear h
        go_wp2
        exact ⟨⟨k + 1, by omega, by go_num, all_take _ _ k hkl' HA.out (by rw [HG.out]; exact HV.out)⟩, by simp [intOf]; omega⟩
    · have e : k = s.size := by omega
      subst e
      go_wp2
      go_ret
      exact ⟨ret_bool (by have h := HA.out; rw [List.take_of_length_le (by simp)] at h; exact h.symm), rfl⟩

set_option maxHeartbeats 4000000 in
theorem hrvalue_at (s : ByteArray) (w : World) (hs : s.size ≤ 2147483648) : Calls Tryz.prog 43 #[.string s] w fun e w' => e = .returned (.bool (valOk s.data.toList)) ∧ w' = w := by
  go_enter Tryz.func43, Tryz.ntmps43
  go_wp2_with fail
  go_loop [6] (fun i => ∃ k : Nat, k ≤ s.size ∧ i = .int .i64 (k : Int) ∧ (s.data.toList.take k).all (fun c => valC c.toNat) = true) (fun i => s.size - (intOf i).toNat)
  case atStart => exact ⟨0, by omega, rfl, rfl⟩
  case round =>
    obtain ⟨k, hk, rfl, hall⟩ := hrel
    have HA := Lib.hid hall
    clear hall
    rcases Nat.lt_or_ge k s.size with hkl | hkl
    · have hkl' : k < s.data.toList.length := by simpa using hkl
      have hg : s.data.toList[k] = s[k] := by simp; rfl
      have HG := Lib.hid hg
      clear hg
      have hcase : (32 ≤ s[k].toNat ∧ s[k].toNat ≠ 127) ∨ s[k].toNat = 9 ∨ (s[k].toNat < 32 ∧ s[k].toNat ≠ 9) ∨ s[k].toNat = 127 := by omega
      rcases hcase with h | h | h | h
      · obtain ⟨h1, h2⟩ := h
        have f1 : (32 : Int) ≤ (s[k].toNat : Int) := by omega
        have f2 : ((s[k].toNat : Int) == 127) = false := by simp; omega
        have HV : Hid (valC s[k].toNat = true) := Lib.hid (by unfold valC; simp [h1, h2])
        clear h1 h2
        go_wp2
        exact ⟨⟨k + 1, by omega, by go_num, all_take _ _ k hkl' HA.out (by rw [HG.out]; exact HV.out)⟩, by simp [intOf]; omega⟩
      · have f1 : (s[k].toNat : Int) < 32 := by omega
        have f3 : ((s[k].toNat : Int) == 9) = true := by simp; omega
        have f4 : ((s[k].toNat : Int) != 9) = false := by simp; omega
        have f2 : ((s[k].toNat : Int) == 127) = false := by simp; omega
        have HV : Hid (valC s[k].toNat = true) := Lib.hid (by unfold valC; simp [h])
        clear h
        go_wp2
        exact ⟨⟨k + 1, by omega, by go_num, all_take _ _ k hkl' HA.out (by rw [HG.out]; exact HV.out)⟩, by simp [intOf]; omega⟩
      · obtain ⟨h1, h2⟩ := h
        have f1 : (s[k].toNat : Int) < 32 := by omega
        have f3 : ((s[k].toNat : Int) == 9) = false := by simp; omega
        have f4 : ((s[k].toNat : Int) != 9) = true := by simp; omega
        have HV : Hid (valC s[k].toNat = false) := Lib.hid (by unfold valC; simp; omega)
        clear h1 h2
        go_wp2
        go_ret
        exact ⟨ret_bool (all_not _ _ k hkl' (by rw [HG.out]; exact HV.out)).symm, rfl⟩
      · have f1 : (32 : Int) ≤ (s[k].toNat : Int) := by omega
        have f0 : ((s[k].toNat : Int) == 127) = true := by simp; omega
        have HV : Hid (valC s[k].toNat = false) := Lib.hid (by unfold valC; simp; omega)
        clear h
        go_wp2
        go_ret
        exact ⟨ret_bool (all_not _ _ k hkl' (by rw [HG.out]; exact HV.out)).symm, rfl⟩
    · have e : k = s.size := by omega
      subst e
      go_wp2
      go_ret
      exact ⟨ret_bool (by have h := HA.out; rw [List.take_of_length_le (by simp)] at h; exact h.symm), rfl⟩

def marks2 : List Nat := [33, 35, 36, 37, 38, 39, 42, 43, 45, 46, 94, 95, 96, 124, 126]
def mkN (k : Nat) : Nat := marks2.getD k 0
theorem marks_any : ∀ c, c < 256 → marks.contains c = (List.range 15).any (fun j => mkN j == c) := by decide +kernel
theorem cells_frz (w : World) (cs : List Value) (t : TypeId) (fr : Nat × Nat) : ∀ j u, cs[j]? = some u → (w.alloc (.cells cs.toArray t fr)).cell? ⟨w.heap.size, j, none⟩ = some u := by
  intro j u hj
  rw [cell_of_row _ w.heap.size j cs.toArray t fr (heap_alloc_new w _)]
  simpa using hj
theorem mark_list : ∀ (k : Nat) (h : k < [Value.int IntKind.u8 33, Value.int IntKind.u8 35, Value.int IntKind.u8 36, Value.int IntKind.u8 37, Value.int IntKind.u8 38, Value.int IntKind.u8 39, Value.int IntKind.u8 42, Value.int IntKind.u8 43, Value.int IntKind.u8 45, Value.int IntKind.u8 46, Value.int IntKind.u8 94, Value.int IntKind.u8 95, Value.int IntKind.u8 96, Value.int IntKind.u8 124, Value.int IntKind.u8 126].length), [Value.int IntKind.u8 33, Value.int IntKind.u8 35, Value.int IntKind.u8 36, Value.int IntKind.u8 37, Value.int IntKind.u8 38, Value.int IntKind.u8 39, Value.int IntKind.u8 42, Value.int IntKind.u8 43, Value.int IntKind.u8 45, Value.int IntKind.u8 46, Value.int IntKind.u8 94, Value.int IntKind.u8 95, Value.int IntKind.u8 96, Value.int IntKind.u8 124, Value.int IntKind.u8 126][k]'h = .int .u8 (mkN k : Int) := by
  intro k h
  have hk : k < 15 := h
  match k, hk with
  | 0, _ => rfl
  | 1, _ => rfl
  | 2, _ => rfl
  | 3, _ => rfl
  | 4, _ => rfl
  | 5, _ => rfl
  | 6, _ => rfl
  | 7, _ => rfl
  | 8, _ => rfl
  | 9, _ => rfl
  | 10, _ => rfl
  | 11, _ => rfl
  | 12, _ => rfl
  | 13, _ => rfl
  | 14, _ => rfl
theorem mark_new (W : World) (k : Nat) (hk : k < 15) : (W.alloc (.cells #[Value.int IntKind.u8 33, Value.int IntKind.u8 35, Value.int IntKind.u8 36, Value.int IntKind.u8 37, Value.int IntKind.u8 38, Value.int IntKind.u8 39, Value.int IntKind.u8 42, Value.int IntKind.u8 43, Value.int IntKind.u8 45, Value.int IntKind.u8 46, Value.int IntKind.u8 94, Value.int IntKind.u8 95, Value.int IntKind.u8 96, Value.int IntKind.u8 124, Value.int IntKind.u8 126] 5 (15, 16))).cell? ⟨W.heap.size, k, none⟩ = some (.int .u8 (mkN k : Int)) := by
  have h : [Value.int IntKind.u8 33, Value.int IntKind.u8 35, Value.int IntKind.u8 36, Value.int IntKind.u8 37, Value.int IntKind.u8 38, Value.int IntKind.u8 39, Value.int IntKind.u8 42, Value.int IntKind.u8 43, Value.int IntKind.u8 45, Value.int IntKind.u8 46, Value.int IntKind.u8 94, Value.int IntKind.u8 95, Value.int IntKind.u8 96, Value.int IntKind.u8 124, Value.int IntKind.u8 126][k]? = some (.int .u8 (mkN k : Int)) := by rw [List.getElem?_eq_getElem (show k < [Value.int IntKind.u8 33, Value.int IntKind.u8 35, Value.int IntKind.u8 36, Value.int IntKind.u8 37, Value.int IntKind.u8 38, Value.int IntKind.u8 39, Value.int IntKind.u8 42, Value.int IntKind.u8 43, Value.int IntKind.u8 45, Value.int IntKind.u8 46, Value.int IntKind.u8 94, Value.int IntKind.u8 95, Value.int IntKind.u8 96, Value.int IntKind.u8 124, Value.int IntKind.u8 126].length from hk), mark_list k hk]
  have h2 := cells_frz W [Value.int IntKind.u8 33, Value.int IntKind.u8 35, Value.int IntKind.u8 36, Value.int IntKind.u8 37, Value.int IntKind.u8 38, Value.int IntKind.u8 39, Value.int IntKind.u8 42, Value.int IntKind.u8 43, Value.int IntKind.u8 45, Value.int IntKind.u8 46, Value.int IntKind.u8 94, Value.int IntKind.u8 95, Value.int IntKind.u8 96, Value.int IntKind.u8 124, Value.int IntKind.u8 126] 5 (15, 16) k _ h
  exact h2

set_option maxHeartbeats 4000000 in
theorem hrtoken_at (c : Nat) (hc : c < 256) (w : World) : Calls Tryz.prog 55 #[.int .u8 (c : Int)] w fun e w' => e = .returned (.bool (tokN c)) ∧ Below w.heap.size w w' := by
  have hcase : c < 48 ∨ (48 ≤ c ∧ c ≤ 57) ∨ (57 < c ∧ c < 65) ∨ (65 ≤ c ∧ c ≤ 90) ∨ (90 < c ∧ c < 97) ∨ (97 ≤ c ∧ c ≤ 122) ∨ 122 < c := by omega
  have hb := below_new w (.cells #[Value.int IntKind.u8 33, Value.int IntKind.u8 35, Value.int IntKind.u8 36, Value.int IntKind.u8 37, Value.int IntKind.u8 38, Value.int IntKind.u8 39, Value.int IntKind.u8 42, Value.int IntKind.u8 43, Value.int IntKind.u8 45, Value.int IntKind.u8 46, Value.int IntKind.u8 94, Value.int IntKind.u8 95, Value.int IntKind.u8 96, Value.int IntKind.u8 124, Value.int IntKind.u8 126] 5 (15, 16))
  have hM := marks_any c hc
  have HB := Lib.hid hb
  have HM := Lib.hid hM
  have hnew := mark_new w
  have hli := mark_list
  have hcv := fun (w : World) (C : Array Value) (n c : Nat) => Lib.run_convert_bytes_const (P := Tryz.prog) w 22 5 C n c Tryz.underlying22 Tryz.underlying5
  clear hb hM
  rcases hcase with h | ⟨h, h2⟩ | ⟨h, h2⟩ | ⟨h, h2⟩ | ⟨h, h2⟩ | ⟨h, h2⟩ | h
  all_goals
    first
      | have ht : tokN c = true := (by unfold tokN alnum; simp; omega)
      | have ht : tokN c = marks.contains c := (by unfold tokN; rw [show alnum c = false by unfold alnum; simp; omega]; rfl)
  all_goals have HT := Lib.hid ht
  all_goals clear ht
  all_goals
    go_enter Tryz.func55, Tryz.ntmps55
    go_wp2_with fail
  all_goals try omega
  all_goals first
    | (go_ret; exact ⟨ret_bool HT.out.symm, Below.refl _ _⟩)
    | skip
  all_goals
    go_loop [30] (fun i => ∃ k : Nat, k ≤ 15 ∧ i = .int .i64 (k : Int) ∧ ∀ j, j < k → (mkN j == c) = false) (fun i => 15 - (intOf i).toNat)
    case atStart => exact ⟨0, by omega, rfl, fun j hj => absurd hj (by omega)⟩
    case round =>
      obtain ⟨k, hk, rfl, hlt⟩ := hrel
      have HL := Lib.hid hlt
      clear hlt
      rcases Nat.lt_or_ge k 15 with hkl | hkl
      · have k1 : (0 : Int) ≤ (k : Int) := by omega
        have k2 : (k : Int) < 15 := by omega
        cases e : (mkN k == c)
        · have f : ((c : Int) == (mkN k : Int)) = false := by
            have : mkN k ≠ c := by simpa using e
            simp; omega
          have HE := Lib.hid e
          clear e
          go_wp2_with fail
          exact ⟨⟨k + 1, by omega, by go_num, fun j hj => by
            rcases Nat.lt_succ_iff_lt_or_eq.1 hj with hj | rfl
            · exact HL.out j hj
            · exact HE.out⟩, by simp [intOf]; omega⟩
        · have f : ((c : Int) == (mkN k : Int)) = true := by
            have : mkN k = c := by simpa using e
            simp; omega
          have HE := Lib.hid e
          clear e
          go_wp2_with fail
          go_ret
          refine ⟨ret_bool ?_, HB.out⟩
          rw [HT.out, HM.out]
          exact (List.any_eq_true.2 ⟨k, List.mem_range.2 hkl, HE.out⟩).symm
      · have e : k = 15 := by omega
        subst e
        go_wp2_with fail
        go_ret
        refine ⟨ret_bool ?_, HB.out⟩
        rw [HT.out, HM.out]
        exact (List.any_eq_false.2 fun j hj => by rw [HL.out j (List.mem_range.1 hj)]; decide).symm

theorem byteAtG (l : BS) (k : Nat) (h : k < l.length) (h2 : k < (⟨l.toArray⟩ : ByteArray).size) : (⟨l.toArray⟩ : ByteArray)[k]'h2 = l[k] := by
  show l.toArray[k] = l[k]
  simp
set_option maxHeartbeats 4000000 in
theorem hrname_at (l : BS) (w : World) (hl : l.length ≤ 2147483648) : Calls Tryz.prog 45 #[str l] w fun e w' => e = .returned (.bool (nameOk l)) ∧ Below w.heap.size w w' := by
  have hsz : (⟨l.toArray⟩ : ByteArray).size = l.length := by show l.toArray.size = _; simp
  go_enter Tryz.func45, Tryz.ntmps45
  go_wp2_with fail
  go_loopw [6] (fun i wx => ∃ k : Nat, k ≤ l.length ∧ i = .int .i64 (k : Int) ∧ (l.take k).all (fun c => tokN c.toNat) = true ∧ Below w.heap.size w wx) (fun i _ => l.length - (intOf i).toNat)
  case atStart => exact ⟨0, by omega, rfl, rfl, Below.refl _ _⟩
  case round =>
    obtain ⟨k, hk, rfl, hall, hbel⟩ := hrel
    have HA := Lib.hid hall
    have HB := Lib.hid hbel
    clear hall hbel
    rcases Nat.lt_or_ge k l.length with hkl | hkl
    · have hk2 : k < (⟨l.toArray⟩ : ByteArray).size := by rw [hsz]; exact hkl
      obtain ⟨c, hc⟩ : ∃ c, (l[k]).toNat = c := ⟨_, rfl⟩
      have hb : ((⟨l.toArray⟩ : ByteArray)[k]'hk2).toNat = c := by rw [byteAtG l k hkl, hc]
      have hc256 : c < 256 := hc ▸ UInt8.toNat_lt _
      have KT := hrtoken_at c hc256 wr
      have HC := Lib.hid hc
      clear hc
      cases e : tokN c
      · rw [e] at KT
        have HE : Hid (nameOk l = false) := Lib.hid (by
          unfold nameOk tokAll
          rw [all_not _ (fun c => tokN c.toNat) k hkl (by rw [HC.out]; exact e), Bool.and_false])
        clear e
        go_wp2_with fail
        refine KT.mono ?_
        rintro e w1 ⟨rfl, hb1⟩
        have HB1 := Lib.hid (HB.out.trans (hb1.mono HB.out.size))
        clear hb1 KT
        go_wp2_with fail
        go_ret
        exact ⟨ret_bool HE.out.symm, HB1.out⟩
      · rw [e] at KT
        have HE := Lib.hid e
        clear e
        go_wp2_with fail
        refine KT.mono ?_
        rintro e w1 ⟨rfl, hb1⟩
        have HB1 := Lib.hid (HB.out.trans (hb1.mono HB.out.size))
        clear hb1 KT
        go_wp2_with fail
        exact ⟨⟨k + 1, hkl, by go_num, all_take _ _ k hkl HA.out (by rw [HC.out]; exact HE.out), HB1.out⟩, by simp [intOf]; omega⟩
    · have e : k = l.length := by omega
      subst e
      have h := HA.out
      rw [List.take_length] at h
      have HN : Hid (nameOk l = !l.isEmpty) := Lib.hid (by unfold nameOk tokAll; rw [h, Bool.and_true])
      clear h
      cases l with
      | nil =>
        go_wp2_with fail
        go_ret
        exact ⟨rfl, HB.out⟩
      | cons x t =>
        have f0 : (x :: t == []) = false := rfl
        go_wp2_with fail
        go_ret
        exact ⟨ret_bool (by rw [HN.out]; rfl), HB.out⟩

def barF : Nat → BS
  | 0 => [99, 111, 110, 110, 101, 99, 116, 105, 111, 110]
  | 1 => [107, 101, 101, 112, 45, 97, 108, 105, 118, 101]
  | 2 => [112, 114, 111, 120, 121, 45, 99, 111, 110, 110, 101, 99, 116, 105, 111, 110]
  | 3 => [116, 114, 97, 110, 115, 102, 101, 114, 45, 101, 110, 99, 111, 100, 105, 110, 103]
  | _ => [117, 112, 103, 114, 97, 100, 101]
theorem barF_list : ∀ (i : Nat) (h : i < [Value.string { data := #[99, 111, 110, 110, 101, 99, 116, 105, 111, 110] }, Value.string { data := #[107, 101, 101, 112, 45, 97, 108, 105, 118, 101] }, Value.string { data := #[112, 114, 111, 120, 121, 45, 99, 111, 110, 110, 101, 99, 116, 105, 111, 110] }, Value.string { data := #[116, 114, 97, 110, 115, 102, 101, 114, 45, 101, 110, 99, 111, 100, 105, 110, 103] }, Value.string { data := #[117, 112, 103, 114, 97, 100, 101] }].length), [Value.string { data := #[99, 111, 110, 110, 101, 99, 116, 105, 111, 110] }, Value.string { data := #[107, 101, 101, 112, 45, 97, 108, 105, 118, 101] }, Value.string { data := #[112, 114, 111, 120, 121, 45, 99, 111, 110, 110, 101, 99, 116, 105, 111, 110] }, Value.string { data := #[116, 114, 97, 110, 115, 102, 101, 114, 45, 101, 110, 99, 111, 100, 105, 110, 103] }, Value.string { data := #[117, 112, 103, 114, 97, 100, 101] }][i]'h = str (barF i) := fun i h => by
  have hk : i < 5 := h
  match i, hk with
  | 0, _ => rfl
  | 1, _ => rfl
  | 2, _ => rfl
  | 3, _ => rfl
  | 4, _ => rfl
theorem barF_new (W : World) (i : Nat) (hi : i < 5) : (W.alloc (.cells #[Value.string { data := #[99, 111, 110, 110, 101, 99, 116, 105, 111, 110] }, Value.string { data := #[107, 101, 101, 112, 45, 97, 108, 105, 118, 101] }, Value.string { data := #[112, 114, 111, 120, 121, 45, 99, 111, 110, 110, 101, 99, 116, 105, 111, 110] }, Value.string { data := #[116, 114, 97, 110, 115, 102, 101, 114, 45, 101, 110, 99, 111, 100, 105, 110, 103] }, Value.string { data := #[117, 112, 103, 114, 97, 100, 101] }] 9)).cell? ⟨W.heap.size, i, none⟩ = some (str (barF i)) := by
  have h := cells_new W [Value.string { data := #[99, 111, 110, 110, 101, 99, 116, 105, 111, 110] }, Value.string { data := #[107, 101, 101, 112, 45, 97, 108, 105, 118, 101] }, Value.string { data := #[112, 114, 111, 120, 121, 45, 99, 111, 110, 110, 101, 99, 116, 105, 111, 110] }, Value.string { data := #[116, 114, 97, 110, 115, 102, 101, 114, 45, 101, 110, 99, 111, 100, 105, 110, 103] }, Value.string { data := #[117, 112, 103, 114, 97, 100, 101] }] 9 i (str (barF i)) (by rw [List.getElem?_eq_getElem (show i < [Value.string { data := #[99, 111, 110, 110, 101, 99, 116, 105, 111, 110] }, Value.string { data := #[107, 101, 101, 112, 45, 97, 108, 105, 118, 101] }, Value.string { data := #[112, 114, 111, 120, 121, 45, 99, 111, 110, 110, 101, 99, 116, 105, 111, 110] }, Value.string { data := #[116, 114, 97, 110, 115, 102, 101, 114, 45, 101, 110, 99, 111, 100, 105, 110, 103] }, Value.string { data := #[117, 112, 103, 114, 97, 100, 101] }].length from hi), barF_list i hi])
  rwa [Addr.add_lit, Nat.zero_add] at h
theorem barF_any (l : BS) : barredNames.contains l = (List.range 5).any (fun j => l == barF j) := by
  show barredNames.contains l = (l == barF 0 || (l == barF 1 || (l == barF 2 || (l == barF 3 || (l == barF 4 || false)))))
  unfold barredNames
  simp only [List.contains_cons, List.contains_nil, barF]
set_option maxHeartbeats 4000000 in
theorem barred_at (l : BS) (w : World) : Calls Tryz.prog 46 #[str l] w fun e w' => e = .returned (.bool (barredNames.contains l)) ∧ Below w.heap.size w w' := by
  have HB := Lib.hid (below_new w (.cells #[Value.string { data := #[99, 111, 110, 110, 101, 99, 116, 105, 111, 110] }, Value.string { data := #[107, 101, 101, 112, 45, 97, 108, 105, 118, 101] }, Value.string { data := #[112, 114, 111, 120, 121, 45, 99, 111, 110, 110, 101, 99, 116, 105, 111, 110] }, Value.string { data := #[116, 114, 97, 110, 115, 102, 101, 114, 45, 101, 110, 99, 111, 100, 105, 110, 103] }, Value.string { data := #[117, 112, 103, 114, 97, 100, 101] }] 9))
  have hnew := barF_new w
  have hli := barF_list
  go_enter Tryz.func46, Tryz.ntmps46
  go_wp2_with fail
  go_loop [7] (fun i => ∃ k : Nat, k ≤ 5 ∧ i = .int .i64 (k : Int) ∧ ∀ j, j < k → (l == barF j) = false) (fun i => 5 - (intOf i).toNat)
  case atStart => exact ⟨0, by omega, rfl, fun j hj => absurd hj (by omega)⟩
  case round =>
    obtain ⟨k, hk, rfl, hlt⟩ := hrel
    have HL := Lib.hid hlt
    clear hlt
    rcases Nat.lt_or_ge k 5 with hkl | hkl
    · have k1 : (0 : Int) ≤ (k : Int) := by omega
      have k2 : (k : Int) < 5 := by omega
      cases e : (l == barF k)
      · have HE := Lib.hid e
        go_wp2_with fail
        exact ⟨⟨k + 1, by omega, by go_num, fun j hj => by
          rcases Nat.lt_succ_iff_lt_or_eq.1 hj with hj | rfl
          · exact HL.out j hj
          · exact HE.out⟩, by simp [intOf]; omega⟩
      · have HE := Lib.hid e
        go_wp2_with fail
        go_ret
        refine ⟨ret_bool ?_, HB.out⟩
        have h := (barF_any l).trans (List.any_eq_true.2 ⟨k, List.mem_range.2 hkl, HE.out⟩)
        rw [List.contains_eq_mem] at h
        exact h.symm
    · have e : k = 5 := by omega
      subst e
      go_wp2_with fail
      go_ret
      refine ⟨ret_bool ?_, HB.out⟩
      have h := (barF_any l).trans (List.any_eq_false.2 fun j hj => by rw [HL.out j (List.mem_range.1 hj)]; decide)
      rw [List.contains_eq_mem] at h
      exact h.symm
def pseF : Nat → BS
  | 0 => [58, 109, 101, 116, 104, 111, 100]
  | 1 => [58, 115, 99, 104, 101, 109, 101]
  | 2 => [58, 97, 117, 116, 104, 111, 114, 105, 116, 121]
  | 3 => [58, 112, 97, 116, 104]
  | _ => [58, 112, 114, 111, 116, 111, 99, 111, 108]
theorem pseF_list : ∀ (i : Nat) (h : i < [Value.string { data := #[58, 109, 101, 116, 104, 111, 100] }, Value.string { data := #[58, 115, 99, 104, 101, 109, 101] }, Value.string { data := #[58, 97, 117, 116, 104, 111, 114, 105, 116, 121] }, Value.string { data := #[58, 112, 97, 116, 104] }, Value.string { data := #[58, 112, 114, 111, 116, 111, 99, 111, 108] }].length), [Value.string { data := #[58, 109, 101, 116, 104, 111, 100] }, Value.string { data := #[58, 115, 99, 104, 101, 109, 101] }, Value.string { data := #[58, 97, 117, 116, 104, 111, 114, 105, 116, 121] }, Value.string { data := #[58, 112, 97, 116, 104] }, Value.string { data := #[58, 112, 114, 111, 116, 111, 99, 111, 108] }][i]'h = str (pseF i) := fun i h => by
  have hk : i < 5 := h
  match i, hk with
  | 0, _ => rfl
  | 1, _ => rfl
  | 2, _ => rfl
  | 3, _ => rfl
  | 4, _ => rfl
theorem pseF_new (W : World) (i : Nat) (hi : i < 5) : (W.alloc (.cells #[Value.string { data := #[58, 109, 101, 116, 104, 111, 100] }, Value.string { data := #[58, 115, 99, 104, 101, 109, 101] }, Value.string { data := #[58, 97, 117, 116, 104, 111, 114, 105, 116, 121] }, Value.string { data := #[58, 112, 97, 116, 104] }, Value.string { data := #[58, 112, 114, 111, 116, 111, 99, 111, 108] }] 9)).cell? ⟨W.heap.size, i, none⟩ = some (str (pseF i)) := by
  have h := cells_new W [Value.string { data := #[58, 109, 101, 116, 104, 111, 100] }, Value.string { data := #[58, 115, 99, 104, 101, 109, 101] }, Value.string { data := #[58, 97, 117, 116, 104, 111, 114, 105, 116, 121] }, Value.string { data := #[58, 112, 97, 116, 104] }, Value.string { data := #[58, 112, 114, 111, 116, 111, 99, 111, 108] }] 9 i (str (pseF i)) (by rw [List.getElem?_eq_getElem (show i < [Value.string { data := #[58, 109, 101, 116, 104, 111, 100] }, Value.string { data := #[58, 115, 99, 104, 101, 109, 101] }, Value.string { data := #[58, 97, 117, 116, 104, 111, 114, 105, 116, 121] }, Value.string { data := #[58, 112, 97, 116, 104] }, Value.string { data := #[58, 112, 114, 111, 116, 111, 99, 111, 108] }].length from hi), pseF_list i hi])
  rwa [Addr.add_lit, Nat.zero_add] at h
def pseNames : List BS := [[58, 109, 101, 116, 104, 111, 100], [58, 115, 99, 104, 101, 109, 101], [58, 97, 117, 116, 104, 111, 114, 105, 116, 121], [58, 112, 97, 116, 104], [58, 112, 114, 111, 116, 111, 99, 111, 108]]
theorem pseF_any (l : BS) : pseNames.contains l = (List.range 5).any (fun j => l == pseF j) := by
  show pseNames.contains l = (l == pseF 0 || (l == pseF 1 || (l == pseF 2 || (l == pseF 3 || (l == pseF 4 || false)))))
  unfold pseNames
  simp only [List.contains_cons, List.contains_nil, pseF]
set_option maxHeartbeats 4000000 in
theorem hrpseudo_req (l : BS) (w : World) : Calls Tryz.prog 44 #[str l, .bool true] w fun e w' => e = .returned (.bool (pseNames.contains l)) ∧ Below w.heap.size w w' := by
  have HB := Lib.hid (below_new w (.cells #[Value.string { data := #[58, 109, 101, 116, 104, 111, 100] }, Value.string { data := #[58, 115, 99, 104, 101, 109, 101] }, Value.string { data := #[58, 97, 117, 116, 104, 111, 114, 105, 116, 121] }, Value.string { data := #[58, 112, 97, 116, 104] }, Value.string { data := #[58, 112, 114, 111, 116, 111, 99, 111, 108] }] 9))
  have hnew := pseF_new w
  have hli := pseF_list
  go_enter Tryz.func44, Tryz.ntmps44
  go_wp2_with fail
  go_loop [13] (fun i => ∃ k : Nat, k ≤ 5 ∧ i = .int .i64 (k : Int) ∧ ∀ j, j < k → (l == pseF j) = false) (fun i => 5 - (intOf i).toNat)
  case atStart => exact ⟨0, by omega, rfl, fun j hj => absurd hj (by omega)⟩
  case round =>
    obtain ⟨k, hk, rfl, hlt⟩ := hrel
    have HL := Lib.hid hlt
    clear hlt
    rcases Nat.lt_or_ge k 5 with hkl | hkl
    · have k1 : (0 : Int) ≤ (k : Int) := by omega
      have k2 : (k : Int) < 5 := by omega
      cases e : (l == pseF k)
      · have HE := Lib.hid e
        go_wp2_with fail
        exact ⟨⟨k + 1, by omega, by go_num, fun j hj => by
          rcases Nat.lt_succ_iff_lt_or_eq.1 hj with hj | rfl
          · exact HL.out j hj
          · exact HE.out⟩, by simp [intOf]; omega⟩
      · have HE := Lib.hid e
        go_wp2_with fail
        go_ret
        refine ⟨ret_bool ?_, HB.out⟩
        have h := (pseF_any l).trans (List.any_eq_true.2 ⟨k, List.mem_range.2 hkl, HE.out⟩)
        rw [List.contains_eq_mem] at h
        exact h.symm
    · have e : k = 5 := by omega
      subst e
      go_wp2_with fail
      go_ret
      refine ⟨ret_bool ?_, HB.out⟩
      have h := (pseF_any l).trans (List.any_eq_false.2 fun j hj => by rw [HL.out j (List.mem_range.1 hj)]; decide)
      rw [List.contains_eq_mem] at h
      exact h.symm
theorem hrpseudo_res (l : BS) (w : World) : Calls Tryz.prog 44 #[str l, .bool false] w fun e w' => e = .returned (.bool (l == [58, 115, 116, 97, 116, 117, 115])) ∧ w' = w := by
  go_enter Tryz.func44, Tryz.ntmps44
  go_wp2_with fail
  go_ret
  exact ⟨rfl, rfl⟩

theorem decN_snoc (l : BS) (c : UInt8) : decN (l ++ [c]) = decN l * 10 + (c.toNat - 48) := by unfold decN; rw [List.foldl_append]; rfl
theorem decN_ge (n : Nat) (b : BS) : n ≤ b.foldl (fun n c => n * 10 + (c.toNat - 48)) n := by
  induction b generalizing n with
  | nil => exact Nat.le_refl _
  | cons x t ih =>
    have := ih (n * 10 + (x.toNat - 48))
    rw [List.foldl_cons]
    omega
theorem decN_app (a b : BS) : decN a ≤ decN (a ++ b) := by
  unfold decN
  rw [List.foldl_append]
  exact decN_ge _ _
def lenV (l : BS) : Int := match parseCL l with | some n => (n : Int) | none => 0
def lenMax : Nat := 9223372036854775808
/-- so far: digits, below 2^63 -/
structure LenAt (l : BS) (k n : Nat) : Prop where
  dig : (l.take k).all digitB = true
  val : n = decN (l.take k)
  lt : n < lenMax
theorem LenAt.next {l : BS} {k n c : Nat} (h : LenAt l k n) (hk : k < l.length) (hc : (l[k]).toNat = c) (h1 : 48 ≤ c) (h2 : c ≤ 57) (h3 : n * 10 + (c - 48) < lenMax) : LenAt l (k + 1) (n * 10 + (c - 48)) := by
  have ht : l.take (k + 1) = l.take k ++ [l[k]] := List.take_succ_eq_append_getElem hk
  refine ⟨?_, ?_, h3⟩
  · rw [ht, List.all_append, h.dig]
    simp [digitB, hc, h1, h2]
  · rw [ht, decN_snoc, ← h.val, hc]
theorem len_bad {l : BS} {k c : Nat} (hk : k < l.length) (hc : (l[k]).toNat = c) (h : c < 48 ∨ 57 < c) : parseCL l = none := by
  unfold parseCL
  rw [all_not l digitB k hk (by unfold digitB; rw [hc]; simp; omega)]
  rfl
theorem len_big {l : BS} {k n c : Nat} (h : LenAt l k n) (hk : k < l.length) (hc : (l[k]).toNat = c) (h1 : 48 ≤ c) (h3 : lenMax ≤ n * 10 + (c - 48)) : parseCL l = none := by
  have ht : l.take (k + 1) = l.take k ++ [l[k]] := List.take_succ_eq_append_getElem hk
  have h4 : decN (l.take (k + 1)) = n * 10 + (c - 48) := by rw [ht, decN_snoc, ← h.val, hc]
  have h5 : decN (l.take (k + 1)) ≤ decN l := by
    have := decN_app (l.take (k + 1)) (l.drop (k + 1))
    rwa [List.take_append_drop] at this
  have h6 : ¬ decN l < 9223372036854775808 := by unfold lenMax at h3; omega
  unfold parseCL
  rw [show decide (decN l < 9223372036854775808) = false by simp only [decide_eq_false_iff_not]; exact h6, Bool.and_false]
  rfl
theorem len_end {l : BS} {n : Nat} (h : LenAt l l.length n) : parseCL l = if l.isEmpty then none else some n := by
  have h1 := h.dig
  have h2 := h.val
  have h3 := h.lt
  rw [List.take_length] at h1 h2
  unfold parseCL
  rw [h1, ← h2, show decide (n < 9223372036854775808) = true by simp only [decide_eq_true_eq]; exact h3]
  cases l.isEmpty <;> rfl

set_option maxHeartbeats 4000000 in
theorem hrlength_at (l : BS) (w : World) (hl : l.length ≤ 2147483648) : Calls Tryz.prog 47 #[str l] w fun e w' => e = .returned (.tuple #[.int .i64 (lenV l), .bool (parseCL l).isSome]) ∧ w' = w := by
  have hsz : (⟨l.toArray⟩ : ByteArray).size = l.length := by show l.toArray.size = _; simp
  go_enter Tryz.func47, Tryz.ntmps47
  go_wp2_with fail
  go_loop [4, 9] (fun s4 i => ∃ k n : Nat, k ≤ l.length ∧ i = .int .i64 (k : Int) ∧ s4 = .int .i64 (n : Int) ∧ LenAt l k n) (fun _ i => l.length - (intOf i).toNat)
  case atStart => exact ⟨0, 0, by omega, rfl, rfl, rfl, rfl, by unfold lenMax; omega⟩
  case round =>
    obtain ⟨k, n, hk, rfl, rfl, hL⟩ := hrel
    have HL := Lib.hid hL
    have hn : (n : Int) ≤ 9223372036854775807 := by have := hL.lt; unfold lenMax at this; omega
    clear hL
    rcases Nat.lt_or_ge k l.length with hkl | hkl
    · have hk2 : k < (⟨l.toArray⟩ : ByteArray).size := by rw [hsz]; exact hkl
      obtain ⟨c, hc⟩ : ∃ c, (l[k]).toNat = c := ⟨_, rfl⟩
      have hb : ((⟨l.toArray⟩ : ByteArray)[k]'hk2).toNat = c := by rw [byteAtG l k hkl, hc]
      have hc256 : c < 256 := hc ▸ UInt8.toNat_lt _
      have HC := Lib.hid hc
      clear hc
      have h3 : c < 48 ∨ 57 < c ∨ (48 ≤ c ∧ c ≤ 57) := by omega
      rcases h3 with h | h | ⟨h, h2⟩
      · have HV : Hid (parseCL l = none) := Lib.hid (len_bad hkl HC.out (.inl h))
        have f1 : (c : Int) < 48 := by omega
        go_wp2_with fail
        all_goals try omega
        go_ret2
        exact ⟨by unfold lenV; rw [HV.out]; rfl, rfl⟩
      · have HV : Hid (parseCL l = none) := Lib.hid (len_bad hkl HC.out (.inr h))
        have f1 : (57 : Int) < c := by omega
        go_wp2_with fail
        all_goals try omega
        go_ret2
        exact ⟨by unfold lenV; rw [HV.out]; rfl, rfl⟩
      · have f1 : (48 : Int) ≤ c := by omega
        have f2 : (c : Int) ≤ 57 := by omega
        obtain ⟨d, hd⟩ : ∃ d : Nat, (c : Int) - 48 = d := ⟨c - 48, by omega⟩
        have hd9 : (d : Int) ≤ 9 := by omega
        rcases Nat.lt_or_ge (n * 10 + (c - 48)) lenMax with hlt | hge
        · have HN := Lib.hid (HL.out.next hkl HC.out h h2 hlt)
          have hq : ¬ ((9223372036854775807 - (d : Int)) / 10 < (n : Int)) := by unfold lenMax at hlt; omega
          have hm : 10 * (n : Int) + (d : Int) ≤ 9223372036854775807 := by unfold lenMax at hlt; omega
          have he : ((n * 10 + (c - 48) : Nat) : Int) = 10 * (n : Int) + (d : Int) := by omega
          have HE := Lib.hid he
          clear hlt he
          go_wp2_with fail
          all_goals try omega
          refine ⟨⟨k + 1, n * 10 + (c - 48), hkl, by go_num, by rw [HE.out], HN.out⟩, by simp [intOf]; omega⟩
        · have HV : Hid (parseCL l = none) := Lib.hid (len_big HL.out hkl HC.out h hge)
          have hq : (9223372036854775807 - (d : Int)) / 10 < (n : Int) := by unfold lenMax at hge; omega
          clear hge
          go_wp2_with fail
          all_goals try omega
          go_ret2
          exact ⟨by unfold lenV; rw [HV.out]; rfl, rfl⟩
    · have e : k = l.length := by omega
      subst e
      have HV := Lib.hid (len_end HL.out)
      cases l with
      | nil =>
        go_wp2_with fail
        go_ret2
        have h0 : (n : Int) = 0 := by have := HL.out.val; simp [decN] at this; omega
        exact ⟨by unfold lenV; rw [HV.out, h0]; rfl, rfl⟩
      | cons x t =>
        have f0 : (x :: t == []) = false := rfl
        go_wp2_with fail
        go_ret2
        exact ⟨by unfold lenV; rw [HV.out]; rfl, rfl⟩
end Go.Proofs.YtgcfnhchmmkndaaGreatDoor
