/- http3.parsePriority. -/
import Derived.Test.YtdgpfgbocacgeaaDoorI1
import Derived.Test.YtdgpfgbocacgeaaDoorL0
import Derived.Test.YtdgpfgbocacgeaaDoorTrim
import Derived.Laws.Closers25b
namespace Go.Proofs.YtdgpfgbocacgeaaDoor
open Go.RowKit
set_option linter.unusedVariables false
abbrev Tab (w : World) : Prop := Lib.TabIs Tryd.prog w "strings.asciiSpace" .u8 Lib.asciiSpaceTab
theorem gAscii : Tryd.prog.globalNamed "strings.asciiSpace" = some 4 := by kernel_rfl
theorem tab_below {w w' : World} (h : Tab w) (hb : Below w.heap.size w w') : Tab w' := by
  unfold Tab Lib.TabIs World.var? at h ⊢
  rw [gAscii] at h ⊢
  simp only [Option.bind_some] at h ⊢
  have hlt : 4 < w.heap.size := by
    rcases Nat.lt_or_ge 4 w.heap.size with h' | h'
    · exact h'
    · rw [Array.getElem?_eq_none h'] at h; cases h
  rw [hb.block 4 hlt]
  exact h

def ParsePost (v : ByteArray) (w : World) (e : Ending) (w' : World) : Prop :=
  e = .returned (.tuple #[.int .i8 (ppAll v.data.toList).1, .bool (ppAll v.data.toList).2]) ∧ Below w.heap.size w w'

def PAt (v : ByteArray) (w : World) (s2 s3 s4 s5 s6 s7 : Value) (wr : World) : Prop :=
  ∃ (u : Int) (inc inS esc : Bool) (k st : Nat), s2 = .int .i8 u ∧ s3 = .bool inc ∧ s4 = .bool inS ∧ s5 = .bool esc ∧ s6 = .int .i64 k ∧ s7 = .int .i64 st ∧ 0 ≤ u ∧ u ≤ 7 ∧ Below w.heap.size w wr ∧ PSt v.data.toList u inc inS esc k st

theorem parse_ret {v : ByteArray} {w wr : World} {u : Int} {inc : Bool} (h : (u, inc) = ppAll v.data.toList) (hb : Below w.heap.size w wr) : ParsePost v w (.returned (.tuple #[.int .i8 u, .bool inc])) wr := by
  unfold ParsePost
  rw [← h]
  exact ⟨rfl, hb⟩
theorem seg_extract (v : ByteArray) (st k : Nat) : (v.extract st k).data.toList = seg v.data.toList st k := by
  rw [Lib.extract_data, seg, List.drop_take]
theorem seg_mem {l : List UInt8} {st k : Nat} {x : UInt8} (h : x ∈ seg l st k) : x ∈ l := List.mem_of_mem_take (List.mem_of_mem_drop h)
theorem below_bytes (w : World) (e : TypeId) (s : ByteArray) : Below w.heap.size w (Lib.bytesWorld w e s) :=
  ⟨rfl, rfl, rfl, by rw [Lib.bytesWorld_size]; omega, fun j hj => Lib.bytesWorld_at_old w e s j hj⟩
theorem trim_le (l : List UInt8) : (Lib.trimSpace l).length ≤ l.length := by
  unfold Lib.trimSpace
  have h1 := (List.dropWhile_sublist Lib.isSp (l := l)).length_le
  have h2 := (List.dropWhile_sublist Lib.isSp (l := (l.dropWhile Lib.isSp).reverse)).length_le
  simp only [List.length_reverse] at h1 h2 ⊢
  omega
theorem take_le {s : ByteArray} {l : List UInt8} {c : UInt8} {m : Nat} (e : s.data.toList = l.takeWhile (· != c)) (h : l.length ≤ m) : s.size ≤ m := by
  rw [← len_eq, e]
  have h1 := (List.takeWhile_sublist (· != c) (l := l)).length_le
  omega

section
variable {key item : ByteArray} {has : Bool} {u : Int} {inc : Bool}
theorem eq_of {s : ByteArray} {l : List UInt8} (h : (s.toList == l) = true) : s.data.toList = l := by rw [Lib.toList_data] at h; simpa using h
theorem ne_of {s : ByteArray} {l : List UInt8} (h : (s.toList == l) = false) : s.data.toList ≠ l := by rw [Lib.toList_data] at h; simpa using h
theorem nn_of {s : ByteArray} (h : ¬ s.toList = []) : s.data.toList ≠ [] := by rw [Lib.toList_data] at h; exact h
theorem em_of {s : ByteArray} (h : s.toList.isEmpty = false) : s.data.toList ≠ [] := by rw [Lib.toList_data] at h; simpa using h
theorem st_e1 (h : key.toList = []) : stepOf key.data.toList item.data.toList has u inc = none := by
  rw [Lib.toList_data] at h
  simp [stepOf, h]
theorem st_e2 (h0 : ¬ key.toList = []) (h1 : has = true) (h2 : key.toList.isEmpty = true ∨ item.toList.isEmpty = true) : stepOf key.data.toList item.data.toList has u inc = none := by
  rw [Lib.toList_data] at h0
  rw [Lib.toList_data, Lib.toList_data] at h2
  have h3 : item.data.toList = [] := by
    rcases h2 with h | h
    · exact absurd (by simpa using h) h0
    · simpa using h
  simp [stepOf, h1, h3]
theorem st_e3 (h0 : key.toList.isEmpty = true) : stepOf key.data.toList item.data.toList has u inc = none := st_e1 (by simpa using h0)

theorem st_one (h1 : (item.size : Int) = 1) (h : 0 < item.size) : item.data.toList = [item[0]] := by
  have hl : item.data.toList.length = 1 := by rw [len_eq]; omega
  have h0 : item.data.toList[0]'(by omega) = item[0] := get_eq item 0 h
  rcases hh : item.data.toList with _ | ⟨a, _ | ⟨b, r⟩⟩
  · rw [hh] at hl; simp at hl
  · simp only [hh, List.getElem_cons_zero] at h0
    rw [h0]
  · rw [hh] at hl; simp at hl
theorem st_u1 (a : ¬ key.toList = []) (h0 : has = true) (h1 : key.toList.isEmpty = false ∧ item.toList.isEmpty = false) (h2 : (key.toList == [117]) = true) (h3 : (item.size : Int) = 1) (h : 0 < item.size) (h4 : 48 ≤ (item[0].toNat : Int)) (h5 : (item[0].toNat : Int) ≤ 55) :
    stepOf key.data.toList item.data.toList has u inc = some ((item[0].toNat : Int) - 48, inc) := by
  have e1 := st_one h3 h
  have g : 48 ≤ item[0].toNat ∧ item[0].toNat ≤ 55 := by omega
  simp [stepOf, memU, h0, eq_of h2, e1, g]
theorem st_u2 (a : ¬ key.toList = []) (h0 : has = true) (h1 : key.toList.isEmpty = false ∧ item.toList.isEmpty = false) (h2 : (key.toList == [117]) = true) (h3 : (item.size : Int) = 1) (h : 0 < item.size) (h4 : 48 ≤ (item[0].toNat : Int)) (h5 : 55 < (item[0].toNat : Int)) :
    stepOf key.data.toList item.data.toList has u inc = some (u, inc) := by
  have e1 := st_one h3 h
  have g : ¬ (48 ≤ item[0].toNat ∧ item[0].toNat ≤ 55) := by omega
  simp only [stepOf, memU, h0, eq_of h2, e1, g]
  simp
theorem st_u3 (a : ¬ key.toList = []) (h0 : has = true) (h1 : key.toList.isEmpty = false ∧ item.toList.isEmpty = false) (h2 : (key.toList == [117]) = true) (h3 : (item.size : Int) = 1) (h : 0 < item.size) (h4 : ¬ 48 ≤ (item[0].toNat : Int)) :
    stepOf key.data.toList item.data.toList has u inc = some (u, inc) := by
  have e1 := st_one h3 h
  have g : ¬ (48 ≤ item[0].toNat ∧ item[0].toNat ≤ 55) := by omega
  simp only [stepOf, memU, h0, eq_of h2, e1, g]
  simp
theorem st_u4 (a : ¬ key.toList = []) (h0 : has = true) (h1 : key.toList.isEmpty = false ∧ item.toList.isEmpty = false) (h2 : (key.toList == [117]) = true) (h3 : ¬ (item.size : Int) = 1) :
    stepOf key.data.toList item.data.toList has u inc = some (u, inc) := by
  have hl : item.data.toList.length ≠ 1 := by rw [len_eq]; omega
  have hne := em_of h1.2
  rcases hh : item.data.toList with _ | ⟨x, _ | ⟨y, r⟩⟩
  · exact absurd hh hne
  · rw [hh] at hl; simp at hl
  · simp [stepOf, memU, h0, eq_of h2]
theorem st_i1 (a : ¬ key.toList = []) (h0 : has = true) (h1 : key.toList.isEmpty = false ∧ item.toList.isEmpty = false) (h2 : (key.toList == [117]) = false) (h3 : (key.toList == [105]) = true) (h4 : (item.toList == [63, 49]) = true) :
    stepOf key.data.toList item.data.toList has u inc = some (u, true) := by
  simp [stepOf, h0, eq_of h3, eq_of h4]
theorem st_i2 (a : ¬ key.toList = []) (h0 : has = true) (h1 : key.toList.isEmpty = false ∧ item.toList.isEmpty = false) (h2 : (key.toList == [117]) = false) (h3 : (key.toList == [105]) = true) (h4 : (item.toList == [63, 49]) = false) (h5 : (item.toList == [63, 48]) = true) :
    stepOf key.data.toList item.data.toList has u inc = some (u, false) := by
  simp [stepOf, h0, eq_of h3, eq_of h5]
theorem st_i3 (a : ¬ key.toList = []) (h0 : has = true) (h1 : key.toList.isEmpty = false ∧ item.toList.isEmpty = false) (h2 : (key.toList == [117]) = false) (h3 : (key.toList == [105]) = true) (h4 : (item.toList == [63, 49]) = false) (h5 : (item.toList == [63, 48]) = false) :
    stepOf key.data.toList item.data.toList has u inc = some (u, inc) := by
  simp [stepOf, h0, eq_of h3, ne_of h4, ne_of h5, em_of h1.2]
theorem st_o1 (a : ¬ key.toList = []) (h0 : has = true) (h1 : key.toList.isEmpty = false ∧ item.toList.isEmpty = false) (h2 : (key.toList == [117]) = false) (h3 : (key.toList == [105]) = false) :
    stepOf key.data.toList item.data.toList has u inc = some (u, inc) := by
  simp [stepOf, h0, ne_of h2, ne_of h3, em_of h1.1, em_of h1.2]
theorem st_b1 (a : ¬ key.toList = []) (h0 : ¬ has = true) (h1 : key.toList.isEmpty = false) (h2 : (key.toList == [117]) = true) : stepOf key.data.toList item.data.toList has u inc = some (u, inc) := by
  simp [stepOf, h0, eq_of h2]
theorem st_b2 (a : ¬ key.toList = []) (h0 : ¬ has = true) (h1 : key.toList.isEmpty = false) (h2 : (key.toList == [117]) = false) (h3 : (key.toList == [105]) = true) : stepOf key.data.toList item.data.toList has u inc = some (u, true) := by
  have h0' : has = false := by simpa using h0
  simp [stepOf, h0', eq_of h3]
theorem st_b3 (a : ¬ key.toList = []) (h0 : ¬ has = true) (h1 : key.toList.isEmpty = false) (h2 : (key.toList == [117]) = false) (h3 : (key.toList == [105]) = false) : stepOf key.data.toList item.data.toList has u inc = some (u, inc) := by
  simp [stepOf, h0, ne_of h2, ne_of h3, em_of h1]

theorem p_next {v : ByteArray} {w w3 : World} {inS esc inc' : Bool} {k st : Nat} {u' : Int} {kl il : List UInt8} (HS : Hid (∀ u' inc', memStep (seg v.data.toList st k) u inc = some (u', inc') → PSt v.data.toList u' inc' inS esc (k + 1) (k + 1)))
    (HM : Hid (memStep (seg v.data.toList st k) u inc = stepOf kl il has u inc)) (HB : Hid (Below w.heap.size w w3)) (hk : k ≤ v.size) (b : 0 ≤ u' ∧ u' ≤ 7) (e : stepOf kl il has u inc = some (u', inc')) :
    PAt v w (.int .i8 u') (.bool inc') (.bool inS) (.bool esc) (.int .i64 ((k : Int) + 1)) (.int .i64 ((k : Int) + 1)) w3 ∧ v.size + 2 - (intOf (.int .i64 ((k : Int) + 1))).toNat < v.size + 2 - (intOf (.int .i64 (k : Int))).toNat :=
  ⟨⟨u', inc', inS, esc, k + 1, k + 1, rfl, rfl, rfl, rfl, by go_num, by go_num, b.1, b.2, HB.out, HS.out _ _ (HM.out.trans e)⟩, by simp [intOf]; omega⟩
theorem p_go {v : ByteArray} {w wr : World} {u : Int} {inc inS esc esc' : Bool} {k n st : Nat} {j : Int} (h : PSt v.data.toList u inc inS esc n st) (HB : Hid (Below w.heap.size w wr)) (hu0 : 0 ≤ u) (hu7 : u ≤ 7) (he : esc' = esc) (hj : j = n) (hk : k < n) (hv : k ≤ v.size) :
    PAt v w (.int .i8 u) (.bool inc) (.bool inS) (.bool esc') (.int .i64 j) (.int .i64 (st : Int)) wr ∧ v.size + 2 - (intOf (.int .i64 j)).toNat < v.size + 2 - (intOf (.int .i64 (k : Int))).toNat := by
  subst hj he
  exact ⟨⟨u, inc, inS, esc', n, st, rfl, rfl, rfl, rfl, rfl, rfl, hu0, hu7, HB.out, h⟩, by simp [intOf]; omega⟩
theorem prev_eq {v : ByteArray} {k : Nat} (hk : 0 < k) (h : k - 1 < v.size) : prevAt v.data.toList k = v[k - 1] := by
  rcases k with _ | k
  · omega
  · have h' : k < v.data.toList.length := by rw [len_eq]; exact h
    rw [prev_succ h', get_eq v k h]
    rfl
theorem prev_ne {v : ByteArray} {k : Nat} (hk : 0 < k) (h : k - 1 < v.size) : ((v[k - 1].toNat : Int) != 37) = (!false && prevAt v.data.toList k != 37) := by
  rw [prev_eq hk h]
  have := u8_eq v[k - 1] 37
  simp only [Bool.not_false, Bool.true_and, bne]
  rw [← this]
  rfl
end

set_option maxHeartbeats 1000000 in
set_option maxRecDepth 100000 in
theorem parse_at (v : ByteArray) (w : World) (hs : v.size ≤ 2147483647) (hasc : ∀ x ∈ v.data.toList, x.toNat < 128) (tab : Tab w) : Calls Tryd.prog 22 #[.string v] w (ParsePost v w) := by
  have HT := Lib.hid tab
  have HA := Lib.hid hasc
  clear tab hasc
  go_enter Tryd.func22, Tryd.ntmps22
  go_wp2_with fail
  go_loopw [2, 3, 4, 5, 6, 7] (fun s2 s3 s4 s5 s6 s7 wr => PAt v w s2 s3 s4 s5 s6 s7 wr) (fun _ _ _ _ i _ _ => v.size + 2 - (intOf i).toNat)
  case atStart => exact ⟨3, false, false, false, 0, 0, rfl, rfl, rfl, rfl, rfl, rfl, by omega, by omega, Below.refl _ _, PSt.start _⟩
  case round =>
    obtain ⟨u, inc, inS, esc, k, st, rfl, rfl, rfl, rfl, rfl, rfl, hu0, hu7, hb, hp⟩ := hrel
    have HB := Lib.hid hb
    have HP := Lib.hid hp
    clear hb hp
    rcases Nat.lt_or_ge v.size k with h1 | h1
    · have f1 : decide ((k : Int) ≤ (v.size : Int)) = false := by simp; omega
      obtain ⟨e1, e2⟩ := HP.out.done (by rw [len_eq]; exact h1)
      have E2 := Lib.hid e2
      clear e1 e2
      cases inS
      · go_wp2_with fail
        go_ret2
        exact parse_ret E2.out HB.out
      · go_wp2_with fail
        go_ret2
        exact parse_ret E2.out HB.out
    · have f1 : decide ((k : Int) ≤ (v.size : Int)) = true := by simp; omega
      by_cases hm : k = v.size ∨ (inS = false ∧ ∃ h : k < v.size, v[k] = 44)
      · have HN : Hid (memStep (seg v.data.toList st k) u inc = none → ((3 : Int), false) = ppAll v.data.toList) := Lib.hid (by
          rcases hm with rfl | ⟨rfl, h, h44⟩
          · exact fun hn => (HP.out.end_none (len_eq v).symm hn).symm
          · exact fun hn => (HP.out.comma_none (by rw [len_eq]; exact h) (by rw [get_eq v k h]; exact h44) hn).symm)
        have HS : Hid (∀ u' inc', memStep (seg v.data.toList st k) u inc = some (u', inc') → PSt v.data.toList u' inc' inS esc (k + 1) (k + 1)) := Lib.hid (by
          rcases hm with rfl | ⟨rfl, h, h44⟩
          · exact fun _ _ hn => HP.out.end_some (len_eq v).symm hn
          · exact fun _ _ hn => HP.out.comma (by rw [len_eq]; exact h) (by rw [get_eq v k h]; exact h44) hn)
        have hst : st ≤ k := (HP.out.eqn (by rw [len_eq]; exact h1)).1
        have hm' : ((k : Int) == (v.size : Int)) = true ∨ (((k : Int) == (v.size : Int)) = false ∧ inS = false ∧ ∃ h : k < v.size, ((v[k].toNat : Int) == 44) = true) := by
          by_cases hk : k = v.size
          · exact .inl (by simp; omega)
          · rcases hm with h | ⟨h, h2, h3⟩
            · exact absurd h hk
            · exact .inr ⟨by simp; omega, h, h2, by rw [h3]; rfl⟩
        clear hm
        rcases hm' with f2 | ⟨f2, rfl, hlt, f3⟩
        all_goals go_wp2_with fail
        all_goals
          refine (Tryd.strings_TrimSpace (v.extract st k) wr (by rw [← len_eq, Lib.extract_data]; simp; omega) (fun j b hj => HA.out b (seg_mem (by rw [← seg_extract]; exact List.mem_of_getElem? hj))) (tab_below HT.out HB.out)).mono ?_
          rintro e w1 ⟨rfl, hw1⟩
          have hb1 : Below wr.heap.size wr w1 := by rw [hw1]; exact below_bytes _ _ _
          have HB1 := Lib.hid (below_step HB.out hb1)
          clear hw1 hb1
        all_goals
          have hts : (⟨(Lib.trimSpace (v.extract st k).data.toList).toArray⟩ : ByteArray).size ≤ 2147483647 := by
            rw [← len_eq]
            have e1 := trim_le (v.extract st k).data.toList
            have e2 := len_eq (v.extract st k)
            have e3 : (v.extract st k).size ≤ v.size := by rw [← len_eq, Lib.extract_data]; simp; omega
            show (Lib.trimSpace (v.extract st k).data.toList).toArray.toList.length ≤ _
            rw [List.toList_toArray]
            omega
        all_goals
          generalize htr : (⟨(Lib.trimSpace (v.extract st k).data.toList).toArray⟩ : ByteArray) = tr at hts
          have hte : tr.data.toList = Lib.trimSpace (v.extract st k).data.toList := by rw [← htr]
          have HTE := Lib.hid hte
          clear htr hte
        all_goals
          go_wp2_with fail
          refine (cut_at tr 59 w1 hts).mono ?_
          rintro e w2 ⟨hb2, b1, a1, rfl, hb1e, _⟩
          rw [HTE.out] at hb1e
          have HM1 : Hid (b1.data.toList = (Lib.trimSpace (seg v.data.toList st k)).takeWhile (· != 59)) := Lib.hid (by rw [hb1e, ← seg_extract])
          have hbs : b1.size ≤ 2147483647 := take_le hb1e (by rw [← HTE.out, len_eq]; exact hts)
          have HB2 := Lib.hid (below_step HB1.out hb2)
          clear hb2 hb1e HB1 HTE hts
          go_wp2_with fail
          refine (cut_at b1 61 w2 hbs).mono ?_
          rintro e w3 ⟨hb3, key, item, rfl, hkey, hitem⟩
          have HM : Hid (memStep (seg v.data.toList st k) u inc = stepOf key.data.toList item.data.toList (b1.data.toList.any (· == 61)) u inc) := Lib.hid (memStep_of HM1.out hkey hitem u inc)
          have HB3 := Lib.hid (below_step HB2.out hb3)
          generalize b1.data.toList.any (· == 61) = has at HM
          clear hb3 HB2 hkey hitem HM1
        all_goals go_wp2_with fail
        all_goals first
          | (refine p_next HS HM HB3 h1 ?_ ?_
             all_goals first
               | exact ⟨hu0, hu7⟩
               | (refine st_b1 ?_ ?_ ?_ ?_; all_goals assumption)
               | (refine st_b2 ?_ ?_ ?_ ?_ ?_; all_goals assumption)
               | (refine st_b3 ?_ ?_ ?_ ?_ ?_; all_goals assumption)
               | (refine st_o1 ?_ ?_ ?_ ?_ ?_; all_goals assumption)
               | (refine st_i1 ?_ ?_ ?_ ?_ ?_ ?_; all_goals assumption)
               | (refine st_i2 ?_ ?_ ?_ ?_ ?_ ?_ ?_; all_goals assumption)
               | (refine st_i3 ?_ ?_ ?_ ?_ ?_ ?_ ?_; all_goals assumption)
               | (refine st_u4 ?_ ?_ ?_ ?_ ?_; all_goals assumption)
               | (refine st_u3 ?_ ?_ ?_ ?_ ?_ ?_ ?_; all_goals first | assumption | omega)
               | (refine st_u2 ?_ ?_ ?_ ?_ ?_ ?_ ?_ ?_; all_goals first | assumption | omega)
               | (refine st_u1 ?_ ?_ ?_ ?_ ?_ ?_ ?_ ?_; all_goals first | assumption | omega)
               | omega)
          | (go_ret2
             refine parse_ret (HN.out (HM.out.trans ?_)) HB3.out
             first
               | (refine st_e1 ?_; assumption)
               | (refine st_e3 ?_; assumption)
               | (refine st_e2 ?_ ?_ ?_; all_goals assumption))
      · have hlt : k < v.size := by
          rcases Nat.lt_or_ge k v.size with h | h
          · exact h
          · exact absurd (.inl (by omega)) hm
        have f2 : ((k : Int) == (v.size : Int)) = false := by simp; omega
        have hc44 : (!inS && v[k] == 44) = false := by
          cases inS
          · simp only [Bool.not_false, Bool.true_and]
            have : v[k] ≠ 44 := fun h => hm (.inr ⟨rfl, hlt, h⟩)
            simpa using this
          · rfl
        have hb : ∀ c : UInt8, ((v[k].toNat : Int) == (c.toNat : Int)) = (v[k] == c) := fun c => u8_eq v[k] c
        have hgl : v.data.toList[k]'(by rw [len_eq]; exact hlt) = v[k] := get_eq v k hlt
        have HC := Lib.hid hc44
        have HG := Lib.hid hgl
        clear hm hgl
        have f92 : ((v[k].toNat : Int) == 92) = (v[k] == 92) := hb 92
        have f34 : ((v[k].toNat : Int) == 34) = (v[k] == 34) := hb 34
        have f44 : ((v[k].toNat : Int) == 44) = (v[k] == 44) := hb 44
        clear hb
        by_cases h34 : v[k] = 34
        · have g34 : ((v[k].toNat : Int) == 34) = true := by rw [h34]; rfl
          have g92 : ((v[k].toNat : Int) == 92) = false := by rw [h34]; rfl
          have g44 : ((v[k].toNat : Int) == 44) = false := by rw [h34]; rfl
          have H34 := Lib.hid h34
          clear f92 f34 f44 hc44 h34
          cases inS
          · by_cases hk0 : k = 0
            · subst hk0
              cases esc
              all_goals go_wp2_with fail
              all_goals exact p_go (HP.out.quote (by rw [len_eq]; exact hlt) (HG.out.trans H34.out)) HB hu0 hu7 rfl rfl (by omega) h1
            · have g0 : ((k : Int) == 0) = false := by simp; omega
              have g1 : (1 : Int) ≤ (k : Int) := by omega
              have g2 : (0 : Int) ≤ (k : Int) - 1 := by omega
              have g3 : ((k : Int) - 1).toNat = k - 1 := by omega
              cases esc
              all_goals go_wp2_with fail
              all_goals exact p_go (HP.out.quote (by rw [len_eq]; exact hlt) (HG.out.trans H34.out)) HB hu0 hu7 (prev_ne (by omega) (by omega)) (by simp) (by omega) h1
          · cases esc
            all_goals go_wp2_with fail
            all_goals exact p_go (HP.out.quote (by rw [len_eq]; exact hlt) (HG.out.trans H34.out)) HB hu0 hu7 rfl (by simp) (by omega) h1
        · have g34 : ((v[k].toNat : Int) == 34) = false := by rw [f34]; simpa using h34
          have H34 := Lib.hid h34
          clear f34 h34
          by_cases h92 : esc = true ∧ v[k] = 92
          · obtain ⟨rfl, h92⟩ := h92
            have g92 : ((v[k].toNat : Int) == 92) = true := by rw [h92]; rfl
            have g44 : ((v[k].toNat : Int) == 44) = false := by rw [h92]; rfl
            have H92 := Lib.hid h92
            clear f92 f44 hc44 h92
            cases inS
            all_goals go_wp2_with fail
            all_goals exact p_go (HP.out.esc_ (by rw [len_eq]; exact hlt) (HG.out.trans H92.out)) HB hu0 hu7 rfl (by simp) (by omega) h1
          · have he : (esc && v[k] == 92) = false := by
              cases esc
              · rfl
              · simpa using h92
            have HE := Lib.hid he
            cases inS
            · have g44 : ((v[k].toNat : Int) == 44) = false := by rw [f44]; simpa using hc44
              cases esc
              · clear f44 f92 he h92 hc44
                go_wp2_with fail
                exact p_go (HP.out.plain (by rw [len_eq]; exact hlt) (by rw [HG.out]; exact HC.out) (by rw [HG.out]; exact HE.out) (by rw [HG.out]; exact H34.out)) HB hu0 hu7 rfl (by simp) (by omega) h1
              · have g92 : ((v[k].toNat : Int) == 92) = false := by rw [f92]; simpa using he
                clear f44 f92 he h92 hc44
                go_wp2_with fail
                exact p_go (HP.out.plain (by rw [len_eq]; exact hlt) (by rw [HG.out]; exact HC.out) (by rw [HG.out]; exact HE.out) (by rw [HG.out]; exact H34.out)) HB hu0 hu7 rfl (by simp) (by omega) h1
            · cases esc
              · clear f44 f92 he h92 hc44
                go_wp2_with fail
                exact p_go (HP.out.plain (by rw [len_eq]; exact hlt) (by rw [HG.out]; exact HC.out) (by rw [HG.out]; exact HE.out) (by rw [HG.out]; exact H34.out)) HB hu0 hu7 rfl (by simp) (by omega) h1
              · have g92 : ((v[k].toNat : Int) == 92) = false := by rw [f92]; simpa using he
                clear f44 f92 he h92 hc44
                go_wp2_with fail
                exact p_go (HP.out.plain (by rw [len_eq]; exact hlt) (by rw [HG.out]; exact HC.out) (by rw [HG.out]; exact HE.out) (by rw [HG.out]; exact H34.out)) HB hu0 hu7 rfl (by simp) (by omega) h1
end Go.Proofs.YtdgpfgbocacgeaaDoor
