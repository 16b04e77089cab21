/- The maker of responses. -/
import Derived.Test.YtgcfnhchmmkndaaGreatDoorY1
import Derived.Test.YtgcfnhchmmkndaaGreatDoorZ1
import Derived.Test.YtgcfnhchmmkndaaGreatDoorV1
namespace Go.Proofs.YtgcfnhchmmkndaaGreatDoor
open Go.RowKit Go.Maps
set_option linter.unusedVariables false
set_option maxRecDepth 100000

def stT : List BS := [[50, 48, 48], [52, 48, 52], [49, 48, 51], [53, 57, 57], [50, 48, 52], [50, 48, 48], [97, 98, 99], []]
abbrev rowSt : Array Value := #[Value.string { data := #[50, 48, 48] }, Value.string { data := #[52, 48, 52] }, Value.string { data := #[49, 48, 51] }, Value.string { data := #[53, 57, 57] }, Value.string { data := #[50, 48, 52] }, Value.string { data := #[50, 48, 48] }, Value.string { data := #[97, 98, 99] }, Value.string { data := #[] }]
theorem rowSt_new (W : World) (i : Nat) (hi : i < 8) : (W.alloc (.cells rowSt 9)).cell? ⟨W.heap.size, i, none⟩ = some (str (stT.getD i [])) := tab_new W stT i hi
theorem stT_all : stT.all (fun v => stR.contains v) = true := by decide
theorem stT_mem (i : Nat) (hi : i < 8) : stT.getD i [] ∈ stR := by
  have h : stT.getD i [] ∈ stT := by
    rw [List.getD_eq_getElem?_getD, List.getElem?_eq_getElem (show i < stT.length from hi)]
    exact List.getElem_mem _
  simpa using List.all_eq_true.1 stT_all _ h
def poT : List BS := [kPath, [58, 111, 116, 104, 101, 114]]
abbrev rowPo : Array Value := #[Value.string { data := #[58, 112, 97, 116, 104] }, Value.string { data := #[58, 111, 116, 104, 101, 114] }]
theorem rowPo_new (W : World) (i : Nat) (hi : i < 2) : (W.alloc (.cells rowPo 9)).cell? ⟨W.heap.size, i, none⟩ = some (str (poT.getD i [])) := tab_new W poT i hi
theorem poT_at (i : Nat) (hi : i < 2) : fldQ (poT.getD i [], [120]) ∧ poT.getD i [] ≠ kStatus := by
  match i, hi with
  | 0, _ => exact ⟨.inr ⟨by decide, by decide, by decide⟩, by decide⟩
  | 1, _ => exact ⟨.inr ⟨by decide, by decide, by decide⟩, by decide⟩
theorem st_fld {v : BS} (h : v ∈ stR) : fldQ (kStatus, v) := by
  refine .inr ⟨by show kStatus ∈ psR; decide, ?_, ?_⟩
  · show v.length ≤ 30; have h2 := stR_at h; rcases h2 with rfl | rfl | rfl | rfl | rfl | rfl | rfl <;> decide
  · show ascii v = true; have h2 := stR_at h; rcases h2 with rfl | rfl | rfl | rfl | rfl | rfl | rfl <;> decide
theorem MkS.nil : MkS [] := ⟨fun q hq => (by cases hq), fun v hv => (by cases hv)⟩
theorem MkS.one {v : BS} (h : v ∈ stR) : MkS [(kStatus, v)] := by
  refine ⟨fun q hq => ?_, fun u hu => ?_⟩
  · rw [List.mem_singleton] at hq; subst hq; exact st_fld h
  · rw [List.mem_singleton] at hu; injection hu with _ hu; subst hu; exact h
theorem MkS.two {v : BS} (h : v ∈ stR) : MkS [(kStatus, v), (kStatus, v)] := (MkS.one h).same fun q hq => by
  simp only [List.mem_cons, List.not_mem_nil, or_false, or_self] at hq ⊢
  exact hq
theorem reg_st {q : BS × BS} (h : regF q) : q.1 ≠ kStatus := fun e => by
  have h1 := (nmR_at h.1).2.1
  rw [e] at h1
  exact absurd h1 (by decide)
def ResLPost (w : World) (mb K : Nat) (e : Ending) (w' : World) : Prop := ∃ A c l, e = .returned (.slice A (List.length l) c) ∧ MkS l ∧ l.length ≤ 11 ∧ ML w w' mb K (.slice A l.length c) l.length l
set_option maxHeartbeats 16000000 in
theorem res19_at (mb K : Nat) (w : World) (h : Mk w mb K) : Calls Tryz.prog 19 #[.pointer (some ⟨mb, 0, none⟩)] w (ResLPost w mb K) := by
  have HG := Lib.hid (MG.start h)
  have hnm : ¬ w.heap.size = mb := by have := h.lt; omega
  clear h
  go_enter Tryz.func19, Tryz.ntmps19
  go_upto_region 1 with fail
  go_cut [3] (fun s3 wx => ∃ (g i : Nat), i < 8 ∧ s3 = .slice (some ⟨g, 0, none⟩) 1 1 ∧ ML w wx mb K (.slice (some ⟨g, 0, none⟩) 1 1) 1 [(kStatus, stT.getD i [])])
  case first =>
    have KB := byte_at2 mb K (w.alloc (.cells rowSt 9)) HG.out.mkr.al
    go_wp2_with fail
    refine KB.mono ?_
    rintro e w1 ⟨c0, hc0, rfl, hM1, hg1, hs1⟩
    have q : w1.cell? ⟨w.heap.size, c0 % 8, none⟩ = some (str (stT.getD (c0 % 8) [])) := cell_far2 (rowSt_new w (c0 % 8) (Nat.mod_lt _ (by decide))) hg1 hnm
    have ht : ((c0 : Int)).tmod 8 = ((c0 % 8 : Nat) : Int) := tmod_nat c0 8
    obtain ⟨j, hj⟩ : ∃ j, c0 % 8 = j := ⟨_, rfl⟩
    rw [hj] at q ht
    have hj7 : j < 8 := by omega
    have hj0 : (0 : Int) ≤ (j : Int) := by omega
    have hj1 : (j : Int) < 8 := by omega
    have HG1 := Lib.hid (HG.out.al.byte hM1 hg1)
    clear hj hM1 hg1 hs1 KB
    go_wp2_with fail
    go_meet
    exact ⟨_, j, hj7, rfl, HG1.out.al, row_lit _ HG1.out.g.size [(kStatus, stT.getD j [])] (by simp), rfl⟩
  case rest =>
    obtain ⟨g, i, hi, rfl, hML⟩ := hcut
    obtain ⟨st, hst⟩ : ∃ st, stT.getD i [] = st := ⟨_, rfl⟩
    have hm := stT_mem i hi
    rw [hst] at hML hm
    have HL := Lib.hid hML
    clear hML hst
    have x0 : wc.cell? ⟨g, 0, none⟩ = some (str kStatus) := HL.out.row.cellAt 0 (by omega)
    have x1 : wc.cell? ⟨g, 1, none⟩ = some (str st) := HL.out.row.cellAt 1 (by omega)
    have hgl := HL.out.m.g.size
    have hgm : g ≠ mb := by have := (HL.out.row.lt g rfl).1; have := HL.out.m.lt; omega
    go_upto_block 0 with (go_at_call 15; refine (byte_at2 mb K _ HL.out.m.mkr).mono ?_
                          rintro e w1 ⟨c0, hc0, rfl, hM1, hg1, hs1⟩
                          have HL1 := Lib.hid (HL.out.byte hM1 hg1)
                          have y0 := cell_far2 x0 hg1 hgm
                          have y1 := cell_far2 x1 hg1 hgm
                          obtain ⟨m, hm12⟩ : ∃ j, c0 % 12 = j := ⟨_, rfl⟩
                          have ht : ((c0 : Int)).tmod 12 = (m : Int) := by have h := tmod_nat c0 12; rw [hm12] at h; exact h
                          clear hM1 hg1 hs1 hm12 x0 x1)
    rename_i K0 hK0
    go_cut [3] (fun s3 wx => ∃ (A' : Option Addr) (c' : Nat) (l' : List (BS × BS)), s3 = .slice A' l'.length c' ∧ l'.length ≤ 2 ∧ MkS l' ∧ ML w wx mb K (.slice A' l'.length c') l'.length l')
    case first =>
      obtain ⟨i9, hi9, hz0, hz1, hz2⟩ := info_parts info42
      by_cases m0 : m = 0
      · subst m0
        go_wp2_with fail
        go_meet
        exact ⟨none, 0, [], rfl, by simp, MkS.nil, HL1.out.m, World.ownsRow_nil _ _ _ _, rfl⟩
      · have d0 : ((m : Int) == 0) = false := by simp; omega
        by_cases m1 : m = 1
        · subst m1
          have hrow2 := HL1.out.row.alloc (.cells #[str kStatus, str st] 42)
          have hsz1 := HL1.out.m.g.size
          go_wp2_with (at_builtin; refine wpList_append_own _ rfl (.tmp 20) (.tmp 24) 26 rfl w.heap.size 42 i9 (fldV [] []) 2 32 Tryz.underlying26 hi9 hz0 hz1 hz2 rfl (by decide) _ 1 (fc [(kStatus, st)]) rfl hrow2 ⟨w1.heap.size, 0, none⟩ 1 1 [str kStatus, str st] rfl rfl ?gg1 ?gg2 ?gg3 ?gg4 ?gg5 ?_)
          case gg1 => exact cells_new _ [str kStatus, str st] 42
          case gg2 => exact fc_one [(kStatus, st)]
          case gg3 => unfold maxLen; omega
          case gg4 => omega
          case gg5 => exact HL1.out.m.al.g.size
          intro v' w9 hown' hgrow _
          obtain ⟨A9, c9, rfl⟩ := row_form hown'
          have hL9 : ML w w9 mb K (.slice A9 2 c9) 2 [(kStatus, st), (kStatus, st)] := HL1.out.al.own hgrow hown' rfl
          have HL9 := Lib.hid hL9
          clear hown' hgrow hL9 hrow2 hi9 hz0 hz1 hz2
          go_wp2_with fail
          go_meet
          exact ⟨A9, c9, [(kStatus, st), (kStatus, st)], rfl, by simp, MkS.two hm, HL9.out⟩
        · have d1 : ((m : Int) == 1) = false := by simp; omega
          by_cases m2 : m = 2
          · subst m2
            have KB := byte_at2 mb K (w1.alloc (.cells rowPo 9)) HL1.out.al.m.mkr
            have hnm2 : ¬ w1.heap.size = mb := by have := HL1.out.m.g.size; have := HL1.out.m.lt; omega
            go_wp2_with fail
            refine KB.mono ?_
            rintro e w2 ⟨c2, hc2, rfl, hM2, hg2, hs2⟩
            have q : w2.cell? ⟨w1.heap.size, c2 % 2, none⟩ = some (str (poT.getD (c2 % 2) [])) := cell_far2 (rowPo_new w1 (c2 % 2) (Nat.mod_lt _ (by decide))) hg2 hnm2
            have ht2 : ((c2 : Int)).tmod 2 = ((c2 % 2 : Nat) : Int) := tmod_nat c2 2
            obtain ⟨j, hj⟩ : ∃ j, c2 % 2 = j := ⟨_, rfl⟩
            rw [hj] at q ht2
            have hj5 : j < 2 := by omega
            have hj50 : (0 : Int) ≤ (j : Int) := by omega
            have hj51 : (j : Int) < 2 := by omega
            have hmo := poT_at j hj5
            obtain ⟨nm, hnm3⟩ : ∃ x, poT.getD j [] = x := ⟨_, rfl⟩
            rw [hnm3] at q hmo
            have HL2 := Lib.hid (HL1.out.al.byte hM2 hg2)
            have hsz1 := HL2.out.m.g.size
            have hrow2 := HL2.out.row.alloc (.cells #[str nm, str [120]] 42)
            clear hj hnm3 hM2 hg2 hs2 KB
            go_wp2_with (at_builtin; refine wpList_append_own _ rfl (.tmp 28) (.tmp 36) 26 rfl w.heap.size 42 i9 (fldV [] []) 2 32 Tryz.underlying26 hi9 hz0 hz1 hz2 rfl (by decide) _ 1 (fc [(kStatus, st)]) rfl hrow2 ⟨w2.heap.size, 0, none⟩ 1 1 [str nm, str [120]] rfl rfl ?gg1 ?gg2 ?gg3 ?gg4 ?gg5 ?_)
            case gg1 => exact cells_new _ [str nm, str [120]] 42
            case gg2 => exact fc_one [(nm, [120])]
            case gg3 => unfold maxLen; omega
            case gg4 => omega
            case gg5 => exact HL2.out.m.al.g.size
            intro v' w9 hown' hgrow _
            obtain ⟨A9, c9, rfl⟩ := row_form hown'
            have hL9 : ML w w9 mb K (.slice A9 2 c9) 2 ([(kStatus, st)] ++ [(nm, [120])]) := HL2.out.al.own hgrow hown' rfl
            have HL9 := Lib.hid hL9
            clear hown' hgrow hL9 hrow2 hi9 hz0 hz1 hz2
            go_wp2_with fail
            go_meet
            exact ⟨A9, c9, [(kStatus, st)] ++ [(nm, [120])], rfl, by simp, (MkS.one hm).snoc hmo.1 hmo.2, HL9.out⟩
          · have d2 : ((m : Int) == 2) = false := by simp; omega
            go_wp2_with fail
            go_meet
            exact ⟨some ⟨g, 0, none⟩, 1, [(kStatus, st)], rfl, by simp, MkS.one hm, HL1.out⟩
    case rest =>
      obtain ⟨A2, c2, l2, rfl, hl2, hmk, hML⟩ := hcut
      have HL2 := Lib.hid hML
      have HK2 := Lib.hid hmk
      clear hML hmk
      refine hK0 _ _ ?_
      go_upto_block 1 with (go_at_call 15; refine (byte_at2 mb K _ HL2.out.m.mkr).mono ?_
                            rintro e w3 ⟨c3, hc3, rfl, hM3, hg3, hs3⟩
                            have HL3 := Lib.hid (HL2.out.byte hM3 hg3)
                            have ht3 : ((c3 : Int)).tmod 6 = ((c3 % 6 : Nat) : Int) := tmod_nat c3 6
                            obtain ⟨j0, hj0⟩ : ∃ j, c3 % 6 = j := ⟨_, rfl⟩
                            have hj4 : j0 < 6 := by omega
                            rw [hj0] at ht3
                            clear hj0 hM3 hg3 hs3)
      rename_i K3 hK3
      go_cut [3] (fun s3 wx => ∃ (A' : Option Addr) (c' : Nat) (l' : List (BS × BS)), s3 = .slice A' l'.length c' ∧ l'.length ≤ 7 ∧ MkS l' ∧ ML w wx mb K (.slice A' l'.length c') l'.length l')
      case first =>
        go_wp2_with fail
        go_loopw [3, 4] (fun s3 s4 wx => ∃ (A' : Option Addr) (c' : Nat) (l' : List (BS × BS)) (k : Nat), s3 = .slice A' l'.length c' ∧ s4 = .int .i64 (k : Int) ∧ l'.length + k ≤ 7 ∧ MkS l' ∧ ML w wx mb K (.slice A' l'.length c') l'.length l') (fun _ s4 _ => (intOf s4).toNat)
        case atStart => exact ⟨A2, c2, l2, j0, rfl, rfl, by omega, HK2.out, HL3.out⟩
        case round =>
          obtain ⟨A', c', l', k, rfl, rfl, hk, hmk, hML⟩ := hrel
          have HL := Lib.hid hML
          have HK' := Lib.hid hmk
          clear hML hmk
          rcases Nat.eq_zero_or_pos k with h0 | hkp
          · subst h0
            go_wp2_with fail
            go_meet
            exact ⟨A', c', l', rfl, by omega, HK'.out, HL.out⟩
          · have hk2 : (0 : Int) < (k : Int) := by omega
            have hk3 : (k : Int) ≤ 7 := by omega
            obtain ⟨i9, hi9, hz0, hz1, hz2⟩ := info_parts info42
            go_wp2_with fail
            refine (regular48_at mb K _ HL.out.m.mkr).mono ?_
            rintro e w4 ⟨nm, vl, rfl, hreg, hM4, hg4⟩
            have HL4 := Lib.hid (HL.out.byte hM4 hg4)
            have HREG := Lib.hid hreg
            have hrow2 := HL4.out.row.alloc (.cells #[str nm, str vl] 42)
            clear hM4 hg4 hreg
            go_wp2_with (at_builtin; refine wpList_append_own _ rfl (.tmp 45) (.tmp 48) 26 rfl w.heap.size 42 i9 (fldV [] []) 2 32 Tryz.underlying26 hi9 hz0 hz1 hz2 rfl (by decide) _ l'.length (fc l') rfl hrow2 ⟨w4.heap.size, 0, none⟩ 1 1 [str nm, str vl] rfl rfl ?gg1 ?gg2 ?gg3 ?gg4 ?gg5 ?_)
            case gg1 => exact cells_new _ [str nm, str vl] 42
            case gg2 => exact fc_one [(nm, vl)]
            case gg3 => unfold maxLen; omega
            case gg4 => omega
            case gg5 => exact HL4.out.m.al.g.size
            intro v' w9 hown' hgrow _
            obtain ⟨A9, c9, rfl⟩ := row_form hown'
            have hL9 : ML w w9 mb K (.slice A9 (l'.length + 1) c9) (l'.length + 1) (l' ++ [(nm, vl)]) := HL4.out.al.own hgrow (by rw [fc_append]; exact hown') (by simp)
            have HL9 := Lib.hid hL9
            clear hown' hgrow hL9 hrow2 hi9 hz0 hz1 hz2
            go_wp2_with fail
            refine ⟨⟨A9, c9, l' ++ [(nm, vl)], k - 1, by simp, by go_num, by rw [List.length_append, List.length_singleton]; omega, HK'.out.snoc (.inl HREG.out) (reg_st HREG.out), by rw [List.length_append, List.length_singleton]; exact HL9.out⟩, by simp [intOf]; omega⟩
      case rest =>
        obtain ⟨A5, c5, l5, rfl, hl5, hmk, hML⟩ := hcut
        have HL5 := Lib.hid hML
        have HK5 := Lib.hid hmk
        clear hML hmk HL3 HL2 HL1 HL HK2
        refine hK3 _ _ ?_
        go_upto_region 13 with fail
        rename_i K6 hK6
        go_cut [58] (fun s58 wx => ∃ b : Bool, s58 = .bool b ∧ (b = true → 1 < l5.length) ∧ ML w wx mb K (.slice A5 l5.length c5) l5.length l5)
        case first =>
          have h1 : (1 : Int) < (l5.length : Int) ∨ ¬ (1 : Int) < (l5.length : Int) := by omega
          go_wp2_with fail
          refine (byte_at2 mb K _ HL5.out.m.mkr).mono ?_
          rintro e w6 ⟨c6, hc6, rfl, hM6, hg6, hs6⟩
          have HL6 := Lib.hid (HL5.out.byte hM6 hg6)
          have ht6 : ((c6 : Int)).tmod 8 = ((c6 % 8 : Nat) : Int) := tmod_nat c6 8
          obtain ⟨j6, hj6⟩ : ∃ j, c6 % 8 = j := ⟨_, rfl⟩
          rw [hj6] at ht6
          clear hM6 hg6 hs6 hj6
          by_cases hj : j6 = 0
          · subst hj
            by_cases hl1 : 1 < l5.length
            · have hl1' : (1 : Int) < (l5.length : Int) := by omega
              go_wp2_with fail
              go_meet
              exact ⟨true, rfl, fun _ => hl1, HL6.out⟩
            · go_wp2_with fail
              go_meet
              exact ⟨_, rfl, fun h => (by have h2 := of_decide_eq_true h; omega), HL6.out⟩
          · have d0 : ((j6 : Int) == 0) = false := by simp; omega
            go_wp2_with fail
            go_meet
            exact ⟨false, rfl, fun h => (by cases h), HL6.out⟩
        case rest =>
          obtain ⟨b, rfl, hb, hML⟩ := hcut
          have HL6 := Lib.hid hML
          have HBB := Lib.hid hb
          clear hML hb HL5
          cases b
          · go_wp2_with fail
            go_ret
            exact ⟨A5, c5, l5, rfl, HK5.out, by omega, HL6.out⟩
          · have hl1 := HBB.out rfl
            have hi' : 0 < l5.length := by omega
            have hML := HL6.out
            obtain ⟨g5, rfl, _, _, _⟩ := row_block hML.row (by omega)
            have hcf := fc_at l5
            obtain ⟨⟨a1, b1⟩, e1⟩ : ∃ q, l5[0] = q := ⟨_, rfl⟩
            obtain ⟨⟨a2, b2⟩, e2⟩ : ∃ q, l5[1] = q := ⟨_, rfl⟩
            have x0 : wc.cell? ⟨g5, 0, none⟩ = some (str a1) := by rw [hML.row.cellAt _ (by omega), (hcf 0 hi').1, e1]
            have x1 : wc.cell? ⟨g5, 1, none⟩ = some (str b1) := by rw [hML.row.cellAt _ (by omega), (hcf 0 hi').2, e1]
            have x2 : wc.cell? ⟨g5, 2, none⟩ = some (str a2) := by rw [hML.row.cellAt _ (by omega), (hcf 1 hl1).1, e2]
            have x3 : wc.cell? ⟨g5, 3, none⟩ = some (str b2) := by rw [hML.row.cellAt _ (by omega), (hcf 1 hl1).2, e2]
            have zi0 := hML.row.frozenAt 0
            have zi1 := hML.row.frozenAt 1
            have zi2 := hML.row.frozenAt 2
            have zi3 := hML.row.frozenAt 3
            have hsw : swapL l5 0 1 = (l5.set 0 (a2, b2)).set 1 (a1, b1) := by unfold swapL; rw [List.getD_eq_getElem?_getD, List.getD_eq_getElem?_getD, List.getElem?_eq_getElem hi', List.getElem?_eq_getElem hl1, e1, e2]; rfl
            have hr1 := seq_set_pair wc hML.row hML.n 0 hi' a2 b2
            have hr2 := seq_set_pair _ hr1.1 (by simp) 1 (by rw [List.length_set]; exact hl1) a1 b1
            have hfin := hML.own (hr1.2.trans hr2.2) hr2.1 (by simp)
            rw [← hsw] at hfin
            have HF := Lib.hid hfin
            have hn1 : (1 : Int) < (l5.length : Int) := by omega
            have hn0 : (0 : Int) < (l5.length : Int) := by omega
            have HK6 := Lib.hid (HK5.out.same (l' := swapL l5 0 1) (fun q hq => (swap_mem hi' hl1 q).1 hq))
            clear hML hcf e1 e2 hsw hr1 hr2 hfin
            go_wp2_with fail
            go_region
            all_goals go_wp2_with fail
            all_goals go_ret
            all_goals refine ⟨some ⟨g5, 0, none⟩, c5, swapL l5 0 1, ?_, HK6.out, by rw [swap_len]; omega, by rw [swap_len]; exact HF.out.drew⟩
            all_goals rw [swap_len]
            all_goals rfl
end Go.Proofs.YtgcfnhchmmkndaaGreatDoor
