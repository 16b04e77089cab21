/- The maker of requests: two fields change places. -/
import Derived.Test.YtgcfnhchmmkndaaGreatDoorY1
import Derived.Test.YtgcfnhchmmkndaaGreatDoorV1
namespace Go.Proofs.YtgcfnhchmmkndaaGreatDoor
open Go.RowKit Go.Maps
set_option linter.unusedVariables false
set_option maxRecDepth 100000

set_option maxHeartbeats 8000000 in
theorem tail8 (w wx : World) (mb K : Nat) (A : Option Addr) (c n : Nat) (l : List (BS × BS)) (HL : Hid (ML w wx mb K (.slice A n c) n l)) (HK : Hid (MkL l)) (h1 : 1 ≤ n) (h2 : n ≤ 11)
    (u1 u2 u3 u4 u6 u7 u8 u9 u10 u11 u12 u13 u14 u15 u16 u17 u18 u19 u20 u21 u22 u23 u24 u25 u26 u27 u28 u29 u30 u31 u32 u33 u34 u35 u36 u37 u38 u39 u40 u41 u42 u43 u44 u45 u46 u47 u48 u49 u50 u51 u52 u53 u54 u55 u56 u57 u58 u59 u60 u61 u62 u63 u64 u65 u66 u67 u68 u69 u70 u71 u72 u73 u74 u75 u76 u77 u78 u79 u80 u81 u82 u83 u84 u85 u86 u87 u88 u89 u90 u91 u92 u93 u94 u95 u96 u97 u98 u99 u100 u101 u102 u103 u104 u105 u106 u107 u108 u109 u110 u111 u112 u113 u114 u115 u116 u117 u118 u119 u120 u121 u122 u123 u124 u125 u126 u127 u128 u129 u130 u131 u132 u133 u134 u135 u136 u137 u138 u139 u140 u141 u142 u143 u144 u145 u146 u147 u148 u149 u150 u151 u152 u153 u154 u155 : Value) :
    Code.wp Tryz.prog (tail7 8) (bodyPost Tryz.prog Tryz.f7 (ReqLPost w mb K)) ⟨#[.pointer (some ⟨mb, 0, none⟩), u1, u2, u3, u4, .slice A n c, u6, u7, u8, u9, u10, u11, u12, u13, u14, u15, u16, u17, u18, u19, u20, u21, u22, u23, u24, u25, u26, u27, u28, u29, u30, u31, u32, u33, u34, u35, u36, u37, u38, u39, u40, u41, u42, u43, u44, u45, u46, u47, u48, u49, u50, u51, u52, u53, u54, u55, u56, u57, u58, u59, u60, u61, u62, u63, u64, u65, u66, u67, u68, u69, u70, u71, u72, u73, u74, u75, u76, u77, u78, u79, u80, u81, u82, u83, u84, u85, u86, u87, u88, u89, u90, u91, u92, u93, u94, u95, u96, u97, u98, u99, u100, u101, u102, u103, u104, u105, u106, u107, u108, u109, u110, u111, u112, u113, u114, u115, u116, u117, u118, u119, u120, u121, u122, u123, u124, u125, u126, u127, u128, u129, u130, u131, u132, u133, u134, u135, u136, u137, u138, u139, u140, u141, u142, u143, u144, u145, u146, u147, u148, u149, u150, u151, u152, u153, u154, u155], []⟩ wx := by
  conv => arg 2; whnf
  conv => arg 4; zeta
  obtain ⟨g, rfl, hg0, hglt, hnc⟩ := row_block HL.out.row (by omega)
  have hg0' : mb < g := by have := HL.out.m.lt; omega
  go_wp2_with fail
  refine (byte_at2 mb K _ HL.out.m.mkr).mono ?_
  rintro e w1 ⟨c0, hc0, rfl, hM1, hg1, hs1⟩
  have HL1 := Lib.hid (HL.out.byte hM1 hg1)
  have ht : ((c0 : Int)).tmod 4 = ((c0 % 4 : Nat) : Int) := tmod_nat c0 4
  obtain ⟨j0, hj0⟩ : ∃ j, c0 % 4 = j := ⟨_, rfl⟩
  have hj4 : j0 < 4 := by omega
  rw [hj0] at ht
  clear hj0 hM1 hg1 hs1 HL
  go_wp2_with fail
  go_loopw [9] (fun s9 wx => ∃ (k : Nat) (l' : List (BS × BS)), s9 = .int .i64 (k : Int) ∧ k < 4 ∧ MkL l' ∧ ML w wx mb K (.slice (some ⟨g, 0, none⟩) n c) n l') (fun s9 _ => (intOf s9).toNat)
  case atStart => exact ⟨j0, l, rfl, hj4, HK.out, HL1.out⟩
  case round =>
    obtain ⟨k, l', rfl, hk, hmk, hML⟩ := hrel
    have HL := Lib.hid hML
    have HK' := Lib.hid hmk
    have HNL := Lib.hid hML.n
    clear hML hmk
    by_cases hk2 : 2 < k
    · have hk2' : (2 : Int) < (k : Int) := by omega
      have hnz : ((n : Int) == 0) = false := by simp; omega
      have hn0 : ¬ n = 0 := by omega
      go_upto_block 4 with fail
      go_cut [10, 11] (fun s10 s11 wx => ∃ l2, MkL l2 ∧ ML w wx mb K (.slice (some ⟨g, 0, none⟩) n c) n l2)
      case rest =>
        obtain ⟨l2, hmk2, hML⟩ := hcut
        have HL4 := Lib.hid hML
        clear hML
        go_wp2_with fail
        exact ⟨⟨k - 1, l2, by go_num, by omega, hmk2, HL4.out⟩, by simp [intOf]; omega⟩
      go_upto_region 26 with fail
      go_cut [10, 11] (fun s10 s11 wx => ∃ i j : Nat, i < n ∧ j < n ∧ s10 = .int .i64 (i : Int) ∧ s11 = .int .i64 (j : Int) ∧ ML w wx mb K (.slice (some ⟨g, 0, none⟩) n c) n l')
      case first =>
        go_region_law (go_simp; go_at_call 15; refine (byte_at2 mb K _ (by first | exact M2.m.mkr | exact M2.drew.m.mkr | exact HL.out.m.mkr | exact HL.out.drew.m.mkr)).mono ?_
                       rintro e w2 ⟨c2, hc2, rfl, hM2, hg2, hs2⟩
                       have M2' : ML w w2 mb K (.slice (some ⟨g, 0, none⟩) n c) n l' := by first | exact M2.byte hM2 hg2 | exact M2.drew.byte hM2 hg2 | exact HL.out.byte hM2 hg2 | exact HL.out.drew.byte hM2 hg2
                       (try clear M2)
                       have M2 := M2'
                       obtain ⟨i2, hi2⟩ : ∃ i, c2 % n = i := ⟨_, rfl⟩
                       have ht2 : ((c2 : Int)).tmod (n : Int) = (i2 : Int) := by rw [tmod_nat, hi2]
                       have hl2 : i2 < n := hi2 ▸ Nat.mod_lt _ (by omega)
                       clear hi2 hM2 hg2 hs2 M2')
        all_goals go_wp2_with fail
        all_goals go_meet
        all_goals (refine ⟨_, _, ?_, ?_, rfl, rfl, M2⟩ <;> assumption)
      case rest =>
        obtain ⟨i, j, hi, hj, rfl, rfl, hML⟩ := hcut
        have HL3 := Lib.hid hML
        have hi' : i < l'.length := HNL.out ▸ hi
        have hj' : j < l'.length := HNL.out ▸ hj
        have hc := fc_at l'
        have HK2 := Lib.hid (HK'.out.same (swap_mem hi' hj'))
        obtain ⟨⟨a1, b1⟩, e1⟩ : ∃ q, l'[i] = q := ⟨_, rfl⟩
        have x0 : wc.cell? ⟨g, i * 2, none⟩ = some (str a1) := by rw [hML.row.cellAt _ (by omega), (hc i hi').1, e1]
        have x1 : wc.cell? ⟨g, i * 2 + 1, none⟩ = some (str b1) := by rw [hML.row.cellAt _ (by omega), (hc i hi').2, e1]
        have zi0 := hML.row.frozenAt (i * 2)
        have zi1 := hML.row.frozenAt (i * 2 + 1)
        by_cases hij : i = j
        · subst hij
          have hsw : swapL l' i i = (l'.set i (a1, b1)).set i (a1, b1) := by unfold swapL; rw [List.getD_eq_getElem?_getD, List.getElem?_eq_getElem hi', e1]; rfl
          have hr1 := seq_set_pair wc hML.row hML.n i hi' a1 b1
          have hr2 := seq_set_pair _ hr1.1 (by rw [List.length_set]; exact hML.n) i (by rw [List.length_set]; exact hi') a1 b1
          have hfin := hML.own (hr1.2.trans hr2.2) hr2.1 (by rw [List.length_set, List.length_set]; exact hML.n)
          rw [← hsw] at hfin
          have HF := Lib.hid hfin
          clear hML hc e1 hsw hr1 hr2 hfin
          go_wp2_with fail
          go_region
          all_goals go_wp2_with fail
          all_goals go_meet
          all_goals exact ⟨swapL l' i i, HK2.out, HF.out.drew⟩
        · obtain ⟨⟨a2, b2⟩, e2⟩ : ∃ q, l'[j] = q := ⟨_, rfl⟩
          have hji : ¬ j = i := fun e => hij e.symm
          have y0 : wc.cell? ⟨g, j * 2, none⟩ = some (str a2) := by rw [hML.row.cellAt _ (by omega), (hc j hj').1, e2]
          have y1 : wc.cell? ⟨g, j * 2 + 1, none⟩ = some (str b2) := by rw [hML.row.cellAt _ (by omega), (hc j hj').2, e2]
          have zj0 := hML.row.frozenAt (j * 2)
          have zj1 := hML.row.frozenAt (j * 2 + 1)
          have hsw : swapL l' i j = (l'.set i (a2, b2)).set j (a1, b1) := by unfold swapL; rw [List.getD_eq_getElem?_getD, List.getD_eq_getElem?_getD, List.getElem?_eq_getElem hi', List.getElem?_eq_getElem hj', e1, e2]; rfl
          have hr1 := seq_set_pair wc hML.row hML.n i hi' a2 b2
          have hr2 := seq_set_pair _ hr1.1 (by rw [List.length_set]; exact hML.n) j (by rw [List.length_set]; exact hj') a1 b1
          have hfin := hML.own (hr1.2.trans hr2.2) hr2.1 (by rw [List.length_set, List.length_set]; exact hML.n)
          rw [← hsw] at hfin
          have HF := Lib.hid hfin
          clear hML hc e1 e2 hsw hr1 hr2 hfin
          go_wp2_with fail
          go_region
          all_goals go_wp2_with fail
          all_goals go_meet
          all_goals exact ⟨swapL l' i j, HK2.out, HF.out.drew⟩
    · have hk2' : ¬ (2 : Int) < (k : Int) := by omega
      go_wp2_with fail
      go_ret
      exact ⟨some ⟨g, 0, none⟩, c, l', by rw [← HNL.out]; rfl, HK'.out, by rw [← HNL.out]; exact h2, by rw [← HNL.out]; exact HL.out⟩

set_option maxHeartbeats 8000000 in
theorem tail7_7 (w wx : World) (mb K : Nat) (A : Option Addr) (c n : Nat) (l : List (BS × BS)) (HL : Hid (ML w wx mb K (.slice A n c) n l)) (HK : Hid (MkL l)) (h1 : 1 ≤ n) (h2 : n ≤ 6)
    (u1 u2 u3 u4 u6 u7 u8 u9 u10 u11 u12 u13 u14 u15 u16 u17 u18 u19 u20 u21 u22 u23 u24 u25 u26 u27 u28 u29 u30 u31 u32 u33 u34 u35 u36 u37 u38 u39 u40 u41 u42 u43 u44 u45 u46 u47 u48 u49 u50 u51 u52 u53 u54 u55 u56 u57 u58 u59 u60 u61 u62 u63 u64 u65 u66 u67 u68 u69 u70 u71 u72 u73 u74 u75 u76 u77 u78 u79 u80 u81 u82 u83 u84 u85 u86 u87 u88 u89 u90 u91 u92 u93 u94 u95 u96 u97 u98 u99 u100 u101 u102 u103 u104 u105 u106 u107 u108 u109 u110 u111 u112 u113 u114 u115 u116 u117 u118 u119 u120 u121 u122 u123 u124 u125 u126 u127 u128 u129 u130 u131 u132 u133 u134 u135 u136 u137 u138 u139 u140 u141 u142 u143 u144 u145 u146 u147 u148 u149 u150 u151 u152 u153 u154 u155 : Value) :
    Code.wp Tryz.prog (tail7 7) (bodyPost Tryz.prog Tryz.f7 (ReqLPost w mb K)) ⟨#[.pointer (some ⟨mb, 0, none⟩), u1, u2, u3, u4, .slice A n c, u6, u7, u8, u9, u10, u11, u12, u13, u14, u15, u16, u17, u18, u19, u20, u21, u22, u23, u24, u25, u26, u27, u28, u29, u30, u31, u32, u33, u34, u35, u36, u37, u38, u39, u40, u41, u42, u43, u44, u45, u46, u47, u48, u49, u50, u51, u52, u53, u54, u55, u56, u57, u58, u59, u60, u61, u62, u63, u64, u65, u66, u67, u68, u69, u70, u71, u72, u73, u74, u75, u76, u77, u78, u79, u80, u81, u82, u83, u84, u85, u86, u87, u88, u89, u90, u91, u92, u93, u94, u95, u96, u97, u98, u99, u100, u101, u102, u103, u104, u105, u106, u107, u108, u109, u110, u111, u112, u113, u114, u115, u116, u117, u118, u119, u120, u121, u122, u123, u124, u125, u126, u127, u128, u129, u130, u131, u132, u133, u134, u135, u136, u137, u138, u139, u140, u141, u142, u143, u144, u145, u146, u147, u148, u149, u150, u151, u152, u153, u154, u155], []⟩ wx := by
  conv => arg 2; whnf
  conv => arg 4; zeta
  have hne := HL.out.n
  subst hne
  go_upto_block 1 with (go_at_call 15; refine (byte_at2 mb K _ HL.out.m.mkr).mono ?_
                        rintro e w1 ⟨c0, hc0, rfl, hM1, hg1, hs1⟩
                        have HL1 := Lib.hid (HL.out.byte hM1 hg1)
                        have ht : ((c0 : Int)).tmod 6 = ((c0 % 6 : Nat) : Int) := tmod_nat c0 6
                        obtain ⟨j0, hj0⟩ : ∃ j, c0 % 6 = j := ⟨_, rfl⟩
                        have hj4 : j0 < 6 := by omega
                        rw [hj0] at ht
                        clear hj0 hM1 hg1 hs1 HL)
  rename_i K0 hK0
  go_cut [5] (fun s5 wx => ∃ (A' : Option Addr) (c' : Nat) (l' : List (BS × BS)), s5 = .slice A' l'.length c' ∧ 1 ≤ l'.length ∧ l'.length ≤ 11 ∧ MkL l' ∧ ML w wx mb K (.slice A' l'.length c') l'.length l')
  case first =>
    go_wp2_with fail
    go_loopw [5, 8] (fun s5 s8 wx => ∃ (A' : Option Addr) (c' : Nat) (l' : List (BS × BS)) (k : Nat), s5 = .slice A' l'.length c' ∧ s8 = .int .i64 (k : Int) ∧ l'.length + k ≤ 11 ∧ 1 ≤ l'.length ∧ MkL l' ∧ ML w wx mb K (.slice A' l'.length c') l'.length l') (fun _ s8 _ => (intOf s8).toNat)
    case atStart => exact ⟨A, c, l, j0, rfl, rfl, by omega, h1, HK.out, HL1.out⟩
    case round =>
      obtain ⟨A', c', l', k, rfl, rfl, hk, hl1, hmk, hML⟩ := hrel
      have HL := Lib.hid hML
      have HK' := Lib.hid hmk
      clear hML hmk
      rcases Nat.eq_zero_or_pos k with h0 | hkp
      · subst h0
        go_wp2_with fail
        go_meet
        exact ⟨A', c', l', rfl, hl1, by omega, HK'.out, HL.out⟩
      · have hk2 : (0 : Int) < (k : Int) := by omega
        have hk3 : (k : Int) ≤ 11 := by omega
        obtain ⟨i9, hi9, hz0, hz1, hz2⟩ := info_parts info42
        go_wp2_with fail
        refine (regular48_at mb K _ HL.out.m.mkr).mono ?_
        rintro e w2 ⟨nm, vl, rfl, hreg, hM2, hg2⟩
        have HL2 := Lib.hid (HL.out.byte hM2 hg2)
        have HREG := Lib.hid hreg
        have hrow2 := HL2.out.row.alloc (.cells #[str nm, str vl] 42)
        clear hM2 hg2 hreg
        go_wp2_with (at_builtin; refine wpList_append_own _ rfl (.tmp 119) (.tmp 122) 26 rfl w.heap.size 42 i9 (fldV [] []) 2 32 Tryz.underlying26 hi9 hz0 hz1 hz2 rfl (by decide) _ l'.length (fc l') rfl hrow2 ⟨w2.heap.size, 0, none⟩ 1 1 [str nm, str vl] rfl rfl ?gg1 ?gg2 ?gg3 ?gg4 ?gg5 ?_)
        case gg1 => exact cells_new _ [str nm, str vl] 42
        case gg2 => exact fc_one [(nm, vl)]
        case gg3 => unfold maxLen; omega
        case gg4 => omega
        case gg5 => exact HL2.out.m.al.g.size
        intro v' w9 hown' hgrow _
        obtain ⟨A9, c9, rfl⟩ := row_form hown'
        have hL9 : ML w w9 mb K (.slice A9 (l'.length + 1) c9) (l'.length + 1) (l' ++ [(nm, vl)]) := HL2.out.al.own hgrow (by rw [fc_append]; exact hown') (by simp)
        have HL9 := Lib.hid hL9
        clear hown' hgrow hL9 hrow2 hi9 hz0 hz1 hz2
        go_wp2_with fail
        refine ⟨⟨A9, c9, l' ++ [(nm, vl)], k - 1, by simp, by go_num, by rw [List.length_append, List.length_singleton]; omega, by rw [List.length_append]; omega, HK'.out.snoc HREG.out, by rw [List.length_append, List.length_singleton]; exact HL9.out⟩, by simp [intOf]; omega⟩
  case rest =>
    obtain ⟨A', c', l', rfl, hl1, hl2, hmk, hML⟩ := hcut
    refine hK0 _ _ ?_
    exact tail8 w _ mb K A' c' l'.length l' (Lib.hid hML) (Lib.hid hmk) hl1 hl2 _ _ _ _ _ _ _ _ _ _ _ _ _ _ _ _ _ _ _ _ _ _ _ _ _ _ _ _ _ _ _ _ _ _ _ _ _ _ _ _ _ _ _ _ _ _ _ _ _ _ _ _ _ _ _ _ _ _ _ _ _ _ _ _ _ _ _ _ _ _ _ _ _ _ _ _ _ _ _ _ _ _ _ _ _ _ _ _ _ _ _ _ _ _ _ _ _ _ _ _ _ _ _ _ _ _ _ _ _ _ _ _ _ _ _ _ _ _ _ _ _ _ _ _ _ _ _ _ _ _ _ _ _ _ _ _ _ _ _ _ _ _ _ _ _ _ _ _ _ _ _ _ _ _
end Go.Proofs.YtgcfnhchmmkndaaGreatDoor
