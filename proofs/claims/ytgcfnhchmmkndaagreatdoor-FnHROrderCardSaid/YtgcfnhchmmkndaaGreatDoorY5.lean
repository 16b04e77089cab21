/- The maker of requests: its switch. -/
import Derived.Test.YtgcfnhchmmkndaaGreatDoorY3
namespace Go.Proofs.YtgcfnhchmmkndaaGreatDoor
open Go.RowKit Go.Maps
set_option linter.unusedVariables false
set_option maxRecDepth 100000

theorem fc_set1 (l : List (BS × BS)) (x : BS) (i : Nat) (hi : i < l.length) : (fc l).set (i * 2 + 1) (str x) = fc (l.set i ((l.getD i ([], [])).1, x)) := by
  rw [← fc_set l _ _ i hi]
  congr 1
  rw [List.getD_eq_getElem?_getD, List.getElem?_eq_getElem hi, Option.getD_some]
  have h := (fc_at l i hi).1
  have hl : i * 2 < (fc l).length := (List.getElem?_eq_some_iff.1 h).1
  have h2 : (fc l)[i * 2] = str (l[i]).1 := (List.getElem?_eq_some_iff.1 h).2
  rw [← h2, List.set_getElem_self]
abbrev rowO : Array Value := #[Value.string { data := #[58, 115, 116, 97, 116, 117, 115] }, Value.string { data := #[58, 111, 116, 104, 101, 114] }, Value.string { data := #[58, 112, 114, 111, 116, 111, 99, 111, 108] }, Value.string { data := #[58, 77, 101, 116, 104, 111, 100] }, Value.string { data := #[58] }]
theorem rowO_new (W : World) (i : Nat) (hi : i < 5) : (W.alloc (.cells rowO 9)).cell? ⟨W.heap.size, i, none⟩ = some (str (otR.getD i [])) := tab_new W otR i hi
theorem otR_mem (i : Nat) (hi : i < 5) : otR.getD i [] ∈ otR := by
  rw [List.getD_eq_getElem?_getD, List.getElem?_eq_getElem (show i < otR.length from hi)]
  exact List.getElem_mem _
set_option maxHeartbeats 8000000 in
theorem tail6 (w wx : World) (mb K : Nat) (A : Option Addr) (c n k : Nat) (l : List (BS × BS)) (HL : Hid (ML w wx mb K (.slice A n c) n l)) (HS : Hid (StartL l)) (hk : k < 256)
    (u1 u2 u3 u4 u7 u8 u9 u10 u11 u12 u13 u14 u15 u16 u17 u18 u19 u20 u21 u22 u23 u24 u25 u26 u27 u28 u29 u30 u31 u32 u33 u34 u35 u36 u37 u38 u39 u40 u41 u42 u43 u44 u45 u46 u47 u48 u49 u50 u51 u52 u53 u54 u55 u56 u57 u58 u59 u60 u61 u62 u63 u64 u65 u66 u67 u68 u69 u70 u71 u72 u73 u74 u75 u76 u77 u78 u79 u80 u81 u82 u83 u84 u85 u86 u87 u88 u89 u90 u91 u92 u93 u94 u95 u96 u97 u98 u99 u100 u101 u102 u103 u104 u105 u106 u107 u108 u109 u110 u111 u112 u113 u114 u115 u116 u117 u118 u119 u120 u121 u122 u123 u124 u125 u126 u127 u128 u129 u130 u131 u132 u133 u134 u135 u136 u137 u138 u139 u140 u141 u142 u143 u144 u145 u146 u147 u148 u149 u150 u151 u152 u153 u154 u155 : Value) :
    Code.wp Tryz.prog (tail7 6) (bodyPost Tryz.prog Tryz.f7 (ReqLPost w mb K)) ⟨#[.pointer (some ⟨mb, 0, none⟩), u1, u2, u3, u4, .slice A n c, .int .i64 (k : Int), u7, u8, u9, u10, u11, u12, u13, u14, u15, u16, u17, u18, u19, u20, u21, u22, u23, u24, u25, u26, u27, u28, u29, u30, u31, u32, u33, u34, u35, u36, u37, u38, u39, u40, u41, u42, u43, u44, u45, u46, u47, u48, u49, u50, u51, u52, u53, u54, u55, u56, u57, u58, u59, u60, u61, u62, u63, u64, u65, u66, u67, u68, u69, u70, u71, u72, u73, u74, u75, u76, u77, u78, u79, u80, u81, u82, u83, u84, u85, u86, u87, u88, u89, u90, u91, u92, u93, u94, u95, u96, u97, u98, u99, u100, u101, u102, u103, u104, u105, u106, u107, u108, u109, u110, u111, u112, u113, u114, u115, u116, u117, u118, u119, u120, u121, u122, u123, u124, u125, u126, u127, u128, u129, u130, u131, u132, u133, u134, u135, u136, u137, u138, u139, u140, u141, u142, u143, u144, u145, u146, u147, u148, u149, u150, u151, u152, u153, u154, u155], []⟩ wx := by
  conv => arg 2; whnf
  conv => arg 4; zeta
  have hne := HL.out.n
  subst hne
  have h2 := HS.out.len
  obtain ⟨g, rfl, hg0, hglt, hnc⟩ := row_block HL.out.row (by omega)
  have hcm : c ≤ 9223372036854775807 := by
    rcases HL.out.row.2 with ⟨_, h0⟩ | ⟨g', cap', cur, h', hb, hg, hnc, hcm, hcs, htake⟩
    · omega
    · simp only [Value.slice.injEq] at h'
      obtain ⟨_, _, rfl⟩ := h'
      unfold maxLen at hcm
      omega
  go_upto_block 0 with (go_at_call 15; refine (byte_at2 mb K _ HL.out.m.mkr).mono ?_
                        rintro e w1 ⟨c0, hc0, rfl, hM1, hg1, hs1⟩
                        have HL1 := Lib.hid (HL.out.byte hM1 hg1)
                        obtain ⟨i, hi⟩ : ∃ j, c0 % l.length = j := ⟨_, rfl⟩
                        have ht : ((c0 : Int)).tmod (l.length : Int) = (i : Int) := by rw [tmod_nat, hi]
                        have hil : i < l.length := hi ▸ Nat.mod_lt _ (by omega)
                        have hnz : ((l.length : Int) == 0) = false := by rw [beq_eq_false_iff_ne]; omega
                        have hnil : ¬ l = [] := fun e => by rw [e] at hil; cases hil
                        have htk : ((k : Int)).tmod 16 = ((k % 16 : Nat) : Int) := tmod_nat k 16
                        obtain ⟨m, hm⟩ : ∃ j, k % 16 = j := ⟨_, rfl⟩
                        rw [hm] at htk
                        clear hi hM1 hg1 hs1 HL hm)
  rename_i K0 hK0
  go_cut [5] (fun s5 wx => ∃ (A' : Option Addr) (c' : Nat) (l' : List (BS × BS)), s5 = .slice A' l'.length c' ∧ 1 ≤ l'.length ∧ l'.length ≤ 6 ∧ PsL l' ∧ ML w wx mb K (.slice A' l'.length c') l'.length l')
  case first =>
    obtain ⟨⟨a1, b1⟩, e1⟩ : ∃ q, l[i] = q := ⟨_, rfl⟩
    have x0 : w1.cell? ⟨g, i * 2, none⟩ = some (str a1) := by rw [HL1.out.row.cellAt _ (by omega), (fc_at l i hil).1, e1]
    have x1 : w1.cell? ⟨g, i * 2 + 1, none⟩ = some (str b1) := by rw [HL1.out.row.cellAt _ (by omega), (fc_at l i hil).2, e1]
    have z1 := HL1.out.row.frozenAt (i * 2 + 1)
    have hmem : (a1, b1) ∈ l := e1 ▸ List.getElem_mem hil
    obtain ⟨i9, hi9, hz0, hz1, hz2⟩ := info_parts info42
    have hwr : IntKind.i64.wrap ((i : Int) + 1) = (i : Int) + 1 := by rw [IntKind.wrap_i64]; omega
    by_cases m0 : m = 0
    · subst m0
      have KD := delete_at l w.heap.size g c i w1 hil HL1.out.row hcm
      go_wp2_with fail
      refine KD.mono ?_
      rintro e w2 ⟨rfl, hrow2, hg2⟩
      have hL2 := Lib.hid (HL1.out.own hg2 hrow2 rfl)
      clear KD hrow2 hg2
      go_wp2_with fail
      go_meet
      have hel : (l.eraseIdx i).length = l.length - 1 := by rw [List.length_eraseIdx]; simp [hil]
      exact ⟨_, _, _, rfl, by omega, by omega, HS.out.sub (fun q hq => List.mem_of_mem_eraseIdx hq), hL2.out⟩
    · have d0 : ((m : Int) == 0) = false := by simp; omega
      by_cases m1 : m = 1
      · subst m1
        have hst := HL1.out.row.stored (i * 2 + 1) (str [])
        rw [fc_set1 l [] i hil] at hst
        have hL2 := Lib.hid (HL1.out.own hst.2 hst.1 (by rw [List.length_set]))
        clear hst
        go_wp2_with fail
        go_meet
        refine ⟨some ⟨g, 0, none⟩, c, strike l i, by unfold strike; rw [List.length_set], by unfold strike; rw [List.length_set]; omega, by unfold strike; rw [List.length_set]; omega, HS.out.struck hil, ?_⟩
        have h := hL2.out
        unfold strike
        rw [List.length_set]
        exact h
      · have d1 : ((m : Int) == 1) = false := by simp; omega
        by_cases m2 : m = 2
        · subst m2
          have hrow2 := HL1.out.row.alloc (.cells #[str a1, str b1] 42)
          have hsz1 := HL1.out.m.g.size
          go_wp2_with (at_builtin; refine wpList_append_own _ rfl (.tmp 93) (.tmp 98) 26 rfl w.heap.size 42 i9 (fldV [] []) 2 32 Tryz.underlying26 hi9 hz0 hz1 hz2 rfl (by decide) _ l.length (fc l) rfl hrow2 ⟨w1.heap.size, 0, none⟩ 1 1 [str a1, str b1] rfl rfl ?gg1 ?gg2 ?gg3 ?gg4 ?gg5 ?_)
          case gg1 => exact cells_new _ [str a1, str b1] 42
          case gg2 => exact fc_one [(a1, b1)]
          case gg3 => unfold maxLen; omega
          case gg4 => omega
          case gg5 => exact HL1.out.m.al.g.size
          intro v' w9 hown' hgrow _
          obtain ⟨A9, c9, rfl⟩ := row_form hown'
          have hL9 : ML w w9 mb K (.slice A9 (l.length + 1) c9) (l.length + 1) (l ++ [(a1, b1)]) := HL1.out.al.own hgrow (by rw [fc_append]; exact hown') (by simp)
          have HL9 := Lib.hid hL9
          clear hown' hgrow hL9 hrow2 hi9 hz0 hz1 hz2
          go_wp2_with fail
          go_meet
          refine ⟨A9, c9, l ++ [(a1, b1)], by simp, by simp, by simp; omega, HS.out.sub (fun q hq => ?_), by rw [List.length_append, List.length_singleton]; exact HL9.out⟩
          rcases List.mem_append.1 hq with hq | hq
          · exact hq
          · rw [List.mem_singleton] at hq; rw [hq]; exact hmem
        · have d2 : ((m : Int) == 2) = false := by simp; omega
          by_cases m3 : m = 3
          · subst m3
            have KB := byte_at2 mb K (w1.alloc (.cells rowO 9)) HL1.out.al.m.mkr
            have hnm : ¬ w1.heap.size = mb := by have := HL1.out.m.g.size; have := HL1.out.m.lt; omega
            go_wp2_with fail
            refine KB.mono ?_
            rintro e w2 ⟨c2, hc2, rfl, hM2, hg2, hs2⟩
            have q : w2.cell? ⟨w1.heap.size, c2 % 5, none⟩ = some (str (otR.getD (c2 % 5) [])) := cell_far2 (rowO_new w1 (c2 % 5) (Nat.mod_lt _ (by decide))) hg2 hnm
            have ht2 : ((c2 : Int)).tmod 5 = ((c2 % 5 : Nat) : Int) := tmod_nat c2 5
            obtain ⟨j, hj⟩ : ∃ j, c2 % 5 = j := ⟨_, rfl⟩
            rw [hj] at q ht2
            have hj5 : j < 5 := by omega
            have hj50 : (0 : Int) ≤ (j : Int) := by omega
            have hj51 : (j : Int) < 5 := by omega
            have hmo := otR_mem j hj5
            obtain ⟨nm, hnm2⟩ : ∃ x, otR.getD j [] = x := ⟨_, rfl⟩
            rw [hnm2] at q hmo
            have HL2 := Lib.hid (HL1.out.al.byte hM2 hg2)
            have hsz1 := HL2.out.m.g.size
            have hrow2 := HL2.out.row.alloc (.cells #[str nm, str [120]] 42)
            clear hj hnm2 hM2 hg2 hs2 KB
            go_wp2_with (at_builtin; refine wpList_append_own _ rfl (.tmp 102) (.tmp 110) 26 rfl w.heap.size 42 i9 (fldV [] []) 2 32 Tryz.underlying26 hi9 hz0 hz1 hz2 rfl (by decide) _ l.length (fc l) rfl hrow2 ⟨w2.heap.size, 0, none⟩ 1 1 [str nm, str [120]] rfl rfl ?gg1 ?gg2 ?gg3 ?gg4 ?gg5 ?_)
            case gg1 => exact cells_new _ [str nm, str [120]] 42
            case gg2 => exact fc_one [(nm, [120])]
            case gg3 => unfold maxLen; omega
            case gg4 => omega
            case gg5 => exact HL2.out.m.al.g.size
            intro v' w9 hown' hgrow _
            obtain ⟨A9, c9, rfl⟩ := row_form hown'
            have hL9 : ML w w9 mb K (.slice A9 (l.length + 1) c9) (l.length + 1) (l ++ [(nm, [120])]) := HL2.out.al.own hgrow (by rw [fc_append]; exact hown') (by simp)
            have HL9 := Lib.hid hL9
            clear hown' hgrow hL9 hrow2 hi9 hz0 hz1 hz2
            go_wp2_with fail
            go_meet
            exact ⟨A9, c9, l ++ [(nm, [120])], by simp, by simp, by simp; omega, HS.out.other hmo, by rw [List.length_append, List.length_singleton]; exact HL9.out⟩
          · have d3 : ((m : Int) == 3) = false := by simp; omega
            go_wp2_with fail
            go_meet
            exact ⟨some ⟨g, 0, none⟩, c, l, rfl, by omega, by omega, HS.out.ps, HL1.out⟩
  case rest =>
    obtain ⟨A', c', l', rfl, hl1, hl2, hps, hML⟩ := hcut
    refine hK0 _ _ ?_
    exact tail7_7 w _ mb K A' c' l'.length l' (Lib.hid hML) (Lib.hid hps.mkl) hl1 hl2 _ _ _ _ _ _ _ _ _ _ _ _ _ _ _ _ _ _ _ _ _ _ _ _ _ _ _ _ _ _ _ _ _ _ _ _ _ _ _ _ _ _ _ _ _ _ _ _ _ _ _ _ _ _ _ _ _ _ _ _ _ _ _ _ _ _ _ _ _ _ _ _ _ _ _ _ _ _ _ _ _ _ _ _ _ _ _ _ _ _ _ _ _ _ _ _ _ _ _ _ _ _ _ _ _ _ _ _ _ _ _ _ _ _ _ _ _ _ _ _ _ _ _ _ _ _ _ _ _ _ _ _ _ _ _ _ _ _ _ _ _ _ _ _ _ _ _ _ _ _ _ _ _ _

set_option maxHeartbeats 8000000 in
theorem tail5 (w wx : World) (mb K : Nat) (A : Option Addr) (c n : Nat) (l : List (BS × BS)) (HL : Hid (ML w wx mb K (.slice A n c) n l)) (HS : Hid (StartL l))
    (u1 u2 u3 u4 u6 u7 u8 u9 u10 u11 u12 u13 u14 u15 u16 u17 u18 u19 u20 u21 u22 u23 u24 u25 u26 u27 u28 u29 u30 u31 u32 u33 u34 u35 u36 u37 u38 u39 u40 u41 u42 u43 u44 u45 u46 u47 u48 u49 u50 u51 u52 u53 u54 u55 u56 u57 u58 u59 u60 u61 u62 u63 u64 u65 u66 u67 u68 u69 u70 u71 u72 u73 u74 u75 u76 u77 u78 u79 u80 u81 u82 u83 u84 u85 u86 u87 u88 u89 u90 u91 u92 u93 u94 u95 u96 u97 u98 u99 u100 u101 u102 u103 u104 u105 u106 u107 u108 u109 u110 u111 u112 u113 u114 u115 u116 u117 u118 u119 u120 u121 u122 u123 u124 u125 u126 u127 u128 u129 u130 u131 u132 u133 u134 u135 u136 u137 u138 u139 u140 u141 u142 u143 u144 u145 u146 u147 u148 u149 u150 u151 u152 u153 u154 u155 : Value) :
    Code.wp Tryz.prog (tail7 5) (bodyPost Tryz.prog Tryz.f7 (ReqLPost w mb K)) ⟨#[.pointer (some ⟨mb, 0, none⟩), u1, u2, u3, u4, .slice A n c, u6, u7, u8, u9, u10, u11, u12, u13, u14, u15, u16, u17, u18, u19, u20, u21, u22, u23, u24, u25, u26, u27, u28, u29, u30, u31, u32, u33, u34, u35, u36, u37, u38, u39, u40, u41, u42, u43, u44, u45, u46, u47, u48, u49, u50, u51, u52, u53, u54, u55, u56, u57, u58, u59, u60, u61, u62, u63, u64, u65, u66, u67, u68, u69, u70, u71, u72, u73, u74, u75, u76, u77, u78, u79, u80, u81, u82, u83, u84, u85, u86, u87, u88, u89, u90, u91, u92, u93, u94, u95, u96, u97, u98, u99, u100, u101, u102, u103, u104, u105, u106, u107, u108, u109, u110, u111, u112, u113, u114, u115, u116, u117, u118, u119, u120, u121, u122, u123, u124, u125, u126, u127, u128, u129, u130, u131, u132, u133, u134, u135, u136, u137, u138, u139, u140, u141, u142, u143, u144, u145, u146, u147, u148, u149, u150, u151, u152, u153, u154, u155], []⟩ wx := by
  conv => arg 2; whnf
  conv => arg 4; zeta
  go_upto_region 8 with fail
  rename_i K0 hK0
  go_cut [6] (fun s6 wx => ∃ k : Nat, k < 256 ∧ s6 = .int .i64 (k : Int) ∧ ML w wx mb K (.slice A n c) n l)
  case first =>
    go_wp2_with fail
    refine (byte_at2 mb K _ HL.out.m.mkr).mono ?_
    rintro e w1 ⟨c0, hc0, rfl, hM1, hg1, hs1⟩
    have HL1 := Lib.hid (HL.out.byte hM1 hg1)
    clear hM1 hg1 hs1
    go_wp2_with fail
    go_meet
    exact ⟨c0, hc0, rfl, HL1.out⟩
  case rest =>
    obtain ⟨k, hk, rfl, hML⟩ := hcut
    refine hK0 _ _ ?_
    exact tail6 w _ mb K A c n k l (Lib.hid hML) HS hk _ _ _ _ _ _ _ _ _ _ _ _ _ _ _ _ _ _ _ _ _ _ _ _ _ _ _ _ _ _ _ _ _ _ _ _ _ _ _ _ _ _ _ _ _ _ _ _ _ _ _ _ _ _ _ _ _ _ _ _ _ _ _ _ _ _ _ _ _ _ _ _ _ _ _ _ _ _ _ _ _ _ _ _ _ _ _ _ _ _ _ _ _ _ _ _ _ _ _ _ _ _ _ _ _ _ _ _ _ _ _ _ _ _ _ _ _ _ _ _ _ _ _ _ _ _ _ _ _ _ _ _ _ _ _ _ _ _ _ _ _ _ _ _ _ _ _ _ _ _ _ _ _
set_option maxHeartbeats 8000000 in
theorem tail4 (w wx : World) (mb K : Nat) (A : Option Addr) (c : Nat) (m sc a pa : BS) (HL : Hid (ML w wx mb K (.slice A 4 c) 4 (baseL m sc a pa))) (hm : m ∈ mR) (hsc : sc ∈ scR) (ha : a ∈ auR) (hpa : pa ∈ paR)
    (u1 u2 u6 u7 u8 u9 u10 u11 u12 u13 u14 u15 u16 u17 u18 u19 u20 u21 u22 u23 u24 u25 u26 u27 u28 u29 u30 u31 u32 u33 u34 u35 u36 u37 u38 u39 u40 u41 u42 u43 u44 u45 u46 u47 u48 u49 u50 u51 u52 u53 u54 u55 u56 u57 u58 u59 u60 u61 u62 u63 u64 u65 u66 u67 u68 u69 u70 u71 u72 u73 u74 u75 u76 u77 u78 u79 u80 u81 u82 u83 u84 u85 u86 u87 u88 u89 u90 u91 u92 u93 u94 u95 u96 u97 u98 u99 u100 u101 u102 u103 u104 u105 u106 u107 u108 u109 u110 u111 u112 u113 u114 u115 u116 u117 u118 u119 u120 u121 u122 u123 u124 u125 u126 u127 u128 u129 u130 u131 u132 u133 u134 u135 u136 u137 u138 u139 u140 u141 u142 u143 u144 u145 u146 u147 u148 u149 u150 u151 u152 u153 u154 u155 : Value) :
    Code.wp Tryz.prog (tail7 4) (bodyPost Tryz.prog Tryz.f7 (ReqLPost w mb K)) ⟨#[.pointer (some ⟨mb, 0, none⟩), u1, u2, str m, str pa, .slice A 4 c, u6, u7, u8, u9, u10, u11, u12, u13, u14, u15, u16, u17, u18, u19, u20, u21, u22, u23, u24, u25, u26, u27, u28, u29, u30, u31, u32, u33, u34, u35, u36, u37, u38, u39, u40, u41, u42, u43, u44, u45, u46, u47, u48, u49, u50, u51, u52, u53, u54, u55, u56, u57, u58, u59, u60, u61, u62, u63, u64, u65, u66, u67, u68, u69, u70, u71, u72, u73, u74, u75, u76, u77, u78, u79, u80, u81, u82, u83, u84, u85, u86, u87, u88, u89, u90, u91, u92, u93, u94, u95, u96, u97, u98, u99, u100, u101, u102, u103, u104, u105, u106, u107, u108, u109, u110, u111, u112, u113, u114, u115, u116, u117, u118, u119, u120, u121, u122, u123, u124, u125, u126, u127, u128, u129, u130, u131, u132, u133, u134, u135, u136, u137, u138, u139, u140, u141, u142, u143, u144, u145, u146, u147, u148, u149, u150, u151, u152, u153, u154, u155], []⟩ wx := by
  conv => arg 2; whnf
  conv => arg 4; zeta
  obtain ⟨g, rfl, hg0, hglt, hnc⟩ := row_block HL.out.row (by omega)
  go_upto_region 4 with fail
  go_cut [50] (fun s50 wx => ∃ b : Bool, s50 = .bool b ∧ (b = true → m = [67, 79, 78, 78, 69, 67, 84]) ∧ ML w wx mb K (.slice (some ⟨g, 0, none⟩) 4 c) 4 (baseL m sc a pa))
  case first =>
    cases a1 : (m == [67, 79, 78, 78, 69, 67, 84])
    · go_wp2_with fail
      go_meet
      exact ⟨false, rfl, fun h => (by cases h), HL.out⟩
    · have a2 := eq_of_beq a1
      subst a2
      clear a1
      go_wp2_with fail
      refine (byte_at2 mb K _ HL.out.m.mkr).mono ?_
      rintro e w1 ⟨c0, hc0, rfl, hM1, hg1, hs1⟩
      have HL1 := Lib.hid (HL.out.byte hM1 hg1)
      clear hM1 hg1 hs1
      go_wp2_with fail
      go_meet
      exact ⟨_, rfl, fun _ => by first | trivial | rfl, HL1.out⟩
  case rest =>
    obtain ⟨b, rfl, hb, hML⟩ := hcut
    have HL2 := Lib.hid hML
    have HBC := Lib.hid hb
    have x0 : wc.cell? ⟨g, 0, none⟩ = some (str kMethod) := hML.row.cellAt 0 (by omega)
    have x1 : wc.cell? ⟨g, 1, none⟩ = some (str m) := hML.row.cellAt 1 (by omega)
    have x4 : wc.cell? ⟨g, 4, none⟩ = some (str kAuth) := hML.row.cellAt 4 (by omega)
    have x5 : wc.cell? ⟨g, 5, none⟩ = some (str a) := hML.row.cellAt 5 (by omega)
    clear hML HL hb
    go_upto_if 50 with fail
    rename_i K5 hK5
    go_cut [5] (fun s5 wx => ∃ (A' : Option Addr) (c' : Nat) (l' : List (BS × BS)), s5 = .slice A' l'.length c' ∧ StartL l' ∧ ML w wx mb K (.slice A' l'.length c') l'.length l')
    case first =>
      cases b
      · go_wp2_with fail
        go_meet
        exact ⟨_, _, baseL m sc a pa, rfl, .inl ⟨m, sc, a, pa, hm, hsc, ha, hpa, rfl⟩, HL2.out⟩
      · have hmc := HBC.out rfl
        subst hmc
        go_upto_region 5 with fail
        go_cut [5] (fun s5 wx => ∃ g5 : Nat, s5 = .slice (some ⟨g5, 0, none⟩) 2 2 ∧ ML w wx mb K (.slice (some ⟨g5, 0, none⟩) 2 2) 2 (connL kConnect a))
        case first =>
          have hrl := fun (W : World) (h : MG w W mb K) => row_lit W (h.g.size) (connL kConnect a) (by simp [connL])
          have HM0 := Lib.hid HL2.out.m
          go_region
          all_goals go_wp2_with fail
          all_goals go_meet
          all_goals first
            | exact ⟨_, rfl, HM0.out.al, hrl _ HM0.out, rfl⟩
            | exact ⟨_, rfl, HM0.out.al.drew, (hrl _ HM0.out).drew, rfl⟩
            | exact ⟨_, rfl, HM0.out.drew.al, (hrl _ HM0.out.drew), rfl⟩
        case rest =>
          obtain ⟨g5, rfl, hML⟩ := hcut
          have HL5 := Lib.hid hML
          obtain ⟨i9, hi9, hz0, hz1, hz2⟩ := info_parts info42
          clear hML x0 x1 x4 x5
          go_wp2_with fail
          refine (byte_at2 mb K _ HL5.out.m.mkr).mono ?_
          rintro e w1 ⟨c0, hc0, rfl, hM1, hg1, hs1⟩
          have HL6 := Lib.hid (HL5.out.byte hM1 hg1)
          have ht : ((c0 : Int)).tmod 3 = ((c0 % 3 : Nat) : Int) := tmod_nat c0 3
          obtain ⟨j0, hj0⟩ : ∃ j, c0 % 3 = j := ⟨_, rfl⟩
          rw [hj0] at ht
          clear hj0 hM1 hg1 hs1
          by_cases hj : j0 = 0
          · subst hj
            have hrow2 := HL6.out.row.alloc (.cells #[str kProto, str kUdp, str kScheme, str [104, 116, 116, 112, 115], str kPath, str pa] 42)
            have hsz1 := HL6.out.m.g.size
            go_wp2_with (at_builtin; refine wpList_append_own _ rfl (.tmp 62) (.tmp 67) 26 rfl w.heap.size 42 i9 (fldV [] []) 2 32 Tryz.underlying26 hi9 hz0 hz1 hz2 rfl (by decide) _ 2 (fc (connL kConnect a)) rfl hrow2 ⟨w1.heap.size, 0, none⟩ 3 3 [str kProto, str kUdp, str kScheme, str [104, 116, 116, 112, 115], str kPath, str pa] rfl rfl ?gg1 ?gg2 ?gg3 ?gg4 ?gg5 ?_)
            case gg1 => exact cells_new _ [str kProto, str kUdp, str kScheme, str [104, 116, 116, 112, 115], str kPath, str pa] 42
            case gg2 => exact fc_one [(kProto, kUdp), (kScheme, [104, 116, 116, 112, 115]), (kPath, pa)]
            case gg3 => unfold maxLen; omega
            case gg4 => omega
            case gg5 => exact HL6.out.m.al.g.size
            intro v' w9 hown' hgrow _
            obtain ⟨A9, c9, rfl⟩ := row_form hown'
            have hL9 : ML w w9 mb K (.slice A9 5 c9) 5 (extL kConnect a pa) := HL6.out.al.own hgrow hown' rfl
            have HL9 := Lib.hid hL9
            clear hown' hgrow hL9 hrow2 hi9 hz0 hz1 hz2
            go_wp2_with fail
            go_meet
            exact ⟨A9, c9, extL kConnect a pa, rfl, .inr (.inr ⟨a, pa, ha, hpa, rfl⟩), HL9.out⟩
          · have d0 : ((j0 : Int) == 0) = false := by simp; omega
            go_wp2_with fail
            go_meet
            exact ⟨_, _, connL kConnect a, rfl, .inr (.inl ⟨a, ha, rfl⟩), HL6.out⟩
    case rest =>
      obtain ⟨A', c', l', rfl, hS, hML⟩ := hcut
      refine hK5 _ _ ?_
      exact tail5 w _ mb K A' c' l'.length l' (Lib.hid hML) (Lib.hid hS) _ _ _ _ _ _ _ _ _ _ _ _ _ _ _ _ _ _ _ _ _ _ _ _ _ _ _ _ _ _ _ _ _ _ _ _ _ _ _ _ _ _ _ _ _ _ _ _ _ _ _ _ _ _ _ _ _ _ _ _ _ _ _ _ _ _ _ _ _ _ _ _ _ _ _ _ _ _ _ _ _ _ _ _ _ _ _ _ _ _ _ _ _ _ _ _ _ _ _ _ _ _ _ _ _ _ _ _ _ _ _ _ _ _ _ _ _ _ _ _ _ _ _ _ _ _ _ _ _ _ _ _ _ _ _ _ _ _ _ _ _ _ _ _ _ _ _ _ _ _ _ _ _ _
end Go.Proofs.YtgcfnhchmmkndaaGreatDoor
