/- requestFromHeaders: from its thirtieth statement on. -/
import Derived.Test.YtgcfnhchmmkndaaGreatDoorD3v
namespace Go.Proofs.YtgcfnhchmmkndaaGreatDoor
open Go.RowKit Go.Maps
set_option linter.unusedVariables false
set_option maxRecDepth 100000

set_option maxHeartbeats 100000000 in
theorem tailY (w0 wc : World) (Bx hb m n' : Nat) (es' : List Ent) (s : PS) (cl : Int) (au : BS) (HC : AL) (p : Addr) (conn hs hp hpr : Bool) (RB : Hid (RSt w0 wc Bx hb (m + 1) n' es' { s with auth := au } cl HC)) (HEB : Hid (Env wc p)) (hpath : s.path.length ≤ 2147483648) (hproto : s.proto.length ≤ 2147483648) (HNT : Hid (hasKey HC kTrailer = false))
    (HE1 : Hid (rqOf s cl = if cc3 s au conn (conn && s.proto != []) hs hp then none else if !(conn && s.proto != []) && hpr then none else if (!conn || (conn && s.proto != [])) && !pathOk s then none else if conn && !(conn && s.proto != []) then some ⟨s.meth, au, [], kProto3, au, au, cl, HC⟩ else if !uriOk s.path then none else some ⟨s.meth, [], s.path, if (conn && s.proto != []) then s.proto else kProto3, au, s.path, cl, HC⟩))
    (u0 u1 u2 u3 u4 u5 u6 u7 u9 u10 u12 u13 u14 u16 u18 u19 u21 u22 u23 u24 u25 u26 u27 u28 u29 u30 u31 u32 u33 u34 u35 u36 u37 u38 u39 u40 u41 u42 u43 u44 u45 u46 u47 u48 u49 u50 u51 u52 u53 u54 u55 u56 u57 u58 u59 u60 u61 u62 u63 u64 u65 u66 u67 u68 u69 u70 u71 u72 u73 u74 u75 u76 u77 u78 u79 u80 u81 u82 u83 u84 u85 u86 u87 u88 u89 u90 u91 u92 u93 u94 u95 u96 u97 u98 u99 u100 u101 u102 u103 u104 u105 u106 u107 u108 u109 u110 u111 u112 u113 u114 u115 u116 u117 u118 u119 u120 u121 u122 u123 u124 u125 u126 u127 u128 u129 u130 u131 u132 u133 u134 u135 u136 u137 u138 u139 u140 u141 u142 u143 u144 u145 u146 u147 u148 u149 u150 u151 u152 u153 u154 u155 u156 u157 u158 u159 u160 u161 u162 u163 u164 u165 u166 u167 u168 u169 u170 u171 u172 u173 u174 u175 u176 u177 u178 u179 u180 u181 u182 u183 u184 u185 u186 u187 u188 u189 u190 u191 u192 u193 u194 u195 u196 u197 u198 u199 u200 u201 u202 u203 u204 u205 u206 u207 u208 u209 u210 u211 u212 u213 u214 u215 u216 u217 u218 u219 u220 u221 u222 u223 u224 u225 u226 u227 u228 u229 u230 u231 u232 u233 u234 u235 u236 u237 u238 u239 u240 u241 u242 u243 u244 u245 u246 u247 u248 u249 u250 u251 u252 u253 u254 u255 u256 u257 u258 u259 u260 u261 u262 u263 u264 u265 u266 u267 u268 u269 u270 u271 u272 u273 u274 u275 u276 u277 u278 : Value) :
    Code.wp Tryz.prog (tail49 21) (bodyPost Tryz.prog Tryz.f49 (RQPost w0 Bx (m + 1) (rqOf s cl))) ⟨#[u0, u1, u2, u3, u4, u5, u6, u7, .pointer (some ⟨hb, 0, none⟩), u9, u10, .bool hp, u12, u13, u14, .bool hs, u16, .bool hpr, u18, u19, .bool conn, u21, u22, u23, u24, u25, u26, u27, u28, u29, u30, u31, u32, u33, u34, u35, u36, u37, u38, u39, u40, u41, u42, u43, u44, u45, u46, u47, u48, u49, u50, u51, u52, u53, u54, u55, u56, u57, u58, u59, u60, u61, u62, u63, u64, u65, u66, u67, u68, u69, u70, u71, u72, u73, u74, u75, u76, u77, u78, u79, u80, u81, u82, u83, u84, u85, u86, u87, u88, u89, u90, u91, u92, u93, u94, u95, u96, u97, u98, u99, u100, u101, u102, u103, u104, u105, u106, u107, u108, u109, u110, u111, u112, u113, u114, u115, u116, u117, u118, u119, u120, u121, u122, u123, u124, u125, u126, u127, u128, u129, u130, u131, u132, u133, u134, u135, u136, u137, u138, u139, u140, u141, u142, u143, u144, u145, u146, u147, u148, u149, u150, u151, u152, u153, u154, u155, u156, u157, u158, u159, u160, u161, u162, u163, u164, u165, u166, u167, u168, u169, u170, u171, u172, u173, u174, u175, u176, u177, u178, u179, u180, u181, u182, u183, u184, u185, u186, u187, u188, u189, u190, u191, u192, u193, u194, u195, u196, u197, u198, u199, u200, u201, u202, u203, u204, u205, u206, u207, u208, u209, u210, u211, u212, u213, u214, u215, u216, u217, u218, u219, u220, u221, u222, u223, u224, u225, u226, u227, u228, u229, u230, u231, u232, u233, u234, u235, u236, u237, u238, u239, u240, u241, u242, u243, u244, u245, u246, u247, u248, u249, u250, u251, u252, u253, u254, u255, u256, u257, u258, u259, u260, u261, u262, u263, u264, u265, u266, u267, u268, u269, u270, u271, u272, u273, u274, u275, u276, u277, u278], []⟩ wc := by
  conv => arg 2; whnf
  conv => arg 4; zeta
  have e5 := RB.out.cells 5 _ rfl
  simp only at e5
  obtain ⟨pe, hpe⟩ : ∃ x, (s.proto == []) = x := ⟨_, rfl⟩
  have hpe2 : (s.proto != []) = !pe := by rw [← hpe]; rfl
  have HE2 := HE1.out
  rw [hpe2] at HE2
  have HE3 := Lib.hid HE2
  have HPE := Lib.hid hpe2
  clear HE2 HE1 hpe2
  go_upto_region 29 with fail
  go_cut [21] (fun s21 wx => s21 = .bool (conn && !pe) ∧ wx = wc)
  case first =>
    cases conn
    all_goals
      go_wp2_with fail
      go_meet
      exact ⟨by simp, rfl⟩
  case rest =>
    obtain ⟨rfl, rfl⟩ := hcut
    obtain ⟨ext, hext⟩ : ∃ x, (conn && !pe) = x := ⟨_, rfl⟩
    have HE4 := HE3.out
    rw [hext] at HE4 ⊢
    have HEX := Lib.hid hext
    have HEE := Lib.hid HE4
    clear HE4 HE3 hext hpe HPE
    obtain ⟨c3, hc3⟩ : ∃ x, cc3 s au conn ext hs hp = x := ⟨_, rfl⟩
    have HC3 := Lib.hid hc3
    clear hc3
    have e0 := RB.out.cells 0 _ rfl
    have e2 := RB.out.cells 2 _ rfl
    have e3 := RB.out.cells 3 _ rfl
    simp only at e0 e2 e3
    go_upto_if 154 with fail
    rename_i K0 hK0
    go_cut [] (fun wx => c3 = false ∧ wx = wc)
    case first =>
      cases ext
      · cases conn
        · obtain ⟨p0, hp0⟩ : ∃ x, (s.path == []) = x := ⟨_, rfl⟩
          obtain ⟨a0, ha0⟩ : ∃ x, (au == []) = x := ⟨_, rfl⟩
          have lp : ((s.path.length : Int) == 0) = p0 := by rw [← hp0]; cases s.path <;> simp; omega
          have la : ((au.length : Int) == 0) = a0 := by rw [← ha0]; cases au <;> simp; omega
          have HP0 := Lib.hid hp0
          have HA0 := Lib.hid ha0
          clear hp0 ha0
          cases p0
          · cases a0
            · have HC0 : Hid (c3 = false) := Lib.hid (by rw [← HC3.out]; unfold cc3; simp [HP0.out, HA0.out])
              go_wp2_with fail
              go_meet
              exact ⟨HC0.out, rfl⟩
            · have HR : Hid (rqOf s cl = none) := Lib.hid (by rw [HEE.out, if_pos (by unfold cc3; simp [HP0.out, HA0.out])])
              go_wp2_with fail
              refine (new_at9 _ _).mono ?_
              rintro e w9 ⟨q9, rfl, hb9⟩
              have M := Lib.hid ((RB.out.below hb9).fail (m' := m + 1) HR.out q9)
              clear hb9
              go_wp2_with fail
              go_ret2
              exact M.out
          · have HR : Hid (rqOf s cl = none) := Lib.hid (by rw [HEE.out, if_pos (by unfold cc3; simp [HP0.out])])
            go_wp2_with fail
            refine (new_at9 _ _).mono ?_
            rintro e w9 ⟨q9, rfl, hb9⟩
            have M := Lib.hid ((RB.out.below hb9).fail (m' := m + 1) HR.out q9)
            clear hb9
            go_wp2_with fail
            go_ret2
            exact M.out
        · obtain ⟨a0, ha0⟩ : ∃ x, (au == []) = x := ⟨_, rfl⟩
          have HA0 := Lib.hid ha0
          cases hs
          · cases hp
            · cases a0
              · have HC0 : Hid (c3 = false) := Lib.hid (by rw [← HC3.out]; unfold cc3; simp [HA0.out])
                go_wp2_with fail
                go_meet
                exact ⟨HC0.out, rfl⟩
              · have HR : Hid (rqOf s cl = none) := Lib.hid (by rw [HEE.out, if_pos (by unfold cc3; simp [HA0.out])])
                go_wp2_with fail
                refine (new_at9 _ _).mono ?_
                rintro e w9 ⟨q9, rfl, hb9⟩
                have M := Lib.hid ((RB.out.below hb9).fail (m' := m + 1) HR.out q9)
                clear hb9
                go_wp2_with fail
                go_ret2
                exact M.out
            · have HR : Hid (rqOf s cl = none) := Lib.hid (by rw [HEE.out, if_pos (by unfold cc3; simp [])])
              go_wp2_with fail
              refine (new_at9 _ _).mono ?_
              rintro e w9 ⟨q9, rfl, hb9⟩
              have M := Lib.hid ((RB.out.below hb9).fail (m' := m + 1) HR.out q9)
              clear hb9
              go_wp2_with fail
              go_ret2
              exact M.out
          · have HR : Hid (rqOf s cl = none) := Lib.hid (by rw [HEE.out, if_pos (by unfold cc3; simp [])])
            go_wp2_with fail
            refine (new_at9 _ _).mono ?_
            rintro e w9 ⟨q9, rfl, hb9⟩
            have M := Lib.hid ((RB.out.below hb9).fail (m' := m + 1) HR.out q9)
            clear hb9
            go_wp2_with fail
            go_ret2
            exact M.out
      · have hcn : conn = true := and_fst HEX.out
        subst hcn
        obtain ⟨nkp, hnkp⟩ : ∃ x, nameOk s.proto = x := ⟨_, rfl⟩
        have KP := protocol_at s.proto wc hproto HEB.out.tok
        rw [hnkp] at KP
        obtain ⟨s0, hs0⟩ : ∃ x, (s.scheme == []) = x := ⟨_, rfl⟩
        obtain ⟨p0, hp0⟩ : ∃ x, (s.path == []) = x := ⟨_, rfl⟩
        obtain ⟨a0, ha0⟩ : ∃ x, (au == []) = x := ⟨_, rfl⟩
        have HN0 := Lib.hid hnkp
        have HS0 := Lib.hid hs0
        have HP0 := Lib.hid hp0
        have HA0 := Lib.hid ha0
        clear hnkp
        cases nkp
        · go_wp2_with fail
          refine KP.mono ?_
          rintro e w8 ⟨rfl, rfl⟩
          have HR : Hid (rqOf s cl = none) := Lib.hid (by rw [HEE.out, if_pos (by unfold cc3; simp [HN0.out])])
          go_wp2_with fail
          refine (new_at9 _ _).mono ?_
          rintro e w9 ⟨q9, rfl, hb9⟩
          have M := Lib.hid ((RB.out.below hb9).fail (m' := m + 1) HR.out q9)
          clear hb9
          go_wp2_with fail
          go_ret2
          exact M.out
        · go_wp2_with fail
          refine KP.mono ?_
          rintro e w8 ⟨rfl, rfl⟩
          cases s0
          · cases p0
            · cases a0
              · have HC0 : Hid (c3 = false) := Lib.hid (by rw [← HC3.out]; unfold cc3; simp [HN0.out, HS0.out, HP0.out, HA0.out])
                go_wp2_with fail
                go_meet
                exact ⟨HC0.out, rfl⟩
              · have HR : Hid (rqOf s cl = none) := Lib.hid (by rw [HEE.out, if_pos (by unfold cc3; simp [HA0.out])])
                go_wp2_with fail
                refine (new_at9 _ _).mono ?_
                rintro e w9 ⟨q9, rfl, hb9⟩
                have M := Lib.hid ((RB.out.below hb9).fail (m' := m + 1) HR.out q9)
                clear hb9
                go_wp2_with fail
                go_ret2
                exact M.out
            · have HR : Hid (rqOf s cl = none) := Lib.hid (by rw [HEE.out, if_pos (by unfold cc3; simp [HP0.out])])
              go_wp2_with fail
              refine (new_at9 _ _).mono ?_
              rintro e w9 ⟨q9, rfl, hb9⟩
              have M := Lib.hid ((RB.out.below hb9).fail (m' := m + 1) HR.out q9)
              clear hb9
              go_wp2_with fail
              go_ret2
              exact M.out
          · have HR : Hid (rqOf s cl = none) := Lib.hid (by rw [HEE.out, if_pos (by unfold cc3; simp [HS0.out])])
            go_wp2_with fail
            refine (new_at9 _ _).mono ?_
            rintro e w9 ⟨q9, rfl, hb9⟩
            have M := Lib.hid ((RB.out.below hb9).fail (m' := m + 1) HR.out q9)
            clear hb9
            go_wp2_with fail
            go_ret2
            exact M.out
    case rest =>
      obtain ⟨rfl, rfl⟩ := hcut
      clear e5
      have HE4 := HEE.out
      rw [HC3.out] at HE4
      simp only [Bool.false_eq_true, if_false] at HE4
      have HE5 := Lib.hid HE4
      clear HE4 HEE HC3
      have hEX : Hid (ext = true → conn = true) := Lib.hid (fun h => and_fst (HEX.out.trans h))
      refine hK0 _ _ ?_
      exact tailW w0 _ Bx hb m n' es' s cl au HC conn ext hpr RB hpath HNT hEX HE5 _ _ _ _ _ _ _ _ _ _ _ _ _ _ _ _ _ _ _ _ _ _ _ _ _ _ _ _ _ _ _ _ _ _ _ _ _ _ _ _ _ _ _ _ _ _ _ _ _ _ _ _ _ _ _ _ _ _ _ _ _ _ _ _ _ _ _ _ _ _ _ _ _ _ _ _ _ _ _ _ _ _ _ _ _ _ _ _ _ _ _ _ _ _ _ _ _ _ _ _ _ _ _ _ _ _ _ _ _ _ _ _ _ _ _ _ _ _ _ _ _ _ _ _ _ _ _ _ _ _ _ _ _ _ _ _ _ _ _ _ _ _ _ _ _ _ _ _ _ _ _ _ _ _ _ _ _ _ _ _ _ _ _ _ _ _ _ _ _ _ _ _ _ _ _ _ _ _ _ _ _ _ _ _ _ _ _ _ _ _ _ _ _ _ _ _ _ _ _ _ _ _ _ _ _ _ _ _ _ _ _ _ _ _ _ _ _ _ _ _ _ _ _ _ _ _ _ _ _ _ _ _ _ _ _ _ _ _ _ _ _ _ _ _ _ _ _ _ _ _ _ _ _ _ _ _ _ _ _ _ _ _ _ _ _ _ _ _ _ _ _ _ _ _ _
end Go.Proofs.YtgcfnhchmmkndaaGreatDoor
