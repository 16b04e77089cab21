/- requestFromHeaders: from its thirty-sixth statement on. -/
import Derived.Test.YtgcfnhchmmkndaaGreatDoorD3z
namespace Go.Proofs.YtgcfnhchmmkndaaGreatDoor
open Go.RowKit Go.Maps
set_option linter.unusedVariables false
set_option maxRecDepth 100000

set_option maxHeartbeats 100000000 in
theorem tailV (w0 wc : World) (Bx hb m n' : Nat) (es' : List Ent) (s : PS) (cl : Int) (au : BS) (HC : AL) (conn ext pk : Bool) (RB : Hid (RSt w0 wc Bx hb (m + 1) n' es' { s with auth := au } cl HC)) (hpath : s.path.length ≤ 2147483648) (HNT : Hid (hasKey HC kTrailer = false)) (hEX : Hid (ext = true → conn = true))
    (HE6 : Hid (rqOf s cl = if (!conn || ext) && !pk then none else if conn && !ext then some ⟨s.meth, au, [], kProto3, au, au, cl, HC⟩ else if !uriOk s.path then none else some ⟨s.meth, [], s.path, if ext then s.proto else kProto3, au, s.path, cl, HC⟩))
    (u0 u1 u2 u3 u4 u5 u6 u7 u9 u10 u11 u12 u13 u14 u15 u16 u17 u18 u19 u23 u24 u25 u26 u27 u28 u29 u30 u31 u32 u33 u34 u35 u36 u37 u38 u39 u40 u41 u42 u43 u44 u45 u46 u47 u48 u49 u50 u51 u52 u53 u54 u55 u56 u57 u58 u59 u60 u61 u62 u63 u64 u65 u66 u67 u68 u69 u70 u71 u72 u73 u74 u75 u76 u77 u78 u79 u80 u81 u82 u83 u84 u85 u86 u87 u88 u89 u90 u91 u92 u93 u94 u95 u96 u97 u98 u99 u100 u101 u102 u103 u104 u105 u106 u107 u108 u109 u110 u111 u112 u113 u114 u115 u116 u117 u118 u119 u120 u121 u122 u123 u124 u125 u126 u127 u128 u129 u130 u131 u132 u133 u134 u135 u136 u137 u138 u139 u140 u141 u142 u143 u144 u145 u146 u147 u148 u149 u150 u151 u152 u153 u154 u155 u156 u157 u158 u159 u160 u161 u162 u163 u164 u165 u166 u167 u168 u169 u170 u171 u172 u173 u174 u175 u176 u177 u178 u179 u180 u181 u182 u183 u184 u185 u186 u187 u188 u189 u190 u191 u192 u193 u194 u195 u196 u197 u198 u199 u200 u201 u202 u203 u204 u205 u206 u207 u208 u209 u210 u211 u212 u213 u214 u215 u216 u217 u218 u219 u220 u221 u222 u223 u224 u225 u226 u227 u228 u229 u230 u231 u232 u233 u234 u235 u236 u237 u238 u239 u240 u241 u242 u243 u244 u245 u246 u247 u248 u249 u250 u251 u252 u253 u254 u255 u256 u257 u258 u259 u260 u261 u262 u263 u264 u265 u266 u267 u268 u269 u270 u271 u272 u273 u274 u275 u276 u277 u278 : Value) :
    Code.wp Tryz.prog (tail49 25) (bodyPost Tryz.prog Tryz.f49 (RQPost w0 Bx (m + 1) (rqOf s cl))) ⟨#[u0, u1, u2, u3, u4, u5, u6, u7, .pointer (some ⟨hb, 0, none⟩), u9, u10, u11, u12, u13, u14, u15, u16, u17, u18, u19, .bool conn, .bool ext, .bool pk, u23, u24, u25, u26, u27, u28, u29, u30, u31, u32, u33, u34, u35, u36, u37, u38, u39, u40, u41, u42, u43, u44, u45, u46, u47, u48, u49, u50, u51, u52, u53, u54, u55, u56, u57, u58, u59, u60, u61, u62, u63, u64, u65, u66, u67, u68, u69, u70, u71, u72, u73, u74, u75, u76, u77, u78, u79, u80, u81, u82, u83, u84, u85, u86, u87, u88, u89, u90, u91, u92, u93, u94, u95, u96, u97, u98, u99, u100, u101, u102, u103, u104, u105, u106, u107, u108, u109, u110, u111, u112, u113, u114, u115, u116, u117, u118, u119, u120, u121, u122, u123, u124, u125, u126, u127, u128, u129, u130, u131, u132, u133, u134, u135, u136, u137, u138, u139, u140, u141, u142, u143, u144, u145, u146, u147, u148, u149, u150, u151, u152, u153, u154, u155, u156, u157, u158, u159, u160, u161, u162, u163, u164, u165, u166, u167, u168, u169, u170, u171, u172, u173, u174, u175, u176, u177, u178, u179, u180, u181, u182, u183, u184, u185, u186, u187, u188, u189, u190, u191, u192, u193, u194, u195, u196, u197, u198, u199, u200, u201, u202, u203, u204, u205, u206, u207, u208, u209, u210, u211, u212, u213, u214, u215, u216, u217, u218, u219, u220, u221, u222, u223, u224, u225, u226, u227, u228, u229, u230, u231, u232, u233, u234, u235, u236, u237, u238, u239, u240, u241, u242, u243, u244, u245, u246, u247, u248, u249, u250, u251, u252, u253, u254, u255, u256, u257, u258, u259, u260, u261, u262, u263, u264, u265, u266, u267, u268, u269, u270, u271, u272, u273, u274, u275, u276, u277, u278], []⟩ wc := by
  conv => arg 2; whnf
  conv => arg 4; zeta
  go_upto_region 43 with fail
  go_cut [223] (fun s223 wx => s223 = .bool ((!conn || ext) && !pk) ∧ wx = wc)
  case first =>
    cases conn
    · cases pk
      all_goals
        go_wp2_with fail
        go_meet
        exact ⟨rfl, rfl⟩
    · cases ext
      all_goals
        go_wp2_with fail
        go_meet
        exact ⟨rfl, rfl⟩
  case rest =>
    obtain ⟨rfl, rfl⟩ := hcut
    obtain ⟨c5, hc5⟩ : ∃ x, ((!conn || ext) && !pk) = x := ⟨_, rfl⟩
    have HE4 := HE6.out
    rw [hc5] at HE4 ⊢
    have HE5 := Lib.hid HE4
    clear HE4 HE6 hc5
    go_upto_if 223 with fail
    rename_i K0 hK0
    go_cut [] (fun wx => c5 = false ∧ wx = wc)
    case first =>
      cases c5
      · go_wp2_with fail
        go_meet
        exact ⟨rfl, rfl⟩
      · have HR : Hid (rqOf s cl = none) := Lib.hid (by rw [HE5.out]; simp)
        go_wp2_with fail
        refine (new_at9 _ _).mono ?_
        rintro e w9 ⟨q9, rfl, hb9⟩
        have M := Lib.hid ((RB.out.below hb9).fail (m' := m + 1) HR.out q9)
        clear hb9
        go_wp2_with fail
        go_ret2
        exact M.out
    case rest =>
      obtain ⟨rfl, rfl⟩ := hcut
      have HE4 := HE5.out
      simp only [Bool.false_eq_true, if_false] at HE4
      have HE6 := Lib.hid HE4
      refine hK0 _ _ ?_
      exact tailZ w0 _ Bx hb m n' es' s cl au HC conn ext RB hpath HNT hEX HE6 _ _ _ _ _ _ _ _ _ _ _ _ _ _ _ _ _ _ _ _ _ _ _ _ _ _ _ _ _ _ _ _ _ _ _ _ _ _ _ _ _ _ _ _ _ _ _ _ _ _ _ _ _ _ _ _ _ _ _ _ _ _ _ _ _ _ _ _ _ _ _ _ _ _ _ _ _ _ _ _ _ _ _ _ _ _ _ _ _ _ _ _ _ _ _ _ _ _ _ _ _ _ _ _ _ _ _ _ _ _ _ _ _ _ _ _ _ _ _ _ _ _ _ _ _ _ _ _ _ _ _ _ _ _ _ _ _ _ _ _ _ _ _ _ _ _ _ _ _ _ _ _ _ _ _ _ _ _ _ _ _ _ _ _ _ _ _ _ _ _ _ _ _ _ _ _ _ _ _ _ _ _ _ _ _ _ _ _ _ _ _ _ _ _ _ _ _ _ _ _ _ _ _ _ _ _ _ _ _ _ _ _ _ _ _ _ _ _ _ _ _ _ _ _ _ _ _ _ _ _ _ _ _ _ _ _ _ _ _ _ _ _ _ _ _ _ _ _ _ _ _ _ _ _ _ _ _ _ _ _ _ _ _ _ _ _ _ _ _ _ _ _ _ _ _ _

set_option maxHeartbeats 100000000 in
theorem tailW (w0 wc : World) (Bx hb m n' : Nat) (es' : List Ent) (s : PS) (cl : Int) (au : BS) (HC : AL) (conn ext hpr : Bool) (RB : Hid (RSt w0 wc Bx hb (m + 1) n' es' { s with auth := au } cl HC)) (hpath : s.path.length ≤ 2147483648) (HNT : Hid (hasKey HC kTrailer = false)) (hEX : Hid (ext = true → conn = true))
    (HE5 : Hid (rqOf s cl = if !ext && hpr then none else if (!conn || ext) && !pathOk s then none else if conn && !ext then some ⟨s.meth, au, [], kProto3, au, au, cl, HC⟩ else if !uriOk s.path then none else some ⟨s.meth, [], s.path, if ext then s.proto else kProto3, au, s.path, cl, HC⟩))
    (u0 u1 u2 u3 u4 u5 u6 u7 u9 u10 u11 u12 u13 u14 u15 u16 u18 u19 u22 u23 u24 u25 u26 u27 u28 u29 u30 u31 u32 u33 u34 u35 u36 u37 u38 u39 u40 u41 u42 u43 u44 u45 u46 u47 u48 u49 u50 u51 u52 u53 u54 u55 u56 u57 u58 u59 u60 u61 u62 u63 u64 u65 u66 u67 u68 u69 u70 u71 u72 u73 u74 u75 u76 u77 u78 u79 u80 u81 u82 u83 u84 u85 u86 u87 u88 u89 u90 u91 u92 u93 u94 u95 u96 u97 u98 u99 u100 u101 u102 u103 u104 u105 u106 u107 u108 u109 u110 u111 u112 u113 u114 u115 u116 u117 u118 u119 u120 u121 u122 u123 u124 u125 u126 u127 u128 u129 u130 u131 u132 u133 u134 u135 u136 u137 u138 u139 u140 u141 u142 u143 u144 u145 u146 u147 u148 u149 u150 u151 u152 u153 u154 u155 u156 u157 u158 u159 u160 u161 u162 u163 u164 u165 u166 u167 u168 u169 u170 u171 u172 u173 u174 u175 u176 u177 u178 u179 u180 u181 u182 u183 u184 u185 u186 u187 u188 u189 u190 u191 u192 u193 u194 u195 u196 u197 u198 u199 u200 u201 u202 u203 u204 u205 u206 u207 u208 u209 u210 u211 u212 u213 u214 u215 u216 u217 u218 u219 u220 u221 u222 u223 u224 u225 u226 u227 u228 u229 u230 u231 u232 u233 u234 u235 u236 u237 u238 u239 u240 u241 u242 u243 u244 u245 u246 u247 u248 u249 u250 u251 u252 u253 u254 u255 u256 u257 u258 u259 u260 u261 u262 u263 u264 u265 u266 u267 u268 u269 u270 u271 u272 u273 u274 u275 u276 u277 u278 : Value) :
    Code.wp Tryz.prog (tail49 23) (bodyPost Tryz.prog Tryz.f49 (RQPost w0 Bx (m + 1) (rqOf s cl))) ⟨#[u0, u1, u2, u3, u4, u5, u6, u7, .pointer (some ⟨hb, 0, none⟩), u9, u10, u11, u12, u13, u14, u15, u16, .bool hpr, u18, u19, .bool conn, .bool ext, u22, u23, u24, u25, u26, u27, u28, u29, u30, u31, u32, u33, u34, u35, u36, u37, u38, u39, u40, u41, u42, u43, u44, u45, u46, u47, u48, u49, u50, u51, u52, u53, u54, u55, u56, u57, u58, u59, u60, u61, u62, u63, u64, u65, u66, u67, u68, u69, u70, u71, u72, u73, u74, u75, u76, u77, u78, u79, u80, u81, u82, u83, u84, u85, u86, u87, u88, u89, u90, u91, u92, u93, u94, u95, u96, u97, u98, u99, u100, u101, u102, u103, u104, u105, u106, u107, u108, u109, u110, u111, u112, u113, u114, u115, u116, u117, u118, u119, u120, u121, u122, u123, u124, u125, u126, u127, u128, u129, u130, u131, u132, u133, u134, u135, u136, u137, u138, u139, u140, u141, u142, u143, u144, u145, u146, u147, u148, u149, u150, u151, u152, u153, u154, u155, u156, u157, u158, u159, u160, u161, u162, u163, u164, u165, u166, u167, u168, u169, u170, u171, u172, u173, u174, u175, u176, u177, u178, u179, u180, u181, u182, u183, u184, u185, u186, u187, u188, u189, u190, u191, u192, u193, u194, u195, u196, u197, u198, u199, u200, u201, u202, u203, u204, u205, u206, u207, u208, u209, u210, u211, u212, u213, u214, u215, u216, u217, u218, u219, u220, u221, u222, u223, u224, u225, u226, u227, u228, u229, u230, u231, u232, u233, u234, u235, u236, u237, u238, u239, u240, u241, u242, u243, u244, u245, u246, u247, u248, u249, u250, u251, u252, u253, u254, u255, u256, u257, u258, u259, u260, u261, u262, u263, u264, u265, u266, u267, u268, u269, u270, u271, u272, u273, u274, u275, u276, u277, u278], []⟩ wc := by
  conv => arg 2; whnf
  conv => arg 4; zeta
  go_upto_region 40 with fail
  go_cut [200] (fun s200 wx => s200 = .bool (!ext && hpr) ∧ wx = wc)
  case first =>
    cases ext
    all_goals
      go_wp2_with fail
      go_meet
      exact ⟨rfl, rfl⟩
  case rest =>
    obtain ⟨rfl, rfl⟩ := hcut
    obtain ⟨c4, hc4⟩ : ∃ x, (!ext && hpr) = x := ⟨_, rfl⟩
    have HE4 := HE5.out
    rw [hc4] at HE4 ⊢
    have HE6 := Lib.hid HE4
    clear HE4 HE5 hc4
    cases c4
    · have e0 := RB.out.cells 0 _ rfl
      simp only at e0
      have HE4 := HE6.out
      simp only [Bool.false_eq_true, if_false] at HE4
      have HE5 := Lib.hid HE4
      clear HE4 HE6
      have e1 := RB.out.cells 1 _ rfl
      simp only at e1
      have KH := Tryz.strings_HasPrefix ⟨s.path.toArray⟩ ⟨#[47]⟩ wc
      obtain ⟨b1', hb1'⟩ : ∃ x, Lib.hasPrefix s.path [47] = x := ⟨_, rfl⟩
      obtain ⟨b2', hb2'⟩ : ∃ x, (s.meth == [79, 80, 84, 73, 79, 78, 83]) = x := ⟨_, rfl⟩
      obtain ⟨b3', hb3'⟩ : ∃ x, (s.path == [42]) = x := ⟨_, rfl⟩
      have hpo : pathOk s = (b1' || (b2' && b3')) := by unfold pathOk; simp only [kOptions]; rw [hb1', hb2', hb3']
      simp only [] at KH
      rw [hb1'] at KH
      have HPO := Lib.hid hpo
      clear hpo hb1'
      go_upto_region 42 with fail
      rename_i K0 hK0
      go_cut [22] (fun s22 wx => s22 = .bool (b1' || (b2' && b3')) ∧ wx = wc)
      case first =>
        cases b1'
        · cases b2'
          · go_wp2_with (go_at_call 64; refine KH.mono ?_; rintro e w8 ⟨rfl, rfl⟩)
            go_meet
            exact ⟨rfl, rfl⟩
          · go_wp2_with (go_at_call 64; refine KH.mono ?_; rintro e w8 ⟨rfl, rfl⟩)
            go_meet
            exact ⟨by simp, rfl⟩
        · go_wp2_with (go_at_call 64; refine KH.mono ?_; rintro e w8 ⟨rfl, rfl⟩)
          go_meet
          exact ⟨rfl, rfl⟩
      case rest =>
        obtain ⟨rfl, rfl⟩ := hcut
        have HE4 := HE5.out
        rw [HPO.out] at HE4
        obtain ⟨pk, hpk⟩ : ∃ x, (b1' || (b2' && b3')) = x := ⟨_, rfl⟩
        rw [hpk] at HE4 ⊢
        have HE6 := Lib.hid HE4
        clear HE4 HE5 hpk hb2' hb3' KH HPO
        refine hK0 _ _ ?_
        exact tailV w0 _ Bx hb m n' es' s cl au HC conn ext pk RB hpath HNT hEX HE6 _ _ _ _ _ _ _ _ _ _ _ _ _ _ _ _ _ _ _ _ _ _ _ _ _ _ _ _ _ _ _ _ _ _ _ _ _ _ _ _ _ _ _ _ _ _ _ _ _ _ _ _ _ _ _ _ _ _ _ _ _ _ _ _ _ _ _ _ _ _ _ _ _ _ _ _ _ _ _ _ _ _ _ _ _ _ _ _ _ _ _ _ _ _ _ _ _ _ _ _ _ _ _ _ _ _ _ _ _ _ _ _ _ _ _ _ _ _ _ _ _ _ _ _ _ _ _ _ _ _ _ _ _ _ _ _ _ _ _ _ _ _ _ _ _ _ _ _ _ _ _ _ _ _ _ _ _ _ _ _ _ _ _ _ _ _ _ _ _ _ _ _ _ _ _ _ _ _ _ _ _ _ _ _ _ _ _ _ _ _ _ _ _ _ _ _ _ _ _ _ _ _ _ _ _ _ _ _ _ _ _ _ _ _ _ _ _ _ _ _ _ _ _ _ _ _ _ _ _ _ _ _ _ _ _ _ _ _ _ _ _ _ _ _ _ _ _ _ _ _ _ _ _ _ _ _ _ _ _ _ _ _ _ _ _ _ _ _ _ _ _ _ _ _ _
    · have HR : Hid (rqOf s cl = none) := Lib.hid (by rw [HE6.out]; simp)
      go_wp2_with fail
      refine (new_at9 _ _).mono ?_
      rintro e w9 ⟨q9, rfl, hb9⟩
      have M := Lib.hid ((RB.out.below hb9).fail (m' := m + 1) HR.out q9)
      clear hb9
      go_wp2_with fail
      go_ret2
      exact M.out
end Go.Proofs.YtgcfnhchmmkndaaGreatDoor
