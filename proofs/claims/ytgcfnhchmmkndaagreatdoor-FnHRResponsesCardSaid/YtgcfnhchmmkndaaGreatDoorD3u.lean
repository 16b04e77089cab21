/- requestFromHeaders: from its twentieth statement on. -/
import Derived.Test.YtgcfnhchmmkndaaGreatDoorD3x
namespace Go.Proofs.YtgcfnhchmmkndaaGreatDoor
open Go.RowKit Go.Maps
set_option linter.unusedVariables false
set_option maxRecDepth 100000

set_option maxHeartbeats 100000000 in
theorem tailU (w0 wc : World) (Bx hb m n : Nat) (es4 : List Ent) (s : PS) (cl : Int) (au : BS) (H1 : AL) (p : Addr) (conn hs hp hpr : Bool) (RA : Hid (RSt w0 wc Bx hb m n es4 { s with auth := au } cl H1)) (HE : Hid (Env w0 p)) (hB : Bx < w0.heap.size) (h3 : 3 ≤ Bx) (hm : m ≤ 900000) (hpath : s.path.length ≤ 2147483648) (hproto : s.proto.length ≤ 2147483648) (hal : au.length ≤ 2147483648) (hjoin : Hid ((Lib.join (getH H1 kCookie) [59, 32]).length ≤ 2147483648)) (HNT : Hid (hasKey H1 kTrailer = false))
    (HEQ : Hid (rqOf s cl = if hasAt au && isHttp s.scheme then none else if cc3 s au conn (conn && s.proto != []) hs hp then none else if !(conn && s.proto != []) && hpr then none else if (!conn || (conn && s.proto != [])) && !pathOk s then none else if conn && !(conn && s.proto != []) then some ⟨s.meth, au, [], kProto3, au, au, cl, cookH H1⟩ else if !uriOk s.path then none else some ⟨s.meth, [], s.path, if (conn && s.proto != []) then s.proto else kProto3, au, s.path, cl, cookH H1⟩))
    (u0 u1 u2 u3 u4 u5 u6 u7 u9 u10 u12 u13 u14 u16 u18 u19 u21 u22 u23 u24 u25 u26 u27 u28 u29 u30 u31 u32 u33 u34 u35 u36 u37 u38 u39 u40 u41 u42 u43 u44 u45 u46 u47 u48 u49 u50 u51 u52 u53 u54 u55 u56 u57 u58 u59 u60 u61 u62 u63 u64 u65 u66 u67 u68 u69 u70 u71 u72 u73 u74 u75 u76 u77 u78 u79 u80 u81 u82 u83 u84 u85 u86 u87 u88 u89 u90 u91 u92 u93 u94 u95 u96 u97 u98 u99 u100 u101 u102 u103 u104 u105 u106 u107 u108 u109 u110 u111 u112 u113 u114 u115 u116 u117 u118 u119 u120 u121 u122 u123 u124 u125 u126 u127 u128 u129 u130 u131 u132 u133 u134 u135 u136 u137 u138 u139 u140 u141 u142 u143 u144 u145 u146 u147 u148 u149 u150 u151 u152 u153 u154 u155 u156 u157 u158 u159 u160 u161 u162 u163 u164 u165 u166 u167 u168 u169 u170 u171 u172 u173 u174 u175 u176 u177 u178 u179 u180 u181 u182 u183 u184 u185 u186 u187 u188 u189 u190 u191 u192 u193 u194 u195 u196 u197 u198 u199 u200 u201 u202 u203 u204 u205 u206 u207 u208 u209 u210 u211 u212 u213 u214 u215 u216 u217 u218 u219 u220 u221 u222 u223 u224 u225 u226 u227 u228 u229 u230 u231 u232 u233 u234 u235 u236 u237 u238 u239 u240 u241 u242 u243 u244 u245 u246 u247 u248 u249 u250 u251 u252 u253 u254 u255 u256 u257 u258 u259 u260 u261 u262 u263 u264 u265 u266 u267 u268 u269 u270 u271 u272 u273 u274 u275 u276 u277 u278 : Value) :
    Code.wp Tryz.prog (tail49 19) (bodyPost Tryz.prog Tryz.f49 (RQPost w0 Bx (m + 1) (rqOf s cl))) ⟨#[u0, u1, u2, u3, u4, u5, u6, u7, .pointer (some ⟨hb, 0, none⟩), u9, u10, .bool hp, u12, u13, u14, .bool hs, u16, .bool hpr, u18, u19, .bool conn, u21, u22, u23, u24, u25, u26, u27, u28, u29, u30, u31, u32, u33, u34, u35, u36, u37, u38, u39, u40, u41, u42, u43, u44, u45, u46, u47, u48, u49, u50, u51, u52, u53, u54, u55, u56, u57, u58, u59, u60, u61, u62, u63, u64, u65, u66, u67, u68, u69, u70, u71, u72, u73, u74, u75, u76, u77, u78, u79, u80, u81, u82, u83, u84, u85, u86, u87, u88, u89, u90, u91, u92, u93, u94, u95, u96, u97, u98, u99, u100, u101, u102, u103, u104, u105, u106, u107, u108, u109, u110, u111, u112, u113, u114, u115, u116, u117, u118, u119, u120, u121, u122, u123, u124, u125, u126, u127, u128, u129, u130, u131, u132, u133, u134, u135, u136, u137, u138, u139, u140, u141, u142, u143, u144, u145, u146, u147, u148, u149, u150, u151, u152, u153, u154, u155, u156, u157, u158, u159, u160, u161, u162, u163, u164, u165, u166, u167, u168, u169, u170, u171, u172, u173, u174, u175, u176, u177, u178, u179, u180, u181, u182, u183, u184, u185, u186, u187, u188, u189, u190, u191, u192, u193, u194, u195, u196, u197, u198, u199, u200, u201, u202, u203, u204, u205, u206, u207, u208, u209, u210, u211, u212, u213, u214, u215, u216, u217, u218, u219, u220, u221, u222, u223, u224, u225, u226, u227, u228, u229, u230, u231, u232, u233, u234, u235, u236, u237, u238, u239, u240, u241, u242, u243, u244, u245, u246, u247, u248, u249, u250, u251, u252, u253, u254, u255, u256, u257, u258, u259, u260, u261, u262, u263, u264, u265, u266, u267, u268, u269, u270, u271, u272, u273, u274, u275, u276, u277, u278], []⟩ wc := by
  conv => arg 2; whnf
  conv => arg 4; zeta
  have e2 := RA.out.cells 2 _ rfl
  have e3 := RA.out.cells 3 _ rfl
  simp only at e2 e3
  obtain ⟨b1, hb1⟩ : ∃ x, (s.scheme == [104, 116, 116, 112]) = x := ⟨_, rfl⟩
  obtain ⟨b2, hb2⟩ : ∃ x, (s.scheme == [104, 116, 116, 112, 115]) = x := ⟨_, rfl⟩
  have HB1 := Lib.hid hb1
  have HB2 := Lib.hid hb2
  have KC := contains_at au wc hal
  obtain ⟨at_, hat⟩ : ∃ x, hasAt au = x := ⟨_, rfl⟩
  rw [hat] at KC
  have HAT := Lib.hid hat
  clear hat
  go_upto_region 25 with fail
  go_cut [134] (fun s134 wx => s134 = .bool (at_ && (b1 || b2)) ∧ wx = wc)
  case first =>
    cases at_
    · go_wp2_with (go_at_call 60; refine KC.mono ?_; rintro e w8 ⟨rfl, rfl⟩)
      go_meet
      exact ⟨rfl, rfl⟩
    · cases b1
      · go_wp2_with (go_at_call 60; refine KC.mono ?_; rintro e w8 ⟨rfl, rfl⟩)
        all_goals
          go_meet
          exact ⟨by simp, rfl⟩
      · go_wp2_with (go_at_call 60; refine KC.mono ?_; rintro e w8 ⟨rfl, rfl⟩)
        go_meet
        exact ⟨rfl, rfl⟩
  case rest =>
    obtain ⟨rfl, rfl⟩ := hcut
    have HUC : Hid ((at_ && (b1 || b2)) = (hasAt au && isHttp s.scheme)) := Lib.hid (by
      unfold isHttp
      rw [← HAT.out, ← HB1.out, ← HB2.out])
    obtain ⟨uc, huc⟩ : ∃ x, (at_ && (b1 || b2)) = x := ⟨_, rfl⟩
    have h1 := HUC.out
    have HEQ1 := HEQ.out
    rw [← h1, huc] at HEQ1
    rw [huc]
    have HEQ2 := Lib.hid HEQ1
    clear HEQ1 h1 HUC HEQ huc
    go_upto_if 134 with fail
    rename_i K0 hK0
    go_cut [] (fun wx => uc = false ∧ wx = wc)
    case first =>
      cases uc
      · go_wp2_with fail
        go_meet
        exact ⟨rfl, rfl⟩
      · have HR : Hid (rqOf s cl = none) := Lib.hid (by rw [HEQ2.out]; simp)
        go_wp2_with fail
        refine (new_at9 _ _).mono ?_
        rintro e w9 ⟨q9, rfl, hb9⟩
        have M := Lib.hid ((RA.out.below hb9).fail (m' := m + 1) HR.out q9)
        clear hb9
        go_wp2_with fail
        go_ret2
        exact M.out
    case rest =>
      obtain ⟨rfl, rfl⟩ := hcut
      have HEQ3 := HEQ2.out
      simp only [Bool.false_eq_true, if_false] at HEQ3
      have HE1 := Lib.hid HEQ3
      refine hK0 _ _ ?_
      exact tailX w0 _ Bx hb m n es4 s cl au H1 p conn hs hp hpr RA HE hB h3 hm hpath hproto hjoin HNT HE1 _ _ _ _ _ _ _ _ _ _ _ _ _ _ _ _ _ _ _ _ _ _ _ _ _ _ _ _ _ _ _ _ _ _ _ _ _ _ _ _ _ _ _ _ _ _ _ _ _ _ _ _ _ _ _ _ _ _ _ _ _ _ _ _ _ _ _ _ _ _ _ _ _ _ _ _ _ _ _ _ _ _ _ _ _ _ _ _ _ _ _ _ _ _ _ _ _ _ _ _ _ _ _ _ _ _ _ _ _ _ _ _ _ _ _ _ _ _ _ _ _ _ _ _ _ _ _ _ _ _ _ _ _ _ _ _ _ _ _ _ _ _ _ _ _ _ _ _ _ _ _ _ _ _ _ _ _ _ _ _ _ _ _ _ _ _ _ _ _ _ _ _ _ _ _ _ _ _ _ _ _ _ _ _ _ _ _ _ _ _ _ _ _ _ _ _ _ _ _ _ _ _ _ _ _ _ _ _ _ _ _ _ _ _ _ _ _ _ _ _ _ _ _ _ _ _ _ _ _ _ _ _ _ _ _ _ _ _ _ _ _ _ _ _ _ _ _ _ _ _ _ _ _ _ _ _ _ _ _ _ _ _ _ _ _ _ _ _ _ _ _ _ _ _

set_option maxHeartbeats 100000000 in
theorem tailR (w0 wc : World) (Bx hb m n : Nat) (es4 : List Ent) (s : PS) (cl : Int) (H1 : AL) (p : Addr) (ha hs hp hpr : Bool) (R6 : Hid (RSt w0 wc Bx hb m n es4 s cl H1)) (HE : Hid (Env w0 p)) (hB : Bx < w0.heap.size) (h3 : 3 ≤ Bx) (HIN : Hid (RIn m s)) (HNT : Hid (hasKey H1 kTrailer = false)) (HK1 : Hid (hasKey s.H kPath = hp)) (HK2 : Hid (hasKey s.H kAuth = ha)) (HK3 : Hid (hasKey s.H kScheme = hs)) (HK4 : Hid (hasKey s.H kProto = hpr)) (HNK : Hid (nameOk s.meth = true)) (HH1 : Hid (dropPs s.H = H1))
    (u0 u1 u2 u3 u4 u5 u6 u7 u9 u10 u12 u14 u16 u18 u20 u21 u22 u23 u24 u25 u26 u27 u28 u29 u30 u31 u32 u33 u34 u35 u36 u37 u38 u39 u40 u41 u42 u43 u44 u45 u46 u47 u48 u49 u50 u51 u52 u53 u54 u55 u56 u57 u58 u59 u60 u61 u62 u63 u64 u65 u66 u67 u68 u69 u70 u71 u72 u73 u74 u75 u76 u77 u78 u79 u80 u81 u82 u83 u84 u85 u86 u87 u88 u89 u90 u91 u92 u93 u94 u95 u96 u97 u98 u99 u100 u101 u102 u103 u104 u105 u106 u107 u108 u109 u110 u111 u112 u113 u114 u115 u116 u117 u118 u119 u120 u121 u122 u123 u124 u125 u126 u127 u128 u129 u130 u131 u132 u133 u134 u135 u136 u137 u138 u139 u140 u141 u142 u143 u144 u145 u146 u147 u148 u149 u150 u151 u152 u153 u154 u155 u156 u157 u158 u159 u160 u161 u162 u163 u164 u165 u166 u167 u168 u169 u170 u171 u172 u173 u174 u175 u176 u177 u178 u179 u180 u181 u182 u183 u184 u185 u186 u187 u188 u189 u190 u191 u192 u193 u194 u195 u196 u197 u198 u199 u200 u201 u202 u203 u204 u205 u206 u207 u208 u209 u210 u211 u212 u213 u214 u215 u216 u217 u218 u219 u220 u221 u222 u223 u224 u225 u226 u227 u228 u229 u230 u231 u232 u233 u234 u235 u236 u237 u238 u239 u240 u241 u242 u243 u244 u245 u246 u247 u248 u249 u250 u251 u252 u253 u254 u255 u256 u257 u258 u259 u260 u261 u262 u263 u264 u265 u266 u267 u268 u269 u270 u271 u272 u273 u274 u275 u276 u277 u278 : Value) :
    Code.wp Tryz.prog (tail49 17) (bodyPost Tryz.prog Tryz.f49 (RQPost w0 Bx (m + 1) (rqOf s cl))) ⟨#[u0, u1, u2, u3, u4, u5, u6, u7, .pointer (some ⟨hb, 0, none⟩), u9, u10, .bool hp, u12, .bool ha, u14, .bool hs, u16, .bool hpr, u18, str [], u20, u21, u22, u23, u24, u25, u26, u27, u28, u29, u30, u31, u32, u33, u34, u35, u36, u37, u38, u39, u40, u41, u42, u43, u44, u45, u46, u47, u48, u49, u50, u51, u52, u53, u54, u55, u56, u57, u58, u59, u60, u61, u62, u63, u64, u65, u66, u67, u68, u69, u70, u71, u72, u73, u74, u75, u76, u77, u78, u79, u80, u81, u82, u83, u84, u85, u86, u87, u88, u89, u90, u91, u92, u93, u94, u95, u96, u97, u98, u99, u100, u101, u102, u103, u104, u105, u106, u107, u108, u109, u110, u111, u112, u113, u114, u115, u116, u117, u118, u119, u120, u121, u122, u123, u124, u125, u126, u127, u128, u129, u130, u131, u132, u133, u134, u135, u136, u137, u138, u139, u140, u141, u142, u143, u144, u145, u146, u147, u148, u149, u150, u151, u152, u153, u154, u155, u156, u157, u158, u159, u160, u161, u162, u163, u164, u165, u166, u167, u168, u169, u170, u171, u172, u173, u174, u175, u176, u177, u178, u179, u180, u181, u182, u183, u184, u185, u186, u187, u188, u189, u190, u191, u192, u193, u194, u195, u196, u197, u198, u199, u200, u201, u202, u203, u204, u205, u206, u207, u208, u209, u210, u211, u212, u213, u214, u215, u216, u217, u218, u219, u220, u221, u222, u223, u224, u225, u226, u227, u228, u229, u230, u231, u232, u233, u234, u235, u236, u237, u238, u239, u240, u241, u242, u243, u244, u245, u246, u247, u248, u249, u250, u251, u252, u253, u254, u255, u256, u257, u258, u259, u260, u261, u262, u263, u264, u265, u266, u267, u268, u269, u270, u271, u272, u273, u274, u275, u276, u277, u278], []⟩ wc := by
  conv => arg 2; whnf
  conv => arg 4; zeta
  have e1 := R6.out.cells 1 _ rfl
  have e2 := R6.out.cells 2 _ rfl
  have e3 := R6.out.cells 3 _ rfl
  have z2 := R6.out.fz 2
  obtain ⟨conn, hconn⟩ : ∃ x, (s.meth == [67, 79, 78, 78, 69, 67, 84]) = x := ⟨_, rfl⟩
  obtain ⟨b1, hb1⟩ : ∃ x, (s.scheme == [104, 116, 116, 112]) = x := ⟨_, rfl⟩
  obtain ⟨b2, hb2⟩ : ∃ x, (s.scheme == [104, 116, 116, 112, 115]) = x := ⟨_, rfl⟩
  have HCN := Lib.hid hconn
  have HB1 := Lib.hid hb1
  have HB2 := Lib.hid hb2
  go_upto_region 23 with fail
  go_cut [119] (fun s119 wx => s119 = .bool (!conn && !ha && (b1 || b2)) ∧ wx = wc)
  case first =>
    cases conn
    · cases ha
      · cases b1
        · go_wp2_with fail
          all_goals
            go_meet
            exact ⟨by simp, rfl⟩
        · go_wp2_with fail
          go_meet
          exact ⟨rfl, rfl⟩
      · go_wp2_with fail
        go_meet
        exact ⟨rfl, rfl⟩
    · go_wp2_with fail
      go_meet
      exact ⟨rfl, rfl⟩
  case rest =>
    obtain ⟨rfl, rfl⟩ := hcut
    have hauth : authOf s = if (!conn && !ha && (b1 || b2)) then [] else s.auth := by
      unfold authOf isHttp
      rw [← HCN.out, ← HK2.out, ← HB1.out, ← HB2.out]
      simp only [bne, kConnect, kHttp, kHttps, kAuth]
    have HAU := Lib.hid hauth
    clear hauth
    obtain ⟨cc, hcc⟩ : ∃ x, (!conn && !ha && (b1 || b2)) = x := ⟨_, rfl⟩
    rw [hcc] at HAU ⊢
    have HCC := Lib.hid hcc
    clear hcc
    have RA : ∀ W, (cc = true → W = wc.setCell ⟨hb, 2, none⟩ (str [])) → (cc = false → W = wc) → RSt w0 W Bx hb m n es4 { s with auth := authOf s } cl H1 := fun W h1 h2 => by
      cases hc : cc
      · rw [h2 hc, HAU.out, hc]
        exact R6.out
      · rw [h1 hc, HAU.out, hc]
        exact R6.out.set (s' := { s with auth := [] }) (i := 2) (u := str []) (by decide) rfl
    have HRA := Lib.hid RA
    clear RA
    go_upto_if 119 with fail
    rename_i K0 hK0
    go_cut [] (fun wx => RSt w0 wx Bx hb m n es4 { s with auth := authOf s } cl H1)
    case first =>
      cases cc
      all_goals
        go_wp2_with fail
        go_meet
        first
          | exact HRA.out _ (fun h => by cases h) (fun _ => rfl)
          | exact HRA.out _ (fun _ => rfl) (fun h => by cases h)
    case rest =>
      have RA := Lib.hid hcut
      have hal : (authOf s).length ≤ 2147483648 := by
        rw [HAU.out]
        split
        · simp
        · exact HIN.out.auth
      have HEQ := Lib.hid (rqOf_eq s cl (authOf s) conn hs hp hpr rfl HCN.out HK3.out HK1.out HK4.out HNK.out H1 HH1.out)
      have hjoin : Hid ((Lib.join (getH H1 kCookie) [59, 32]).length ≤ 2147483648) := Lib.hid (by
        rw [← HH1.out]
        unfold dropPs
        rw [getH_del _ _ _ (by decide), getH_del _ _ _ (by decide), getH_del _ _ _ (by decide), getH_del _ _ _ (by decide)]
        exact HIN.out.join)
      refine hK0 _ _ ?_
      exact tailU w0 _ Bx hb m n es4 s cl (authOf s) H1 p conn hs hp hpr RA HE hB h3 HIN.out.m HIN.out.path HIN.out.proto hal hjoin HNT HEQ _ _ _ _ _ _ _ _ _ _ _ _ _ _ _ _ _ _ _ _ _ _ _ _ _ _ _ _ _ _ _ _ _ _ _ _ _ _ _ _ _ _ _ _ _ _ _ _ _ _ _ _ _ _ _ _ _ _ _ _ _ _ _ _ _ _ _ _ _ _ _ _ _ _ _ _ _ _ _ _ _ _ _ _ _ _ _ _ _ _ _ _ _ _ _ _ _ _ _ _ _ _ _ _ _ _ _ _ _ _ _ _ _ _ _ _ _ _ _ _ _ _ _ _ _ _ _ _ _ _ _ _ _ _ _ _ _ _ _ _ _ _ _ _ _ _ _ _ _ _ _ _ _ _ _ _ _ _ _ _ _ _ _ _ _ _ _ _ _ _ _ _ _ _ _ _ _ _ _ _ _ _ _ _ _ _ _ _ _ _ _ _ _ _ _ _ _ _ _ _ _ _ _ _ _ _ _ _ _ _ _ _ _ _ _ _ _ _ _ _ _ _ _ _ _ _ _ _ _ _ _ _ _ _ _ _ _ _ _ _ _ _ _ _ _ _ _ _ _ _ _ _ _ _ _ _ _ _ _ _ _ _ _ _ _ _ _ _ _ _ _ _ _ _
end Go.Proofs.YtgcfnhchmmkndaaGreatDoor
