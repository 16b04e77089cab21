/- requestFromHeaders: from its thirty-seventh statement on. -/
import Derived.Test.YtgcfnhchmmkndaaGreatDoorD1
namespace Go.Proofs.YtgcfnhchmmkndaaGreatDoor
open Go.RowKit Go.Maps
set_option linter.unusedVariables false
set_option maxRecDepth 100000

def seqTail : Nat → Code → Code
  | 0, c => c
  | n + 1, .seq _ b => seqTail n b
  | _ + 1, c => c
/-- the function's statements behind the first n -/
noncomputable def tail49 (n : Nat) : Code := seqTail n (Tryz.f49.body.getD .skip)
set_option maxHeartbeats 100000000 in
theorem tailZ (w0 wc : World) (Bx hb m n' : Nat) (es' : List Ent) (s : PS) (cl : Int) (au : BS) (HC : AL) (conn ext : Bool) (RB : Hid (RSt w0 wc Bx hb (m + 1) n' es' { s with auth := au } cl HC)) (hpath : s.path.length ≤ 2147483648) (HNT : Hid (hasKey HC kTrailer = false)) (hEX : Hid (ext = true → conn = true))
    (HE6 : Hid (rqOf s cl = if conn && !ext then some ⟨s.meth, au, [], kProto3, au, au, cl, HC⟩ else if !uriOk s.path then none else some ⟨s.meth, [], s.path, if ext then s.proto else kProto3, au, s.path, cl, HC⟩))
    (u0 u1 u2 u3 u4 u5 u6 u7 u9 u10 u11 u12 u13 u14 u15 u16 u17 u18 u19 u22 u23 u24 u25 u26 u27 u28 u29 u30 u31 u32 u33 u34 u35 u36 u37 u38 u39 u40 u41 u42 u43 u44 u45 u46 u47 u48 u49 u50 u51 u52 u53 u54 u55 u56 u57 u58 u59 u60 u61 u62 u63 u64 u65 u66 u67 u68 u69 u70 u71 u72 u73 u74 u75 u76 u77 u78 u79 u80 u81 u82 u83 u84 u85 u86 u87 u88 u89 u90 u91 u92 u93 u94 u95 u96 u97 u98 u99 u100 u101 u102 u103 u104 u105 u106 u107 u108 u109 u110 u111 u112 u113 u114 u115 u116 u117 u118 u119 u120 u121 u122 u123 u124 u125 u126 u127 u128 u129 u130 u131 u132 u133 u134 u135 u136 u137 u138 u139 u140 u141 u142 u143 u144 u145 u146 u147 u148 u149 u150 u151 u152 u153 u154 u155 u156 u157 u158 u159 u160 u161 u162 u163 u164 u165 u166 u167 u168 u169 u170 u171 u172 u173 u174 u175 u176 u177 u178 u179 u180 u181 u182 u183 u184 u185 u186 u187 u188 u189 u190 u191 u192 u193 u194 u195 u196 u197 u198 u199 u200 u201 u202 u203 u204 u205 u206 u207 u208 u209 u210 u211 u212 u213 u214 u215 u216 u217 u218 u219 u220 u221 u222 u223 u224 u225 u226 u227 u228 u229 u230 u231 u232 u233 u234 u235 u236 u237 u238 u239 u240 u241 u242 u243 u244 u245 u246 u247 u248 u249 u250 u251 u252 u253 u254 u255 u256 u257 u258 u259 u260 u261 u262 u263 u264 u265 u266 u267 u268 u269 u270 u271 u272 u273 u274 u275 u276 u277 u278 : Value) :
    Code.wp Tryz.prog (tail49 26) (bodyPost Tryz.prog Tryz.f49 (RQPost w0 Bx (m + 1) (rqOf s cl))) ⟨#[u0, u1, u2, u3, u4, u5, u6, u7, .pointer (some ⟨hb, 0, none⟩), u9, u10, u11, u12, u13, u14, u15, u16, u17, u18, u19, .bool conn, .bool ext, u22, u23, u24, u25, u26, u27, u28, u29, u30, u31, u32, u33, u34, u35, u36, u37, u38, u39, u40, u41, u42, u43, u44, u45, u46, u47, u48, u49, u50, u51, u52, u53, u54, u55, u56, u57, u58, u59, u60, u61, u62, u63, u64, u65, u66, u67, u68, u69, u70, u71, u72, u73, u74, u75, u76, u77, u78, u79, u80, u81, u82, u83, u84, u85, u86, u87, u88, u89, u90, u91, u92, u93, u94, u95, u96, u97, u98, u99, u100, u101, u102, u103, u104, u105, u106, u107, u108, u109, u110, u111, u112, u113, u114, u115, u116, u117, u118, u119, u120, u121, u122, u123, u124, u125, u126, u127, u128, u129, u130, u131, u132, u133, u134, u135, u136, u137, u138, u139, u140, u141, u142, u143, u144, u145, u146, u147, u148, u149, u150, u151, u152, u153, u154, u155, u156, u157, u158, u159, u160, u161, u162, u163, u164, u165, u166, u167, u168, u169, u170, u171, u172, u173, u174, u175, u176, u177, u178, u179, u180, u181, u182, u183, u184, u185, u186, u187, u188, u189, u190, u191, u192, u193, u194, u195, u196, u197, u198, u199, u200, u201, u202, u203, u204, u205, u206, u207, u208, u209, u210, u211, u212, u213, u214, u215, u216, u217, u218, u219, u220, u221, u222, u223, u224, u225, u226, u227, u228, u229, u230, u231, u232, u233, u234, u235, u236, u237, u238, u239, u240, u241, u242, u243, u244, u245, u246, u247, u248, u249, u250, u251, u252, u253, u254, u255, u256, u257, u258, u259, u260, u261, u262, u263, u264, u265, u266, u267, u268, u269, u270, u271, u272, u273, u274, u275, u276, u277, u278], []⟩ wc := by
  conv => arg 2; whnf
  conv => arg 4; zeta
  have KU := uri_at s.path wc hpath
  obtain ⟨uk, huk⟩ : ∃ x, uriOk s.path = x := ⟨_, rfl⟩
  have HUK := Lib.hid huk
  unfold URIPost at KU
  rw [huk] at KU
  have e0 := RB.out.cells 0 _ rfl
  have e1 := RB.out.cells 1 _ rfl
  have e2 := RB.out.cells 2 _ rfl
  have e3 := RB.out.cells 3 _ rfl
  have e5 := RB.out.cells 5 _ rfl
  simp only at e0 e1 e2 e3 e5
  clear huk
  go_upto_if 225 with fail
  go_cut [23, 24, 25] (fun s23 s24 s25 wx => UrlRel w0 wx Bx hb (m + 1) s { s with auth := au } cl au (HC) s23 s24 s25)
  case first =>
    cases ext
    · cases conn
      · cases uk
        · have HR : Hid (rqOf s cl = none) := Lib.hid (by rw [HE6.out]; simp [HUK.out])
          go_wp2_with fail
          refine KU.mono ?_
          rintro e w8 ⟨hb8, hf⟩
          simp only [Bool.false_eq_true, if_false] at hf
          obtain ⟨q8, rfl⟩ := hf
          have M8 := Lib.hid (RB.out.below hb8)
          clear hb8
          go_wp2_with fail
          refine (new_at9 _ _).mono ?_
          rintro e w9 ⟨q9, rfl, hb9⟩
          have M := Lib.hid ((M8.out.below hb9).fail (m' := m + 1) HR.out q9)
          clear hb9
          go_wp2_with fail
          go_ret2
          exact M.out
        · have HR : Hid (rqOf s cl = some ⟨s.meth, [], s.path, kProto3, au, s.path, cl, HC⟩) := Lib.hid (by rw [HE6.out]; simp [HUK.out])
          go_wp2_with fail
          refine KU.mono ?_
          rintro e w8 ⟨hb8, hf⟩
          simp only [if_true] at hf
          obtain ⟨rfl, rfl⟩ := hf
          have M8 := Lib.hid (RB.out.below hb8)
          have x0 := M8.out.cells 0 _ rfl
          have x5 := M8.out.cells 5 _ rfl
          simp only at x0 x5
          clear hb8
          go_wp2_with fail
          go_meet
          exact ⟨_, _, _, ⟨s.meth, [], s.path, kProto3, au, s.path, cl, HC⟩, rfl, rfl, rfl, HR.out, rfl, rfl, rfl, rfl, M8.out, url_new _ _ _, by simp⟩
      · have HR : Hid (rqOf s cl = some ⟨s.meth, au, [], kProto3, au, au, cl, HC⟩) := Lib.hid (by rw [HE6.out]; simp)
        clear KU
        have M8 := Lib.hid (RB.out.below (below_new _ (.cells #[str [], str au, str []] 108)))
        have x2 := M8.out.cells 2 _ rfl
        simp only at x2
        go_wp2_with fail
        go_meet
        exact ⟨_, _, _, ⟨s.meth, au, [], kProto3, au, au, cl, HC⟩, rfl, rfl, rfl, HR.out, rfl, rfl, rfl, rfl, M8.out, url_new _ _ _, by simp⟩
    · have hcn : conn = true := hEX.out rfl
      subst hcn
      cases uk
      · have HR : Hid (rqOf s cl = none) := Lib.hid (by rw [HE6.out]; simp [HUK.out])
        go_wp2_with fail
        refine KU.mono ?_
        rintro e w8 ⟨hb8, hf⟩
        simp only [Bool.false_eq_true, if_false] at hf
        obtain ⟨q8, rfl⟩ := hf
        have M := Lib.hid ((RB.out.below hb8).fail (m' := m + 1) HR.out q8)
        clear hb8
        go_wp2_with fail
        go_ret2
        exact M.out
      · have HR : Hid (rqOf s cl = some ⟨s.meth, [], s.path, s.proto, au, s.path, cl, HC⟩) := Lib.hid (by rw [HE6.out]; simp [HUK.out])
        go_wp2_with fail
        refine KU.mono ?_
        rintro e w8 ⟨hb8, hf⟩
        simp only [if_true] at hf
        obtain ⟨rfl, rfl⟩ := hf
        have M8 := Lib.hid (RB.out.below hb8)
        have x0 := M8.out.cells 0 _ rfl
        have x5 := M8.out.cells 5 _ rfl
        simp only at x0 x5
        clear hb8
        go_wp2_with fail
        go_meet
        exact ⟨_, _, _, ⟨s.meth, [], s.path, s.proto, au, s.path, cl, HC⟩, rfl, rfl, rfl, HR.out, rfl, rfl, rfl, rfl, M8.out, url_new _ _ _, by simp⟩
  case rest =>
    obtain ⟨ub, n2, es2, q, rfl, rfl, rfl, hq, q1, q2, q3, q4, hRC, hu, hl⟩ := hcut
    have RC := Lib.hid hRC
    clear e0 e1 e2 e3 e5 KU HUK RB
    have e1 := RC.out.cells 1 _ rfl
    have e7 := RC.out.cells 7 _ rfl
    have e6 := RC.out.cells 6 _ rfl
    have e2 := RC.out.cells 2 _ rfl
    simp only at e1 e2 e6 e7
    have HFin := Lib.hid (UrlRel.done hq q1 q2 q3 q4 hRC hu hl)
    have hnk2 : ∀ e ∈ es2, e.key ≠ [84, 114, 97, 105, 108, 101, 114] := keys_ent (k := kTrailer) hRC.abs (HNT.out)
    have HK := Lib.hid hnk2
    clear hq q1 q2 q3 q4 hRC hu hl hnk2
    go_wp2_with fail
    refine (announced_at (w0.heap.size + 3) (w0.heap.size + 1) n2 es2 _ (RC.out.hdr.below (below_new _ _)) HK.out).mono ?_
    rintro e w9 ⟨rfl, rfl⟩
    go_wp2_with fail
    go_ret2
    exact HFin.out
end Go.Proofs.YtgcfnhchmmkndaaGreatDoor
