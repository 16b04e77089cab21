/- requestFromHeaders: from its twenty-seventh statement on. -/
import Derived.Test.YtgcfnhchmmkndaaGreatDoorD3y
namespace Go.Proofs.YtgcfnhchmmkndaaGreatDoor
open Go.RowKit Go.Maps
set_option linter.unusedVariables false
set_option maxRecDepth 100000

def CookPost (w0 : World) (Bx hb m n : Nat) (s : PS) (cl : Int) (H : AL) (e : Ending) (w2 : World) : Prop := e = .returned (.tuple #[]) ∧ ∃ es', RSt w0 w2 Bx hb (m + 1) (n + 1) es' s cl H
set_option maxHeartbeats 100000000 in
theorem tailX (w0 wc : World) (Bx hb m n : Nat) (es4 : List Ent) (s : PS) (cl : Int) (au : BS) (H1 : AL) (p : Addr) (conn hs hp hpr : Bool) (RA : Hid (RSt w0 wc Bx hb m n es4 { s with auth := au } cl H1)) (HE : Hid (Env w0 p)) (hB : Bx < w0.heap.size) (h3 : 3 ≤ Bx) (hm : m ≤ 900000) (hpath : s.path.length ≤ 2147483648) (hproto : s.proto.length ≤ 2147483648) (hjoin : Hid ((Lib.join (getH H1 kCookie) [59, 32]).length ≤ 2147483648)) (HNT : Hid (hasKey H1 kTrailer = false))
    (HE1 : Hid (rqOf s cl = if cc3 s au conn (conn && s.proto != []) hs hp then none else if !(conn && s.proto != []) && hpr then none else if (!conn || (conn && s.proto != [])) && !pathOk s then none else if conn && !(conn && s.proto != []) then some ⟨s.meth, au, [], kProto3, au, au, cl, cookH H1⟩ else if !uriOk s.path then none else some ⟨s.meth, [], s.path, if (conn && s.proto != []) then s.proto else kProto3, au, s.path, cl, cookH H1⟩))
    (u0 u1 u2 u3 u4 u5 u6 u7 u9 u10 u12 u13 u14 u16 u18 u19 u21 u22 u23 u24 u25 u26 u27 u28 u29 u30 u31 u32 u33 u34 u35 u36 u37 u38 u39 u40 u41 u42 u43 u44 u45 u46 u47 u48 u49 u50 u51 u52 u53 u54 u55 u56 u57 u58 u59 u60 u61 u62 u63 u64 u65 u66 u67 u68 u69 u70 u71 u72 u73 u74 u75 u76 u77 u78 u79 u80 u81 u82 u83 u84 u85 u86 u87 u88 u89 u90 u91 u92 u93 u94 u95 u96 u97 u98 u99 u100 u101 u102 u103 u104 u105 u106 u107 u108 u109 u110 u111 u112 u113 u114 u115 u116 u117 u118 u119 u120 u121 u122 u123 u124 u125 u126 u127 u128 u129 u130 u131 u132 u133 u134 u135 u136 u137 u138 u139 u140 u141 u142 u143 u144 u145 u146 u147 u148 u149 u150 u151 u152 u153 u154 u155 u156 u157 u158 u159 u160 u161 u162 u163 u164 u165 u166 u167 u168 u169 u170 u171 u172 u173 u174 u175 u176 u177 u178 u179 u180 u181 u182 u183 u184 u185 u186 u187 u188 u189 u190 u191 u192 u193 u194 u195 u196 u197 u198 u199 u200 u201 u202 u203 u204 u205 u206 u207 u208 u209 u210 u211 u212 u213 u214 u215 u216 u217 u218 u219 u220 u221 u222 u223 u224 u225 u226 u227 u228 u229 u230 u231 u232 u233 u234 u235 u236 u237 u238 u239 u240 u241 u242 u243 u244 u245 u246 u247 u248 u249 u250 u251 u252 u253 u254 u255 u256 u257 u258 u259 u260 u261 u262 u263 u264 u265 u266 u267 u268 u269 u270 u271 u272 u273 u274 u275 u276 u277 u278 : Value) :
    Code.wp Tryz.prog (tail49 20) (bodyPost Tryz.prog Tryz.f49 (RQPost w0 Bx (m + 1) (rqOf s cl))) ⟨#[u0, u1, u2, u3, u4, u5, u6, u7, .pointer (some ⟨hb, 0, none⟩), u9, u10, .bool hp, u12, u13, u14, .bool hs, u16, .bool hpr, u18, u19, .bool conn, u21, u22, u23, u24, u25, u26, u27, u28, u29, u30, u31, u32, u33, u34, u35, u36, u37, u38, u39, u40, u41, u42, u43, u44, u45, u46, u47, u48, u49, u50, u51, u52, u53, u54, u55, u56, u57, u58, u59, u60, u61, u62, u63, u64, u65, u66, u67, u68, u69, u70, u71, u72, u73, u74, u75, u76, u77, u78, u79, u80, u81, u82, u83, u84, u85, u86, u87, u88, u89, u90, u91, u92, u93, u94, u95, u96, u97, u98, u99, u100, u101, u102, u103, u104, u105, u106, u107, u108, u109, u110, u111, u112, u113, u114, u115, u116, u117, u118, u119, u120, u121, u122, u123, u124, u125, u126, u127, u128, u129, u130, u131, u132, u133, u134, u135, u136, u137, u138, u139, u140, u141, u142, u143, u144, u145, u146, u147, u148, u149, u150, u151, u152, u153, u154, u155, u156, u157, u158, u159, u160, u161, u162, u163, u164, u165, u166, u167, u168, u169, u170, u171, u172, u173, u174, u175, u176, u177, u178, u179, u180, u181, u182, u183, u184, u185, u186, u187, u188, u189, u190, u191, u192, u193, u194, u195, u196, u197, u198, u199, u200, u201, u202, u203, u204, u205, u206, u207, u208, u209, u210, u211, u212, u213, u214, u215, u216, u217, u218, u219, u220, u221, u222, u223, u224, u225, u226, u227, u228, u229, u230, u231, u232, u233, u234, u235, u236, u237, u238, u239, u240, u241, u242, u243, u244, u245, u246, u247, u248, u249, u250, u251, u252, u253, u254, u255, u256, u257, u258, u259, u260, u261, u262, u263, u264, u265, u266, u267, u268, u269, u270, u271, u272, u273, u274, u275, u276, u277, u278], []⟩ wc := by
  conv => arg 2; whnf
  conv => arg 4; zeta
  have e7 := RA.out.cells 7 _ rfl
  obtain ⟨A, c, items, hrun, hrun2, hslot⟩ := RA.out.hdr.slot2 kCookie (by simp)
  have hget : getH H1 kCookie = items := by rw [← RA.out.abs]; exact hslot.get
  go_upto_if 140 with fail
  rename_i K0 hK0
  go_cut [] (fun wx => ∃ n' es', RSt w0 wx Bx hb (m + 1) n' es' { s with auth := au } cl (cookH H1))
  case first =>
    cases items with
    | nil =>
      have hc0 : cookH H1 = H1 := by unfold cookH; rw [hget]; rfl
      have M : Hid (RSt w0 wc Bx hb (m + 1) n es4 { s with auth := au } cl (cookH H1)) := Lib.hid (by rw [hc0]; exact RA.out.weak (Nat.le_succ m))
      clear hslot hc0 hget
      go_wp2_with fail
      go_meet
      exact ⟨_, _, M.out⟩
    | cons x t =>
      obtain ⟨bk, o, rfl, hbk, _, g1⟩ := reads_strs (Reads.of_own hslot.row) (by simp)
      have hcap := row_cap hslot.row
      have hil : (x :: t).length ≤ m := by
        rcases hslot.src with h | ⟨e, he, h⟩
        · cases h
        · rw [h]; exact RA.out.items e he
      have hmm := hm
      have hpos : (0 : Int) < ((x :: t).length : Int) := by simp
      have hjl : (Lib.join (x :: t) [59, 32]).length ≤ 2147483648 := by rw [← hget]; exact hjoin.out
      have KJ0 := join_at bk o c (x :: t) wc (fun j hj => g1 j hj) hbk (by omega) hcap hjl
      have KJ1 := join_at bk o c (x :: t) wc.drew (fun j hj => g1 j hj) hbk (by omega) hcap hjl
      have hc0 : cookH H1 = putH H1 kCookie [Lib.join (x :: t) [59, 32]] := by unfold cookH; rw [hget]; rfl
      have HC0 := Lib.hid hc0
      obtain ⟨J, hJ⟩ : ∃ J, Lib.join (x :: t) [59, 32] = J := ⟨_, rfl⟩
      rw [hJ] at KJ0 KJ1 HC0
      simp only [List.length_cons] at KJ0 KJ1
      clear hslot hc0 hget hJ hjl
      go_wp2_with fail
      have KS : ∀ W, Below wc.heap.size wc W → Calls Tryz.prog 61 #[.map (some (w0.heap.size + 1)), str kCookie, str J] W (CookPost w0 Bx hb m n { s with auth := au } cl (putH H1 kCookie [J])) := fun W hW =>
        (set_at2 kCookie J (w0.heap.size + 3) (w0.heap.size + 1) n es4 W (RA.out.hdr.below hW) (by simp) (by have := RA.out.hn; omega) (by have := hW.size; have := RA.out.lt; have := RA.out.ge; omega)).mono fun e w' P => RA.out.cook hB hW P (by decide)
      have HKS := Lib.hid KS
      clear KS
      go_region_with (first
        | (go_at_call 62; first | (with_reducible refine KJ0.mono ?_) | (with_reducible refine KJ1.mono ?_)
           rintro e w7 ⟨rfl, hb7⟩
           have hb8 : Below wc.heap.size wc w7 := ⟨hb7.os, hb7.tape, hb7.output, hb7.size, hb7.block⟩
           have e77 := (hb8.cell (p := ⟨hb, 7, none⟩) RA.out.lt).trans e7)
        | (go_at_call 61; first | (with_reducible refine (HKS.out _ hb8).mono ?_) | (with_reducible refine (HKS.out _ hb8.drew).mono ?_)
           rintro e w8 ⟨rfl, es8, M8⟩))
      all_goals go_wp2_with fail
      all_goals go_meet
      all_goals exact ⟨_, _, by rw [HC0.out]; exact M8⟩
  case rest =>
    obtain ⟨n', es', hRB⟩ := hcut
    have RB := Lib.hid hRB
    have HEB := Lib.hid (HE.out.grown hRB.g h3)
    have HNC : Hid (hasKey (cookH H1) kTrailer = false) := Lib.hid (cook_has HNT.out (by decide))
    refine hK0 _ _ ?_
    exact tailY w0 _ Bx hb m n' es' s cl au (cookH H1) p conn hs hp hpr RB HEB hpath hproto HNC HE1 _ _ _ _ _ _ _ _ _ _ _ _ _ _ _ _ _ _ _ _ _ _ _ _ _ _ _ _ _ _ _ _ _ _ _ _ _ _ _ _ _ _ _ _ _ _ _ _ _ _ _ _ _ _ _ _ _ _ _ _ _ _ _ _ _ _ _ _ _ _ _ _ _ _ _ _ _ _ _ _ _ _ _ _ _ _ _ _ _ _ _ _ _ _ _ _ _ _ _ _ _ _ _ _ _ _ _ _ _ _ _ _ _ _ _ _ _ _ _ _ _ _ _ _ _ _ _ _ _ _ _ _ _ _ _ _ _ _ _ _ _ _ _ _ _ _ _ _ _ _ _ _ _ _ _ _ _ _ _ _ _ _ _ _ _ _ _ _ _ _ _ _ _ _ _ _ _ _ _ _ _ _ _ _ _ _ _ _ _ _ _ _ _ _ _ _ _ _ _ _ _ _ _ _ _ _ _ _ _ _ _ _ _ _ _ _ _ _ _ _ _ _ _ _ _ _ _ _ _ _ _ _ _ _ _ _ _ _ _ _ _ _ _ _ _ _ _ _ _ _ _ _ _ _ _ _ _ _ _ _ _ _ _ _ _ _ _ _ _ _ _ _ _ _
end Go.Proofs.YtgcfnhchmmkndaaGreatDoor
