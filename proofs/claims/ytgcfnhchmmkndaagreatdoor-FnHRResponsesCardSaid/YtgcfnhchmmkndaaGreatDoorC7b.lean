/- parseHeaders: what holds at the head of its loop. -/
import Derived.Test.YtgcfnhchmmkndaaGreatDoorC7e
namespace Go.Proofs.YtgcfnhchmmkndaaGreatDoor
open Go.RowKit Go.Maps
set_option linter.unusedVariables false
set_option maxRecDepth 100000

def firstLoop : Code → Option Code
  | .loop c => some c
  | .seq a b => match firstLoop a with
    | some c => some c
    | none => firstLoop b
  | .block _ c => firstLoop c
  | .scope c => firstLoop c
  | .cond _ a b => match firstLoop a with
    | some c => some c
    | none => firstLoop b
  | _ => none
/-- the loop's body -/
noncomputable def body56 : Code := (Tryz.f56.body.bind firstLoop).getD .skip
def NextRel (w : World) (req : Bool) (vOk : BS × BS → Bool) (l : List (BS × BS)) (Bx : Nat) (k : Nat) (s2 s11 s12 s13 s14 s15 : Value) (wx : World) : Prop :=
  ∃ n es s, s2 = .int .i64 (1048576 - (trSize (l.take k) : Nat)) ∧ s11 = .bool s.reg ∧ s12 = .bool s.hasCL ∧ s13 = .bool s.hasM ∧ s14 = .bool s.hasS ∧ s15 = str s.cls ∧ PSt w wx Bx k (l.drop k) n es s 0 ∧ psFold req vOk {} l = psFold req vOk s (l.drop k)
def EndRel (w : World) (req : Bool) (vOk : BS × BS → Bool) (l : List (BS × BS)) (Bx : Nat) (s15 : Value) (wx : World) : Prop := ∃ n es s rest, s15 = str s.cls ∧ psFold req vOk {} l = some s ∧ PSt w wx Bx l.length rest n es s 0
set_option maxHeartbeats 100000000 in
/-- the next round's start -/
def RN (w : World) (req : Bool) (vOk : BS × BS → Bool) (l : List (BS × BS)) (Bx : Nat) (k : Nat) (u4 u5 u6 u7 u22 u23 u24 u25 u205 u206 u207 u208 u209 u210 u211 u212 u213 u214 u215 u216 u217 u218 u219 u220 u221 u222 u223 u224 u225 : Value) (a' : Act) (w' : World) : Prop :=
  ∃ u2 u9 u11 u12 u13 u14 u15 u16 u17 u18 u19 u20 u21 u26 u27 u28 u29 u30 u31 u32 u33 u34 u35 u36 u37 u38 u39 u40 u41 u42 u43 u44 u45 u46 u47 u48 u49 u50 u51 u52 u53 u54 u55 u56 u57 u58 u59 u60 u61 u62 u63 u64 u65 u66 u67 u68 u69 u70 u71 u72 u73 u74 u75 u76 u77 u78 u79 u80 u81 u82 u83 u84 u85 u86 u87 u88 u89 u90 u91 u92 u93 u94 u95 u96 u97 u98 u99 u100 u101 u102 u103 u104 u105 u106 u107 u108 u109 u110 u111 u112 u113 u114 u115 u116 u117 u118 u119 u120 u121 u122 u123 u124 u125 u126 u127 u128 u129 u130 u131 u132 u133 u134 u135 u136 u137 u138 u139 u140 u141 u142 u143 u144 u145 u146 u147 u148 u149 u150 u151 u152 u153 u154 u155 u156 u157 u158 u159 u160 u161 u162 u163 u164 u165 u166 u167 u168 u169 u170 u171 u172 u173 u174 u175 u176 u177 u178 u179 u180 u181 u182 u183 u184 u185 u186 u187 u188 u189 u190 u191 u192 u193 u194 u195 u196 u197 u198 u199 u200 u201 u202 u203 u204 : Value, NextRel w req vOk l Bx (k + 1) u2 u11 u12 u13 u14 u15 w' ∧ a' = ⟨#[.func (.func 67) #[] #[.pointer (some ⟨Bx, 0, none⟩)], .bool req, u2, .pointer none, u4, u5, u6, u7, .pointer (some ⟨w.heap.size, 0, none⟩), u9, .pointer (some ⟨w.heap.size + 2, 0, none⟩), u11, u12, u13, u14, u15, u16, u17, u18, u19, u20, u21, u22, u23, u24, u25, u26, u27, u28, u29, u30, u31, u32, u33, u34, u35, u36, u37, u38, u39, u40, u41, u42, u43, u44, u45, u46, u47, u48, u49, u50, u51, u52, u53, u54, u55, u56, u57, u58, u59, u60, u61, u62, u63, u64, u65, u66, u67, u68, u69, u70, u71, u72, u73, u74, u75, u76, u77, u78, u79, u80, u81, u82, u83, u84, u85, u86, u87, u88, u89, u90, u91, u92, u93, u94, u95, u96, u97, u98, u99, u100, u101, u102, u103, u104, u105, u106, u107, u108, u109, u110, u111, u112, u113, u114, u115, u116, u117, u118, u119, u120, u121, u122, u123, u124, u125, u126, u127, u128, u129, u130, u131, u132, u133, u134, u135, u136, u137, u138, u139, u140, u141, u142, u143, u144, u145, u146, u147, u148, u149, u150, u151, u152, u153, u154, u155, u156, u157, u158, u159, u160, u161, u162, u163, u164, u165, u166, u167, u168, u169, u170, u171, u172, u173, u174, u175, u176, u177, u178, u179, u180, u181, u182, u183, u184, u185, u186, u187, u188, u189, u190, u191, u192, u193, u194, u195, u196, u197, u198, u199, u200, u201, u202, u203, u204, u205, u206, u207, u208, u209, u210, u211, u212, u213, u214, u215, u216, u217, u218, u219, u220, u221, u222, u223, u224, u225], []⟩
set_option maxHeartbeats 100000000 in
/-- the loop's exit -/
def RX (w : World) (req : Bool) (vOk : BS × BS → Bool) (l : List (BS × BS)) (Bx : Nat) (u4 u5 u6 u7 u22 u23 u24 u25 u205 u206 u207 u208 u209 u210 u211 u212 u213 u214 u215 u216 u217 u218 u219 u220 u221 u222 u223 u224 u225 : Value) (a' : Act) (w' : World) : Prop :=
  ∃ u2 u9 u11 u12 u13 u14 u15 u16 u17 u18 u19 u20 u21 u26 u27 u28 u29 u30 u31 u32 u33 u34 u35 u36 u37 u38 u39 u40 u41 u42 u43 u44 u45 u46 u47 u48 u49 u50 u51 u52 u53 u54 u55 u56 u57 u58 u59 u60 u61 u62 u63 u64 u65 u66 u67 u68 u69 u70 u71 u72 u73 u74 u75 u76 u77 u78 u79 u80 u81 u82 u83 u84 u85 u86 u87 u88 u89 u90 u91 u92 u93 u94 u95 u96 u97 u98 u99 u100 u101 u102 u103 u104 u105 u106 u107 u108 u109 u110 u111 u112 u113 u114 u115 u116 u117 u118 u119 u120 u121 u122 u123 u124 u125 u126 u127 u128 u129 u130 u131 u132 u133 u134 u135 u136 u137 u138 u139 u140 u141 u142 u143 u144 u145 u146 u147 u148 u149 u150 u151 u152 u153 u154 u155 u156 u157 u158 u159 u160 u161 u162 u163 u164 u165 u166 u167 u168 u169 u170 u171 u172 u173 u174 u175 u176 u177 u178 u179 u180 u181 u182 u183 u184 u185 u186 u187 u188 u189 u190 u191 u192 u193 u194 u195 u196 u197 u198 u199 u200 u201 u202 u203 u204 : Value, EndRel w req vOk l Bx u15 w' ∧ a' = ⟨#[.func (.func 67) #[] #[.pointer (some ⟨Bx, 0, none⟩)], .bool req, u2, .pointer none, u4, u5, u6, u7, .pointer (some ⟨w.heap.size, 0, none⟩), u9, .pointer (some ⟨w.heap.size + 2, 0, none⟩), u11, u12, u13, u14, u15, u16, u17, u18, u19, u20, u21, u22, u23, u24, u25, u26, u27, u28, u29, u30, u31, u32, u33, u34, u35, u36, u37, u38, u39, u40, u41, u42, u43, u44, u45, u46, u47, u48, u49, u50, u51, u52, u53, u54, u55, u56, u57, u58, u59, u60, u61, u62, u63, u64, u65, u66, u67, u68, u69, u70, u71, u72, u73, u74, u75, u76, u77, u78, u79, u80, u81, u82, u83, u84, u85, u86, u87, u88, u89, u90, u91, u92, u93, u94, u95, u96, u97, u98, u99, u100, u101, u102, u103, u104, u105, u106, u107, u108, u109, u110, u111, u112, u113, u114, u115, u116, u117, u118, u119, u120, u121, u122, u123, u124, u125, u126, u127, u128, u129, u130, u131, u132, u133, u134, u135, u136, u137, u138, u139, u140, u141, u142, u143, u144, u145, u146, u147, u148, u149, u150, u151, u152, u153, u154, u155, u156, u157, u158, u159, u160, u161, u162, u163, u164, u165, u166, u167, u168, u169, u170, u171, u172, u173, u174, u175, u176, u177, u178, u179, u180, u181, u182, u183, u184, u185, u186, u187, u188, u189, u190, u191, u192, u193, u194, u195, u196, u197, u198, u199, u200, u201, u202, u203, u204, u205, u206, u207, u208, u209, u210, u211, u212, u213, u214, u215, u216, u217, u218, u219, u220, u221, u222, u223, u224, u225], []⟩

set_option maxHeartbeats 100000000 in
theorem bad56 (J : Act → World → Prop) (Q0 : Exit → Act → World → Prop) (w : World) (req : Bool) (vOk : BS × BS → Bool) (l : List (BS × BS)) (Bx : Nat) (k : Nat) (p : Addr) (wr : World) (n : Nat) (es : List Ent) (s : PS) (nm : BS) (vl : BS) (S : Nat)
    (HS : Hid (PSt w wr Bx k ((nm, vl) :: l.drop (k + 1)) n es s 0)) (HEx : Hid (Env wr p)) (hBw : Bx < w.heap.size) (h3 : 3 ≤ Bx) (hlen : l.length ≤ 32768) (hkl : k < l.length)
    (HTK : Hid (l.take (k + 1) = l.take k ++ [(nm, vl)])) (HSS : Hid (trSize (l.take k) = S)) (hsz : S + (nm.length + vl.length + 32) ≤ 1048576)
    (HFO1 : Hid (psFold req vOk {} l = (psStep req vOk s (nm, vl)).bind fun s' => psFold req vOk s' (l.drop (k + 1))))
    (HKV : Hid (∀ W, Env W p → w.grownBy W (some Bx) → Calls Tryz.prog 68 #[fldV nm vl] W (ErrPost W false))) (HN : Hid (psAll req vOk l = none))
     
    (u4 u5 u6 u7 u9 u16 u17 u18 u19 u20 u21 u22 u23 u24 u25 u26 u27 u28 u29 u30 u31 u32 u33 u34 u35 u36 u37 u38 u39 u40 u41 u42 u43 u44 u45 u46 u47 u48 u49 u50 u51 u52 u53 u54 u55 u56 u57 u58 u59 u60 u61 u62 u63 u64 u65 u66 u67 u68 u69 u70 u71 u72 u73 u74 u75 u76 u77 u78 u79 u80 u81 u82 u83 u84 u85 u86 u87 u88 u89 u90 u91 u92 u93 u94 u95 u96 u97 u98 u99 u100 u101 u102 u103 u104 u105 u106 u107 u108 u109 u110 u111 u112 u113 u114 u115 u116 u117 u118 u119 u120 u121 u122 u123 u124 u125 u126 u127 u128 u129 u130 u131 u132 u133 u134 u135 u136 u137 u138 u139 u140 u141 u142 u143 u144 u145 u146 u147 u148 u149 u150 u151 u152 u153 u154 u155 u156 u157 u158 u159 u160 u161 u162 u163 u164 u165 u166 u167 u168 u169 u170 u171 u172 u173 u174 u175 u176 u177 u178 u179 u180 u181 u182 u183 u184 u185 u186 u187 u188 u189 u190 u191 u192 u193 u194 u195 u196 u197 u198 u199 u200 u201 u202 u203 u204 u205 u206 u207 u208 u209 u210 u211 u212 u213 u214 u215 u216 u217 u218 u219 u220 u221 u222 u223 u224 u225 : Value) (hJ : ∀ a w1, RN w req vOk l Bx k u4 u5 u6 u7 u22 u23 u24 u25 u205 u206 u207 u208 u209 u210 u211 u212 u213 u214 u215 u216 u217 u218 u219 u220 u221 u222 u223 u224 u225 a w1 → J a w1) (hR : ∀ a w1, bodyPost Tryz.prog Tryz.f56 (HPost w req vOk l Bx) .ret a w1 → Q0 .ret a w1) :
    Code.wp Tryz.prog body56 (Exit.then J Q0) ⟨#[.func (.func 67) #[] #[.pointer (some ⟨Bx, 0, none⟩)], .bool req, .int .i64 (1048576 - (S : Int)), .pointer none, u4, u5, u6, u7, .pointer (some ⟨w.heap.size, 0, none⟩), u9, .pointer (some ⟨w.heap.size + 2, 0, none⟩), .bool s.reg, .bool s.hasCL, .bool s.hasM, .bool s.hasS, str s.cls, u16, u17, u18, u19, u20, u21, u22, u23, u24, u25, u26, u27, u28, u29, u30, u31, u32, u33, u34, u35, u36, u37, u38, u39, u40, u41, u42, u43, u44, u45, u46, u47, u48, u49, u50, u51, u52, u53, u54, u55, u56, u57, u58, u59, u60, u61, u62, u63, u64, u65, u66, u67, u68, u69, u70, u71, u72, u73, u74, u75, u76, u77, u78, u79, u80, u81, u82, u83, u84, u85, u86, u87, u88, u89, u90, u91, u92, u93, u94, u95, u96, u97, u98, u99, u100, u101, u102, u103, u104, u105, u106, u107, u108, u109, u110, u111, u112, u113, u114, u115, u116, u117, u118, u119, u120, u121, u122, u123, u124, u125, u126, u127, u128, u129, u130, u131, u132, u133, u134, u135, u136, u137, u138, u139, u140, u141, u142, u143, u144, u145, u146, u147, u148, u149, u150, u151, u152, u153, u154, u155, u156, u157, u158, u159, u160, u161, u162, u163, u164, u165, u166, u167, u168, u169, u170, u171, u172, u173, u174, u175, u176, u177, u178, u179, u180, u181, u182, u183, u184, u185, u186, u187, u188, u189, u190, u191, u192, u193, u194, u195, u196, u197, u198, u199, u200, u201, u202, u203, u204, u205, u206, u207, u208, u209, u210, u211, u212, u213, u214, u215, u216, u217, u218, u219, u220, u221, u222, u223, u224, u225], []⟩ wr := by
  conv => arg 2; whnf
  conv => arg 4; zeta
  have hge := HS.out.ge
  have KN := next_cons Bx nm vl (l.drop (k + 1)) wr HS.out.feed (by rw [List.length_drop]; omega)
  have hn1 : nm.length ≤ 1048576 := by omega
  have hv1 : vl.length ≤ 1048576 := by omega
  have b1 : (0 : Int) ≤ 1048576 - (S : Int) := by omega
  have b2 : (1048576 - (S : Int)) ≤ 1048576 := by omega
  have b3 : (0 : Int) ≤ 1048576 - (S : Int) - ((nm.length : Int) + (vl.length : Int) + 32) := by omega
  go_wp2_with fail
  refine KN.mono ?_
  rintro e w1 ⟨rfl, hfeed, hg1⟩
  have M1 := Lib.hid (HS.out.read hBw hfeed hg1)
  have HE1 := Lib.hid (HEx.out.grown hg1 h3)
  clear hfeed hg1 KN HS
  have HB2 := Lib.hid (below_new w1 (.cells #[str nm, str vl] 103))
  have X0 : Hid ((w1.alloc (.cells #[str nm, str vl] 103)).cell? ⟨w1.heap.size, 0, none⟩ = some (str nm)) := Lib.hid (by simp)
  have X1 : Hid ((w1.alloc (.cells #[str nm, str vl] 103)).cell? ⟨w1.heap.size, 1, none⟩ = some (str vl)) := Lib.hid (by simp)
  have KV := HKV.out _ (HE1.out.cut HB2.out HE1.out.ge) (M1.out.g.trans ((grown_below HB2.out).but _))
  clear HKV
  unfold fldV at KV
  go_upto_region 11 with fail
  go_wp2_with fail
  refine KV.mono ?_
  rintro e w3 ⟨v3, rfl, hv3, hb3⟩
  have c0 := (hb3.cell (p := ⟨w1.heap.size, 0, none⟩) (by simp)).trans X0.out
  have c1 := (hb3.cell (p := ⟨w1.heap.size, 1, none⟩) (by simp)).trans X1.out
  have HB3 := Lib.hid (Below.next HB2.out HB2.out.size hb3)
  have hz3 : w1.heap.size < w3.heap.size := by have := hb3.size; simp at this; omega
  clear hb3 KV
  obtain ⟨p3, rfl⟩ := hv3
  have M := M1.out.below HB3.out
  have hex := put8_cell w3 w.heap.size {} 0 (.map none) M.rex
  have HTH := Lib.hid M.there
  have HFl := Lib.hid (M.fail (req := req) (vOk := vOk) (l := l) HN.out (.iface 136 (.pointer (some p3))) ⟨_, rfl⟩)
  have HX := Lib.hid hex
  clear hex M
  go_wp2_with (refine wpList_store8 rfl _ rfl w.heap.size {} 0 (.map none) rfl rfl HTH.out rfl ?_)
  have x0 := HX.out 0 _ rfl
  have x1 := HX.out 1 _ rfl
  have x2 := HX.out 2 _ rfl
  have x3 := HX.out 3 _ rfl
  have x4 := HX.out 4 _ rfl
  have x5 := HX.out 5 _ rfl
  have x6 := HX.out 6 _ rfl
  have x7 := HX.out 7 _ rfl
  exact ⟨rfl, _, (show _ = Result.ok (Value.tuple #[.agg (hcl {} 0 (.map none)).toArray, .iface 136 (.pointer (some p3))]) _ by simp [results, Tryz.results56, go_sem, x0, x1, x2, x3, x4, x5, x6, x7]; rfl), HFl.out⟩
set_option maxHeartbeats 100000000 in
theorem late56 (J : Act → World → Prop) (Q0 : Exit → Act → World → Prop) (w : World) (req : Bool) (vOk : BS × BS → Bool) (l : List (BS × BS)) (Bx : Nat) (k : Nat) (p : Addr) (wr : World) (n : Nat) (es : List Ent) (s : PS) (nm : BS) (vl : BS) (S : Nat)
    (HS : Hid (PSt w wr Bx k ((nm, vl) :: l.drop (k + 1)) n es s 0)) (HEx : Hid (Env wr p)) (hBw : Bx < w.heap.size) (h3 : 3 ≤ Bx) (hlen : l.length ≤ 32768) (hkl : k < l.length)
    (HTK : Hid (l.take (k + 1) = l.take k ++ [(nm, vl)])) (HSS : Hid (trSize (l.take k) = S)) (hsz : S + (nm.length + vl.length + 32) ≤ 1048576)
    (HFO1 : Hid (psFold req vOk {} l = (psStep req vOk s (nm, vl)).bind fun s' => psFold req vOk s' (l.drop (k + 1))))
    (HKV : Hid (∀ W, Env W p → w.grownBy W (some Bx) → Calls Tryz.prog 68 #[fldV nm vl] W (ErrPost W true))) (hf2 : pseudoB nm = true) (hr : s.reg = true) (HN : Hid (psAll req vOk l = none))
     
    (u4 u5 u6 u7 u9 u16 u17 u18 u19 u20 u21 u22 u23 u24 u25 u26 u27 u28 u29 u30 u31 u32 u33 u34 u35 u36 u37 u38 u39 u40 u41 u42 u43 u44 u45 u46 u47 u48 u49 u50 u51 u52 u53 u54 u55 u56 u57 u58 u59 u60 u61 u62 u63 u64 u65 u66 u67 u68 u69 u70 u71 u72 u73 u74 u75 u76 u77 u78 u79 u80 u81 u82 u83 u84 u85 u86 u87 u88 u89 u90 u91 u92 u93 u94 u95 u96 u97 u98 u99 u100 u101 u102 u103 u104 u105 u106 u107 u108 u109 u110 u111 u112 u113 u114 u115 u116 u117 u118 u119 u120 u121 u122 u123 u124 u125 u126 u127 u128 u129 u130 u131 u132 u133 u134 u135 u136 u137 u138 u139 u140 u141 u142 u143 u144 u145 u146 u147 u148 u149 u150 u151 u152 u153 u154 u155 u156 u157 u158 u159 u160 u161 u162 u163 u164 u165 u166 u167 u168 u169 u170 u171 u172 u173 u174 u175 u176 u177 u178 u179 u180 u181 u182 u183 u184 u185 u186 u187 u188 u189 u190 u191 u192 u193 u194 u195 u196 u197 u198 u199 u200 u201 u202 u203 u204 u205 u206 u207 u208 u209 u210 u211 u212 u213 u214 u215 u216 u217 u218 u219 u220 u221 u222 u223 u224 u225 : Value) (hJ : ∀ a w1, RN w req vOk l Bx k u4 u5 u6 u7 u22 u23 u24 u25 u205 u206 u207 u208 u209 u210 u211 u212 u213 u214 u215 u216 u217 u218 u219 u220 u221 u222 u223 u224 u225 a w1 → J a w1) (hR : ∀ a w1, bodyPost Tryz.prog Tryz.f56 (HPost w req vOk l Bx) .ret a w1 → Q0 .ret a w1) :
    Code.wp Tryz.prog body56 (Exit.then J Q0) ⟨#[.func (.func 67) #[] #[.pointer (some ⟨Bx, 0, none⟩)], .bool req, .int .i64 (1048576 - (S : Int)), .pointer none, u4, u5, u6, u7, .pointer (some ⟨w.heap.size, 0, none⟩), u9, .pointer (some ⟨w.heap.size + 2, 0, none⟩), .bool s.reg, .bool s.hasCL, .bool s.hasM, .bool s.hasS, str s.cls, u16, u17, u18, u19, u20, u21, u22, u23, u24, u25, u26, u27, u28, u29, u30, u31, u32, u33, u34, u35, u36, u37, u38, u39, u40, u41, u42, u43, u44, u45, u46, u47, u48, u49, u50, u51, u52, u53, u54, u55, u56, u57, u58, u59, u60, u61, u62, u63, u64, u65, u66, u67, u68, u69, u70, u71, u72, u73, u74, u75, u76, u77, u78, u79, u80, u81, u82, u83, u84, u85, u86, u87, u88, u89, u90, u91, u92, u93, u94, u95, u96, u97, u98, u99, u100, u101, u102, u103, u104, u105, u106, u107, u108, u109, u110, u111, u112, u113, u114, u115, u116, u117, u118, u119, u120, u121, u122, u123, u124, u125, u126, u127, u128, u129, u130, u131, u132, u133, u134, u135, u136, u137, u138, u139, u140, u141, u142, u143, u144, u145, u146, u147, u148, u149, u150, u151, u152, u153, u154, u155, u156, u157, u158, u159, u160, u161, u162, u163, u164, u165, u166, u167, u168, u169, u170, u171, u172, u173, u174, u175, u176, u177, u178, u179, u180, u181, u182, u183, u184, u185, u186, u187, u188, u189, u190, u191, u192, u193, u194, u195, u196, u197, u198, u199, u200, u201, u202, u203, u204, u205, u206, u207, u208, u209, u210, u211, u212, u213, u214, u215, u216, u217, u218, u219, u220, u221, u222, u223, u224, u225], []⟩ wr := by
  conv => arg 2; whnf
  conv => arg 4; zeta
  rw [hr]
  have hge := HS.out.ge
  have KN := next_cons Bx nm vl (l.drop (k + 1)) wr HS.out.feed (by rw [List.length_drop]; omega)
  have hn1 : nm.length ≤ 1048576 := by omega
  have hv1 : vl.length ≤ 1048576 := by omega
  have b1 : (0 : Int) ≤ 1048576 - (S : Int) := by omega
  have b2 : (1048576 - (S : Int)) ≤ 1048576 := by omega
  have b3 : (0 : Int) ≤ 1048576 - (S : Int) - ((nm.length : Int) + (vl.length : Int) + 32) := by omega
  go_wp2_with fail
  refine KN.mono ?_
  rintro e w1 ⟨rfl, hfeed, hg1⟩
  have M1 := Lib.hid (HS.out.read hBw hfeed hg1)
  have HE1 := Lib.hid (HEx.out.grown hg1 h3)
  clear hfeed hg1 KN HS
  have HB2 := Lib.hid (below_new w1 (.cells #[str nm, str vl] 103))
  have X0 : Hid ((w1.alloc (.cells #[str nm, str vl] 103)).cell? ⟨w1.heap.size, 0, none⟩ = some (str nm)) := Lib.hid (by simp)
  have X1 : Hid ((w1.alloc (.cells #[str nm, str vl] 103)).cell? ⟨w1.heap.size, 1, none⟩ = some (str vl)) := Lib.hid (by simp)
  have KV := HKV.out _ (HE1.out.cut HB2.out HE1.out.ge) (M1.out.g.trans ((grown_below HB2.out).but _))
  clear HKV
  have KP := fun w => pseudo_at nm vl w
  rw [hf2] at KP
  unfold fldV at KV KP
  go_upto_region 11 with fail
  go_wp2_with fail
  refine KV.mono ?_
  rintro e w3 ⟨v3, rfl, hv3, hb3⟩
  have c0 := (hb3.cell (p := ⟨w1.heap.size, 0, none⟩) (by simp)).trans X0.out
  have c1 := (hb3.cell (p := ⟨w1.heap.size, 1, none⟩) (by simp)).trans X1.out
  have HB3 := Lib.hid (Below.next HB2.out HB2.out.size hb3)
  have hz3 : w1.heap.size < w3.heap.size := by have := hb3.size; simp at this; omega
  clear hb3 KV
  obtain rfl : v3 = .nilIface := hv3
  go_wp2_with fail
  refine (KP _).mono ?_
  rintro e w4 ⟨rfl, hb4⟩
  have d0 := (hb4.cell (p := ⟨w1.heap.size, 0, none⟩) hz3).trans c0
  have d1 := (hb4.cell (p := ⟨w1.heap.size, 1, none⟩) hz3).trans c1
  have HB4 := Lib.hid (Below.next HB3.out HB3.out.size hb4)
  have M4 := Lib.hid (M1.out.below HB4.out)
  have hz4 : w1.heap.size < w4.heap.size := Nat.lt_of_lt_of_le hz3 hb4.size
  have hw1 := M1.out.ge
  clear hb4 c0 c1
  go_wp2_with fail
  refine (new_at' _ _).mono ?_
  rintro e w9 ⟨q9, rfl, hb9⟩
  have M := (M4.out).below hb9
  clear hb9
  have hex := put8_cell w9 w.heap.size {} 0 (.map none) M.rex
  have HTH := Lib.hid M.there
  have HFl := Lib.hid (M.fail (req := req) (vOk := vOk) (l := l) HN.out (.iface 136 (.pointer (some q9))) ⟨_, rfl⟩)
  have HX := Lib.hid hex
  clear hex M
  go_wp2_with (refine wpList_store8 rfl _ rfl w.heap.size {} 0 (.map none) rfl rfl HTH.out rfl ?_)
  have x0 := HX.out 0 _ rfl
  have x1 := HX.out 1 _ rfl
  have x2 := HX.out 2 _ rfl
  have x3 := HX.out 3 _ rfl
  have x4 := HX.out 4 _ rfl
  have x5 := HX.out 5 _ rfl
  have x6 := HX.out 6 _ rfl
  have x7 := HX.out 7 _ rfl
  exact ⟨rfl, _, (show _ = Result.ok (Value.tuple #[.agg (hcl {} 0 (.map none)).toArray, .iface 136 (.pointer (some q9))]) _ by simp [results, Tryz.results56, go_sem, x0, x1, x2, x3, x4, x5, x6, x7]; rfl), HFl.out⟩
set_option maxHeartbeats 100000000 in
theorem unk56 (J : Act → World → Prop) (Q0 : Exit → Act → World → Prop) (w : World) (req : Bool) (vOk : BS × BS → Bool) (l : List (BS × BS)) (Bx : Nat) (k : Nat) (p : Addr) (wr : World) (n : Nat) (es : List Ent) (s : PS) (nm : BS) (vl : BS) (S : Nat)
    (HS : Hid (PSt w wr Bx k ((nm, vl) :: l.drop (k + 1)) n es s 0)) (HEx : Hid (Env wr p)) (hBw : Bx < w.heap.size) (h3 : 3 ≤ Bx) (hlen : l.length ≤ 32768) (hkl : k < l.length)
    (HTK : Hid (l.take (k + 1) = l.take k ++ [(nm, vl)])) (HSS : Hid (trSize (l.take k) = S)) (hsz : S + (nm.length + vl.length + 32) ≤ 1048576)
    (HFO1 : Hid (psFold req vOk {} l = (psStep req vOk s (nm, vl)).bind fun s' => psFold req vOk s' (l.drop (k + 1))))
    (HKV : Hid (∀ W, Env W p → w.grownBy W (some Bx) → Calls Tryz.prog 68 #[fldV nm vl] W (ErrPost W true))) (hf2 : pseudoB nm = true) (hr : s.reg = false) (y0 : (nm == [58, 112, 97, 116, 104]) = false) (y1 : (nm == [58, 109, 101, 116, 104, 111, 100]) = false) (y2 : (nm == [58, 97, 117, 116, 104, 111, 114, 105, 116, 121]) = false) (y3 : (nm == [58, 112, 114, 111, 116, 111, 99, 111, 108]) = false) (y4 : (nm == [58, 115, 99, 104, 101, 109, 101]) = false) (y5 : (nm == [58, 115, 116, 97, 116, 117, 115]) = false) (HN : Hid (psAll req vOk l = none))
     
    (u4 u5 u6 u7 u9 u16 u17 u18 u19 u20 u21 u22 u23 u24 u25 u26 u27 u28 u29 u30 u31 u32 u33 u34 u35 u36 u37 u38 u39 u40 u41 u42 u43 u44 u45 u46 u47 u48 u49 u50 u51 u52 u53 u54 u55 u56 u57 u58 u59 u60 u61 u62 u63 u64 u65 u66 u67 u68 u69 u70 u71 u72 u73 u74 u75 u76 u77 u78 u79 u80 u81 u82 u83 u84 u85 u86 u87 u88 u89 u90 u91 u92 u93 u94 u95 u96 u97 u98 u99 u100 u101 u102 u103 u104 u105 u106 u107 u108 u109 u110 u111 u112 u113 u114 u115 u116 u117 u118 u119 u120 u121 u122 u123 u124 u125 u126 u127 u128 u129 u130 u131 u132 u133 u134 u135 u136 u137 u138 u139 u140 u141 u142 u143 u144 u145 u146 u147 u148 u149 u150 u151 u152 u153 u154 u155 u156 u157 u158 u159 u160 u161 u162 u163 u164 u165 u166 u167 u168 u169 u170 u171 u172 u173 u174 u175 u176 u177 u178 u179 u180 u181 u182 u183 u184 u185 u186 u187 u188 u189 u190 u191 u192 u193 u194 u195 u196 u197 u198 u199 u200 u201 u202 u203 u204 u205 u206 u207 u208 u209 u210 u211 u212 u213 u214 u215 u216 u217 u218 u219 u220 u221 u222 u223 u224 u225 : Value) (hJ : ∀ a w1, RN w req vOk l Bx k u4 u5 u6 u7 u22 u23 u24 u25 u205 u206 u207 u208 u209 u210 u211 u212 u213 u214 u215 u216 u217 u218 u219 u220 u221 u222 u223 u224 u225 a w1 → J a w1) (hR : ∀ a w1, bodyPost Tryz.prog Tryz.f56 (HPost w req vOk l Bx) .ret a w1 → Q0 .ret a w1) :
    Code.wp Tryz.prog body56 (Exit.then J Q0) ⟨#[.func (.func 67) #[] #[.pointer (some ⟨Bx, 0, none⟩)], .bool req, .int .i64 (1048576 - (S : Int)), .pointer none, u4, u5, u6, u7, .pointer (some ⟨w.heap.size, 0, none⟩), u9, .pointer (some ⟨w.heap.size + 2, 0, none⟩), .bool s.reg, .bool s.hasCL, .bool s.hasM, .bool s.hasS, str s.cls, u16, u17, u18, u19, u20, u21, u22, u23, u24, u25, u26, u27, u28, u29, u30, u31, u32, u33, u34, u35, u36, u37, u38, u39, u40, u41, u42, u43, u44, u45, u46, u47, u48, u49, u50, u51, u52, u53, u54, u55, u56, u57, u58, u59, u60, u61, u62, u63, u64, u65, u66, u67, u68, u69, u70, u71, u72, u73, u74, u75, u76, u77, u78, u79, u80, u81, u82, u83, u84, u85, u86, u87, u88, u89, u90, u91, u92, u93, u94, u95, u96, u97, u98, u99, u100, u101, u102, u103, u104, u105, u106, u107, u108, u109, u110, u111, u112, u113, u114, u115, u116, u117, u118, u119, u120, u121, u122, u123, u124, u125, u126, u127, u128, u129, u130, u131, u132, u133, u134, u135, u136, u137, u138, u139, u140, u141, u142, u143, u144, u145, u146, u147, u148, u149, u150, u151, u152, u153, u154, u155, u156, u157, u158, u159, u160, u161, u162, u163, u164, u165, u166, u167, u168, u169, u170, u171, u172, u173, u174, u175, u176, u177, u178, u179, u180, u181, u182, u183, u184, u185, u186, u187, u188, u189, u190, u191, u192, u193, u194, u195, u196, u197, u198, u199, u200, u201, u202, u203, u204, u205, u206, u207, u208, u209, u210, u211, u212, u213, u214, u215, u216, u217, u218, u219, u220, u221, u222, u223, u224, u225], []⟩ wr := by
  conv => arg 2; whnf
  conv => arg 4; zeta
  rw [hr]
  have hge := HS.out.ge
  have KN := next_cons Bx nm vl (l.drop (k + 1)) wr HS.out.feed (by rw [List.length_drop]; omega)
  have hn1 : nm.length ≤ 1048576 := by omega
  have hv1 : vl.length ≤ 1048576 := by omega
  have b1 : (0 : Int) ≤ 1048576 - (S : Int) := by omega
  have b2 : (1048576 - (S : Int)) ≤ 1048576 := by omega
  have b3 : (0 : Int) ≤ 1048576 - (S : Int) - ((nm.length : Int) + (vl.length : Int) + 32) := by omega
  go_wp2_with fail
  refine KN.mono ?_
  rintro e w1 ⟨rfl, hfeed, hg1⟩
  have M1 := Lib.hid (HS.out.read hBw hfeed hg1)
  have HE1 := Lib.hid (HEx.out.grown hg1 h3)
  clear hfeed hg1 KN HS
  have HB2 := Lib.hid (below_new w1 (.cells #[str nm, str vl] 103))
  have X0 : Hid ((w1.alloc (.cells #[str nm, str vl] 103)).cell? ⟨w1.heap.size, 0, none⟩ = some (str nm)) := Lib.hid (by simp)
  have X1 : Hid ((w1.alloc (.cells #[str nm, str vl] 103)).cell? ⟨w1.heap.size, 1, none⟩ = some (str vl)) := Lib.hid (by simp)
  have KV := HKV.out _ (HE1.out.cut HB2.out HE1.out.ge) (M1.out.g.trans ((grown_below HB2.out).but _))
  clear HKV
  have KP := fun w => pseudo_at nm vl w
  rw [hf2] at KP
  unfold fldV at KV KP
  go_upto_region 11 with fail
  go_wp2_with fail
  refine KV.mono ?_
  rintro e w3 ⟨v3, rfl, hv3, hb3⟩
  have c0 := (hb3.cell (p := ⟨w1.heap.size, 0, none⟩) (by simp)).trans X0.out
  have c1 := (hb3.cell (p := ⟨w1.heap.size, 1, none⟩) (by simp)).trans X1.out
  have HB3 := Lib.hid (Below.next HB2.out HB2.out.size hb3)
  have hz3 : w1.heap.size < w3.heap.size := by have := hb3.size; simp at this; omega
  clear hb3 KV
  obtain rfl : v3 = .nilIface := hv3
  go_wp2_with fail
  refine (KP _).mono ?_
  rintro e w4 ⟨rfl, hb4⟩
  have d0 := (hb4.cell (p := ⟨w1.heap.size, 0, none⟩) hz3).trans c0
  have d1 := (hb4.cell (p := ⟨w1.heap.size, 1, none⟩) hz3).trans c1
  have HB4 := Lib.hid (Below.next HB3.out HB3.out.size hb4)
  have M4 := Lib.hid (M1.out.below HB4.out)
  have hz4 : w1.heap.size < w4.heap.size := Nat.lt_of_lt_of_le hz3 hb4.size
  have hw1 := M1.out.ge
  clear hb4 c0 c1
  go_wp2_with fail
  refine (new_at' _ _).mono ?_
  rintro e w9 ⟨q9, rfl, hb9⟩
  have M := (M4.out).below hb9
  clear hb9
  have hex := put8_cell w9 w.heap.size {} 0 (.map none) M.rex
  have HTH := Lib.hid M.there
  have HFl := Lib.hid (M.fail (req := req) (vOk := vOk) (l := l) HN.out (.iface 136 (.pointer (some q9))) ⟨_, rfl⟩)
  have HX := Lib.hid hex
  clear hex M
  go_wp2_with (refine wpList_store8 rfl _ rfl w.heap.size {} 0 (.map none) rfl rfl HTH.out rfl ?_)
  have x0 := HX.out 0 _ rfl
  have x1 := HX.out 1 _ rfl
  have x2 := HX.out 2 _ rfl
  have x3 := HX.out 3 _ rfl
  have x4 := HX.out 4 _ rfl
  have x5 := HX.out 5 _ rfl
  have x6 := HX.out 6 _ rfl
  have x7 := HX.out 7 _ rfl
  exact ⟨rfl, _, (show _ = Result.ok (Value.tuple #[.agg (hcl {} 0 (.map none)).toArray, .iface 136 (.pointer (some q9))]) _ by simp [results, Tryz.results56, go_sem, x0, x1, x2, x3, x4, x5, x6, x7]; rfl), HFl.out⟩
set_option maxHeartbeats 100000000 in
theorem end56 (Q0 : Exit → Act → World → Prop) (J : Act → World → Prop) (w : World) (req : Bool) (vOk : BS × BS → Bool) (l : List (BS × BS)) (Bx : Nat) (p : Addr) (wr : World) (n : Nat) (es : List Ent) (s : PS) (s2 : Value)
    (HS : Hid (PSt w wr Bx l.length [] n es s 0)) (HEx : Hid (Env wr p)) (hfo : psFold req vOk {} l = some s)
    (u4 u5 u6 u7 u9 u16 u17 u18 u19 u20 u21 u22 u23 u24 u25 u26 u27 u28 u29 u30 u31 u32 u33 u34 u35 u36 u37 u38 u39 u40 u41 u42 u43 u44 u45 u46 u47 u48 u49 u50 u51 u52 u53 u54 u55 u56 u57 u58 u59 u60 u61 u62 u63 u64 u65 u66 u67 u68 u69 u70 u71 u72 u73 u74 u75 u76 u77 u78 u79 u80 u81 u82 u83 u84 u85 u86 u87 u88 u89 u90 u91 u92 u93 u94 u95 u96 u97 u98 u99 u100 u101 u102 u103 u104 u105 u106 u107 u108 u109 u110 u111 u112 u113 u114 u115 u116 u117 u118 u119 u120 u121 u122 u123 u124 u125 u126 u127 u128 u129 u130 u131 u132 u133 u134 u135 u136 u137 u138 u139 u140 u141 u142 u143 u144 u145 u146 u147 u148 u149 u150 u151 u152 u153 u154 u155 u156 u157 u158 u159 u160 u161 u162 u163 u164 u165 u166 u167 u168 u169 u170 u171 u172 u173 u174 u175 u176 u177 u178 u179 u180 u181 u182 u183 u184 u185 u186 u187 u188 u189 u190 u191 u192 u193 u194 u195 u196 u197 u198 u199 u200 u201 u202 u203 u204 u205 u206 u207 u208 u209 u210 u211 u212 u213 u214 u215 u216 u217 u218 u219 u220 u221 u222 u223 u224 u225 : Value) (hX : ∀ a w1, RX w req vOk l Bx u4 u5 u6 u7 u22 u23 u24 u25 u205 u206 u207 u208 u209 u210 u211 u212 u213 u214 u215 u216 u217 u218 u219 u220 u221 u222 u223 u224 u225 a w1 → Q0 (.exit 0) a w1) :
    Code.wp Tryz.prog body56 (Exit.then J Q0) ⟨#[.func (.func 67) #[] #[.pointer (some ⟨Bx, 0, none⟩)], .bool req, s2, .pointer none, u4, u5, u6, u7, .pointer (some ⟨w.heap.size, 0, none⟩), u9, .pointer (some ⟨w.heap.size + 2, 0, none⟩), .bool s.reg, .bool s.hasCL, .bool s.hasM, .bool s.hasS, str s.cls, u16, u17, u18, u19, u20, u21, u22, u23, u24, u25, u26, u27, u28, u29, u30, u31, u32, u33, u34, u35, u36, u37, u38, u39, u40, u41, u42, u43, u44, u45, u46, u47, u48, u49, u50, u51, u52, u53, u54, u55, u56, u57, u58, u59, u60, u61, u62, u63, u64, u65, u66, u67, u68, u69, u70, u71, u72, u73, u74, u75, u76, u77, u78, u79, u80, u81, u82, u83, u84, u85, u86, u87, u88, u89, u90, u91, u92, u93, u94, u95, u96, u97, u98, u99, u100, u101, u102, u103, u104, u105, u106, u107, u108, u109, u110, u111, u112, u113, u114, u115, u116, u117, u118, u119, u120, u121, u122, u123, u124, u125, u126, u127, u128, u129, u130, u131, u132, u133, u134, u135, u136, u137, u138, u139, u140, u141, u142, u143, u144, u145, u146, u147, u148, u149, u150, u151, u152, u153, u154, u155, u156, u157, u158, u159, u160, u161, u162, u163, u164, u165, u166, u167, u168, u169, u170, u171, u172, u173, u174, u175, u176, u177, u178, u179, u180, u181, u182, u183, u184, u185, u186, u187, u188, u189, u190, u191, u192, u193, u194, u195, u196, u197, u198, u199, u200, u201, u202, u203, u204, u205, u206, u207, u208, u209, u210, u211, u212, u213, u214, u215, u216, u217, u218, u219, u220, u221, u222, u223, u224, u225], []⟩ wr := by
  conv => arg 2; whnf
  conv => arg 4; zeta
  have KN := next_nil Bx p wr HS.out.feed HEx.out.eof (by have := HEx.out.ge; omega)
  go_wp2_with fail
  refine KN.mono ?_
  rintro e w1 ⟨rfl, hb1⟩
  have e0 := (hb1.cell (p := ⟨0, 0, none⟩) (by have := HEx.out.ge; show 0 < _; omega)).trans HEx.out.eof
  have hz1 : 0 < w1.heap.size := by have := HEx.out.ge; have := hb1.size; omega
  have M1 := Lib.hid ((HS.out.below hb1).below (below_new w1 (.cells #[str [], str []] 103)))
  have hq := eql_same
  clear KN
  go_wp2_with fail
  unfold RX
  (repeat apply Exists.intro)
  refine ⟨⟨n, es, s, _, rfl, hfo, M1.out⟩, rfl⟩
end Go.Proofs.YtgcfnhchmmkndaaGreatDoor
