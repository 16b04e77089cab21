/- parseHeaders: rounds of regular fields that fail or tell a length. -/
import Derived.Test.YtgcfnhchmmkndaaGreatDoorC7b
namespace Go.Proofs.YtgcfnhchmmkndaaGreatDoor
open Go.RowKit Go.Maps
set_option linter.unusedVariables false
set_option maxRecDepth 100000

set_option maxHeartbeats 100000000 in
theorem rbad56 (J : Act → World → Prop) (Q0 : Exit → Act → World → Prop) (w : World) (req : Bool) (vOk : BS × BS → Bool) (l : List (BS × BS)) (Bx : Nat) (k : Nat) (p : Addr) (wr : World) (n : Nat) (es : List Ent) (s : PS) (nm : BS) (vl : BS) (S : Nat)
    (HS : Hid (PSt w wr Bx k ((nm, vl) :: l.drop (k + 1)) n es s 0)) (HEx : Hid (Env wr p)) (hBw : Bx < w.heap.size) (h3 : 3 ≤ Bx) (hlen : l.length ≤ 32768) (hkl : k < l.length)
    (HTK : Hid (l.take (k + 1) = l.take k ++ [(nm, vl)])) (HSS : Hid (trSize (l.take k) = S)) (hsz : S + (nm.length + vl.length + 32) ≤ 1048576)
    (HFO1 : Hid (psFold req vOk {} l = (psStep req vOk s (nm, vl)).bind fun s' => psFold req vOk s' (l.drop (k + 1))))
    (HKV : Hid (∀ W, Env W p → w.grownBy W (some Bx) → Calls Tryz.prog 68 #[fldV nm vl] W (ErrPost W true))) (hf2 : pseudoB nm = false) (hf3 : regularOk nm vl = false) (HN : Hid (psAll req vOk l = none))
     
    (u4 u5 u6 u7 u9 u16 u17 u18 u19 u20 u21 u22 u23 u24 u25 u26 u27 u28 u29 u30 u31 u32 u33 u34 u35 u36 u37 u38 u39 u40 u41 u42 u43 u44 u45 u46 u47 u48 u49 u50 u51 u52 u53 u54 u55 u56 u57 u58 u59 u60 u61 u62 u63 u64 u65 u66 u67 u68 u69 u70 u71 u72 u73 u74 u75 u76 u77 u78 u79 u80 u81 u82 u83 u84 u85 u86 u87 u88 u89 u90 u91 u92 u93 u94 u95 u96 u97 u98 u99 u100 u101 u102 u103 u104 u105 u106 u107 u108 u109 u110 u111 u112 u113 u114 u115 u116 u117 u118 u119 u120 u121 u122 u123 u124 u125 u126 u127 u128 u129 u130 u131 u132 u133 u134 u135 u136 u137 u138 u139 u140 u141 u142 u143 u144 u145 u146 u147 u148 u149 u150 u151 u152 u153 u154 u155 u156 u157 u158 u159 u160 u161 u162 u163 u164 u165 u166 u167 u168 u169 u170 u171 u172 u173 u174 u175 u176 u177 u178 u179 u180 u181 u182 u183 u184 u185 u186 u187 u188 u189 u190 u191 u192 u193 u194 u195 u196 u197 u198 u199 u200 u201 u202 u203 u204 u205 u206 u207 u208 u209 u210 u211 u212 u213 u214 u215 u216 u217 u218 u219 u220 u221 u222 u223 u224 u225 : Value) (hJ : ∀ a w1, RN w req vOk l Bx k u4 u5 u6 u7 u22 u23 u24 u25 u205 u206 u207 u208 u209 u210 u211 u212 u213 u214 u215 u216 u217 u218 u219 u220 u221 u222 u223 u224 u225 a w1 → J a w1) (hR : ∀ a w1, bodyPost Tryz.prog Tryz.f56 (HPost w req vOk l Bx) .ret a w1 → Q0 .ret a w1) :
    Code.wp Tryz.prog body56 (Exit.then J Q0) ⟨#[.func (.func 67) #[] #[.pointer (some ⟨Bx, 0, none⟩)], .bool req, .int .i64 (1048576 - (S : Int)), .pointer none, u4, u5, u6, u7, .pointer (some ⟨w.heap.size, 0, none⟩), u9, .pointer (some ⟨w.heap.size + 2, 0, none⟩), .bool s.reg, .bool s.hasCL, .bool s.hasM, .bool s.hasS, str s.cls, u16, u17, u18, u19, u20, u21, u22, u23, u24, u25, u26, u27, u28, u29, u30, u31, u32, u33, u34, u35, u36, u37, u38, u39, u40, u41, u42, u43, u44, u45, u46, u47, u48, u49, u50, u51, u52, u53, u54, u55, u56, u57, u58, u59, u60, u61, u62, u63, u64, u65, u66, u67, u68, u69, u70, u71, u72, u73, u74, u75, u76, u77, u78, u79, u80, u81, u82, u83, u84, u85, u86, u87, u88, u89, u90, u91, u92, u93, u94, u95, u96, u97, u98, u99, u100, u101, u102, u103, u104, u105, u106, u107, u108, u109, u110, u111, u112, u113, u114, u115, u116, u117, u118, u119, u120, u121, u122, u123, u124, u125, u126, u127, u128, u129, u130, u131, u132, u133, u134, u135, u136, u137, u138, u139, u140, u141, u142, u143, u144, u145, u146, u147, u148, u149, u150, u151, u152, u153, u154, u155, u156, u157, u158, u159, u160, u161, u162, u163, u164, u165, u166, u167, u168, u169, u170, u171, u172, u173, u174, u175, u176, u177, u178, u179, u180, u181, u182, u183, u184, u185, u186, u187, u188, u189, u190, u191, u192, u193, u194, u195, u196, u197, u198, u199, u200, u201, u202, u203, u204, u205, u206, u207, u208, u209, u210, u211, u212, u213, u214, u215, u216, u217, u218, u219, u220, u221, u222, u223, u224, u225], []⟩ wr := by
  conv => arg 2; whnf
  conv => arg 4; zeta
  have hge := HS.out.ge
  have KN := next_cons Bx nm vl (l.drop (k + 1)) wr HS.out.feed (by rw [List.length_drop]; omega)
  have hn1 : nm.length ≤ 1048576 := by omega
  have hv1 : vl.length ≤ 1048576 := by omega
  have b1 : (0 : Int) ≤ 1048576 - (S : Int) := by omega
  have b2 : (1048576 - (S : Int)) ≤ 1048576 := by omega
  have b3 : (0 : Int) ≤ 1048576 - (S : Int) - ((nm.length : Int) + (vl.length : Int) + 32) := by omega
  go_wp2_with fail
  refine KN.mono ?_
  rintro e w1 ⟨rfl, hfeed, hg1⟩
  have M1 := Lib.hid (HS.out.read hBw hfeed hg1)
  have HE1 := Lib.hid (HEx.out.grown hg1 h3)
  clear hfeed hg1 KN HS
  have HB2 := Lib.hid (below_new w1 (.cells #[str nm, str vl] 103))
  have X0 : Hid ((w1.alloc (.cells #[str nm, str vl] 103)).cell? ⟨w1.heap.size, 0, none⟩ = some (str nm)) := Lib.hid (by simp)
  have X1 : Hid ((w1.alloc (.cells #[str nm, str vl] 103)).cell? ⟨w1.heap.size, 1, none⟩ = some (str vl)) := Lib.hid (by simp)
  have KV := HKV.out _ (HE1.out.cut HB2.out HE1.out.ge) (M1.out.g.trans ((grown_below HB2.out).but _))
  clear HKV
  have KP := fun w => pseudo_at nm vl w
  rw [hf2] at KP
  unfold fldV at KV KP
  go_upto_region 11 with fail
  go_wp2_with fail
  refine KV.mono ?_
  rintro e w3 ⟨v3, rfl, hv3, hb3⟩
  have c0 := (hb3.cell (p := ⟨w1.heap.size, 0, none⟩) (by simp)).trans X0.out
  have c1 := (hb3.cell (p := ⟨w1.heap.size, 1, none⟩) (by simp)).trans X1.out
  have HB3 := Lib.hid (Below.next HB2.out HB2.out.size hb3)
  have hz3 : w1.heap.size < w3.heap.size := by have := hb3.size; simp at this; omega
  clear hb3 KV
  obtain rfl : v3 = .nilIface := hv3
  go_wp2_with fail
  refine (KP _).mono ?_
  rintro e w4 ⟨rfl, hb4⟩
  have d0 := (hb4.cell (p := ⟨w1.heap.size, 0, none⟩) hz3).trans c0
  have d1 := (hb4.cell (p := ⟨w1.heap.size, 1, none⟩) hz3).trans c1
  have HB4 := Lib.hid (Below.next HB3.out HB3.out.size hb4)
  have M4 := Lib.hid (M1.out.below HB4.out)
  have hz4 : w1.heap.size < w4.heap.size := Nat.lt_of_lt_of_le hz3 hb4.size
  have hw1 := M1.out.ge
  clear hb4 c0 c1
  have hE4 := HE1.out.cut HB4.out HE1.out.ge
  have KT := regular_at nm vl w4 (by omega) hE4.tok hE4.ge
  rw [hf3] at KT
  unfold fldV at KT
  clear hE4
  go_wp2_with fail
  refine KT.mono ?_
  rintro e w5 ⟨v5, rfl, hv5, hb5⟩
  have e0 := (hb5.cell (p := ⟨w1.heap.size, 0, none⟩) hz4).trans d0
  have e1 := (hb5.cell (p := ⟨w1.heap.size, 1, none⟩) hz4).trans d1
  have hz5 : w1.heap.size < w5.heap.size := Nat.lt_of_lt_of_le hz4 hb5.size
  have M5 := Lib.hid (M4.out.below hb5)
  clear hb5 d0 d1 KT
  obtain ⟨p5, rfl⟩ := hv5
  have M := M5.out
  have hex := put8_cell w5 w.heap.size {} 0 (.map none) M.rex
  have HTH := Lib.hid M.there
  have HFl := Lib.hid (M.fail (req := req) (vOk := vOk) (l := l) HN.out (.iface 136 (.pointer (some p5))) ⟨_, rfl⟩)
  have HX := Lib.hid hex
  clear hex M
  go_wp2_with (refine wpList_store8 rfl _ rfl w.heap.size {} 0 (.map none) rfl rfl HTH.out rfl ?_)
  have x0 := HX.out 0 _ rfl
  have x1 := HX.out 1 _ rfl
  have x2 := HX.out 2 _ rfl
  have x3 := HX.out 3 _ rfl
  have x4 := HX.out 4 _ rfl
  have x5 := HX.out 5 _ rfl
  have x6 := HX.out 6 _ rfl
  have x7 := HX.out 7 _ rfl
  exact ⟨rfl, _, (show _ = Result.ok (Value.tuple #[.agg (hcl {} 0 (.map none)).toArray, .iface 136 (.pointer (some p5))]) _ by simp [results, Tryz.results56, go_sem, x0, x1, x2, x3, x4, x5, x6, x7]; rfl), HFl.out⟩
set_option maxHeartbeats 100000000 in
theorem cfst56 (J : Act → World → Prop) (Q0 : Exit → Act → World → Prop) (w : World) (req : Bool) (vOk : BS × BS → Bool) (l : List (BS × BS)) (Bx : Nat) (k : Nat) (p : Addr) (wr : World) (n : Nat) (es : List Ent) (s : PS) (nm : BS) (vl : BS) (S : Nat)
    (HS : Hid (PSt w wr Bx k ((nm, vl) :: l.drop (k + 1)) n es s 0)) (HEx : Hid (Env wr p)) (hBw : Bx < w.heap.size) (h3 : 3 ≤ Bx) (hlen : l.length ≤ 32768) (hkl : k < l.length)
    (HTK : Hid (l.take (k + 1) = l.take k ++ [(nm, vl)])) (HSS : Hid (trSize (l.take k) = S)) (hsz : S + (nm.length + vl.length + 32) ≤ 1048576)
    (HFO1 : Hid (psFold req vOk {} l = (psStep req vOk s (nm, vl)).bind fun s' => psFold req vOk s' (l.drop (k + 1))))
    (HKV : Hid (∀ W, Env W p → w.grownBy W (some Bx) → Calls Tryz.prog 68 #[fldV nm vl] W (ErrPost W true))) (hf2 : pseudoB nm = false) (hf3 : regularOk nm vl = true) (HNM : Hid (nm = [99, 111, 110, 116, 101, 110, 116, 45, 108, 101, 110, 103, 116, 104])) (hc : s.hasCL = false) (HNX : Hid (psFold req vOk {} l = psFold req vOk { s with reg := true, hasCL := true, cls := vl } (l.drop (k + 1))))
     
    (u4 u5 u6 u7 u9 u16 u17 u18 u19 u20 u21 u22 u23 u24 u25 u26 u27 u28 u29 u30 u31 u32 u33 u34 u35 u36 u37 u38 u39 u40 u41 u42 u43 u44 u45 u46 u47 u48 u49 u50 u51 u52 u53 u54 u55 u56 u57 u58 u59 u60 u61 u62 u63 u64 u65 u66 u67 u68 u69 u70 u71 u72 u73 u74 u75 u76 u77 u78 u79 u80 u81 u82 u83 u84 u85 u86 u87 u88 u89 u90 u91 u92 u93 u94 u95 u96 u97 u98 u99 u100 u101 u102 u103 u104 u105 u106 u107 u108 u109 u110 u111 u112 u113 u114 u115 u116 u117 u118 u119 u120 u121 u122 u123 u124 u125 u126 u127 u128 u129 u130 u131 u132 u133 u134 u135 u136 u137 u138 u139 u140 u141 u142 u143 u144 u145 u146 u147 u148 u149 u150 u151 u152 u153 u154 u155 u156 u157 u158 u159 u160 u161 u162 u163 u164 u165 u166 u167 u168 u169 u170 u171 u172 u173 u174 u175 u176 u177 u178 u179 u180 u181 u182 u183 u184 u185 u186 u187 u188 u189 u190 u191 u192 u193 u194 u195 u196 u197 u198 u199 u200 u201 u202 u203 u204 u205 u206 u207 u208 u209 u210 u211 u212 u213 u214 u215 u216 u217 u218 u219 u220 u221 u222 u223 u224 u225 : Value) (hJ : ∀ a w1, RN w req vOk l Bx k u4 u5 u6 u7 u22 u23 u24 u25 u205 u206 u207 u208 u209 u210 u211 u212 u213 u214 u215 u216 u217 u218 u219 u220 u221 u222 u223 u224 u225 a w1 → J a w1) (hR : ∀ a w1, bodyPost Tryz.prog Tryz.f56 (HPost w req vOk l Bx) .ret a w1 → Q0 .ret a w1) :
    Code.wp Tryz.prog body56 (Exit.then J Q0) ⟨#[.func (.func 67) #[] #[.pointer (some ⟨Bx, 0, none⟩)], .bool req, .int .i64 (1048576 - (S : Int)), .pointer none, u4, u5, u6, u7, .pointer (some ⟨w.heap.size, 0, none⟩), u9, .pointer (some ⟨w.heap.size + 2, 0, none⟩), .bool s.reg, .bool s.hasCL, .bool s.hasM, .bool s.hasS, str s.cls, u16, u17, u18, u19, u20, u21, u22, u23, u24, u25, u26, u27, u28, u29, u30, u31, u32, u33, u34, u35, u36, u37, u38, u39, u40, u41, u42, u43, u44, u45, u46, u47, u48, u49, u50, u51, u52, u53, u54, u55, u56, u57, u58, u59, u60, u61, u62, u63, u64, u65, u66, u67, u68, u69, u70, u71, u72, u73, u74, u75, u76, u77, u78, u79, u80, u81, u82, u83, u84, u85, u86, u87, u88, u89, u90, u91, u92, u93, u94, u95, u96, u97, u98, u99, u100, u101, u102, u103, u104, u105, u106, u107, u108, u109, u110, u111, u112, u113, u114, u115, u116, u117, u118, u119, u120, u121, u122, u123, u124, u125, u126, u127, u128, u129, u130, u131, u132, u133, u134, u135, u136, u137, u138, u139, u140, u141, u142, u143, u144, u145, u146, u147, u148, u149, u150, u151, u152, u153, u154, u155, u156, u157, u158, u159, u160, u161, u162, u163, u164, u165, u166, u167, u168, u169, u170, u171, u172, u173, u174, u175, u176, u177, u178, u179, u180, u181, u182, u183, u184, u185, u186, u187, u188, u189, u190, u191, u192, u193, u194, u195, u196, u197, u198, u199, u200, u201, u202, u203, u204, u205, u206, u207, u208, u209, u210, u211, u212, u213, u214, u215, u216, u217, u218, u219, u220, u221, u222, u223, u224, u225], []⟩ wr := by
  conv => arg 2; whnf
  conv => arg 4; zeta
  rw [hc]
  have hge := HS.out.ge
  have KN := next_cons Bx nm vl (l.drop (k + 1)) wr HS.out.feed (by rw [List.length_drop]; omega)
  have hn1 : nm.length ≤ 1048576 := by omega
  have hv1 : vl.length ≤ 1048576 := by omega
  have b1 : (0 : Int) ≤ 1048576 - (S : Int) := by omega
  have b2 : (1048576 - (S : Int)) ≤ 1048576 := by omega
  have b3 : (0 : Int) ≤ 1048576 - (S : Int) - ((nm.length : Int) + (vl.length : Int) + 32) := by omega
  go_wp2_with fail
  refine KN.mono ?_
  rintro e w1 ⟨rfl, hfeed, hg1⟩
  have M1 := Lib.hid (HS.out.read hBw hfeed hg1)
  have HE1 := Lib.hid (HEx.out.grown hg1 h3)
  clear hfeed hg1 KN HS
  have HB2 := Lib.hid (below_new w1 (.cells #[str nm, str vl] 103))
  have X0 : Hid ((w1.alloc (.cells #[str nm, str vl] 103)).cell? ⟨w1.heap.size, 0, none⟩ = some (str nm)) := Lib.hid (by simp)
  have X1 : Hid ((w1.alloc (.cells #[str nm, str vl] 103)).cell? ⟨w1.heap.size, 1, none⟩ = some (str vl)) := Lib.hid (by simp)
  have KV := HKV.out _ (HE1.out.cut HB2.out HE1.out.ge) (M1.out.g.trans ((grown_below HB2.out).but _))
  clear HKV
  have KP := fun w => pseudo_at nm vl w
  rw [hf2] at KP
  unfold fldV at KV KP
  go_upto_region 11 with fail
  go_wp2_with fail
  refine KV.mono ?_
  rintro e w3 ⟨v3, rfl, hv3, hb3⟩
  have c0 := (hb3.cell (p := ⟨w1.heap.size, 0, none⟩) (by simp)).trans X0.out
  have c1 := (hb3.cell (p := ⟨w1.heap.size, 1, none⟩) (by simp)).trans X1.out
  have HB3 := Lib.hid (Below.next HB2.out HB2.out.size hb3)
  have hz3 : w1.heap.size < w3.heap.size := by have := hb3.size; simp at this; omega
  clear hb3 KV
  obtain rfl : v3 = .nilIface := hv3
  go_wp2_with fail
  refine (KP _).mono ?_
  rintro e w4 ⟨rfl, hb4⟩
  have d0 := (hb4.cell (p := ⟨w1.heap.size, 0, none⟩) hz3).trans c0
  have d1 := (hb4.cell (p := ⟨w1.heap.size, 1, none⟩) hz3).trans c1
  have HB4 := Lib.hid (Below.next HB3.out HB3.out.size hb4)
  have M4 := Lib.hid (M1.out.below HB4.out)
  have hz4 : w1.heap.size < w4.heap.size := Nat.lt_of_lt_of_le hz3 hb4.size
  have hw1 := M1.out.ge
  clear hb4 c0 c1
  have hE4 := HE1.out.cut HB4.out HE1.out.ge
  have KT := regular_at nm vl w4 (by omega) hE4.tok hE4.ge
  rw [hf3] at KT
  unfold fldV at KT
  clear hE4
  go_wp2_with fail
  refine KT.mono ?_
  rintro e w5 ⟨v5, rfl, hv5, hb5⟩
  have e0 := (hb5.cell (p := ⟨w1.heap.size, 0, none⟩) hz4).trans d0
  have e1 := (hb5.cell (p := ⟨w1.heap.size, 1, none⟩) hz4).trans d1
  have hz5 : w1.heap.size < w5.heap.size := Nat.lt_of_lt_of_le hz4 hb5.size
  have M5 := Lib.hid (M4.out.below hb5)
  clear hb5 d0 d1 KT
  obtain rfl : v5 = .nilIface := hv5
  have hnm := HNM.out
  subst hnm
  go_wp2_with fail
  unfold RN
  (repeat apply Exists.intro)
  refine ⟨⟨n, es, { s with reg := true, hasCL := true, cls := vl }, lim_next HTK.out HSS.out, (by first | rfl | simp only [hc]), (by first | rfl | simp only [hc]), (by first | rfl | simp only [hc]), (by first | rfl | simp only [hc]), rfl, (M5.out.weak (Nat.le_succ _)).flags rfl rfl, HNX.out⟩, rfl⟩

set_option maxHeartbeats 100000000 in
theorem csame56 (J : Act → World → Prop) (Q0 : Exit → Act → World → Prop) (w : World) (req : Bool) (vOk : BS × BS → Bool) (l : List (BS × BS)) (Bx : Nat) (k : Nat) (p : Addr) (wr : World) (n : Nat) (es : List Ent) (s : PS) (nm : BS) (vl : BS) (S : Nat)
    (HS : Hid (PSt w wr Bx k ((nm, vl) :: l.drop (k + 1)) n es s 0)) (HEx : Hid (Env wr p)) (hBw : Bx < w.heap.size) (h3 : 3 ≤ Bx) (hlen : l.length ≤ 32768) (hkl : k < l.length)
    (HTK : Hid (l.take (k + 1) = l.take k ++ [(nm, vl)])) (HSS : Hid (trSize (l.take k) = S)) (hsz : S + (nm.length + vl.length + 32) ≤ 1048576)
    (HFO1 : Hid (psFold req vOk {} l = (psStep req vOk s (nm, vl)).bind fun s' => psFold req vOk s' (l.drop (k + 1))))
    (HKV : Hid (∀ W, Env W p → w.grownBy W (some Bx) → Calls Tryz.prog 68 #[fldV nm vl] W (ErrPost W true))) (hf2 : pseudoB nm = false) (hf3 : regularOk nm vl = true) (HNM : Hid (nm = [99, 111, 110, 116, 101, 110, 116, 45, 108, 101, 110, 103, 116, 104])) (hc : s.hasCL = true) (hv2 : (s.cls == vl) = true) (HNX : Hid (psFold req vOk {} l = psFold req vOk { s with reg := true } (l.drop (k + 1))))
     
    (u4 u5 u6 u7 u9 u16 u17 u18 u19 u20 u21 u22 u23 u24 u25 u26 u27 u28 u29 u30 u31 u32 u33 u34 u35 u36 u37 u38 u39 u40 u41 u42 u43 u44 u45 u46 u47 u48 u49 u50 u51 u52 u53 u54 u55 u56 u57 u58 u59 u60 u61 u62 u63 u64 u65 u66 u67 u68 u69 u70 u71 u72 u73 u74 u75 u76 u77 u78 u79 u80 u81 u82 u83 u84 u85 u86 u87 u88 u89 u90 u91 u92 u93 u94 u95 u96 u97 u98 u99 u100 u101 u102 u103 u104 u105 u106 u107 u108 u109 u110 u111 u112 u113 u114 u115 u116 u117 u118 u119 u120 u121 u122 u123 u124 u125 u126 u127 u128 u129 u130 u131 u132 u133 u134 u135 u136 u137 u138 u139 u140 u141 u142 u143 u144 u145 u146 u147 u148 u149 u150 u151 u152 u153 u154 u155 u156 u157 u158 u159 u160 u161 u162 u163 u164 u165 u166 u167 u168 u169 u170 u171 u172 u173 u174 u175 u176 u177 u178 u179 u180 u181 u182 u183 u184 u185 u186 u187 u188 u189 u190 u191 u192 u193 u194 u195 u196 u197 u198 u199 u200 u201 u202 u203 u204 u205 u206 u207 u208 u209 u210 u211 u212 u213 u214 u215 u216 u217 u218 u219 u220 u221 u222 u223 u224 u225 : Value) (hJ : ∀ a w1, RN w req vOk l Bx k u4 u5 u6 u7 u22 u23 u24 u25 u205 u206 u207 u208 u209 u210 u211 u212 u213 u214 u215 u216 u217 u218 u219 u220 u221 u222 u223 u224 u225 a w1 → J a w1) (hR : ∀ a w1, bodyPost Tryz.prog Tryz.f56 (HPost w req vOk l Bx) .ret a w1 → Q0 .ret a w1) :
    Code.wp Tryz.prog body56 (Exit.then J Q0) ⟨#[.func (.func 67) #[] #[.pointer (some ⟨Bx, 0, none⟩)], .bool req, .int .i64 (1048576 - (S : Int)), .pointer none, u4, u5, u6, u7, .pointer (some ⟨w.heap.size, 0, none⟩), u9, .pointer (some ⟨w.heap.size + 2, 0, none⟩), .bool s.reg, .bool s.hasCL, .bool s.hasM, .bool s.hasS, str s.cls, u16, u17, u18, u19, u20, u21, u22, u23, u24, u25, u26, u27, u28, u29, u30, u31, u32, u33, u34, u35, u36, u37, u38, u39, u40, u41, u42, u43, u44, u45, u46, u47, u48, u49, u50, u51, u52, u53, u54, u55, u56, u57, u58, u59, u60, u61, u62, u63, u64, u65, u66, u67, u68, u69, u70, u71, u72, u73, u74, u75, u76, u77, u78, u79, u80, u81, u82, u83, u84, u85, u86, u87, u88, u89, u90, u91, u92, u93, u94, u95, u96, u97, u98, u99, u100, u101, u102, u103, u104, u105, u106, u107, u108, u109, u110, u111, u112, u113, u114, u115, u116, u117, u118, u119, u120, u121, u122, u123, u124, u125, u126, u127, u128, u129, u130, u131, u132, u133, u134, u135, u136, u137, u138, u139, u140, u141, u142, u143, u144, u145, u146, u147, u148, u149, u150, u151, u152, u153, u154, u155, u156, u157, u158, u159, u160, u161, u162, u163, u164, u165, u166, u167, u168, u169, u170, u171, u172, u173, u174, u175, u176, u177, u178, u179, u180, u181, u182, u183, u184, u185, u186, u187, u188, u189, u190, u191, u192, u193, u194, u195, u196, u197, u198, u199, u200, u201, u202, u203, u204, u205, u206, u207, u208, u209, u210, u211, u212, u213, u214, u215, u216, u217, u218, u219, u220, u221, u222, u223, u224, u225], []⟩ wr := by
  conv => arg 2; whnf
  conv => arg 4; zeta
  rw [hc]
  have hge := HS.out.ge
  have KN := next_cons Bx nm vl (l.drop (k + 1)) wr HS.out.feed (by rw [List.length_drop]; omega)
  have hn1 : nm.length ≤ 1048576 := by omega
  have hv1 : vl.length ≤ 1048576 := by omega
  have b1 : (0 : Int) ≤ 1048576 - (S : Int) := by omega
  have b2 : (1048576 - (S : Int)) ≤ 1048576 := by omega
  have b3 : (0 : Int) ≤ 1048576 - (S : Int) - ((nm.length : Int) + (vl.length : Int) + 32) := by omega
  go_wp2_with fail
  refine KN.mono ?_
  rintro e w1 ⟨rfl, hfeed, hg1⟩
  have M1 := Lib.hid (HS.out.read hBw hfeed hg1)
  have HE1 := Lib.hid (HEx.out.grown hg1 h3)
  clear hfeed hg1 KN HS
  have HB2 := Lib.hid (below_new w1 (.cells #[str nm, str vl] 103))
  have X0 : Hid ((w1.alloc (.cells #[str nm, str vl] 103)).cell? ⟨w1.heap.size, 0, none⟩ = some (str nm)) := Lib.hid (by simp)
  have X1 : Hid ((w1.alloc (.cells #[str nm, str vl] 103)).cell? ⟨w1.heap.size, 1, none⟩ = some (str vl)) := Lib.hid (by simp)
  have KV := HKV.out _ (HE1.out.cut HB2.out HE1.out.ge) (M1.out.g.trans ((grown_below HB2.out).but _))
  clear HKV
  have KP := fun w => pseudo_at nm vl w
  rw [hf2] at KP
  unfold fldV at KV KP
  go_upto_region 11 with fail
  go_wp2_with fail
  refine KV.mono ?_
  rintro e w3 ⟨v3, rfl, hv3, hb3⟩
  have c0 := (hb3.cell (p := ⟨w1.heap.size, 0, none⟩) (by simp)).trans X0.out
  have c1 := (hb3.cell (p := ⟨w1.heap.size, 1, none⟩) (by simp)).trans X1.out
  have HB3 := Lib.hid (Below.next HB2.out HB2.out.size hb3)
  have hz3 : w1.heap.size < w3.heap.size := by have := hb3.size; simp at this; omega
  clear hb3 KV
  obtain rfl : v3 = .nilIface := hv3
  go_wp2_with fail
  refine (KP _).mono ?_
  rintro e w4 ⟨rfl, hb4⟩
  have d0 := (hb4.cell (p := ⟨w1.heap.size, 0, none⟩) hz3).trans c0
  have d1 := (hb4.cell (p := ⟨w1.heap.size, 1, none⟩) hz3).trans c1
  have HB4 := Lib.hid (Below.next HB3.out HB3.out.size hb4)
  have M4 := Lib.hid (M1.out.below HB4.out)
  have hz4 : w1.heap.size < w4.heap.size := Nat.lt_of_lt_of_le hz3 hb4.size
  have hw1 := M1.out.ge
  clear hb4 c0 c1
  have hE4 := HE1.out.cut HB4.out HE1.out.ge
  have KT := regular_at nm vl w4 (by omega) hE4.tok hE4.ge
  rw [hf3] at KT
  unfold fldV at KT
  clear hE4
  go_wp2_with fail
  refine KT.mono ?_
  rintro e w5 ⟨v5, rfl, hv5, hb5⟩
  have e0 := (hb5.cell (p := ⟨w1.heap.size, 0, none⟩) hz4).trans d0
  have e1 := (hb5.cell (p := ⟨w1.heap.size, 1, none⟩) hz4).trans d1
  have hz5 : w1.heap.size < w5.heap.size := Nat.lt_of_lt_of_le hz4 hb5.size
  have M5 := Lib.hid (M4.out.below hb5)
  clear hb5 d0 d1 KT
  obtain rfl : v5 = .nilIface := hv5
  have hnm := HNM.out
  subst hnm
  go_wp2_with fail
  unfold RN
  (repeat apply Exists.intro)
  refine ⟨⟨n, es, { s with reg := true }, lim_next HTK.out HSS.out, (by first | rfl | simp only [hc]), (by first | rfl | simp only [hc]), (by first | rfl | simp only [hc]), (by first | rfl | simp only [hc]), rfl, (M5.out.weak (Nat.le_succ _)).flags rfl rfl, HNX.out⟩, rfl⟩
set_option maxHeartbeats 100000000 in
theorem cbad56 (J : Act → World → Prop) (Q0 : Exit → Act → World → Prop) (w : World) (req : Bool) (vOk : BS × BS → Bool) (l : List (BS × BS)) (Bx : Nat) (k : Nat) (p : Addr) (wr : World) (n : Nat) (es : List Ent) (s : PS) (nm : BS) (vl : BS) (S : Nat)
    (HS : Hid (PSt w wr Bx k ((nm, vl) :: l.drop (k + 1)) n es s 0)) (HEx : Hid (Env wr p)) (hBw : Bx < w.heap.size) (h3 : 3 ≤ Bx) (hlen : l.length ≤ 32768) (hkl : k < l.length)
    (HTK : Hid (l.take (k + 1) = l.take k ++ [(nm, vl)])) (HSS : Hid (trSize (l.take k) = S)) (hsz : S + (nm.length + vl.length + 32) ≤ 1048576)
    (HFO1 : Hid (psFold req vOk {} l = (psStep req vOk s (nm, vl)).bind fun s' => psFold req vOk s' (l.drop (k + 1))))
    (HKV : Hid (∀ W, Env W p → w.grownBy W (some Bx) → Calls Tryz.prog 68 #[fldV nm vl] W (ErrPost W true))) (hf2 : pseudoB nm = false) (hf3 : regularOk nm vl = true) (HNM : Hid (nm = [99, 111, 110, 116, 101, 110, 116, 45, 108, 101, 110, 103, 116, 104])) (hc : s.hasCL = true) (hv2 : (s.cls == vl) = false) (HN : Hid (psAll req vOk l = none))
     
    (u4 u5 u6 u7 u9 u16 u17 u18 u19 u20 u21 u22 u23 u24 u25 u26 u27 u28 u29 u30 u31 u32 u33 u34 u35 u36 u37 u38 u39 u40 u41 u42 u43 u44 u45 u46 u47 u48 u49 u50 u51 u52 u53 u54 u55 u56 u57 u58 u59 u60 u61 u62 u63 u64 u65 u66 u67 u68 u69 u70 u71 u72 u73 u74 u75 u76 u77 u78 u79 u80 u81 u82 u83 u84 u85 u86 u87 u88 u89 u90 u91 u92 u93 u94 u95 u96 u97 u98 u99 u100 u101 u102 u103 u104 u105 u106 u107 u108 u109 u110 u111 u112 u113 u114 u115 u116 u117 u118 u119 u120 u121 u122 u123 u124 u125 u126 u127 u128 u129 u130 u131 u132 u133 u134 u135 u136 u137 u138 u139 u140 u141 u142 u143 u144 u145 u146 u147 u148 u149 u150 u151 u152 u153 u154 u155 u156 u157 u158 u159 u160 u161 u162 u163 u164 u165 u166 u167 u168 u169 u170 u171 u172 u173 u174 u175 u176 u177 u178 u179 u180 u181 u182 u183 u184 u185 u186 u187 u188 u189 u190 u191 u192 u193 u194 u195 u196 u197 u198 u199 u200 u201 u202 u203 u204 u205 u206 u207 u208 u209 u210 u211 u212 u213 u214 u215 u216 u217 u218 u219 u220 u221 u222 u223 u224 u225 : Value) (hJ : ∀ a w1, RN w req vOk l Bx k u4 u5 u6 u7 u22 u23 u24 u25 u205 u206 u207 u208 u209 u210 u211 u212 u213 u214 u215 u216 u217 u218 u219 u220 u221 u222 u223 u224 u225 a w1 → J a w1) (hR : ∀ a w1, bodyPost Tryz.prog Tryz.f56 (HPost w req vOk l Bx) .ret a w1 → Q0 .ret a w1) :
    Code.wp Tryz.prog body56 (Exit.then J Q0) ⟨#[.func (.func 67) #[] #[.pointer (some ⟨Bx, 0, none⟩)], .bool req, .int .i64 (1048576 - (S : Int)), .pointer none, u4, u5, u6, u7, .pointer (some ⟨w.heap.size, 0, none⟩), u9, .pointer (some ⟨w.heap.size + 2, 0, none⟩), .bool s.reg, .bool s.hasCL, .bool s.hasM, .bool s.hasS, str s.cls, u16, u17, u18, u19, u20, u21, u22, u23, u24, u25, u26, u27, u28, u29, u30, u31, u32, u33, u34, u35, u36, u37, u38, u39, u40, u41, u42, u43, u44, u45, u46, u47, u48, u49, u50, u51, u52, u53, u54, u55, u56, u57, u58, u59, u60, u61, u62, u63, u64, u65, u66, u67, u68, u69, u70, u71, u72, u73, u74, u75, u76, u77, u78, u79, u80, u81, u82, u83, u84, u85, u86, u87, u88, u89, u90, u91, u92, u93, u94, u95, u96, u97, u98, u99, u100, u101, u102, u103, u104, u105, u106, u107, u108, u109, u110, u111, u112, u113, u114, u115, u116, u117, u118, u119, u120, u121, u122, u123, u124, u125, u126, u127, u128, u129, u130, u131, u132, u133, u134, u135, u136, u137, u138, u139, u140, u141, u142, u143, u144, u145, u146, u147, u148, u149, u150, u151, u152, u153, u154, u155, u156, u157, u158, u159, u160, u161, u162, u163, u164, u165, u166, u167, u168, u169, u170, u171, u172, u173, u174, u175, u176, u177, u178, u179, u180, u181, u182, u183, u184, u185, u186, u187, u188, u189, u190, u191, u192, u193, u194, u195, u196, u197, u198, u199, u200, u201, u202, u203, u204, u205, u206, u207, u208, u209, u210, u211, u212, u213, u214, u215, u216, u217, u218, u219, u220, u221, u222, u223, u224, u225], []⟩ wr := by
  conv => arg 2; whnf
  conv => arg 4; zeta
  rw [hc]
  have hge := HS.out.ge
  have KN := next_cons Bx nm vl (l.drop (k + 1)) wr HS.out.feed (by rw [List.length_drop]; omega)
  have hn1 : nm.length ≤ 1048576 := by omega
  have hv1 : vl.length ≤ 1048576 := by omega
  have b1 : (0 : Int) ≤ 1048576 - (S : Int) := by omega
  have b2 : (1048576 - (S : Int)) ≤ 1048576 := by omega
  have b3 : (0 : Int) ≤ 1048576 - (S : Int) - ((nm.length : Int) + (vl.length : Int) + 32) := by omega
  go_wp2_with fail
  refine KN.mono ?_
  rintro e w1 ⟨rfl, hfeed, hg1⟩
  have M1 := Lib.hid (HS.out.read hBw hfeed hg1)
  have HE1 := Lib.hid (HEx.out.grown hg1 h3)
  clear hfeed hg1 KN HS
  have HB2 := Lib.hid (below_new w1 (.cells #[str nm, str vl] 103))
  have X0 : Hid ((w1.alloc (.cells #[str nm, str vl] 103)).cell? ⟨w1.heap.size, 0, none⟩ = some (str nm)) := Lib.hid (by simp)
  have X1 : Hid ((w1.alloc (.cells #[str nm, str vl] 103)).cell? ⟨w1.heap.size, 1, none⟩ = some (str vl)) := Lib.hid (by simp)
  have KV := HKV.out _ (HE1.out.cut HB2.out HE1.out.ge) (M1.out.g.trans ((grown_below HB2.out).but _))
  clear HKV
  have KP := fun w => pseudo_at nm vl w
  rw [hf2] at KP
  unfold fldV at KV KP
  go_upto_region 11 with fail
  go_wp2_with fail
  refine KV.mono ?_
  rintro e w3 ⟨v3, rfl, hv3, hb3⟩
  have c0 := (hb3.cell (p := ⟨w1.heap.size, 0, none⟩) (by simp)).trans X0.out
  have c1 := (hb3.cell (p := ⟨w1.heap.size, 1, none⟩) (by simp)).trans X1.out
  have HB3 := Lib.hid (Below.next HB2.out HB2.out.size hb3)
  have hz3 : w1.heap.size < w3.heap.size := by have := hb3.size; simp at this; omega
  clear hb3 KV
  obtain rfl : v3 = .nilIface := hv3
  go_wp2_with fail
  refine (KP _).mono ?_
  rintro e w4 ⟨rfl, hb4⟩
  have d0 := (hb4.cell (p := ⟨w1.heap.size, 0, none⟩) hz3).trans c0
  have d1 := (hb4.cell (p := ⟨w1.heap.size, 1, none⟩) hz3).trans c1
  have HB4 := Lib.hid (Below.next HB3.out HB3.out.size hb4)
  have M4 := Lib.hid (M1.out.below HB4.out)
  have hz4 : w1.heap.size < w4.heap.size := Nat.lt_of_lt_of_le hz3 hb4.size
  have hw1 := M1.out.ge
  clear hb4 c0 c1
  have hE4 := HE1.out.cut HB4.out HE1.out.ge
  have KT := regular_at nm vl w4 (by omega) hE4.tok hE4.ge
  rw [hf3] at KT
  unfold fldV at KT
  clear hE4
  go_wp2_with fail
  refine KT.mono ?_
  rintro e w5 ⟨v5, rfl, hv5, hb5⟩
  have e0 := (hb5.cell (p := ⟨w1.heap.size, 0, none⟩) hz4).trans d0
  have e1 := (hb5.cell (p := ⟨w1.heap.size, 1, none⟩) hz4).trans d1
  have hz5 : w1.heap.size < w5.heap.size := Nat.lt_of_lt_of_le hz4 hb5.size
  have M5 := Lib.hid (M4.out.below hb5)
  clear hb5 d0 d1 KT
  obtain rfl : v5 = .nilIface := hv5
  have hnm := HNM.out
  subst hnm
  go_wp2_with fail
  refine (new_at' _ _).mono ?_
  rintro e w9 ⟨q9, rfl, hb9⟩
  have M := (M5.out).below hb9
  clear hb9
  have hex := put8_cell w9 w.heap.size {} 0 (.map none) M.rex
  have HTH := Lib.hid M.there
  have HFl := Lib.hid (M.fail (req := req) (vOk := vOk) (l := l) HN.out (.iface 136 (.pointer (some q9))) ⟨_, rfl⟩)
  have HX := Lib.hid hex
  clear hex M
  go_wp2_with (refine wpList_store8 rfl _ rfl w.heap.size {} 0 (.map none) rfl rfl HTH.out rfl ?_)
  have x0 := HX.out 0 _ rfl
  have x1 := HX.out 1 _ rfl
  have x2 := HX.out 2 _ rfl
  have x3 := HX.out 3 _ rfl
  have x4 := HX.out 4 _ rfl
  have x5 := HX.out 5 _ rfl
  have x6 := HX.out 6 _ rfl
  have x7 := HX.out 7 _ rfl
  exact ⟨rfl, _, (show _ = Result.ok (Value.tuple #[.agg (hcl {} 0 (.map none)).toArray, .iface 136 (.pointer (some q9))]) _ by simp [results, Tryz.results56, go_sem, x0, x1, x2, x3, x4, x5, x6, x7]; rfl), HFl.out⟩

set_option maxHeartbeats 100000000 in
theorem radd56 (J : Act → World → Prop) (Q0 : Exit → Act → World → Prop) (w : World) (req : Bool) (vOk : BS × BS → Bool) (l : List (BS × BS)) (Bx : Nat) (k : Nat) (p : Addr) (wr : World) (n : Nat) (es : List Ent) (s : PS) (nm : BS) (vl : BS) (S : Nat)
    (HS : Hid (PSt w wr Bx k ((nm, vl) :: l.drop (k + 1)) n es s 0)) (HEx : Hid (Env wr p)) (hBw : Bx < w.heap.size) (h3 : 3 ≤ Bx) (hlen : l.length ≤ 32768) (hkl : k < l.length)
    (HTK : Hid (l.take (k + 1) = l.take k ++ [(nm, vl)])) (HSS : Hid (trSize (l.take k) = S)) (hsz : S + (nm.length + vl.length + 32) ≤ 1048576)
    (HFO1 : Hid (psFold req vOk {} l = (psStep req vOk s (nm, vl)).bind fun s' => psFold req vOk s' (l.drop (k + 1))))
    (HKV : Hid (∀ W, Env W p → w.grownBy W (some Bx) → Calls Tryz.prog 68 #[fldV nm vl] W (ErrPost W true))) (hf2 : pseudoB nm = false) (hf3 : regularOk nm vl = true) (hq2 : (nm == [99, 111, 110, 116, 101, 110, 116, 45, 108, 101, 110, 103, 116, 104]) = false) (HNX : Hid (psFold req vOk {} l = psFold req vOk { s with reg := true, H := addH s.H (canonL nm) vl } (l.drop (k + 1))))
     
    (u4 u5 u6 u7 u9 u16 u17 u18 u19 u20 u21 u22 u23 u24 u25 u26 u27 u28 u29 u30 u31 u32 u33 u34 u35 u36 u37 u38 u39 u40 u41 u42 u43 u44 u45 u46 u47 u48 u49 u50 u51 u52 u53 u54 u55 u56 u57 u58 u59 u60 u61 u62 u63 u64 u65 u66 u67 u68 u69 u70 u71 u72 u73 u74 u75 u76 u77 u78 u79 u80 u81 u82 u83 u84 u85 u86 u87 u88 u89 u90 u91 u92 u93 u94 u95 u96 u97 u98 u99 u100 u101 u102 u103 u104 u105 u106 u107 u108 u109 u110 u111 u112 u113 u114 u115 u116 u117 u118 u119 u120 u121 u122 u123 u124 u125 u126 u127 u128 u129 u130 u131 u132 u133 u134 u135 u136 u137 u138 u139 u140 u141 u142 u143 u144 u145 u146 u147 u148 u149 u150 u151 u152 u153 u154 u155 u156 u157 u158 u159 u160 u161 u162 u163 u164 u165 u166 u167 u168 u169 u170 u171 u172 u173 u174 u175 u176 u177 u178 u179 u180 u181 u182 u183 u184 u185 u186 u187 u188 u189 u190 u191 u192 u193 u194 u195 u196 u197 u198 u199 u200 u201 u202 u203 u204 u205 u206 u207 u208 u209 u210 u211 u212 u213 u214 u215 u216 u217 u218 u219 u220 u221 u222 u223 u224 u225 : Value) (hJ : ∀ a w1, RN w req vOk l Bx k u4 u5 u6 u7 u22 u23 u24 u25 u205 u206 u207 u208 u209 u210 u211 u212 u213 u214 u215 u216 u217 u218 u219 u220 u221 u222 u223 u224 u225 a w1 → J a w1) (hR : ∀ a w1, bodyPost Tryz.prog Tryz.f56 (HPost w req vOk l Bx) .ret a w1 → Q0 .ret a w1) :
    Code.wp Tryz.prog body56 (Exit.then J Q0) ⟨#[.func (.func 67) #[] #[.pointer (some ⟨Bx, 0, none⟩)], .bool req, .int .i64 (1048576 - (S : Int)), .pointer none, u4, u5, u6, u7, .pointer (some ⟨w.heap.size, 0, none⟩), u9, .pointer (some ⟨w.heap.size + 2, 0, none⟩), .bool s.reg, .bool s.hasCL, .bool s.hasM, .bool s.hasS, str s.cls, u16, u17, u18, u19, u20, u21, u22, u23, u24, u25, u26, u27, u28, u29, u30, u31, u32, u33, u34, u35, u36, u37, u38, u39, u40, u41, u42, u43, u44, u45, u46, u47, u48, u49, u50, u51, u52, u53, u54, u55, u56, u57, u58, u59, u60, u61, u62, u63, u64, u65, u66, u67, u68, u69, u70, u71, u72, u73, u74, u75, u76, u77, u78, u79, u80, u81, u82, u83, u84, u85, u86, u87, u88, u89, u90, u91, u92, u93, u94, u95, u96, u97, u98, u99, u100, u101, u102, u103, u104, u105, u106, u107, u108, u109, u110, u111, u112, u113, u114, u115, u116, u117, u118, u119, u120, u121, u122, u123, u124, u125, u126, u127, u128, u129, u130, u131, u132, u133, u134, u135, u136, u137, u138, u139, u140, u141, u142, u143, u144, u145, u146, u147, u148, u149, u150, u151, u152, u153, u154, u155, u156, u157, u158, u159, u160, u161, u162, u163, u164, u165, u166, u167, u168, u169, u170, u171, u172, u173, u174, u175, u176, u177, u178, u179, u180, u181, u182, u183, u184, u185, u186, u187, u188, u189, u190, u191, u192, u193, u194, u195, u196, u197, u198, u199, u200, u201, u202, u203, u204, u205, u206, u207, u208, u209, u210, u211, u212, u213, u214, u215, u216, u217, u218, u219, u220, u221, u222, u223, u224, u225], []⟩ wr := by
  conv => arg 2; whnf
  conv => arg 4; zeta
  have hge := HS.out.ge
  have KN := next_cons Bx nm vl (l.drop (k + 1)) wr HS.out.feed (by rw [List.length_drop]; omega)
  have hn1 : nm.length ≤ 1048576 := by omega
  have hv1 : vl.length ≤ 1048576 := by omega
  have b1 : (0 : Int) ≤ 1048576 - (S : Int) := by omega
  have b2 : (1048576 - (S : Int)) ≤ 1048576 := by omega
  have b3 : (0 : Int) ≤ 1048576 - (S : Int) - ((nm.length : Int) + (vl.length : Int) + 32) := by omega
  go_wp2_with fail
  refine KN.mono ?_
  rintro e w1 ⟨rfl, hfeed, hg1⟩
  have M1 := Lib.hid (HS.out.read hBw hfeed hg1)
  have HE1 := Lib.hid (HEx.out.grown hg1 h3)
  clear hfeed hg1 KN HS
  have HB2 := Lib.hid (below_new w1 (.cells #[str nm, str vl] 103))
  have X0 : Hid ((w1.alloc (.cells #[str nm, str vl] 103)).cell? ⟨w1.heap.size, 0, none⟩ = some (str nm)) := Lib.hid (by simp)
  have X1 : Hid ((w1.alloc (.cells #[str nm, str vl] 103)).cell? ⟨w1.heap.size, 1, none⟩ = some (str vl)) := Lib.hid (by simp)
  have KV := HKV.out _ (HE1.out.cut HB2.out HE1.out.ge) (M1.out.g.trans ((grown_below HB2.out).but _))
  clear HKV
  have KP := fun w => pseudo_at nm vl w
  rw [hf2] at KP
  unfold fldV at KV KP
  go_upto_region 11 with fail
  go_wp2_with fail
  refine KV.mono ?_
  rintro e w3 ⟨v3, rfl, hv3, hb3⟩
  have c0 := (hb3.cell (p := ⟨w1.heap.size, 0, none⟩) (by simp)).trans X0.out
  have c1 := (hb3.cell (p := ⟨w1.heap.size, 1, none⟩) (by simp)).trans X1.out
  have HB3 := Lib.hid (Below.next HB2.out HB2.out.size hb3)
  have hz3 : w1.heap.size < w3.heap.size := by have := hb3.size; simp at this; omega
  clear hb3 KV
  obtain rfl : v3 = .nilIface := hv3
  go_wp2_with fail
  refine (KP _).mono ?_
  rintro e w4 ⟨rfl, hb4⟩
  have d0 := (hb4.cell (p := ⟨w1.heap.size, 0, none⟩) hz3).trans c0
  have d1 := (hb4.cell (p := ⟨w1.heap.size, 1, none⟩) hz3).trans c1
  have HB4 := Lib.hid (Below.next HB3.out HB3.out.size hb4)
  have M4 := Lib.hid (M1.out.below HB4.out)
  have hz4 : w1.heap.size < w4.heap.size := Nat.lt_of_lt_of_le hz3 hb4.size
  have hw1 := M1.out.ge
  clear hb4 c0 c1
  have hE4 := HE1.out.cut HB4.out HE1.out.ge
  have KT := regular_at nm vl w4 (by omega) hE4.tok hE4.ge
  rw [hf3] at KT
  unfold fldV at KT
  clear hE4
  go_wp2_with fail
  refine KT.mono ?_
  rintro e w5 ⟨v5, rfl, hv5, hb5⟩
  have e0 := (hb5.cell (p := ⟨w1.heap.size, 0, none⟩) hz4).trans d0
  have e1 := (hb5.cell (p := ⟨w1.heap.size, 1, none⟩) hz4).trans d1
  have hz5 : w1.heap.size < w5.heap.size := Nat.lt_of_lt_of_le hz4 hb5.size
  have M5 := Lib.hid (M4.out.below hb5)
  clear hb5 d0 d1 KT
  obtain rfl : v5 = .nilIface := hv5
  have e7 := M5.out.cells 7 _ rfl
  have KA := add_at2 nm vl (w.heap.size + 3) (w.heap.size + 1) n es w5 M5.out.hdr (by omega) (by have := M5.out.hn; omega) (fun e he => by have := M5.out.items e he; omega) M5.out.ge
  go_wp2_with fail
  refine KA.mono ?_
  rintro e w6 ⟨es', rfl, hH6, ha6, hb6⟩
  have HN := Lib.hid ((M5.out.turn (m' := k + 1) (H' := addH s.H (canonL nm) vl) hBw hH6 (by rw [ha6, M5.out.abs]) (by have := M5.out.hn; omega) (absE_items M5.out.items ha6) hb6).flags (s' := { s with reg := true, H := addH s.H (canonL nm) vl }) rfl rfl)
  clear hH6 ha6 hb6 KA e0 e1 e7
  go_wp2_with fail
  unfold RN
  (repeat apply Exists.intro)
  refine ⟨⟨n + 1, es', { s with reg := true, H := addH s.H (canonL nm) vl }, lim_next HTK.out HSS.out, rfl, rfl, rfl, rfl, rfl, HN.out, HNX.out⟩, rfl⟩
end Go.Proofs.YtgcfnhchmmkndaaGreatDoor
