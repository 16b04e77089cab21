/- parseHeaders: a round of a pseudo field. -/
import Derived.Test.YtgcfnhchmmkndaaGreatDoorC7b
namespace Go.Proofs.YtgcfnhchmmkndaaGreatDoor
open Go.RowKit Go.Maps
set_option linter.unusedVariables false
set_option maxRecDepth 100000

set_option maxHeartbeats 100000000 in
theorem ps056 (J : Act → World → Prop) (Q0 : Exit → Act → World → Prop) (w : World) (req : Bool) (vOk : BS × BS → Bool) (l : List (BS × BS)) (Bx : Nat) (k : Nat) (p : Addr) (wr : World) (n : Nat) (es : List Ent) (s : PS) (nm : BS) (vl : BS) (S : Nat)
    (HS : Hid (PSt w wr Bx k ((nm, vl) :: l.drop (k + 1)) n es s 0)) (HEx : Hid (Env wr p)) (hBw : Bx < w.heap.size) (h3 : 3 ≤ Bx) (hlen : l.length ≤ 32768) (hkl : k < l.length)
    (HTK : Hid (l.take (k + 1) = l.take k ++ [(nm, vl)])) (HSS : Hid (trSize (l.take k) = S)) (hsz : S + (nm.length + vl.length + 32) ≤ 1048576)
    (HFO1 : Hid (psFold req vOk {} l = (psStep req vOk s (nm, vl)).bind fun s' => psFold req vOk s' (l.drop (k + 1))))
    (HKV : Hid (∀ W, Env W p → w.grownBy W (some Bx) → Calls Tryz.prog 68 #[fldV nm vl] W (ErrPost W true))) (hf2 : pseudoB nm = true) (hr : s.reg = false) (HNM : Hid (nm = [58, 112, 97, 116, 104])) (HPS : Hid ((psStep req vOk s (nm, vl)) = if hasKey s.H [58, 112, 97, 116, 104] then none else if false == req then none else some { s with path := vl, H := putH s.H [58, 112, 97, 116, 104] [] }))
     
    (u4 u5 u6 u7 u9 u16 u17 u18 u19 u20 u21 u22 u23 u24 u25 u26 u27 u28 u29 u30 u31 u32 u33 u34 u35 u36 u37 u38 u39 u40 u41 u42 u43 u44 u45 u46 u47 u48 u49 u50 u51 u52 u53 u54 u55 u56 u57 u58 u59 u60 u61 u62 u63 u64 u65 u66 u67 u68 u69 u70 u71 u72 u73 u74 u75 u76 u77 u78 u79 u80 u81 u82 u83 u84 u85 u86 u87 u88 u89 u90 u91 u92 u93 u94 u95 u96 u97 u98 u99 u100 u101 u102 u103 u104 u105 u106 u107 u108 u109 u110 u111 u112 u113 u114 u115 u116 u117 u118 u119 u120 u121 u122 u123 u124 u125 u126 u127 u128 u129 u130 u131 u132 u133 u134 u135 u136 u137 u138 u139 u140 u141 u142 u143 u144 u145 u146 u147 u148 u149 u150 u151 u152 u153 u154 u155 u156 u157 u158 u159 u160 u161 u162 u163 u164 u165 u166 u167 u168 u169 u170 u171 u172 u173 u174 u175 u176 u177 u178 u179 u180 u181 u182 u183 u184 u185 u186 u187 u188 u189 u190 u191 u192 u193 u194 u195 u196 u197 u198 u199 u200 u201 u202 u203 u204 u205 u206 u207 u208 u209 u210 u211 u212 u213 u214 u215 u216 u217 u218 u219 u220 u221 u222 u223 u224 u225 : Value) (hJ : ∀ a w1, RN w req vOk l Bx k u4 u5 u6 u7 u22 u23 u24 u25 u205 u206 u207 u208 u209 u210 u211 u212 u213 u214 u215 u216 u217 u218 u219 u220 u221 u222 u223 u224 u225 a w1 → J a w1) (hR : ∀ a w1, bodyPost Tryz.prog Tryz.f56 (HPost w req vOk l Bx) .ret a w1 → Q0 .ret a w1) :
    Code.wp Tryz.prog body56 (Exit.then J Q0) ⟨#[.func (.func 67) #[] #[.pointer (some ⟨Bx, 0, none⟩)], .bool req, .int .i64 (1048576 - (S : Int)), .pointer none, u4, u5, u6, u7, .pointer (some ⟨w.heap.size, 0, none⟩), u9, .pointer (some ⟨w.heap.size + 2, 0, none⟩), .bool s.reg, .bool s.hasCL, .bool s.hasM, .bool s.hasS, str s.cls, u16, u17, u18, u19, u20, u21, u22, u23, u24, u25, u26, u27, u28, u29, u30, u31, u32, u33, u34, u35, u36, u37, u38, u39, u40, u41, u42, u43, u44, u45, u46, u47, u48, u49, u50, u51, u52, u53, u54, u55, u56, u57, u58, u59, u60, u61, u62, u63, u64, u65, u66, u67, u68, u69, u70, u71, u72, u73, u74, u75, u76, u77, u78, u79, u80, u81, u82, u83, u84, u85, u86, u87, u88, u89, u90, u91, u92, u93, u94, u95, u96, u97, u98, u99, u100, u101, u102, u103, u104, u105, u106, u107, u108, u109, u110, u111, u112, u113, u114, u115, u116, u117, u118, u119, u120, u121, u122, u123, u124, u125, u126, u127, u128, u129, u130, u131, u132, u133, u134, u135, u136, u137, u138, u139, u140, u141, u142, u143, u144, u145, u146, u147, u148, u149, u150, u151, u152, u153, u154, u155, u156, u157, u158, u159, u160, u161, u162, u163, u164, u165, u166, u167, u168, u169, u170, u171, u172, u173, u174, u175, u176, u177, u178, u179, u180, u181, u182, u183, u184, u185, u186, u187, u188, u189, u190, u191, u192, u193, u194, u195, u196, u197, u198, u199, u200, u201, u202, u203, u204, u205, u206, u207, u208, u209, u210, u211, u212, u213, u214, u215, u216, u217, u218, u219, u220, u221, u222, u223, u224, u225], []⟩ wr := by
  conv => arg 2; whnf
  conv => arg 4; zeta
  rw [hr]
  have hge := HS.out.ge
  have KN := next_cons Bx nm vl (l.drop (k + 1)) wr HS.out.feed (by rw [List.length_drop]; omega)
  have hn1 : nm.length ≤ 1048576 := by omega
  have hv1 : vl.length ≤ 1048576 := by omega
  have b1 : (0 : Int) ≤ 1048576 - (S : Int) := by omega
  have b2 : (1048576 - (S : Int)) ≤ 1048576 := by omega
  have b3 : (0 : Int) ≤ 1048576 - (S : Int) - ((nm.length : Int) + (vl.length : Int) + 32) := by omega
  go_wp2_with fail
  refine KN.mono ?_
  rintro e w1 ⟨rfl, hfeed, hg1⟩
  have M1 := Lib.hid (HS.out.read hBw hfeed hg1)
  have HE1 := Lib.hid (HEx.out.grown hg1 h3)
  clear hfeed hg1 KN HS
  have HB2 := Lib.hid (below_new w1 (.cells #[str nm, str vl] 103))
  have X0 : Hid ((w1.alloc (.cells #[str nm, str vl] 103)).cell? ⟨w1.heap.size, 0, none⟩ = some (str nm)) := Lib.hid (by simp)
  have X1 : Hid ((w1.alloc (.cells #[str nm, str vl] 103)).cell? ⟨w1.heap.size, 1, none⟩ = some (str vl)) := Lib.hid (by simp)
  have KV := HKV.out _ (HE1.out.cut HB2.out HE1.out.ge) (M1.out.g.trans ((grown_below HB2.out).but _))
  clear HKV
  have KP := fun w => pseudo_at nm vl w
  rw [hf2] at KP
  unfold fldV at KV KP
  go_upto_region 11 with fail
  go_wp2_with fail
  refine KV.mono ?_
  rintro e w3 ⟨v3, rfl, hv3, hb3⟩
  have c0 := (hb3.cell (p := ⟨w1.heap.size, 0, none⟩) (by simp)).trans X0.out
  have c1 := (hb3.cell (p := ⟨w1.heap.size, 1, none⟩) (by simp)).trans X1.out
  have HB3 := Lib.hid (Below.next HB2.out HB2.out.size hb3)
  have hz3 : w1.heap.size < w3.heap.size := by have := hb3.size; simp at this; omega
  clear hb3 KV
  obtain rfl : v3 = .nilIface := hv3
  go_wp2_with fail
  refine (KP _).mono ?_
  rintro e w4 ⟨rfl, hb4⟩
  have d0 := (hb4.cell (p := ⟨w1.heap.size, 0, none⟩) hz3).trans c0
  have d1 := (hb4.cell (p := ⟨w1.heap.size, 1, none⟩) hz3).trans c1
  have HB4 := Lib.hid (Below.next HB3.out HB3.out.size hb4)
  have M4 := Lib.hid (M1.out.below HB4.out)
  have hz4 : w1.heap.size < w4.heap.size := Nat.lt_of_lt_of_le hz3 hb4.size
  have hw1 := M1.out.ge
  clear hb4 c0 c1
  have hnm := HNM.out
  subst hnm
  obtain ⟨vk, hlk⟩ := M4.out.hdr.look_anyC [58, 112, 97, 116, 104] (by simp)
  rw [M4.out.abs] at hlk
  obtain ⟨w5, hrun5, hH5, hg5⟩ := M4.out.hdr.put (World.grownBy.refl w4 none) (by simp) ⟨[58, 112, 97, 116, 104], .slice none 0 0, []⟩ (fun e _ _ => by cases hv : e.val.ownBlock <;> simp) (World.ownsRow_nil _ _ _ _) (.inl rfl) (by simp) (by have := M4.out.hn; omega)
  simp only at hrun5
  have HM5 := Lib.hid (M4.out.turn (m' := k + 1) hBw hH5 (absE_put _ _) (by have := M4.out.hn; omega) (items_put M4.out.items) (Off.of_map hg5 M4.out.ge))
  have q1 := (hg5.cell_far ⟨w1.heap.size, 1, none⟩ hz4 (by simp; omega)).trans d1
  have e7 := M4.out.cells 7 _ rfl
  have g0 := HM5.out.cells 0 _ rfl
  have z0 := HM5.out.fz 0
  have M6 := Lib.hid ((HM5.out.set (s' := { s with path := vl, H := putH s.H [58, 112, 97, 116, 104] [] }) (cl' := 0) (i := 0) (u := str vl) hBw (by decide) (by rw [← M4.out.abs]; rfl) (by rw [← M4.out.abs])) : PSt w (w5.setCell ⟨w.heap.size + 2, 0, none⟩ (str vl)) Bx (k + 1) (l.drop (k + 1)) (n + 1) (putEnt es ⟨[58, 112, 97, 116, 104], .slice none 0 0, []⟩) { s with path := vl, H := putH s.H [58, 112, 97, 116, 104] [] } 0)
  clear hH5 hg5
  go_upto_region 48 with fail
  obtain ⟨dup, hdup⟩ : ∃ x, hasKey s.H [58, 112, 97, 116, 104] = x := ⟨_, rfl⟩
  have HPX := HPS.out
  rw [hdup] at HPX ⊢
  clear HPS hdup
  cases dup
  · cases req
    · have HPX := Lib.hid (HPX : psStep false vOk s ([58, 112, 97, 116, 104], vl) = none)
      go_wp2_with fail
      refine (new_at' _ _).mono ?_
      rintro e w9 ⟨q9, rfl, hb9⟩
      have M := (M6.out).below hb9
      clear hb9
      have hex := put8_cell w9 w.heap.size {} 0 (.map none) M.rex
      have HTH := Lib.hid M.there
      have HFl := Lib.hid (M.fail (req := false) (vOk := vOk) (l := l) (by unfold psAll; rw [HFO1.out, HPX.out]; rfl) (.iface 136 (.pointer (some q9))) ⟨_, rfl⟩)
      have HX := Lib.hid hex
      clear hex M
      go_wp2_with (refine wpList_store8 rfl _ rfl w.heap.size {} 0 (.map none) rfl rfl HTH.out rfl ?_)
      have x0 := HX.out 0 _ rfl
      have x1 := HX.out 1 _ rfl
      have x2 := HX.out 2 _ rfl
      have x3 := HX.out 3 _ rfl
      have x4 := HX.out 4 _ rfl
      have x5 := HX.out 5 _ rfl
      have x6 := HX.out 6 _ rfl
      have x7 := HX.out 7 _ rfl
      exact ⟨rfl, _, (show _ = Result.ok (Value.tuple #[.agg (hcl {} 0 (.map none)).toArray, .iface 136 (.pointer (some q9))]) _ by simp [results, Tryz.results56, go_sem, x0, x1, x2, x3, x4, x5, x6, x7]; rfl), HFl.out⟩
    · have HPX := Lib.hid (HPX : psStep true vOk s ([58, 112, 97, 116, 104], vl) = some { s with path := vl, H := putH s.H [58, 112, 97, 116, 104] [] })
      go_wp2_with fail
      unfold RN
      (repeat apply Exists.intro)
      refine ⟨⟨n + 1, putEnt es ⟨[58, 112, 97, 116, 104], .slice none 0 0, []⟩, { s with path := vl, H := putH s.H [58, 112, 97, 116, 104] [] }, lim_next HTK.out HSS.out, (by first | rfl | simp only [hr]), (by first | rfl | simp only [hr]), (by first | rfl | simp only [hr]), (by first | rfl | simp only [hr]), rfl, M6.out, by rw [HFO1.out, HPX.out]; rfl⟩, rfl⟩
  · have HPX := Lib.hid (HPX : psStep req vOk s ([58, 112, 97, 116, 104], vl) = none)
    go_wp2_with fail
    refine (new_at' _ _).mono ?_
    rintro e w9 ⟨q9, rfl, hb9⟩
    have M := (M6.out).below hb9
    clear hb9
    have hex := put8_cell w9 w.heap.size {} 0 (.map none) M.rex
    have HTH := Lib.hid M.there
    have HFl := Lib.hid (M.fail (req := req) (vOk := vOk) (l := l) (by unfold psAll; rw [HFO1.out, HPX.out]; rfl) (.iface 136 (.pointer (some q9))) ⟨_, rfl⟩)
    have HX := Lib.hid hex
    clear hex M
    go_wp2_with (refine wpList_store8 rfl _ rfl w.heap.size {} 0 (.map none) rfl rfl HTH.out rfl ?_)
    have x0 := HX.out 0 _ rfl
    have x1 := HX.out 1 _ rfl
    have x2 := HX.out 2 _ rfl
    have x3 := HX.out 3 _ rfl
    have x4 := HX.out 4 _ rfl
    have x5 := HX.out 5 _ rfl
    have x6 := HX.out 6 _ rfl
    have x7 := HX.out 7 _ rfl
    exact ⟨rfl, _, (show _ = Result.ok (Value.tuple #[.agg (hcl {} 0 (.map none)).toArray, .iface 136 (.pointer (some q9))]) _ by simp [results, Tryz.results56, go_sem, x0, x1, x2, x3, x4, x5, x6, x7]; rfl), HFl.out⟩

set_option maxHeartbeats 100000000 in
theorem ps156 (J : Act → World → Prop) (Q0 : Exit → Act → World → Prop) (w : World) (req : Bool) (vOk : BS × BS → Bool) (l : List (BS × BS)) (Bx : Nat) (k : Nat) (p : Addr) (wr : World) (n : Nat) (es : List Ent) (s : PS) (nm : BS) (vl : BS) (S : Nat)
    (HS : Hid (PSt w wr Bx k ((nm, vl) :: l.drop (k + 1)) n es s 0)) (HEx : Hid (Env wr p)) (hBw : Bx < w.heap.size) (h3 : 3 ≤ Bx) (hlen : l.length ≤ 32768) (hkl : k < l.length)
    (HTK : Hid (l.take (k + 1) = l.take k ++ [(nm, vl)])) (HSS : Hid (trSize (l.take k) = S)) (hsz : S + (nm.length + vl.length + 32) ≤ 1048576)
    (HFO1 : Hid (psFold req vOk {} l = (psStep req vOk s (nm, vl)).bind fun s' => psFold req vOk s' (l.drop (k + 1))))
    (HKV : Hid (∀ W, Env W p → w.grownBy W (some Bx) → Calls Tryz.prog 68 #[fldV nm vl] W (ErrPost W true))) (hf2 : pseudoB nm = true) (hr : s.reg = false) (HNM : Hid (nm = [58, 109, 101, 116, 104, 111, 100])) (HPS : Hid ((psStep req vOk s (nm, vl)) = if s.hasM then none else if false == req then none else some { s with meth := vl, hasM := true }))
     
    (u4 u5 u6 u7 u9 u16 u17 u18 u19 u20 u21 u22 u23 u24 u25 u26 u27 u28 u29 u30 u31 u32 u33 u34 u35 u36 u37 u38 u39 u40 u41 u42 u43 u44 u45 u46 u47 u48 u49 u50 u51 u52 u53 u54 u55 u56 u57 u58 u59 u60 u61 u62 u63 u64 u65 u66 u67 u68 u69 u70 u71 u72 u73 u74 u75 u76 u77 u78 u79 u80 u81 u82 u83 u84 u85 u86 u87 u88 u89 u90 u91 u92 u93 u94 u95 u96 u97 u98 u99 u100 u101 u102 u103 u104 u105 u106 u107 u108 u109 u110 u111 u112 u113 u114 u115 u116 u117 u118 u119 u120 u121 u122 u123 u124 u125 u126 u127 u128 u129 u130 u131 u132 u133 u134 u135 u136 u137 u138 u139 u140 u141 u142 u143 u144 u145 u146 u147 u148 u149 u150 u151 u152 u153 u154 u155 u156 u157 u158 u159 u160 u161 u162 u163 u164 u165 u166 u167 u168 u169 u170 u171 u172 u173 u174 u175 u176 u177 u178 u179 u180 u181 u182 u183 u184 u185 u186 u187 u188 u189 u190 u191 u192 u193 u194 u195 u196 u197 u198 u199 u200 u201 u202 u203 u204 u205 u206 u207 u208 u209 u210 u211 u212 u213 u214 u215 u216 u217 u218 u219 u220 u221 u222 u223 u224 u225 : Value) (hJ : ∀ a w1, RN w req vOk l Bx k u4 u5 u6 u7 u22 u23 u24 u25 u205 u206 u207 u208 u209 u210 u211 u212 u213 u214 u215 u216 u217 u218 u219 u220 u221 u222 u223 u224 u225 a w1 → J a w1) (hR : ∀ a w1, bodyPost Tryz.prog Tryz.f56 (HPost w req vOk l Bx) .ret a w1 → Q0 .ret a w1) :
    Code.wp Tryz.prog body56 (Exit.then J Q0) ⟨#[.func (.func 67) #[] #[.pointer (some ⟨Bx, 0, none⟩)], .bool req, .int .i64 (1048576 - (S : Int)), .pointer none, u4, u5, u6, u7, .pointer (some ⟨w.heap.size, 0, none⟩), u9, .pointer (some ⟨w.heap.size + 2, 0, none⟩), .bool s.reg, .bool s.hasCL, .bool s.hasM, .bool s.hasS, str s.cls, u16, u17, u18, u19, u20, u21, u22, u23, u24, u25, u26, u27, u28, u29, u30, u31, u32, u33, u34, u35, u36, u37, u38, u39, u40, u41, u42, u43, u44, u45, u46, u47, u48, u49, u50, u51, u52, u53, u54, u55, u56, u57, u58, u59, u60, u61, u62, u63, u64, u65, u66, u67, u68, u69, u70, u71, u72, u73, u74, u75, u76, u77, u78, u79, u80, u81, u82, u83, u84, u85, u86, u87, u88, u89, u90, u91, u92, u93, u94, u95, u96, u97, u98, u99, u100, u101, u102, u103, u104, u105, u106, u107, u108, u109, u110, u111, u112, u113, u114, u115, u116, u117, u118, u119, u120, u121, u122, u123, u124, u125, u126, u127, u128, u129, u130, u131, u132, u133, u134, u135, u136, u137, u138, u139, u140, u141, u142, u143, u144, u145, u146, u147, u148, u149, u150, u151, u152, u153, u154, u155, u156, u157, u158, u159, u160, u161, u162, u163, u164, u165, u166, u167, u168, u169, u170, u171, u172, u173, u174, u175, u176, u177, u178, u179, u180, u181, u182, u183, u184, u185, u186, u187, u188, u189, u190, u191, u192, u193, u194, u195, u196, u197, u198, u199, u200, u201, u202, u203, u204, u205, u206, u207, u208, u209, u210, u211, u212, u213, u214, u215, u216, u217, u218, u219, u220, u221, u222, u223, u224, u225], []⟩ wr := by
  conv => arg 2; whnf
  conv => arg 4; zeta
  rw [hr]
  have hge := HS.out.ge
  have KN := next_cons Bx nm vl (l.drop (k + 1)) wr HS.out.feed (by rw [List.length_drop]; omega)
  have hn1 : nm.length ≤ 1048576 := by omega
  have hv1 : vl.length ≤ 1048576 := by omega
  have b1 : (0 : Int) ≤ 1048576 - (S : Int) := by omega
  have b2 : (1048576 - (S : Int)) ≤ 1048576 := by omega
  have b3 : (0 : Int) ≤ 1048576 - (S : Int) - ((nm.length : Int) + (vl.length : Int) + 32) := by omega
  go_wp2_with fail
  refine KN.mono ?_
  rintro e w1 ⟨rfl, hfeed, hg1⟩
  have M1 := Lib.hid (HS.out.read hBw hfeed hg1)
  have HE1 := Lib.hid (HEx.out.grown hg1 h3)
  clear hfeed hg1 KN HS
  have HB2 := Lib.hid (below_new w1 (.cells #[str nm, str vl] 103))
  have X0 : Hid ((w1.alloc (.cells #[str nm, str vl] 103)).cell? ⟨w1.heap.size, 0, none⟩ = some (str nm)) := Lib.hid (by simp)
  have X1 : Hid ((w1.alloc (.cells #[str nm, str vl] 103)).cell? ⟨w1.heap.size, 1, none⟩ = some (str vl)) := Lib.hid (by simp)
  have KV := HKV.out _ (HE1.out.cut HB2.out HE1.out.ge) (M1.out.g.trans ((grown_below HB2.out).but _))
  clear HKV
  have KP := fun w => pseudo_at nm vl w
  rw [hf2] at KP
  unfold fldV at KV KP
  go_upto_region 11 with fail
  go_wp2_with fail
  refine KV.mono ?_
  rintro e w3 ⟨v3, rfl, hv3, hb3⟩
  have c0 := (hb3.cell (p := ⟨w1.heap.size, 0, none⟩) (by simp)).trans X0.out
  have c1 := (hb3.cell (p := ⟨w1.heap.size, 1, none⟩) (by simp)).trans X1.out
  have HB3 := Lib.hid (Below.next HB2.out HB2.out.size hb3)
  have hz3 : w1.heap.size < w3.heap.size := by have := hb3.size; simp at this; omega
  clear hb3 KV
  obtain rfl : v3 = .nilIface := hv3
  go_wp2_with fail
  refine (KP _).mono ?_
  rintro e w4 ⟨rfl, hb4⟩
  have d0 := (hb4.cell (p := ⟨w1.heap.size, 0, none⟩) hz3).trans c0
  have d1 := (hb4.cell (p := ⟨w1.heap.size, 1, none⟩) hz3).trans c1
  have HB4 := Lib.hid (Below.next HB3.out HB3.out.size hb4)
  have M4 := Lib.hid (M1.out.below HB4.out)
  have hz4 : w1.heap.size < w4.heap.size := Nat.lt_of_lt_of_le hz3 hb4.size
  have hw1 := M1.out.ge
  clear hb4 c0 c1
  have hnm := HNM.out
  subst hnm
  have M6 := Lib.hid ((M4.out.set (s' := { s with meth := vl, hasM := true }) (cl' := 0) (i := 1) (u := str vl) hBw (by decide) rfl rfl).weak (Nat.le_succ k))
  have e1 := M4.out.cells 1 _ rfl
  have z1 := M4.out.fz 1
  go_upto_region 48 with fail
  obtain ⟨dup, hdup⟩ : ∃ x, s.hasM = x := ⟨_, rfl⟩
  have HPX := HPS.out
  rw [hdup] at HPX ⊢
  clear HPS hdup
  cases dup
  · cases req
    · have HPX := Lib.hid (HPX : psStep false vOk s ([58, 109, 101, 116, 104, 111, 100], vl) = none)
      go_wp2_with fail
      refine (new_at' _ _).mono ?_
      rintro e w9 ⟨q9, rfl, hb9⟩
      have M := (M6.out).below hb9
      clear hb9
      have hex := put8_cell w9 w.heap.size {} 0 (.map none) M.rex
      have HTH := Lib.hid M.there
      have HFl := Lib.hid (M.fail (req := false) (vOk := vOk) (l := l) (by unfold psAll; rw [HFO1.out, HPX.out]; rfl) (.iface 136 (.pointer (some q9))) ⟨_, rfl⟩)
      have HX := Lib.hid hex
      clear hex M
      go_wp2_with (refine wpList_store8 rfl _ rfl w.heap.size {} 0 (.map none) rfl rfl HTH.out rfl ?_)
      have x0 := HX.out 0 _ rfl
      have x1 := HX.out 1 _ rfl
      have x2 := HX.out 2 _ rfl
      have x3 := HX.out 3 _ rfl
      have x4 := HX.out 4 _ rfl
      have x5 := HX.out 5 _ rfl
      have x6 := HX.out 6 _ rfl
      have x7 := HX.out 7 _ rfl
      exact ⟨rfl, _, (show _ = Result.ok (Value.tuple #[.agg (hcl {} 0 (.map none)).toArray, .iface 136 (.pointer (some q9))]) _ by simp [results, Tryz.results56, go_sem, x0, x1, x2, x3, x4, x5, x6, x7]; rfl), HFl.out⟩
    · have HPX := Lib.hid (HPX : psStep true vOk s ([58, 109, 101, 116, 104, 111, 100], vl) = some { s with meth := vl, hasM := true })
      go_wp2_with fail
      unfold RN
      (repeat apply Exists.intro)
      refine ⟨⟨n, es, { s with meth := vl, hasM := true }, lim_next HTK.out HSS.out, (by first | rfl | simp only [hr]), (by first | rfl | simp only [hr]), (by first | rfl | simp only [hr]), (by first | rfl | simp only [hr]), rfl, M6.out, by rw [HFO1.out, HPX.out]; rfl⟩, rfl⟩
  · have HPX := Lib.hid (HPX : psStep req vOk s ([58, 109, 101, 116, 104, 111, 100], vl) = none)
    go_wp2_with fail
    refine (new_at' _ _).mono ?_
    rintro e w9 ⟨q9, rfl, hb9⟩
    have M := (M6.out).below hb9
    clear hb9
    have hex := put8_cell w9 w.heap.size {} 0 (.map none) M.rex
    have HTH := Lib.hid M.there
    have HFl := Lib.hid (M.fail (req := req) (vOk := vOk) (l := l) (by unfold psAll; rw [HFO1.out, HPX.out]; rfl) (.iface 136 (.pointer (some q9))) ⟨_, rfl⟩)
    have HX := Lib.hid hex
    clear hex M
    go_wp2_with (refine wpList_store8 rfl _ rfl w.heap.size {} 0 (.map none) rfl rfl HTH.out rfl ?_)
    have x0 := HX.out 0 _ rfl
    have x1 := HX.out 1 _ rfl
    have x2 := HX.out 2 _ rfl
    have x3 := HX.out 3 _ rfl
    have x4 := HX.out 4 _ rfl
    have x5 := HX.out 5 _ rfl
    have x6 := HX.out 6 _ rfl
    have x7 := HX.out 7 _ rfl
    exact ⟨rfl, _, (show _ = Result.ok (Value.tuple #[.agg (hcl {} 0 (.map none)).toArray, .iface 136 (.pointer (some q9))]) _ by simp [results, Tryz.results56, go_sem, x0, x1, x2, x3, x4, x5, x6, x7]; rfl), HFl.out⟩

set_option maxHeartbeats 100000000 in
theorem ps256 (J : Act → World → Prop) (Q0 : Exit → Act → World → Prop) (w : World) (req : Bool) (vOk : BS × BS → Bool) (l : List (BS × BS)) (Bx : Nat) (k : Nat) (p : Addr) (wr : World) (n : Nat) (es : List Ent) (s : PS) (nm : BS) (vl : BS) (S : Nat)
    (HS : Hid (PSt w wr Bx k ((nm, vl) :: l.drop (k + 1)) n es s 0)) (HEx : Hid (Env wr p)) (hBw : Bx < w.heap.size) (h3 : 3 ≤ Bx) (hlen : l.length ≤ 32768) (hkl : k < l.length)
    (HTK : Hid (l.take (k + 1) = l.take k ++ [(nm, vl)])) (HSS : Hid (trSize (l.take k) = S)) (hsz : S + (nm.length + vl.length + 32) ≤ 1048576)
    (HFO1 : Hid (psFold req vOk {} l = (psStep req vOk s (nm, vl)).bind fun s' => psFold req vOk s' (l.drop (k + 1))))
    (HKV : Hid (∀ W, Env W p → w.grownBy W (some Bx) → Calls Tryz.prog 68 #[fldV nm vl] W (ErrPost W true))) (hf2 : pseudoB nm = true) (hr : s.reg = false) (HNM : Hid (nm = [58, 97, 117, 116, 104, 111, 114, 105, 116, 121])) (HPS : Hid ((psStep req vOk s (nm, vl)) = if hasKey s.H [58, 97, 117, 116, 104, 111, 114, 105, 116, 121] then none else if false == req then none else some { s with auth := vl, H := putH s.H [58, 97, 117, 116, 104, 111, 114, 105, 116, 121] [] }))
     
    (u4 u5 u6 u7 u9 u16 u17 u18 u19 u20 u21 u22 u23 u24 u25 u26 u27 u28 u29 u30 u31 u32 u33 u34 u35 u36 u37 u38 u39 u40 u41 u42 u43 u44 u45 u46 u47 u48 u49 u50 u51 u52 u53 u54 u55 u56 u57 u58 u59 u60 u61 u62 u63 u64 u65 u66 u67 u68 u69 u70 u71 u72 u73 u74 u75 u76 u77 u78 u79 u80 u81 u82 u83 u84 u85 u86 u87 u88 u89 u90 u91 u92 u93 u94 u95 u96 u97 u98 u99 u100 u101 u102 u103 u104 u105 u106 u107 u108 u109 u110 u111 u112 u113 u114 u115 u116 u117 u118 u119 u120 u121 u122 u123 u124 u125 u126 u127 u128 u129 u130 u131 u132 u133 u134 u135 u136 u137 u138 u139 u140 u141 u142 u143 u144 u145 u146 u147 u148 u149 u150 u151 u152 u153 u154 u155 u156 u157 u158 u159 u160 u161 u162 u163 u164 u165 u166 u167 u168 u169 u170 u171 u172 u173 u174 u175 u176 u177 u178 u179 u180 u181 u182 u183 u184 u185 u186 u187 u188 u189 u190 u191 u192 u193 u194 u195 u196 u197 u198 u199 u200 u201 u202 u203 u204 u205 u206 u207 u208 u209 u210 u211 u212 u213 u214 u215 u216 u217 u218 u219 u220 u221 u222 u223 u224 u225 : Value) (hJ : ∀ a w1, RN w req vOk l Bx k u4 u5 u6 u7 u22 u23 u24 u25 u205 u206 u207 u208 u209 u210 u211 u212 u213 u214 u215 u216 u217 u218 u219 u220 u221 u222 u223 u224 u225 a w1 → J a w1) (hR : ∀ a w1, bodyPost Tryz.prog Tryz.f56 (HPost w req vOk l Bx) .ret a w1 → Q0 .ret a w1) :
    Code.wp Tryz.prog body56 (Exit.then J Q0) ⟨#[.func (.func 67) #[] #[.pointer (some ⟨Bx, 0, none⟩)], .bool req, .int .i64 (1048576 - (S : Int)), .pointer none, u4, u5, u6, u7, .pointer (some ⟨w.heap.size, 0, none⟩), u9, .pointer (some ⟨w.heap.size + 2, 0, none⟩), .bool s.reg, .bool s.hasCL, .bool s.hasM, .bool s.hasS, str s.cls, u16, u17, u18, u19, u20, u21, u22, u23, u24, u25, u26, u27, u28, u29, u30, u31, u32, u33, u34, u35, u36, u37, u38, u39, u40, u41, u42, u43, u44, u45, u46, u47, u48, u49, u50, u51, u52, u53, u54, u55, u56, u57, u58, u59, u60, u61, u62, u63, u64, u65, u66, u67, u68, u69, u70, u71, u72, u73, u74, u75, u76, u77, u78, u79, u80, u81, u82, u83, u84, u85, u86, u87, u88, u89, u90, u91, u92, u93, u94, u95, u96, u97, u98, u99, u100, u101, u102, u103, u104, u105, u106, u107, u108, u109, u110, u111, u112, u113, u114, u115, u116, u117, u118, u119, u120, u121, u122, u123, u124, u125, u126, u127, u128, u129, u130, u131, u132, u133, u134, u135, u136, u137, u138, u139, u140, u141, u142, u143, u144, u145, u146, u147, u148, u149, u150, u151, u152, u153, u154, u155, u156, u157, u158, u159, u160, u161, u162, u163, u164, u165, u166, u167, u168, u169, u170, u171, u172, u173, u174, u175, u176, u177, u178, u179, u180, u181, u182, u183, u184, u185, u186, u187, u188, u189, u190, u191, u192, u193, u194, u195, u196, u197, u198, u199, u200, u201, u202, u203, u204, u205, u206, u207, u208, u209, u210, u211, u212, u213, u214, u215, u216, u217, u218, u219, u220, u221, u222, u223, u224, u225], []⟩ wr := by
  conv => arg 2; whnf
  conv => arg 4; zeta
  rw [hr]
  have hge := HS.out.ge
  have KN := next_cons Bx nm vl (l.drop (k + 1)) wr HS.out.feed (by rw [List.length_drop]; omega)
  have hn1 : nm.length ≤ 1048576 := by omega
  have hv1 : vl.length ≤ 1048576 := by omega
  have b1 : (0 : Int) ≤ 1048576 - (S : Int) := by omega
  have b2 : (1048576 - (S : Int)) ≤ 1048576 := by omega
  have b3 : (0 : Int) ≤ 1048576 - (S : Int) - ((nm.length : Int) + (vl.length : Int) + 32) := by omega
  go_wp2_with fail
  refine KN.mono ?_
  rintro e w1 ⟨rfl, hfeed, hg1⟩
  have M1 := Lib.hid (HS.out.read hBw hfeed hg1)
  have HE1 := Lib.hid (HEx.out.grown hg1 h3)
  clear hfeed hg1 KN HS
  have HB2 := Lib.hid (below_new w1 (.cells #[str nm, str vl] 103))
  have X0 : Hid ((w1.alloc (.cells #[str nm, str vl] 103)).cell? ⟨w1.heap.size, 0, none⟩ = some (str nm)) := Lib.hid (by simp)
  have X1 : Hid ((w1.alloc (.cells #[str nm, str vl] 103)).cell? ⟨w1.heap.size, 1, none⟩ = some (str vl)) := Lib.hid (by simp)
  have KV := HKV.out _ (HE1.out.cut HB2.out HE1.out.ge) (M1.out.g.trans ((grown_below HB2.out).but _))
  clear HKV
  have KP := fun w => pseudo_at nm vl w
  rw [hf2] at KP
  unfold fldV at KV KP
  go_upto_region 11 with fail
  go_wp2_with fail
  refine KV.mono ?_
  rintro e w3 ⟨v3, rfl, hv3, hb3⟩
  have c0 := (hb3.cell (p := ⟨w1.heap.size, 0, none⟩) (by simp)).trans X0.out
  have c1 := (hb3.cell (p := ⟨w1.heap.size, 1, none⟩) (by simp)).trans X1.out
  have HB3 := Lib.hid (Below.next HB2.out HB2.out.size hb3)
  have hz3 : w1.heap.size < w3.heap.size := by have := hb3.size; simp at this; omega
  clear hb3 KV
  obtain rfl : v3 = .nilIface := hv3
  go_wp2_with fail
  refine (KP _).mono ?_
  rintro e w4 ⟨rfl, hb4⟩
  have d0 := (hb4.cell (p := ⟨w1.heap.size, 0, none⟩) hz3).trans c0
  have d1 := (hb4.cell (p := ⟨w1.heap.size, 1, none⟩) hz3).trans c1
  have HB4 := Lib.hid (Below.next HB3.out HB3.out.size hb4)
  have M4 := Lib.hid (M1.out.below HB4.out)
  have hz4 : w1.heap.size < w4.heap.size := Nat.lt_of_lt_of_le hz3 hb4.size
  have hw1 := M1.out.ge
  clear hb4 c0 c1
  have hnm := HNM.out
  subst hnm
  obtain ⟨vk, hlk⟩ := M4.out.hdr.look_anyC [58, 97, 117, 116, 104, 111, 114, 105, 116, 121] (by simp)
  rw [M4.out.abs] at hlk
  obtain ⟨w5, hrun5, hH5, hg5⟩ := M4.out.hdr.put (World.grownBy.refl w4 none) (by simp) ⟨[58, 97, 117, 116, 104, 111, 114, 105, 116, 121], .slice none 0 0, []⟩ (fun e _ _ => by cases hv : e.val.ownBlock <;> simp) (World.ownsRow_nil _ _ _ _) (.inl rfl) (by simp) (by have := M4.out.hn; omega)
  simp only at hrun5
  have HM5 := Lib.hid (M4.out.turn (m' := k + 1) hBw hH5 (absE_put _ _) (by have := M4.out.hn; omega) (items_put M4.out.items) (Off.of_map hg5 M4.out.ge))
  have q1 := (hg5.cell_far ⟨w1.heap.size, 1, none⟩ hz4 (by simp; omega)).trans d1
  have e7 := M4.out.cells 7 _ rfl
  have g2 := HM5.out.cells 2 _ rfl
  have z2 := HM5.out.fz 2
  have M6 := Lib.hid ((HM5.out.set (s' := { s with auth := vl, H := putH s.H [58, 97, 117, 116, 104, 111, 114, 105, 116, 121] [] }) (cl' := 0) (i := 2) (u := str vl) hBw (by decide) (by rw [← M4.out.abs]; rfl) (by rw [← M4.out.abs])) : PSt w (w5.setCell ⟨w.heap.size + 2, 2, none⟩ (str vl)) Bx (k + 1) (l.drop (k + 1)) (n + 1) (putEnt es ⟨[58, 97, 117, 116, 104, 111, 114, 105, 116, 121], .slice none 0 0, []⟩) { s with auth := vl, H := putH s.H [58, 97, 117, 116, 104, 111, 114, 105, 116, 121] [] } 0)
  clear hH5 hg5
  go_upto_region 48 with fail
  obtain ⟨dup, hdup⟩ : ∃ x, hasKey s.H [58, 97, 117, 116, 104, 111, 114, 105, 116, 121] = x := ⟨_, rfl⟩
  have HPX := HPS.out
  rw [hdup] at HPX ⊢
  clear HPS hdup
  cases dup
  · cases req
    · have HPX := Lib.hid (HPX : psStep false vOk s ([58, 97, 117, 116, 104, 111, 114, 105, 116, 121], vl) = none)
      go_wp2_with fail
      refine (new_at' _ _).mono ?_
      rintro e w9 ⟨q9, rfl, hb9⟩
      have M := (M6.out).below hb9
      clear hb9
      have hex := put8_cell w9 w.heap.size {} 0 (.map none) M.rex
      have HTH := Lib.hid M.there
      have HFl := Lib.hid (M.fail (req := false) (vOk := vOk) (l := l) (by unfold psAll; rw [HFO1.out, HPX.out]; rfl) (.iface 136 (.pointer (some q9))) ⟨_, rfl⟩)
      have HX := Lib.hid hex
      clear hex M
      go_wp2_with (refine wpList_store8 rfl _ rfl w.heap.size {} 0 (.map none) rfl rfl HTH.out rfl ?_)
      have x0 := HX.out 0 _ rfl
      have x1 := HX.out 1 _ rfl
      have x2 := HX.out 2 _ rfl
      have x3 := HX.out 3 _ rfl
      have x4 := HX.out 4 _ rfl
      have x5 := HX.out 5 _ rfl
      have x6 := HX.out 6 _ rfl
      have x7 := HX.out 7 _ rfl
      exact ⟨rfl, _, (show _ = Result.ok (Value.tuple #[.agg (hcl {} 0 (.map none)).toArray, .iface 136 (.pointer (some q9))]) _ by simp [results, Tryz.results56, go_sem, x0, x1, x2, x3, x4, x5, x6, x7]; rfl), HFl.out⟩
    · have HPX := Lib.hid (HPX : psStep true vOk s ([58, 97, 117, 116, 104, 111, 114, 105, 116, 121], vl) = some { s with auth := vl, H := putH s.H [58, 97, 117, 116, 104, 111, 114, 105, 116, 121] [] })
      go_wp2_with fail
      unfold RN
      (repeat apply Exists.intro)
      refine ⟨⟨n + 1, putEnt es ⟨[58, 97, 117, 116, 104, 111, 114, 105, 116, 121], .slice none 0 0, []⟩, { s with auth := vl, H := putH s.H [58, 97, 117, 116, 104, 111, 114, 105, 116, 121] [] }, lim_next HTK.out HSS.out, (by first | rfl | simp only [hr]), (by first | rfl | simp only [hr]), (by first | rfl | simp only [hr]), (by first | rfl | simp only [hr]), rfl, M6.out, by rw [HFO1.out, HPX.out]; rfl⟩, rfl⟩
  · have HPX := Lib.hid (HPX : psStep req vOk s ([58, 97, 117, 116, 104, 111, 114, 105, 116, 121], vl) = none)
    go_wp2_with fail
    refine (new_at' _ _).mono ?_
    rintro e w9 ⟨q9, rfl, hb9⟩
    have M := (M6.out).below hb9
    clear hb9
    have hex := put8_cell w9 w.heap.size {} 0 (.map none) M.rex
    have HTH := Lib.hid M.there
    have HFl := Lib.hid (M.fail (req := req) (vOk := vOk) (l := l) (by unfold psAll; rw [HFO1.out, HPX.out]; rfl) (.iface 136 (.pointer (some q9))) ⟨_, rfl⟩)
    have HX := Lib.hid hex
    clear hex M
    go_wp2_with (refine wpList_store8 rfl _ rfl w.heap.size {} 0 (.map none) rfl rfl HTH.out rfl ?_)
    have x0 := HX.out 0 _ rfl
    have x1 := HX.out 1 _ rfl
    have x2 := HX.out 2 _ rfl
    have x3 := HX.out 3 _ rfl
    have x4 := HX.out 4 _ rfl
    have x5 := HX.out 5 _ rfl
    have x6 := HX.out 6 _ rfl
    have x7 := HX.out 7 _ rfl
    exact ⟨rfl, _, (show _ = Result.ok (Value.tuple #[.agg (hcl {} 0 (.map none)).toArray, .iface 136 (.pointer (some q9))]) _ by simp [results, Tryz.results56, go_sem, x0, x1, x2, x3, x4, x5, x6, x7]; rfl), HFl.out⟩

set_option maxHeartbeats 100000000 in
theorem ps356 (J : Act → World → Prop) (Q0 : Exit → Act → World → Prop) (w : World) (req : Bool) (vOk : BS × BS → Bool) (l : List (BS × BS)) (Bx : Nat) (k : Nat) (p : Addr) (wr : World) (n : Nat) (es : List Ent) (s : PS) (nm : BS) (vl : BS) (S : Nat)
    (HS : Hid (PSt w wr Bx k ((nm, vl) :: l.drop (k + 1)) n es s 0)) (HEx : Hid (Env wr p)) (hBw : Bx < w.heap.size) (h3 : 3 ≤ Bx) (hlen : l.length ≤ 32768) (hkl : k < l.length)
    (HTK : Hid (l.take (k + 1) = l.take k ++ [(nm, vl)])) (HSS : Hid (trSize (l.take k) = S)) (hsz : S + (nm.length + vl.length + 32) ≤ 1048576)
    (HFO1 : Hid (psFold req vOk {} l = (psStep req vOk s (nm, vl)).bind fun s' => psFold req vOk s' (l.drop (k + 1))))
    (HKV : Hid (∀ W, Env W p → w.grownBy W (some Bx) → Calls Tryz.prog 68 #[fldV nm vl] W (ErrPost W true))) (hf2 : pseudoB nm = true) (hr : s.reg = false) (HNM : Hid (nm = [58, 112, 114, 111, 116, 111, 99, 111, 108])) (HPS : Hid ((psStep req vOk s (nm, vl)) = if hasKey s.H [58, 112, 114, 111, 116, 111, 99, 111, 108] then none else if false == req then none else some { s with proto := vl, H := putH s.H [58, 112, 114, 111, 116, 111, 99, 111, 108] [] }))
     
    (u4 u5 u6 u7 u9 u16 u17 u18 u19 u20 u21 u22 u23 u24 u25 u26 u27 u28 u29 u30 u31 u32 u33 u34 u35 u36 u37 u38 u39 u40 u41 u42 u43 u44 u45 u46 u47 u48 u49 u50 u51 u52 u53 u54 u55 u56 u57 u58 u59 u60 u61 u62 u63 u64 u65 u66 u67 u68 u69 u70 u71 u72 u73 u74 u75 u76 u77 u78 u79 u80 u81 u82 u83 u84 u85 u86 u87 u88 u89 u90 u91 u92 u93 u94 u95 u96 u97 u98 u99 u100 u101 u102 u103 u104 u105 u106 u107 u108 u109 u110 u111 u112 u113 u114 u115 u116 u117 u118 u119 u120 u121 u122 u123 u124 u125 u126 u127 u128 u129 u130 u131 u132 u133 u134 u135 u136 u137 u138 u139 u140 u141 u142 u143 u144 u145 u146 u147 u148 u149 u150 u151 u152 u153 u154 u155 u156 u157 u158 u159 u160 u161 u162 u163 u164 u165 u166 u167 u168 u169 u170 u171 u172 u173 u174 u175 u176 u177 u178 u179 u180 u181 u182 u183 u184 u185 u186 u187 u188 u189 u190 u191 u192 u193 u194 u195 u196 u197 u198 u199 u200 u201 u202 u203 u204 u205 u206 u207 u208 u209 u210 u211 u212 u213 u214 u215 u216 u217 u218 u219 u220 u221 u222 u223 u224 u225 : Value) (hJ : ∀ a w1, RN w req vOk l Bx k u4 u5 u6 u7 u22 u23 u24 u25 u205 u206 u207 u208 u209 u210 u211 u212 u213 u214 u215 u216 u217 u218 u219 u220 u221 u222 u223 u224 u225 a w1 → J a w1) (hR : ∀ a w1, bodyPost Tryz.prog Tryz.f56 (HPost w req vOk l Bx) .ret a w1 → Q0 .ret a w1) :
    Code.wp Tryz.prog body56 (Exit.then J Q0) ⟨#[.func (.func 67) #[] #[.pointer (some ⟨Bx, 0, none⟩)], .bool req, .int .i64 (1048576 - (S : Int)), .pointer none, u4, u5, u6, u7, .pointer (some ⟨w.heap.size, 0, none⟩), u9, .pointer (some ⟨w.heap.size + 2, 0, none⟩), .bool s.reg, .bool s.hasCL, .bool s.hasM, .bool s.hasS, str s.cls, u16, u17, u18, u19, u20, u21, u22, u23, u24, u25, u26, u27, u28, u29, u30, u31, u32, u33, u34, u35, u36, u37, u38, u39, u40, u41, u42, u43, u44, u45, u46, u47, u48, u49, u50, u51, u52, u53, u54, u55, u56, u57, u58, u59, u60, u61, u62, u63, u64, u65, u66, u67, u68, u69, u70, u71, u72, u73, u74, u75, u76, u77, u78, u79, u80, u81, u82, u83, u84, u85, u86, u87, u88, u89, u90, u91, u92, u93, u94, u95, u96, u97, u98, u99, u100, u101, u102, u103, u104, u105, u106, u107, u108, u109, u110, u111, u112, u113, u114, u115, u116, u117, u118, u119, u120, u121, u122, u123, u124, u125, u126, u127, u128, u129, u130, u131, u132, u133, u134, u135, u136, u137, u138, u139, u140, u141, u142, u143, u144, u145, u146, u147, u148, u149, u150, u151, u152, u153, u154, u155, u156, u157, u158, u159, u160, u161, u162, u163, u164, u165, u166, u167, u168, u169, u170, u171, u172, u173, u174, u175, u176, u177, u178, u179, u180, u181, u182, u183, u184, u185, u186, u187, u188, u189, u190, u191, u192, u193, u194, u195, u196, u197, u198, u199, u200, u201, u202, u203, u204, u205, u206, u207, u208, u209, u210, u211, u212, u213, u214, u215, u216, u217, u218, u219, u220, u221, u222, u223, u224, u225], []⟩ wr := by
  conv => arg 2; whnf
  conv => arg 4; zeta
  rw [hr]
  have hge := HS.out.ge
  have KN := next_cons Bx nm vl (l.drop (k + 1)) wr HS.out.feed (by rw [List.length_drop]; omega)
  have hn1 : nm.length ≤ 1048576 := by omega
  have hv1 : vl.length ≤ 1048576 := by omega
  have b1 : (0 : Int) ≤ 1048576 - (S : Int) := by omega
  have b2 : (1048576 - (S : Int)) ≤ 1048576 := by omega
  have b3 : (0 : Int) ≤ 1048576 - (S : Int) - ((nm.length : Int) + (vl.length : Int) + 32) := by omega
  go_wp2_with fail
  refine KN.mono ?_
  rintro e w1 ⟨rfl, hfeed, hg1⟩
  have M1 := Lib.hid (HS.out.read hBw hfeed hg1)
  have HE1 := Lib.hid (HEx.out.grown hg1 h3)
  clear hfeed hg1 KN HS
  have HB2 := Lib.hid (below_new w1 (.cells #[str nm, str vl] 103))
  have X0 : Hid ((w1.alloc (.cells #[str nm, str vl] 103)).cell? ⟨w1.heap.size, 0, none⟩ = some (str nm)) := Lib.hid (by simp)
  have X1 : Hid ((w1.alloc (.cells #[str nm, str vl] 103)).cell? ⟨w1.heap.size, 1, none⟩ = some (str vl)) := Lib.hid (by simp)
  have KV := HKV.out _ (HE1.out.cut HB2.out HE1.out.ge) (M1.out.g.trans ((grown_below HB2.out).but _))
  clear HKV
  have KP := fun w => pseudo_at nm vl w
  rw [hf2] at KP
  unfold fldV at KV KP
  go_upto_region 11 with fail
  go_wp2_with fail
  refine KV.mono ?_
  rintro e w3 ⟨v3, rfl, hv3, hb3⟩
  have c0 := (hb3.cell (p := ⟨w1.heap.size, 0, none⟩) (by simp)).trans X0.out
  have c1 := (hb3.cell (p := ⟨w1.heap.size, 1, none⟩) (by simp)).trans X1.out
  have HB3 := Lib.hid (Below.next HB2.out HB2.out.size hb3)
  have hz3 : w1.heap.size < w3.heap.size := by have := hb3.size; simp at this; omega
  clear hb3 KV
  obtain rfl : v3 = .nilIface := hv3
  go_wp2_with fail
  refine (KP _).mono ?_
  rintro e w4 ⟨rfl, hb4⟩
  have d0 := (hb4.cell (p := ⟨w1.heap.size, 0, none⟩) hz3).trans c0
  have d1 := (hb4.cell (p := ⟨w1.heap.size, 1, none⟩) hz3).trans c1
  have HB4 := Lib.hid (Below.next HB3.out HB3.out.size hb4)
  have M4 := Lib.hid (M1.out.below HB4.out)
  have hz4 : w1.heap.size < w4.heap.size := Nat.lt_of_lt_of_le hz3 hb4.size
  have hw1 := M1.out.ge
  clear hb4 c0 c1
  have hnm := HNM.out
  subst hnm
  obtain ⟨vk, hlk⟩ := M4.out.hdr.look_anyC [58, 112, 114, 111, 116, 111, 99, 111, 108] (by simp)
  rw [M4.out.abs] at hlk
  obtain ⟨w5, hrun5, hH5, hg5⟩ := M4.out.hdr.put (World.grownBy.refl w4 none) (by simp) ⟨[58, 112, 114, 111, 116, 111, 99, 111, 108], .slice none 0 0, []⟩ (fun e _ _ => by cases hv : e.val.ownBlock <;> simp) (World.ownsRow_nil _ _ _ _) (.inl rfl) (by simp) (by have := M4.out.hn; omega)
  simp only at hrun5
  have HM5 := Lib.hid (M4.out.turn (m' := k + 1) hBw hH5 (absE_put _ _) (by have := M4.out.hn; omega) (items_put M4.out.items) (Off.of_map hg5 M4.out.ge))
  have q1 := (hg5.cell_far ⟨w1.heap.size, 1, none⟩ hz4 (by simp; omega)).trans d1
  have e7 := M4.out.cells 7 _ rfl
  have g5 := HM5.out.cells 5 _ rfl
  have z5 := HM5.out.fz 5
  have M6 := Lib.hid ((HM5.out.set (s' := { s with proto := vl, H := putH s.H [58, 112, 114, 111, 116, 111, 99, 111, 108] [] }) (cl' := 0) (i := 5) (u := str vl) hBw (by decide) (by rw [← M4.out.abs]; rfl) (by rw [← M4.out.abs])) : PSt w (w5.setCell ⟨w.heap.size + 2, 5, none⟩ (str vl)) Bx (k + 1) (l.drop (k + 1)) (n + 1) (putEnt es ⟨[58, 112, 114, 111, 116, 111, 99, 111, 108], .slice none 0 0, []⟩) { s with proto := vl, H := putH s.H [58, 112, 114, 111, 116, 111, 99, 111, 108] [] } 0)
  clear hH5 hg5
  go_upto_region 48 with fail
  obtain ⟨dup, hdup⟩ : ∃ x, hasKey s.H [58, 112, 114, 111, 116, 111, 99, 111, 108] = x := ⟨_, rfl⟩
  have HPX := HPS.out
  rw [hdup] at HPX ⊢
  clear HPS hdup
  cases dup
  · cases req
    · have HPX := Lib.hid (HPX : psStep false vOk s ([58, 112, 114, 111, 116, 111, 99, 111, 108], vl) = none)
      go_wp2_with fail
      refine (new_at' _ _).mono ?_
      rintro e w9 ⟨q9, rfl, hb9⟩
      have M := (M6.out).below hb9
      clear hb9
      have hex := put8_cell w9 w.heap.size {} 0 (.map none) M.rex
      have HTH := Lib.hid M.there
      have HFl := Lib.hid (M.fail (req := false) (vOk := vOk) (l := l) (by unfold psAll; rw [HFO1.out, HPX.out]; rfl) (.iface 136 (.pointer (some q9))) ⟨_, rfl⟩)
      have HX := Lib.hid hex
      clear hex M
      go_wp2_with (refine wpList_store8 rfl _ rfl w.heap.size {} 0 (.map none) rfl rfl HTH.out rfl ?_)
      have x0 := HX.out 0 _ rfl
      have x1 := HX.out 1 _ rfl
      have x2 := HX.out 2 _ rfl
      have x3 := HX.out 3 _ rfl
      have x4 := HX.out 4 _ rfl
      have x5 := HX.out 5 _ rfl
      have x6 := HX.out 6 _ rfl
      have x7 := HX.out 7 _ rfl
      exact ⟨rfl, _, (show _ = Result.ok (Value.tuple #[.agg (hcl {} 0 (.map none)).toArray, .iface 136 (.pointer (some q9))]) _ by simp [results, Tryz.results56, go_sem, x0, x1, x2, x3, x4, x5, x6, x7]; rfl), HFl.out⟩
    · have HPX := Lib.hid (HPX : psStep true vOk s ([58, 112, 114, 111, 116, 111, 99, 111, 108], vl) = some { s with proto := vl, H := putH s.H [58, 112, 114, 111, 116, 111, 99, 111, 108] [] })
      go_wp2_with fail
      unfold RN
      (repeat apply Exists.intro)
      refine ⟨⟨n + 1, putEnt es ⟨[58, 112, 114, 111, 116, 111, 99, 111, 108], .slice none 0 0, []⟩, { s with proto := vl, H := putH s.H [58, 112, 114, 111, 116, 111, 99, 111, 108] [] }, lim_next HTK.out HSS.out, (by first | rfl | simp only [hr]), (by first | rfl | simp only [hr]), (by first | rfl | simp only [hr]), (by first | rfl | simp only [hr]), rfl, M6.out, by rw [HFO1.out, HPX.out]; rfl⟩, rfl⟩
  · have HPX := Lib.hid (HPX : psStep req vOk s ([58, 112, 114, 111, 116, 111, 99, 111, 108], vl) = none)
    go_wp2_with fail
    refine (new_at' _ _).mono ?_
    rintro e w9 ⟨q9, rfl, hb9⟩
    have M := (M6.out).below hb9
    clear hb9
    have hex := put8_cell w9 w.heap.size {} 0 (.map none) M.rex
    have HTH := Lib.hid M.there
    have HFl := Lib.hid (M.fail (req := req) (vOk := vOk) (l := l) (by unfold psAll; rw [HFO1.out, HPX.out]; rfl) (.iface 136 (.pointer (some q9))) ⟨_, rfl⟩)
    have HX := Lib.hid hex
    clear hex M
    go_wp2_with (refine wpList_store8 rfl _ rfl w.heap.size {} 0 (.map none) rfl rfl HTH.out rfl ?_)
    have x0 := HX.out 0 _ rfl
    have x1 := HX.out 1 _ rfl
    have x2 := HX.out 2 _ rfl
    have x3 := HX.out 3 _ rfl
    have x4 := HX.out 4 _ rfl
    have x5 := HX.out 5 _ rfl
    have x6 := HX.out 6 _ rfl
    have x7 := HX.out 7 _ rfl
    exact ⟨rfl, _, (show _ = Result.ok (Value.tuple #[.agg (hcl {} 0 (.map none)).toArray, .iface 136 (.pointer (some q9))]) _ by simp [results, Tryz.results56, go_sem, x0, x1, x2, x3, x4, x5, x6, x7]; rfl), HFl.out⟩

set_option maxHeartbeats 100000000 in
theorem ps456 (J : Act → World → Prop) (Q0 : Exit → Act → World → Prop) (w : World) (req : Bool) (vOk : BS × BS → Bool) (l : List (BS × BS)) (Bx : Nat) (k : Nat) (p : Addr) (wr : World) (n : Nat) (es : List Ent) (s : PS) (nm : BS) (vl : BS) (S : Nat)
    (HS : Hid (PSt w wr Bx k ((nm, vl) :: l.drop (k + 1)) n es s 0)) (HEx : Hid (Env wr p)) (hBw : Bx < w.heap.size) (h3 : 3 ≤ Bx) (hlen : l.length ≤ 32768) (hkl : k < l.length)
    (HTK : Hid (l.take (k + 1) = l.take k ++ [(nm, vl)])) (HSS : Hid (trSize (l.take k) = S)) (hsz : S + (nm.length + vl.length + 32) ≤ 1048576)
    (HFO1 : Hid (psFold req vOk {} l = (psStep req vOk s (nm, vl)).bind fun s' => psFold req vOk s' (l.drop (k + 1))))
    (HKV : Hid (∀ W, Env W p → w.grownBy W (some Bx) → Calls Tryz.prog 68 #[fldV nm vl] W (ErrPost W true))) (hf2 : pseudoB nm = true) (hr : s.reg = false) (HNM : Hid (nm = [58, 115, 99, 104, 101, 109, 101])) (HPS : Hid ((psStep req vOk s (nm, vl)) = if hasKey s.H [58, 115, 99, 104, 101, 109, 101] then none else if false == req then none else some { s with scheme := Lib.toLowerA vl, H := putH s.H [58, 115, 99, 104, 101, 109, 101] [] })) (hasc : ascii vl = true)
     
    (u4 u5 u6 u7 u9 u16 u17 u18 u19 u20 u21 u22 u23 u24 u25 u26 u27 u28 u29 u30 u31 u32 u33 u34 u35 u36 u37 u38 u39 u40 u41 u42 u43 u44 u45 u46 u47 u48 u49 u50 u51 u52 u53 u54 u55 u56 u57 u58 u59 u60 u61 u62 u63 u64 u65 u66 u67 u68 u69 u70 u71 u72 u73 u74 u75 u76 u77 u78 u79 u80 u81 u82 u83 u84 u85 u86 u87 u88 u89 u90 u91 u92 u93 u94 u95 u96 u97 u98 u99 u100 u101 u102 u103 u104 u105 u106 u107 u108 u109 u110 u111 u112 u113 u114 u115 u116 u117 u118 u119 u120 u121 u122 u123 u124 u125 u126 u127 u128 u129 u130 u131 u132 u133 u134 u135 u136 u137 u138 u139 u140 u141 u142 u143 u144 u145 u146 u147 u148 u149 u150 u151 u152 u153 u154 u155 u156 u157 u158 u159 u160 u161 u162 u163 u164 u165 u166 u167 u168 u169 u170 u171 u172 u173 u174 u175 u176 u177 u178 u179 u180 u181 u182 u183 u184 u185 u186 u187 u188 u189 u190 u191 u192 u193 u194 u195 u196 u197 u198 u199 u200 u201 u202 u203 u204 u205 u206 u207 u208 u209 u210 u211 u212 u213 u214 u215 u216 u217 u218 u219 u220 u221 u222 u223 u224 u225 : Value) (hJ : ∀ a w1, RN w req vOk l Bx k u4 u5 u6 u7 u22 u23 u24 u25 u205 u206 u207 u208 u209 u210 u211 u212 u213 u214 u215 u216 u217 u218 u219 u220 u221 u222 u223 u224 u225 a w1 → J a w1) (hR : ∀ a w1, bodyPost Tryz.prog Tryz.f56 (HPost w req vOk l Bx) .ret a w1 → Q0 .ret a w1) :
    Code.wp Tryz.prog body56 (Exit.then J Q0) ⟨#[.func (.func 67) #[] #[.pointer (some ⟨Bx, 0, none⟩)], .bool req, .int .i64 (1048576 - (S : Int)), .pointer none, u4, u5, u6, u7, .pointer (some ⟨w.heap.size, 0, none⟩), u9, .pointer (some ⟨w.heap.size + 2, 0, none⟩), .bool s.reg, .bool s.hasCL, .bool s.hasM, .bool s.hasS, str s.cls, u16, u17, u18, u19, u20, u21, u22, u23, u24, u25, u26, u27, u28, u29, u30, u31, u32, u33, u34, u35, u36, u37, u38, u39, u40, u41, u42, u43, u44, u45, u46, u47, u48, u49, u50, u51, u52, u53, u54, u55, u56, u57, u58, u59, u60, u61, u62, u63, u64, u65, u66, u67, u68, u69, u70, u71, u72, u73, u74, u75, u76, u77, u78, u79, u80, u81, u82, u83, u84, u85, u86, u87, u88, u89, u90, u91, u92, u93, u94, u95, u96, u97, u98, u99, u100, u101, u102, u103, u104, u105, u106, u107, u108, u109, u110, u111, u112, u113, u114, u115, u116, u117, u118, u119, u120, u121, u122, u123, u124, u125, u126, u127, u128, u129, u130, u131, u132, u133, u134, u135, u136, u137, u138, u139, u140, u141, u142, u143, u144, u145, u146, u147, u148, u149, u150, u151, u152, u153, u154, u155, u156, u157, u158, u159, u160, u161, u162, u163, u164, u165, u166, u167, u168, u169, u170, u171, u172, u173, u174, u175, u176, u177, u178, u179, u180, u181, u182, u183, u184, u185, u186, u187, u188, u189, u190, u191, u192, u193, u194, u195, u196, u197, u198, u199, u200, u201, u202, u203, u204, u205, u206, u207, u208, u209, u210, u211, u212, u213, u214, u215, u216, u217, u218, u219, u220, u221, u222, u223, u224, u225], []⟩ wr := by
  conv => arg 2; whnf
  conv => arg 4; zeta
  rw [hr]
  have hge := HS.out.ge
  have KN := next_cons Bx nm vl (l.drop (k + 1)) wr HS.out.feed (by rw [List.length_drop]; omega)
  have hn1 : nm.length ≤ 1048576 := by omega
  have hv1 : vl.length ≤ 1048576 := by omega
  have b1 : (0 : Int) ≤ 1048576 - (S : Int) := by omega
  have b2 : (1048576 - (S : Int)) ≤ 1048576 := by omega
  have b3 : (0 : Int) ≤ 1048576 - (S : Int) - ((nm.length : Int) + (vl.length : Int) + 32) := by omega
  go_wp2_with fail
  refine KN.mono ?_
  rintro e w1 ⟨rfl, hfeed, hg1⟩
  have M1 := Lib.hid (HS.out.read hBw hfeed hg1)
  have HE1 := Lib.hid (HEx.out.grown hg1 h3)
  clear hfeed hg1 KN HS
  have HB2 := Lib.hid (below_new w1 (.cells #[str nm, str vl] 103))
  have X0 : Hid ((w1.alloc (.cells #[str nm, str vl] 103)).cell? ⟨w1.heap.size, 0, none⟩ = some (str nm)) := Lib.hid (by simp)
  have X1 : Hid ((w1.alloc (.cells #[str nm, str vl] 103)).cell? ⟨w1.heap.size, 1, none⟩ = some (str vl)) := Lib.hid (by simp)
  have KV := HKV.out _ (HE1.out.cut HB2.out HE1.out.ge) (M1.out.g.trans ((grown_below HB2.out).but _))
  clear HKV
  have KP := fun w => pseudo_at nm vl w
  rw [hf2] at KP
  unfold fldV at KV KP
  go_upto_region 11 with fail
  go_wp2_with fail
  refine KV.mono ?_
  rintro e w3 ⟨v3, rfl, hv3, hb3⟩
  have c0 := (hb3.cell (p := ⟨w1.heap.size, 0, none⟩) (by simp)).trans X0.out
  have c1 := (hb3.cell (p := ⟨w1.heap.size, 1, none⟩) (by simp)).trans X1.out
  have HB3 := Lib.hid (Below.next HB2.out HB2.out.size hb3)
  have hz3 : w1.heap.size < w3.heap.size := by have := hb3.size; simp at this; omega
  clear hb3 KV
  obtain rfl : v3 = .nilIface := hv3
  go_wp2_with fail
  refine (KP _).mono ?_
  rintro e w4 ⟨rfl, hb4⟩
  have d0 := (hb4.cell (p := ⟨w1.heap.size, 0, none⟩) hz3).trans c0
  have d1 := (hb4.cell (p := ⟨w1.heap.size, 1, none⟩) hz3).trans c1
  have HB4 := Lib.hid (Below.next HB3.out HB3.out.size hb4)
  have M4 := Lib.hid (M1.out.below HB4.out)
  have hz4 : w1.heap.size < w4.heap.size := Nat.lt_of_lt_of_le hz3 hb4.size
  have hw1 := M1.out.ge
  clear hb4 c0 c1
  have hnm := HNM.out
  subst hnm
  obtain ⟨vk, hlk⟩ := M4.out.hdr.look_anyC [58, 115, 99, 104, 101, 109, 101] (by simp)
  rw [M4.out.abs] at hlk
  obtain ⟨w5, hrun5, hH5, hg5⟩ := M4.out.hdr.put (World.grownBy.refl w4 none) (by simp) ⟨[58, 115, 99, 104, 101, 109, 101], .slice none 0 0, []⟩ (fun e _ _ => by cases hv : e.val.ownBlock <;> simp) (World.ownsRow_nil _ _ _ _) (.inl rfl) (by simp) (by have := M4.out.hn; omega)
  simp only at hrun5
  have HM5 := Lib.hid (M4.out.turn (m' := k + 1) hBw hH5 (absE_put _ _) (by have := M4.out.hn; omega) (items_put M4.out.items) (Off.of_map hg5 M4.out.ge))
  have q1 := (hg5.cell_far ⟨w1.heap.size, 1, none⟩ hz4 (by simp; omega)).trans d1
  have e7 := M4.out.cells 7 _ rfl
  have KL := lower_at vl w5 (by omega) hasc
  clear hH5 hg5
  go_wp2_with fail
  refine KL.mono ?_
  rintro e w6 ⟨rfl, hb6⟩
  have M6 : Hid (PSt w (w6.setCell ⟨w.heap.size + 2, 3, none⟩ (str (Lib.toLowerA vl))) Bx (k + 1) (l.drop (k + 1)) (n + 1) (putEnt es ⟨[58, 115, 99, 104, 101, 109, 101], .slice none 0 0, []⟩) { s with scheme := Lib.toLowerA vl, H := putH s.H [58, 115, 99, 104, 101, 109, 101] [] } 0) := Lib.hid ((HM5.out.below hb6).set (s' := { s with scheme := Lib.toLowerA vl, H := putH s.H [58, 115, 99, 104, 101, 109, 101] [] }) (cl' := 0) (i := 3) (u := str (Lib.toLowerA vl)) hBw (by decide) (by rw [← M4.out.abs]; rfl) (by rw [← M4.out.abs]))
  have g3 := (HM5.out.below hb6).cells 3 _ rfl
  have z3 := (HM5.out.below hb6).fz 3
  clear hb6
  go_upto_region 48 with fail
  obtain ⟨dup, hdup⟩ : ∃ x, hasKey s.H [58, 115, 99, 104, 101, 109, 101] = x := ⟨_, rfl⟩
  have HPX := HPS.out
  rw [hdup] at HPX ⊢
  clear HPS hdup
  cases dup
  · cases req
    · have HPX := Lib.hid (HPX : psStep false vOk s ([58, 115, 99, 104, 101, 109, 101], vl) = none)
      go_wp2_with fail
      refine (new_at' _ _).mono ?_
      rintro e w9 ⟨q9, rfl, hb9⟩
      have M := (M6.out).below hb9
      clear hb9
      have hex := put8_cell w9 w.heap.size {} 0 (.map none) M.rex
      have HTH := Lib.hid M.there
      have HFl := Lib.hid (M.fail (req := false) (vOk := vOk) (l := l) (by unfold psAll; rw [HFO1.out, HPX.out]; rfl) (.iface 136 (.pointer (some q9))) ⟨_, rfl⟩)
      have HX := Lib.hid hex
      clear hex M
      go_wp2_with (refine wpList_store8 rfl _ rfl w.heap.size {} 0 (.map none) rfl rfl HTH.out rfl ?_)
      have x0 := HX.out 0 _ rfl
      have x1 := HX.out 1 _ rfl
      have x2 := HX.out 2 _ rfl
      have x3 := HX.out 3 _ rfl
      have x4 := HX.out 4 _ rfl
      have x5 := HX.out 5 _ rfl
      have x6 := HX.out 6 _ rfl
      have x7 := HX.out 7 _ rfl
      exact ⟨rfl, _, (show _ = Result.ok (Value.tuple #[.agg (hcl {} 0 (.map none)).toArray, .iface 136 (.pointer (some q9))]) _ by simp [results, Tryz.results56, go_sem, x0, x1, x2, x3, x4, x5, x6, x7]; rfl), HFl.out⟩
    · have HPX := Lib.hid (HPX : psStep true vOk s ([58, 115, 99, 104, 101, 109, 101], vl) = some { s with scheme := Lib.toLowerA vl, H := putH s.H [58, 115, 99, 104, 101, 109, 101] [] })
      go_wp2_with fail
      unfold RN
      (repeat apply Exists.intro)
      refine ⟨⟨n + 1, putEnt es ⟨[58, 115, 99, 104, 101, 109, 101], .slice none 0 0, []⟩, { s with scheme := Lib.toLowerA vl, H := putH s.H [58, 115, 99, 104, 101, 109, 101] [] }, lim_next HTK.out HSS.out, (by first | rfl | simp only [hr]), (by first | rfl | simp only [hr]), (by first | rfl | simp only [hr]), (by first | rfl | simp only [hr]), rfl, M6.out, by rw [HFO1.out, HPX.out]; rfl⟩, rfl⟩
  · have HPX := Lib.hid (HPX : psStep req vOk s ([58, 115, 99, 104, 101, 109, 101], vl) = none)
    go_wp2_with fail
    refine (new_at' _ _).mono ?_
    rintro e w9 ⟨q9, rfl, hb9⟩
    have M := (M6.out).below hb9
    clear hb9
    have hex := put8_cell w9 w.heap.size {} 0 (.map none) M.rex
    have HTH := Lib.hid M.there
    have HFl := Lib.hid (M.fail (req := req) (vOk := vOk) (l := l) (by unfold psAll; rw [HFO1.out, HPX.out]; rfl) (.iface 136 (.pointer (some q9))) ⟨_, rfl⟩)
    have HX := Lib.hid hex
    clear hex M
    go_wp2_with (refine wpList_store8 rfl _ rfl w.heap.size {} 0 (.map none) rfl rfl HTH.out rfl ?_)
    have x0 := HX.out 0 _ rfl
    have x1 := HX.out 1 _ rfl
    have x2 := HX.out 2 _ rfl
    have x3 := HX.out 3 _ rfl
    have x4 := HX.out 4 _ rfl
    have x5 := HX.out 5 _ rfl
    have x6 := HX.out 6 _ rfl
    have x7 := HX.out 7 _ rfl
    exact ⟨rfl, _, (show _ = Result.ok (Value.tuple #[.agg (hcl {} 0 (.map none)).toArray, .iface 136 (.pointer (some q9))]) _ by simp [results, Tryz.results56, go_sem, x0, x1, x2, x3, x4, x5, x6, x7]; rfl), HFl.out⟩

set_option maxHeartbeats 100000000 in
theorem ps556 (J : Act → World → Prop) (Q0 : Exit → Act → World → Prop) (w : World) (req : Bool) (vOk : BS × BS → Bool) (l : List (BS × BS)) (Bx : Nat) (k : Nat) (p : Addr) (wr : World) (n : Nat) (es : List Ent) (s : PS) (nm : BS) (vl : BS) (S : Nat)
    (HS : Hid (PSt w wr Bx k ((nm, vl) :: l.drop (k + 1)) n es s 0)) (HEx : Hid (Env wr p)) (hBw : Bx < w.heap.size) (h3 : 3 ≤ Bx) (hlen : l.length ≤ 32768) (hkl : k < l.length)
    (HTK : Hid (l.take (k + 1) = l.take k ++ [(nm, vl)])) (HSS : Hid (trSize (l.take k) = S)) (hsz : S + (nm.length + vl.length + 32) ≤ 1048576)
    (HFO1 : Hid (psFold req vOk {} l = (psStep req vOk s (nm, vl)).bind fun s' => psFold req vOk s' (l.drop (k + 1))))
    (HKV : Hid (∀ W, Env W p → w.grownBy W (some Bx) → Calls Tryz.prog 68 #[fldV nm vl] W (ErrPost W true))) (hf2 : pseudoB nm = true) (hr : s.reg = false) (HNM : Hid (nm = [58, 115, 116, 97, 116, 117, 115])) (HPS : Hid ((psStep req vOk s (nm, vl)) = if s.hasS then none else if true == req then none else some { s with status := vl, hasS := true }))
     
    (u4 u5 u6 u7 u9 u16 u17 u18 u19 u20 u21 u22 u23 u24 u25 u26 u27 u28 u29 u30 u31 u32 u33 u34 u35 u36 u37 u38 u39 u40 u41 u42 u43 u44 u45 u46 u47 u48 u49 u50 u51 u52 u53 u54 u55 u56 u57 u58 u59 u60 u61 u62 u63 u64 u65 u66 u67 u68 u69 u70 u71 u72 u73 u74 u75 u76 u77 u78 u79 u80 u81 u82 u83 u84 u85 u86 u87 u88 u89 u90 u91 u92 u93 u94 u95 u96 u97 u98 u99 u100 u101 u102 u103 u104 u105 u106 u107 u108 u109 u110 u111 u112 u113 u114 u115 u116 u117 u118 u119 u120 u121 u122 u123 u124 u125 u126 u127 u128 u129 u130 u131 u132 u133 u134 u135 u136 u137 u138 u139 u140 u141 u142 u143 u144 u145 u146 u147 u148 u149 u150 u151 u152 u153 u154 u155 u156 u157 u158 u159 u160 u161 u162 u163 u164 u165 u166 u167 u168 u169 u170 u171 u172 u173 u174 u175 u176 u177 u178 u179 u180 u181 u182 u183 u184 u185 u186 u187 u188 u189 u190 u191 u192 u193 u194 u195 u196 u197 u198 u199 u200 u201 u202 u203 u204 u205 u206 u207 u208 u209 u210 u211 u212 u213 u214 u215 u216 u217 u218 u219 u220 u221 u222 u223 u224 u225 : Value) (hJ : ∀ a w1, RN w req vOk l Bx k u4 u5 u6 u7 u22 u23 u24 u25 u205 u206 u207 u208 u209 u210 u211 u212 u213 u214 u215 u216 u217 u218 u219 u220 u221 u222 u223 u224 u225 a w1 → J a w1) (hR : ∀ a w1, bodyPost Tryz.prog Tryz.f56 (HPost w req vOk l Bx) .ret a w1 → Q0 .ret a w1) :
    Code.wp Tryz.prog body56 (Exit.then J Q0) ⟨#[.func (.func 67) #[] #[.pointer (some ⟨Bx, 0, none⟩)], .bool req, .int .i64 (1048576 - (S : Int)), .pointer none, u4, u5, u6, u7, .pointer (some ⟨w.heap.size, 0, none⟩), u9, .pointer (some ⟨w.heap.size + 2, 0, none⟩), .bool s.reg, .bool s.hasCL, .bool s.hasM, .bool s.hasS, str s.cls, u16, u17, u18, u19, u20, u21, u22, u23, u24, u25, u26, u27, u28, u29, u30, u31, u32, u33, u34, u35, u36, u37, u38, u39, u40, u41, u42, u43, u44, u45, u46, u47, u48, u49, u50, u51, u52, u53, u54, u55, u56, u57, u58, u59, u60, u61, u62, u63, u64, u65, u66, u67, u68, u69, u70, u71, u72, u73, u74, u75, u76, u77, u78, u79, u80, u81, u82, u83, u84, u85, u86, u87, u88, u89, u90, u91, u92, u93, u94, u95, u96, u97, u98, u99, u100, u101, u102, u103, u104, u105, u106, u107, u108, u109, u110, u111, u112, u113, u114, u115, u116, u117, u118, u119, u120, u121, u122, u123, u124, u125, u126, u127, u128, u129, u130, u131, u132, u133, u134, u135, u136, u137, u138, u139, u140, u141, u142, u143, u144, u145, u146, u147, u148, u149, u150, u151, u152, u153, u154, u155, u156, u157, u158, u159, u160, u161, u162, u163, u164, u165, u166, u167, u168, u169, u170, u171, u172, u173, u174, u175, u176, u177, u178, u179, u180, u181, u182, u183, u184, u185, u186, u187, u188, u189, u190, u191, u192, u193, u194, u195, u196, u197, u198, u199, u200, u201, u202, u203, u204, u205, u206, u207, u208, u209, u210, u211, u212, u213, u214, u215, u216, u217, u218, u219, u220, u221, u222, u223, u224, u225], []⟩ wr := by
  conv => arg 2; whnf
  conv => arg 4; zeta
  rw [hr]
  have hge := HS.out.ge
  have KN := next_cons Bx nm vl (l.drop (k + 1)) wr HS.out.feed (by rw [List.length_drop]; omega)
  have hn1 : nm.length ≤ 1048576 := by omega
  have hv1 : vl.length ≤ 1048576 := by omega
  have b1 : (0 : Int) ≤ 1048576 - (S : Int) := by omega
  have b2 : (1048576 - (S : Int)) ≤ 1048576 := by omega
  have b3 : (0 : Int) ≤ 1048576 - (S : Int) - ((nm.length : Int) + (vl.length : Int) + 32) := by omega
  go_wp2_with fail
  refine KN.mono ?_
  rintro e w1 ⟨rfl, hfeed, hg1⟩
  have M1 := Lib.hid (HS.out.read hBw hfeed hg1)
  have HE1 := Lib.hid (HEx.out.grown hg1 h3)
  clear hfeed hg1 KN HS
  have HB2 := Lib.hid (below_new w1 (.cells #[str nm, str vl] 103))
  have X0 : Hid ((w1.alloc (.cells #[str nm, str vl] 103)).cell? ⟨w1.heap.size, 0, none⟩ = some (str nm)) := Lib.hid (by simp)
  have X1 : Hid ((w1.alloc (.cells #[str nm, str vl] 103)).cell? ⟨w1.heap.size, 1, none⟩ = some (str vl)) := Lib.hid (by simp)
  have KV := HKV.out _ (HE1.out.cut HB2.out HE1.out.ge) (M1.out.g.trans ((grown_below HB2.out).but _))
  clear HKV
  have KP := fun w => pseudo_at nm vl w
  rw [hf2] at KP
  unfold fldV at KV KP
  go_upto_region 11 with fail
  go_wp2_with fail
  refine KV.mono ?_
  rintro e w3 ⟨v3, rfl, hv3, hb3⟩
  have c0 := (hb3.cell (p := ⟨w1.heap.size, 0, none⟩) (by simp)).trans X0.out
  have c1 := (hb3.cell (p := ⟨w1.heap.size, 1, none⟩) (by simp)).trans X1.out
  have HB3 := Lib.hid (Below.next HB2.out HB2.out.size hb3)
  have hz3 : w1.heap.size < w3.heap.size := by have := hb3.size; simp at this; omega
  clear hb3 KV
  obtain rfl : v3 = .nilIface := hv3
  go_wp2_with fail
  refine (KP _).mono ?_
  rintro e w4 ⟨rfl, hb4⟩
  have d0 := (hb4.cell (p := ⟨w1.heap.size, 0, none⟩) hz3).trans c0
  have d1 := (hb4.cell (p := ⟨w1.heap.size, 1, none⟩) hz3).trans c1
  have HB4 := Lib.hid (Below.next HB3.out HB3.out.size hb4)
  have M4 := Lib.hid (M1.out.below HB4.out)
  have hz4 : w1.heap.size < w4.heap.size := Nat.lt_of_lt_of_le hz3 hb4.size
  have hw1 := M1.out.ge
  clear hb4 c0 c1
  have hnm := HNM.out
  subst hnm
  have M6 := Lib.hid ((M4.out.set (s' := { s with status := vl, hasS := true }) (cl' := 0) (i := 4) (u := str vl) hBw (by decide) rfl rfl).weak (Nat.le_succ k))
  have e4 := M4.out.cells 4 _ rfl
  have z4 := M4.out.fz 4
  go_upto_region 48 with fail
  obtain ⟨dup, hdup⟩ : ∃ x, s.hasS = x := ⟨_, rfl⟩
  have HPX := HPS.out
  rw [hdup] at HPX ⊢
  clear HPS hdup
  cases dup
  · cases req
    · have HPX := Lib.hid (HPX : psStep false vOk s ([58, 115, 116, 97, 116, 117, 115], vl) = some { s with status := vl, hasS := true })
      go_wp2_with fail
      unfold RN
      (repeat apply Exists.intro)
      refine ⟨⟨n, es, { s with status := vl, hasS := true }, lim_next HTK.out HSS.out, (by first | rfl | simp only [hr]), (by first | rfl | simp only [hr]), (by first | rfl | simp only [hr]), (by first | rfl | simp only [hr]), rfl, M6.out, by rw [HFO1.out, HPX.out]; rfl⟩, rfl⟩
    · have HPX := Lib.hid (HPX : psStep true vOk s ([58, 115, 116, 97, 116, 117, 115], vl) = none)
      go_wp2_with fail
      refine (new_at' _ _).mono ?_
      rintro e w9 ⟨q9, rfl, hb9⟩
      have M := (M6.out).below hb9
      clear hb9
      have hex := put8_cell w9 w.heap.size {} 0 (.map none) M.rex
      have HTH := Lib.hid M.there
      have HFl := Lib.hid (M.fail (req := true) (vOk := vOk) (l := l) (by unfold psAll; rw [HFO1.out, HPX.out]; rfl) (.iface 136 (.pointer (some q9))) ⟨_, rfl⟩)
      have HX := Lib.hid hex
      clear hex M
      go_wp2_with (refine wpList_store8 rfl _ rfl w.heap.size {} 0 (.map none) rfl rfl HTH.out rfl ?_)
      have x0 := HX.out 0 _ rfl
      have x1 := HX.out 1 _ rfl
      have x2 := HX.out 2 _ rfl
      have x3 := HX.out 3 _ rfl
      have x4 := HX.out 4 _ rfl
      have x5 := HX.out 5 _ rfl
      have x6 := HX.out 6 _ rfl
      have x7 := HX.out 7 _ rfl
      exact ⟨rfl, _, (show _ = Result.ok (Value.tuple #[.agg (hcl {} 0 (.map none)).toArray, .iface 136 (.pointer (some q9))]) _ by simp [results, Tryz.results56, go_sem, x0, x1, x2, x3, x4, x5, x6, x7]; rfl), HFl.out⟩
  · have HPX := Lib.hid (HPX : psStep req vOk s ([58, 115, 116, 97, 116, 117, 115], vl) = none)
    go_wp2_with fail
    refine (new_at' _ _).mono ?_
    rintro e w9 ⟨q9, rfl, hb9⟩
    have M := (M6.out).below hb9
    clear hb9
    have hex := put8_cell w9 w.heap.size {} 0 (.map none) M.rex
    have HTH := Lib.hid M.there
    have HFl := Lib.hid (M.fail (req := req) (vOk := vOk) (l := l) (by unfold psAll; rw [HFO1.out, HPX.out]; rfl) (.iface 136 (.pointer (some q9))) ⟨_, rfl⟩)
    have HX := Lib.hid hex
    clear hex M
    go_wp2_with (refine wpList_store8 rfl _ rfl w.heap.size {} 0 (.map none) rfl rfl HTH.out rfl ?_)
    have x0 := HX.out 0 _ rfl
    have x1 := HX.out 1 _ rfl
    have x2 := HX.out 2 _ rfl
    have x3 := HX.out 3 _ rfl
    have x4 := HX.out 4 _ rfl
    have x5 := HX.out 5 _ rfl
    have x6 := HX.out 6 _ rfl
    have x7 := HX.out 7 _ rfl
    exact ⟨rfl, _, (show _ = Result.ok (Value.tuple #[.agg (hcl {} 0 (.map none)).toArray, .iface 136 (.pointer (some q9))]) _ by simp [results, Tryz.results56, go_sem, x0, x1, x2, x3, x4, x5, x6, x7]; rfl), HFl.out⟩
end Go.Proofs.YtgcfnhchmmkndaaGreatDoor
