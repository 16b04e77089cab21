/- spec.HRRead: pseudo fields. -/
import Derived.Test.YtgcfnhchmmkndaaGreatDoorR1
import Derived.Test.YtgcfnhchmmkndaaGreatDoorB5
namespace Go.Proofs.YtgcfnhchmmkndaaGreatDoor
open Go.RowKit Go.Maps
set_option linter.unusedVariables false
set_option maxRecDepth 100000

set_option maxHeartbeats 100000000 in
theorem bad21d (J : Act → World → Prop) (Q0 : Exit → Act → World → Prop) (w : World) (req : Bool) (l : List (BS × BS)) (A : Option Addr) (c : Nat) (b o : Nat) (hA : A = some ⟨b, o, none⟩) (k n vc : Nat) (VA : Option Addr) (es : List Ent) (s : HRS) (wr : World) (nm vl : BS)
    (HS : Hid (HSt w wr k n (.slice VA es.length vc) es s)) (hbw : b < w.heap.size) (hln : l.length ≤ 800000) (hkl : k < l.length) (hc : l.length ≤ c)
    (X0 : Hid (wr.cell? ⟨b, o + k * 2, none⟩ = some (str nm))) (X1 : Hid (wr.cell? ⟨b, o + k * 2 + 1, none⟩ = some (str vl))) (hn1 : nm.length ≤ 1048576) (hv1 : vl.length ≤ 1048576)
    (hf1 : lowOk nm = true) (hf2 : valOk vl = true) (hp : pseudoB nm = true) (hnn : nm ≠ []) (hb : s.beh = true) (HN : Hid (hrRead req l = none))
    (u2 u3 u5 u10 u11 u12 u13 u14 u15 u16 u17 u21 u22 u23 u24 u25 u26 u27 u28 u29 u30 u31 u32 u33 u34 u35 u36 u37 u38 u39 u40 u41 u42 u43 u44 u45 u46 u47 u48 u49 u50 u51 u52 u53 u54 u55 u56 u57 u58 u59 u60 u61 u62 u63 u64 u65 u66 u67 u68 u69 u70 u71 u72 u73 u74 u75 u76 u77 u78 u79 u80 u81 u82 u83 u84 u85 u86 u87 u88 u89 u90 u91 u92 u93 u94 u95 u96 u97 u98 u99 u100 u101 u102 u103 u104 u105 u106 u107 u108 u109 u110 u111 u112 u113 u114 u115 u116 u117 u118 u119 u120 u121 u122 u123 u124 u125 u126 u127 u128 u129 u130 u131 u132 : Value) (hJ : ∀ a w1, RN21 w req l A c k u2 u3 u10 u16 u17 u125 u126 u127 u128 u129 u130 u131 u132 a w1 → J a w1) (hR : ∀ a w1, bodyPost Tryz.prog Tryz.f21 (ReadPost w (l.length + 1) (hrRead req l)) .ret a w1 → Q0 .ret a w1) :
    Code.wp Tryz.prog body21 (Exit.then J Q0) ⟨#[.slice A l.length c, .bool req, u2, u3, .pointer (some ⟨w.heap.size, 0, none⟩), u5, .pointer (some ⟨w.heap.size + 2, 0, none⟩), .bool s.beh, str s.ls, .bool s.told, u10, u11, u12, u13, u14, u15, u16, u17, .slice A l.length c, .int .i64 (l.length : Int), .int .i64 (k : Int), u21, u22, u23, u24, u25, u26, u27, u28, u29, u30, u31, u32, u33, u34, u35, u36, u37, u38, u39, u40, u41, u42, u43, u44, u45, u46, u47, u48, u49, u50, u51, u52, u53, u54, u55, u56, u57, u58, u59, u60, u61, u62, u63, u64, u65, u66, u67, u68, u69, u70, u71, u72, u73, u74, u75, u76, u77, u78, u79, u80, u81, u82, u83, u84, u85, u86, u87, u88, u89, u90, u91, u92, u93, u94, u95, u96, u97, u98, u99, u100, u101, u102, u103, u104, u105, u106, u107, u108, u109, u110, u111, u112, u113, u114, u115, u116, u117, u118, u119, u120, u121, u122, u123, u124, u125, u126, u127, u128, u129, u130, u131, u132], []⟩ wr := by
  subst hA
  obtain ⟨c0, t, rfl⟩ : ∃ c0 t, nm = c0 :: t := by
    cases nm with
    | nil => exact absurd rfl hnn
    | cons c0 t => exact ⟨c0, t, rfl⟩
  have hz0 : 0 < (⟨(c0 :: t).toArray⟩ : ByteArray).size := by show 0 < (c0 :: t).toArray.size; simp
  have hp58 : decide (c0.toNat = 58) = true := hp
  have f58 : ((((⟨(c0 :: t).toArray⟩ : ByteArray)[0]'hz0).toNat : Int) == 58) = true := by
    show ((c0.toNat : Int) == 58) = true
    simp at hp58
    simp
    omega
  clear hp hp58 hnn
  conv => arg 2; whnf
  conv => arg 4; zeta
  have hge := HS.out.ge
  have hbel := HS.out.bel.size
  have e0 := X0.out
  have e1 := X1.out
  have M1 := Lib.hid (HS.out.below (below_new wr (.cells #[str (c0 :: t), str vl] 42)))
  have KL := low_at' (c0 :: t) _ hn1 hf1
  have KV := hrvalue_at' vl _ hv1 hf2
  obtain ⟨vk, hlk⟩ := M1.out.pm.look_ok (c0 :: t) (by omega)
  have g0 := M1.out.cells 0 _ rfl
  rw [hb]
  clear X0 X1 HS
  have HLD := Lib.hid (M1.out).cells
  have HTH := Lib.hid (M1.out).there
  have HFl := Lib.hid ((M1.out).done (m' := l.length + 1) (by omega) (hrRead req l) (by rw [HN.out]; intro s' h; cases h))
  have HPC := Lib.hid (put3_cells (M1.out) (w.heap.size + 1) (.slice VA es.length vc) s.len)
  go_wp2_with (first | (go_at_call 42; refine (KL _).mono ?_; rintro e w8 ⟨rfl, rfl⟩) | (go_at_call 43; refine (KV _).mono ?_; rintro e w8 ⟨rfl, rfl⟩) |  (refine wpList_load3 rfl rfl (w.heap.size + 2) (w.heap.size + 1) (.slice VA es.length vc) s.len rfl HLD.out ?_) | (refine wpList_store3 rfl _ rfl w.heap.size (w.heap.size + 1) (.slice VA es.length vc) s.len rfl rfl HTH.out rfl ?_))
  obtain ⟨x0, x1, x2⟩ := HPC.out
  refine ⟨rfl, _, (show _ = Result.ok (Value.tuple #[.agg (pcl (w.heap.size + 1) (.slice VA es.length vc) s.len).toArray, .bool false]) _ by simp [results, Tryz.results21, go_sem, x0, x1, x2]; rfl), ?_⟩
  have h := HFl.out
  rw [HN.out] at h ⊢
  exact h
set_option maxHeartbeats 100000000 in
theorem bad21e (J : Act → World → Prop) (Q0 : Exit → Act → World → Prop) (w : World) (req : Bool) (l : List (BS × BS)) (A : Option Addr) (c : Nat) (b o : Nat) (hA : A = some ⟨b, o, none⟩) (k n vc : Nat) (VA : Option Addr) (es : List Ent) (s : HRS) (wr : World) (nm vl : BS)
    (HS : Hid (HSt w wr k n (.slice VA es.length vc) es s)) (hbw : b < w.heap.size) (hln : l.length ≤ 800000) (hkl : k < l.length) (hc : l.length ≤ c)
    (X0 : Hid (wr.cell? ⟨b, o + k * 2, none⟩ = some (str nm))) (X1 : Hid (wr.cell? ⟨b, o + k * 2 + 1, none⟩ = some (str vl))) (hn1 : nm.length ≤ 1048576) (hv1 : vl.length ≤ 1048576)
    (hf1 : lowOk nm = true) (hf2 : valOk vl = true) (hp : pseudoB nm = true) (hnn : nm ≠ []) (hb : s.beh = false) (hh : hasP s.pm nm = true) (HN : Hid (hrRead req l = none))
    (u2 u3 u5 u10 u11 u12 u13 u14 u15 u16 u17 u21 u22 u23 u24 u25 u26 u27 u28 u29 u30 u31 u32 u33 u34 u35 u36 u37 u38 u39 u40 u41 u42 u43 u44 u45 u46 u47 u48 u49 u50 u51 u52 u53 u54 u55 u56 u57 u58 u59 u60 u61 u62 u63 u64 u65 u66 u67 u68 u69 u70 u71 u72 u73 u74 u75 u76 u77 u78 u79 u80 u81 u82 u83 u84 u85 u86 u87 u88 u89 u90 u91 u92 u93 u94 u95 u96 u97 u98 u99 u100 u101 u102 u103 u104 u105 u106 u107 u108 u109 u110 u111 u112 u113 u114 u115 u116 u117 u118 u119 u120 u121 u122 u123 u124 u125 u126 u127 u128 u129 u130 u131 u132 : Value) (hJ : ∀ a w1, RN21 w req l A c k u2 u3 u10 u16 u17 u125 u126 u127 u128 u129 u130 u131 u132 a w1 → J a w1) (hR : ∀ a w1, bodyPost Tryz.prog Tryz.f21 (ReadPost w (l.length + 1) (hrRead req l)) .ret a w1 → Q0 .ret a w1) :
    Code.wp Tryz.prog body21 (Exit.then J Q0) ⟨#[.slice A l.length c, .bool req, u2, u3, .pointer (some ⟨w.heap.size, 0, none⟩), u5, .pointer (some ⟨w.heap.size + 2, 0, none⟩), .bool s.beh, str s.ls, .bool s.told, u10, u11, u12, u13, u14, u15, u16, u17, .slice A l.length c, .int .i64 (l.length : Int), .int .i64 (k : Int), u21, u22, u23, u24, u25, u26, u27, u28, u29, u30, u31, u32, u33, u34, u35, u36, u37, u38, u39, u40, u41, u42, u43, u44, u45, u46, u47, u48, u49, u50, u51, u52, u53, u54, u55, u56, u57, u58, u59, u60, u61, u62, u63, u64, u65, u66, u67, u68, u69, u70, u71, u72, u73, u74, u75, u76, u77, u78, u79, u80, u81, u82, u83, u84, u85, u86, u87, u88, u89, u90, u91, u92, u93, u94, u95, u96, u97, u98, u99, u100, u101, u102, u103, u104, u105, u106, u107, u108, u109, u110, u111, u112, u113, u114, u115, u116, u117, u118, u119, u120, u121, u122, u123, u124, u125, u126, u127, u128, u129, u130, u131, u132], []⟩ wr := by
  subst hA
  obtain ⟨c0, t, rfl⟩ : ∃ c0 t, nm = c0 :: t := by
    cases nm with
    | nil => exact absurd rfl hnn
    | cons c0 t => exact ⟨c0, t, rfl⟩
  have hz0 : 0 < (⟨(c0 :: t).toArray⟩ : ByteArray).size := by show 0 < (c0 :: t).toArray.size; simp
  have hp58 : decide (c0.toNat = 58) = true := hp
  have f58 : ((((⟨(c0 :: t).toArray⟩ : ByteArray)[0]'hz0).toNat : Int) == 58) = true := by
    show ((c0.toNat : Int) == 58) = true
    simp at hp58
    simp
    omega
  clear hp hp58 hnn
  conv => arg 2; whnf
  conv => arg 4; zeta
  have hge := HS.out.ge
  have hbel := HS.out.bel.size
  have e0 := X0.out
  have e1 := X1.out
  have M1 := Lib.hid (HS.out.below (below_new wr (.cells #[str (c0 :: t), str vl] 42)))
  have KL := low_at' (c0 :: t) _ hn1 hf1
  have KV := hrvalue_at' vl _ hv1 hf2
  obtain ⟨vk, hlk⟩ := M1.out.pm.look_ok (c0 :: t) (by omega)
  have g0 := M1.out.cells 0 _ rfl
  rw [hb]
  rw [hh] at hlk
  clear X0 X1 HS
  have HLD := Lib.hid (M1.out).cells
  have HTH := Lib.hid (M1.out).there
  have HFl := Lib.hid ((M1.out).done (m' := l.length + 1) (by omega) (hrRead req l) (by rw [HN.out]; intro s' h; cases h))
  have HPC := Lib.hid (put3_cells (M1.out) (w.heap.size + 1) (.slice VA es.length vc) s.len)
  go_wp2_with (first | (go_at_call 42; refine (KL _).mono ?_; rintro e w8 ⟨rfl, rfl⟩) | (go_at_call 43; refine (KV _).mono ?_; rintro e w8 ⟨rfl, rfl⟩) |  (refine wpList_load3 rfl rfl (w.heap.size + 2) (w.heap.size + 1) (.slice VA es.length vc) s.len rfl HLD.out ?_) | (refine wpList_store3 rfl _ rfl w.heap.size (w.heap.size + 1) (.slice VA es.length vc) s.len rfl rfl HTH.out rfl ?_))
  obtain ⟨x0, x1, x2⟩ := HPC.out
  refine ⟨rfl, _, (show _ = Result.ok (Value.tuple #[.agg (pcl (w.heap.size + 1) (.slice VA es.length vc) s.len).toArray, .bool false]) _ by simp [results, Tryz.results21, go_sem, x0, x1, x2]; rfl), ?_⟩
  have h := HFl.out
  rw [HN.out] at h ⊢
  exact h
set_option maxHeartbeats 100000000 in
theorem bad21f (J : Act → World → Prop) (Q0 : Exit → Act → World → Prop) (w : World) (req : Bool) (l : List (BS × BS)) (A : Option Addr) (c : Nat) (b o : Nat) (hA : A = some ⟨b, o, none⟩) (k n vc : Nat) (VA : Option Addr) (es : List Ent) (s : HRS) (wr : World) (nm vl : BS)
    (HS : Hid (HSt w wr k n (.slice VA es.length vc) es s)) (hbw : b < w.heap.size) (hln : l.length ≤ 800000) (hkl : k < l.length) (hc : l.length ≤ c)
    (X0 : Hid (wr.cell? ⟨b, o + k * 2, none⟩ = some (str nm))) (X1 : Hid (wr.cell? ⟨b, o + k * 2 + 1, none⟩ = some (str vl))) (hn1 : nm.length ≤ 1048576) (hv1 : vl.length ≤ 1048576)
    (hf1 : lowOk nm = true) (hf2 : valOk vl = true) (hp : pseudoB nm = true) (hnn : nm ≠ []) (hb : s.beh = false) (hh : hasP s.pm nm = false) (hps : pseOk req nm = false) (HN : Hid (hrRead req l = none))
    (u2 u3 u5 u10 u11 u12 u13 u14 u15 u16 u17 u21 u22 u23 u24 u25 u26 u27 u28 u29 u30 u31 u32 u33 u34 u35 u36 u37 u38 u39 u40 u41 u42 u43 u44 u45 u46 u47 u48 u49 u50 u51 u52 u53 u54 u55 u56 u57 u58 u59 u60 u61 u62 u63 u64 u65 u66 u67 u68 u69 u70 u71 u72 u73 u74 u75 u76 u77 u78 u79 u80 u81 u82 u83 u84 u85 u86 u87 u88 u89 u90 u91 u92 u93 u94 u95 u96 u97 u98 u99 u100 u101 u102 u103 u104 u105 u106 u107 u108 u109 u110 u111 u112 u113 u114 u115 u116 u117 u118 u119 u120 u121 u122 u123 u124 u125 u126 u127 u128 u129 u130 u131 u132 : Value) (hJ : ∀ a w1, RN21 w req l A c k u2 u3 u10 u16 u17 u125 u126 u127 u128 u129 u130 u131 u132 a w1 → J a w1) (hR : ∀ a w1, bodyPost Tryz.prog Tryz.f21 (ReadPost w (l.length + 1) (hrRead req l)) .ret a w1 → Q0 .ret a w1) :
    Code.wp Tryz.prog body21 (Exit.then J Q0) ⟨#[.slice A l.length c, .bool req, u2, u3, .pointer (some ⟨w.heap.size, 0, none⟩), u5, .pointer (some ⟨w.heap.size + 2, 0, none⟩), .bool s.beh, str s.ls, .bool s.told, u10, u11, u12, u13, u14, u15, u16, u17, .slice A l.length c, .int .i64 (l.length : Int), .int .i64 (k : Int), u21, u22, u23, u24, u25, u26, u27, u28, u29, u30, u31, u32, u33, u34, u35, u36, u37, u38, u39, u40, u41, u42, u43, u44, u45, u46, u47, u48, u49, u50, u51, u52, u53, u54, u55, u56, u57, u58, u59, u60, u61, u62, u63, u64, u65, u66, u67, u68, u69, u70, u71, u72, u73, u74, u75, u76, u77, u78, u79, u80, u81, u82, u83, u84, u85, u86, u87, u88, u89, u90, u91, u92, u93, u94, u95, u96, u97, u98, u99, u100, u101, u102, u103, u104, u105, u106, u107, u108, u109, u110, u111, u112, u113, u114, u115, u116, u117, u118, u119, u120, u121, u122, u123, u124, u125, u126, u127, u128, u129, u130, u131, u132], []⟩ wr := by
  subst hA
  obtain ⟨c0, t, rfl⟩ : ∃ c0 t, nm = c0 :: t := by
    cases nm with
    | nil => exact absurd rfl hnn
    | cons c0 t => exact ⟨c0, t, rfl⟩
  have hz0 : 0 < (⟨(c0 :: t).toArray⟩ : ByteArray).size := by show 0 < (c0 :: t).toArray.size; simp
  have hp58 : decide (c0.toNat = 58) = true := hp
  have f58 : ((((⟨(c0 :: t).toArray⟩ : ByteArray)[0]'hz0).toNat : Int) == 58) = true := by
    show ((c0.toNat : Int) == 58) = true
    simp at hp58
    simp
    omega
  clear hp hp58 hnn
  conv => arg 2; whnf
  conv => arg 4; zeta
  have hge := HS.out.ge
  have hbel := HS.out.bel.size
  have e0 := X0.out
  have e1 := X1.out
  have M1 := Lib.hid (HS.out.below (below_new wr (.cells #[str (c0 :: t), str vl] 42)))
  have KL := low_at' (c0 :: t) _ hn1 hf1
  have KV := hrvalue_at' vl _ hv1 hf2
  obtain ⟨vk, hlk⟩ := M1.out.pm.look_ok (c0 :: t) (by omega)
  have g0 := M1.out.cells 0 _ rfl
  have KP := pse_at req (c0 :: t) _ hps
  rw [hb]
  rw [hh] at hlk
  clear X0 X1 HS
  go_upto_if 62 with (first | (go_at_call 42; refine (KL _).mono ?_; rintro e w8 ⟨rfl, rfl⟩) | (go_at_call 43; refine (KV _).mono ?_; rintro e w8 ⟨rfl, rfl⟩) | (go_at_call 44; refine (KP _).mono ?_; rintro e w8 ⟨rfl, hb8⟩; have M2 := Lib.hid (M1.out.below hb8); clear hb8))
  have HLD := Lib.hid (M2.out).cells
  have HTH := Lib.hid (M2.out).there
  have HFl := Lib.hid ((M2.out).done (m' := l.length + 1) (by omega) (hrRead req l) (by rw [HN.out]; intro s' h; cases h))
  have HPC := Lib.hid (put3_cells (M2.out) (w.heap.size + 1) (.slice VA es.length vc) s.len)
  go_wp2_with (first | (refine wpList_load3 rfl rfl (w.heap.size + 2) (w.heap.size + 1) (.slice VA es.length vc) s.len rfl HLD.out ?_) | (refine wpList_store3 rfl _ rfl w.heap.size (w.heap.size + 1) (.slice VA es.length vc) s.len rfl rfl HTH.out rfl ?_))
  obtain ⟨x0, x1, x2⟩ := HPC.out
  refine ⟨rfl, _, (show _ = Result.ok (Value.tuple #[.agg (pcl (w.heap.size + 1) (.slice VA es.length vc) s.len).toArray, .bool false]) _ by simp [results, Tryz.results21, go_sem, x0, x1, x2]; rfl), ?_⟩
  have h := HFl.out
  rw [HN.out] at h ⊢
  exact h
set_option maxHeartbeats 100000000 in
theorem ok21p (J : Act → World → Prop) (Q0 : Exit → Act → World → Prop) (w : World) (req : Bool) (l : List (BS × BS)) (A : Option Addr) (c : Nat) (b o : Nat) (hA : A = some ⟨b, o, none⟩) (k n vc : Nat) (VA : Option Addr) (es : List Ent) (s : HRS) (wr : World) (nm vl : BS)
    (HS : Hid (HSt w wr k n (.slice VA es.length vc) es s)) (hbw : b < w.heap.size) (hln : l.length ≤ 800000) (hkl : k < l.length) (hc : l.length ≤ c)
    (X0 : Hid (wr.cell? ⟨b, o + k * 2, none⟩ = some (str nm))) (X1 : Hid (wr.cell? ⟨b, o + k * 2 + 1, none⟩ = some (str vl))) (hn1 : nm.length ≤ 1048576) (hv1 : vl.length ≤ 1048576)
    (hf1 : lowOk nm = true) (hf2 : valOk vl = true) (hp : pseudoB nm = true) (hnn : nm ≠ []) (hb : s.beh = false) (hh : hasP s.pm nm = false) (hps : pseOk req nm = true) (HNX : Hid (hsFold req {} l = hsFold req { s with pm := s.pm ++ [(nm, vl)] } (l.drop (k + 1))))
    (u2 u3 u5 u10 u11 u12 u13 u14 u15 u16 u17 u21 u22 u23 u24 u25 u26 u27 u28 u29 u30 u31 u32 u33 u34 u35 u36 u37 u38 u39 u40 u41 u42 u43 u44 u45 u46 u47 u48 u49 u50 u51 u52 u53 u54 u55 u56 u57 u58 u59 u60 u61 u62 u63 u64 u65 u66 u67 u68 u69 u70 u71 u72 u73 u74 u75 u76 u77 u78 u79 u80 u81 u82 u83 u84 u85 u86 u87 u88 u89 u90 u91 u92 u93 u94 u95 u96 u97 u98 u99 u100 u101 u102 u103 u104 u105 u106 u107 u108 u109 u110 u111 u112 u113 u114 u115 u116 u117 u118 u119 u120 u121 u122 u123 u124 u125 u126 u127 u128 u129 u130 u131 u132 : Value) (hJ : ∀ a w1, RN21 w req l A c k u2 u3 u10 u16 u17 u125 u126 u127 u128 u129 u130 u131 u132 a w1 → J a w1) (hR : ∀ a w1, bodyPost Tryz.prog Tryz.f21 (ReadPost w (l.length + 1) (hrRead req l)) .ret a w1 → Q0 .ret a w1) :
    Code.wp Tryz.prog body21 (Exit.then J Q0) ⟨#[.slice A l.length c, .bool req, u2, u3, .pointer (some ⟨w.heap.size, 0, none⟩), u5, .pointer (some ⟨w.heap.size + 2, 0, none⟩), .bool s.beh, str s.ls, .bool s.told, u10, u11, u12, u13, u14, u15, u16, u17, .slice A l.length c, .int .i64 (l.length : Int), .int .i64 (k : Int), u21, u22, u23, u24, u25, u26, u27, u28, u29, u30, u31, u32, u33, u34, u35, u36, u37, u38, u39, u40, u41, u42, u43, u44, u45, u46, u47, u48, u49, u50, u51, u52, u53, u54, u55, u56, u57, u58, u59, u60, u61, u62, u63, u64, u65, u66, u67, u68, u69, u70, u71, u72, u73, u74, u75, u76, u77, u78, u79, u80, u81, u82, u83, u84, u85, u86, u87, u88, u89, u90, u91, u92, u93, u94, u95, u96, u97, u98, u99, u100, u101, u102, u103, u104, u105, u106, u107, u108, u109, u110, u111, u112, u113, u114, u115, u116, u117, u118, u119, u120, u121, u122, u123, u124, u125, u126, u127, u128, u129, u130, u131, u132], []⟩ wr := by
  subst hA
  obtain ⟨c0, t, rfl⟩ : ∃ c0 t, nm = c0 :: t := by
    cases nm with
    | nil => exact absurd rfl hnn
    | cons c0 t => exact ⟨c0, t, rfl⟩
  have hz0 : 0 < (⟨(c0 :: t).toArray⟩ : ByteArray).size := by show 0 < (c0 :: t).toArray.size; simp
  have hp58 : decide (c0.toNat = 58) = true := hp
  have f58 : ((((⟨(c0 :: t).toArray⟩ : ByteArray)[0]'hz0).toNat : Int) == 58) = true := by
    show ((c0.toNat : Int) == 58) = true
    simp at hp58
    simp
    omega
  clear hp hp58 hnn
  conv => arg 2; whnf
  conv => arg 4; zeta
  have hge := HS.out.ge
  have hbel := HS.out.bel.size
  have e0 := X0.out
  have e1 := X1.out
  have M1 := Lib.hid (HS.out.below (below_new wr (.cells #[str (c0 :: t), str vl] 42)))
  have KL := low_at' (c0 :: t) _ hn1 hf1
  have KV := hrvalue_at' vl _ hv1 hf2
  obtain ⟨vk, hlk⟩ := M1.out.pm.look_ok (c0 :: t) (by omega)
  have g0 := M1.out.cells 0 _ rfl
  have KP := pse_at req (c0 :: t) _ hps
  have q0 : (wr.alloc (.cells #[str (c0 :: t), str vl] 42)).cell? ⟨wr.heap.size, 0, none⟩ = some (str (c0 :: t)) := by simp
  have q1 : (wr.alloc (.cells #[str (c0 :: t), str vl] 42)).cell? ⟨wr.heap.size, 1, none⟩ = some (str vl) := by simp
  have hlt : wr.heap.size < (wr.alloc (.cells #[str (c0 :: t), str vl] 42)).heap.size := by simp
  rw [hb]
  rw [hh] at hlk
  clear X0 X1 HS
  go_upto_if 62 with (first | (go_at_call 42; refine (KL _).mono ?_; rintro e w8 ⟨rfl, rfl⟩) | (go_at_call 43; refine (KV _).mono ?_; rintro e w8 ⟨rfl, rfl⟩) | (go_at_call 44; refine (KP _).mono ?_; rintro e w8 ⟨rfl, hb8⟩))
  have M2 := Lib.hid (M1.out.below hb8)
  have z0 := (hb8.cell (p := ⟨wr.heap.size, 0, none⟩) hlt).trans q0
  have z1 := (hb8.cell (p := ⟨wr.heap.size, 1, none⟩) hlt).trans q1
  have y0 := M2.out.cells 0 _ rfl
  obtain ⟨w5, hrun5, hP5, hg5⟩ := M2.out.pm.put (c0 :: t) vl (by omega) (by have := M2.out.hn; omega) hh
  have M5 := Lib.hid (M2.out.put hP5 hg5)
  clear hP5 hg5 hb8
  go_wp2_with fail
  unfold RN21
  (repeat apply Exists.intro)
  refine ⟨?_, rfl⟩
  exact ⟨n + 1, _, es, { s with pm := s.pm ++ [(c0 :: t, vl)] }, (by first | rfl | simp only [hb]), rfl, (by first | rfl | simp only [hT]), by go_num, M5.out, HNX.out⟩

set_option maxHeartbeats 100000000 in
theorem bad21g (J : Act → World → Prop) (Q0 : Exit → Act → World → Prop) (w : World) (req : Bool) (l : List (BS × BS)) (A : Option Addr) (c : Nat) (b o : Nat) (hA : A = some ⟨b, o, none⟩) (k n vc : Nat) (VA : Option Addr) (es : List Ent) (s : HRS) (wr : World) (nm vl : BS)
    (HS : Hid (HSt w wr k n (.slice VA es.length vc) es s)) (hbw : b < w.heap.size) (hln : l.length ≤ 800000) (hkl : k < l.length) (hc : l.length ≤ c)
    (X0 : Hid (wr.cell? ⟨b, o + k * 2, none⟩ = some (str nm))) (X1 : Hid (wr.cell? ⟨b, o + k * 2 + 1, none⟩ = some (str vl))) (hn1 : nm.length ≤ 1048576) (hv1 : vl.length ≤ 1048576)
    (hf1 : lowOk nm = true) (hf2 : valOk vl = true) (hp : pseudoB nm = false) (hnn : nm ≠ []) (hg1 : nameOk nm = false) (HN : Hid (hrRead req l = none))
    (u2 u3 u5 u10 u11 u12 u13 u14 u15 u16 u17 u21 u22 u23 u24 u25 u26 u27 u28 u29 u30 u31 u32 u33 u34 u35 u36 u37 u38 u39 u40 u41 u42 u43 u44 u45 u46 u47 u48 u49 u50 u51 u52 u53 u54 u55 u56 u57 u58 u59 u60 u61 u62 u63 u64 u65 u66 u67 u68 u69 u70 u71 u72 u73 u74 u75 u76 u77 u78 u79 u80 u81 u82 u83 u84 u85 u86 u87 u88 u89 u90 u91 u92 u93 u94 u95 u96 u97 u98 u99 u100 u101 u102 u103 u104 u105 u106 u107 u108 u109 u110 u111 u112 u113 u114 u115 u116 u117 u118 u119 u120 u121 u122 u123 u124 u125 u126 u127 u128 u129 u130 u131 u132 : Value) (hJ : ∀ a w1, RN21 w req l A c k u2 u3 u10 u16 u17 u125 u126 u127 u128 u129 u130 u131 u132 a w1 → J a w1) (hR : ∀ a w1, bodyPost Tryz.prog Tryz.f21 (ReadPost w (l.length + 1) (hrRead req l)) .ret a w1 → Q0 .ret a w1) :
    Code.wp Tryz.prog body21 (Exit.then J Q0) ⟨#[.slice A l.length c, .bool req, u2, u3, .pointer (some ⟨w.heap.size, 0, none⟩), u5, .pointer (some ⟨w.heap.size + 2, 0, none⟩), .bool s.beh, str s.ls, .bool s.told, u10, u11, u12, u13, u14, u15, u16, u17, .slice A l.length c, .int .i64 (l.length : Int), .int .i64 (k : Int), u21, u22, u23, u24, u25, u26, u27, u28, u29, u30, u31, u32, u33, u34, u35, u36, u37, u38, u39, u40, u41, u42, u43, u44, u45, u46, u47, u48, u49, u50, u51, u52, u53, u54, u55, u56, u57, u58, u59, u60, u61, u62, u63, u64, u65, u66, u67, u68, u69, u70, u71, u72, u73, u74, u75, u76, u77, u78, u79, u80, u81, u82, u83, u84, u85, u86, u87, u88, u89, u90, u91, u92, u93, u94, u95, u96, u97, u98, u99, u100, u101, u102, u103, u104, u105, u106, u107, u108, u109, u110, u111, u112, u113, u114, u115, u116, u117, u118, u119, u120, u121, u122, u123, u124, u125, u126, u127, u128, u129, u130, u131, u132], []⟩ wr := by
  subst hA
  obtain ⟨c0, t, rfl⟩ : ∃ c0 t, nm = c0 :: t := by
    cases nm with
    | nil => exact absurd rfl hnn
    | cons c0 t => exact ⟨c0, t, rfl⟩
  have hz0 : 0 < (⟨(c0 :: t).toArray⟩ : ByteArray).size := by show 0 < (c0 :: t).toArray.size; simp
  have hp58 : decide (c0.toNat = 58) = false := hp
  have f58 : ((((⟨(c0 :: t).toArray⟩ : ByteArray)[0]'hz0).toNat : Int) == 58) = false := by
    show ((c0.toNat : Int) == 58) = false
    simp at hp58
    simp
    omega
  clear hp hp58 hnn
  conv => arg 2; whnf
  conv => arg 4; zeta
  have hge := HS.out.ge
  have hbel := HS.out.bel.size
  have e0 := X0.out
  have e1 := X1.out
  have M1 := Lib.hid (HS.out.below (below_new wr (.cells #[str (c0 :: t), str vl] 42)))
  have KL := low_at' (c0 :: t) _ hn1 hf1
  have KV := hrvalue_at' vl _ hv1 hf2
  have KN := hrname_at' (c0 :: t) _ hn1 hg1
  have q0 : (wr.alloc (.cells #[str (c0 :: t), str vl] 42)).cell? ⟨wr.heap.size, 0, none⟩ = some (str (c0 :: t)) := by simp
  have q1 : (wr.alloc (.cells #[str (c0 :: t), str vl] 42)).cell? ⟨wr.heap.size, 1, none⟩ = some (str vl) := by simp
  have hlt : wr.heap.size < (wr.alloc (.cells #[str (c0 :: t), str vl] 42)).heap.size := by simp
  clear X0 X1 HS
  go_upto_if 88 with (first | (go_at_call 42; refine (KL _).mono ?_; rintro e w8 ⟨rfl, rfl⟩) | (go_at_call 43; refine (KV _).mono ?_; rintro e w8 ⟨rfl, rfl⟩) | (go_at_call 45; refine (KN _).mono ?_; rintro e w8 ⟨rfl, hb8⟩; have HB8 := Lib.hid hb8; have z0 := (hb8.cell (p := ⟨wr.heap.size, 0, none⟩) hlt).trans q0; have z1 := (hb8.cell (p := ⟨wr.heap.size, 1, none⟩) hlt).trans q1; have hlt8 := Nat.lt_of_lt_of_le hlt hb8.size; clear hb8) | (go_at_call 46; refine (KB _).mono ?_; rintro e w9 ⟨rfl, hb9⟩; have HB9 := Lib.hid hb9; have y0 := (hb9.cell (p := ⟨wr.heap.size, 0, none⟩) hlt8).trans z0; have y1 := (hb9.cell (p := ⟨wr.heap.size, 1, none⟩) hlt8).trans z1; have hlt9 := Nat.lt_of_lt_of_le hlt8 hb9.size; clear hb9))
  have M2 := Lib.hid (M1.out.below HB8.out)
  have HLD := Lib.hid (M2.out).cells
  have HTH := Lib.hid (M2.out).there
  have HFl := Lib.hid ((M2.out).done (m' := l.length + 1) (by omega) (hrRead req l) (by rw [HN.out]; intro s' h; cases h))
  have HPC := Lib.hid (put3_cells (M2.out) (w.heap.size + 1) (.slice VA es.length vc) s.len)
  go_wp2_with (first | (refine wpList_load3 rfl rfl (w.heap.size + 2) (w.heap.size + 1) (.slice VA es.length vc) s.len rfl HLD.out ?_) | (refine wpList_store3 rfl _ rfl w.heap.size (w.heap.size + 1) (.slice VA es.length vc) s.len rfl rfl HTH.out rfl ?_))
  obtain ⟨x0, x1, x2⟩ := HPC.out
  refine ⟨rfl, _, (show _ = Result.ok (Value.tuple #[.agg (pcl (w.heap.size + 1) (.slice VA es.length vc) s.len).toArray, .bool false]) _ by simp [results, Tryz.results21, go_sem, x0, x1, x2]; rfl), ?_⟩
  have h := HFl.out
  rw [HN.out] at h ⊢
  exact h
set_option maxHeartbeats 100000000 in
theorem bad21h (J : Act → World → Prop) (Q0 : Exit → Act → World → Prop) (w : World) (req : Bool) (l : List (BS × BS)) (A : Option Addr) (c : Nat) (b o : Nat) (hA : A = some ⟨b, o, none⟩) (k n vc : Nat) (VA : Option Addr) (es : List Ent) (s : HRS) (wr : World) (nm vl : BS)
    (HS : Hid (HSt w wr k n (.slice VA es.length vc) es s)) (hbw : b < w.heap.size) (hln : l.length ≤ 800000) (hkl : k < l.length) (hc : l.length ≤ c)
    (X0 : Hid (wr.cell? ⟨b, o + k * 2, none⟩ = some (str nm))) (X1 : Hid (wr.cell? ⟨b, o + k * 2 + 1, none⟩ = some (str vl))) (hn1 : nm.length ≤ 1048576) (hv1 : vl.length ≤ 1048576)
    (hf1 : lowOk nm = true) (hf2 : valOk vl = true) (hp : pseudoB nm = false) (hnn : nm ≠ []) (hg1 : nameOk nm = true) (hg2 : barredNames.contains nm = true) (HN : Hid (hrRead req l = none))
    (u2 u3 u5 u10 u11 u12 u13 u14 u15 u16 u17 u21 u22 u23 u24 u25 u26 u27 u28 u29 u30 u31 u32 u33 u34 u35 u36 u37 u38 u39 u40 u41 u42 u43 u44 u45 u46 u47 u48 u49 u50 u51 u52 u53 u54 u55 u56 u57 u58 u59 u60 u61 u62 u63 u64 u65 u66 u67 u68 u69 u70 u71 u72 u73 u74 u75 u76 u77 u78 u79 u80 u81 u82 u83 u84 u85 u86 u87 u88 u89 u90 u91 u92 u93 u94 u95 u96 u97 u98 u99 u100 u101 u102 u103 u104 u105 u106 u107 u108 u109 u110 u111 u112 u113 u114 u115 u116 u117 u118 u119 u120 u121 u122 u123 u124 u125 u126 u127 u128 u129 u130 u131 u132 : Value) (hJ : ∀ a w1, RN21 w req l A c k u2 u3 u10 u16 u17 u125 u126 u127 u128 u129 u130 u131 u132 a w1 → J a w1) (hR : ∀ a w1, bodyPost Tryz.prog Tryz.f21 (ReadPost w (l.length + 1) (hrRead req l)) .ret a w1 → Q0 .ret a w1) :
    Code.wp Tryz.prog body21 (Exit.then J Q0) ⟨#[.slice A l.length c, .bool req, u2, u3, .pointer (some ⟨w.heap.size, 0, none⟩), u5, .pointer (some ⟨w.heap.size + 2, 0, none⟩), .bool s.beh, str s.ls, .bool s.told, u10, u11, u12, u13, u14, u15, u16, u17, .slice A l.length c, .int .i64 (l.length : Int), .int .i64 (k : Int), u21, u22, u23, u24, u25, u26, u27, u28, u29, u30, u31, u32, u33, u34, u35, u36, u37, u38, u39, u40, u41, u42, u43, u44, u45, u46, u47, u48, u49, u50, u51, u52, u53, u54, u55, u56, u57, u58, u59, u60, u61, u62, u63, u64, u65, u66, u67, u68, u69, u70, u71, u72, u73, u74, u75, u76, u77, u78, u79, u80, u81, u82, u83, u84, u85, u86, u87, u88, u89, u90, u91, u92, u93, u94, u95, u96, u97, u98, u99, u100, u101, u102, u103, u104, u105, u106, u107, u108, u109, u110, u111, u112, u113, u114, u115, u116, u117, u118, u119, u120, u121, u122, u123, u124, u125, u126, u127, u128, u129, u130, u131, u132], []⟩ wr := by
  subst hA
  obtain ⟨c0, t, rfl⟩ : ∃ c0 t, nm = c0 :: t := by
    cases nm with
    | nil => exact absurd rfl hnn
    | cons c0 t => exact ⟨c0, t, rfl⟩
  have hz0 : 0 < (⟨(c0 :: t).toArray⟩ : ByteArray).size := by show 0 < (c0 :: t).toArray.size; simp
  have hp58 : decide (c0.toNat = 58) = false := hp
  have f58 : ((((⟨(c0 :: t).toArray⟩ : ByteArray)[0]'hz0).toNat : Int) == 58) = false := by
    show ((c0.toNat : Int) == 58) = false
    simp at hp58
    simp
    omega
  clear hp hp58 hnn
  conv => arg 2; whnf
  conv => arg 4; zeta
  have hge := HS.out.ge
  have hbel := HS.out.bel.size
  have e0 := X0.out
  have e1 := X1.out
  have M1 := Lib.hid (HS.out.below (below_new wr (.cells #[str (c0 :: t), str vl] 42)))
  have KL := low_at' (c0 :: t) _ hn1 hf1
  have KV := hrvalue_at' vl _ hv1 hf2
  have KN := hrname_at' (c0 :: t) _ hn1 hg1
  have KB := barred_at' (c0 :: t) _ hg2
  have q0 : (wr.alloc (.cells #[str (c0 :: t), str vl] 42)).cell? ⟨wr.heap.size, 0, none⟩ = some (str (c0 :: t)) := by simp
  have q1 : (wr.alloc (.cells #[str (c0 :: t), str vl] 42)).cell? ⟨wr.heap.size, 1, none⟩ = some (str vl) := by simp
  have hlt : wr.heap.size < (wr.alloc (.cells #[str (c0 :: t), str vl] 42)).heap.size := by simp
  clear X0 X1 HS
  go_upto_if 88 with (first | (go_at_call 42; refine (KL _).mono ?_; rintro e w8 ⟨rfl, rfl⟩) | (go_at_call 43; refine (KV _).mono ?_; rintro e w8 ⟨rfl, rfl⟩) | (go_at_call 45; refine (KN _).mono ?_; rintro e w8 ⟨rfl, hb8⟩; have HB8 := Lib.hid hb8; have z0 := (hb8.cell (p := ⟨wr.heap.size, 0, none⟩) hlt).trans q0; have z1 := (hb8.cell (p := ⟨wr.heap.size, 1, none⟩) hlt).trans q1; have hlt8 := Nat.lt_of_lt_of_le hlt hb8.size; clear hb8) | (go_at_call 46; refine (KB _).mono ?_; rintro e w9 ⟨rfl, hb9⟩; have HB9 := Lib.hid hb9; have y0 := (hb9.cell (p := ⟨wr.heap.size, 0, none⟩) hlt8).trans z0; have y1 := (hb9.cell (p := ⟨wr.heap.size, 1, none⟩) hlt8).trans z1; have hlt9 := Nat.lt_of_lt_of_le hlt8 hb9.size; clear hb9))
  have M3 := Lib.hid ((M1.out.below HB8.out).below HB9.out)
  have HLD := Lib.hid (M3.out).cells
  have HTH := Lib.hid (M3.out).there
  have HFl := Lib.hid ((M3.out).done (m' := l.length + 1) (by omega) (hrRead req l) (by rw [HN.out]; intro s' h; cases h))
  have HPC := Lib.hid (put3_cells (M3.out) (w.heap.size + 1) (.slice VA es.length vc) s.len)
  go_wp2_with (first | (refine wpList_load3 rfl rfl (w.heap.size + 2) (w.heap.size + 1) (.slice VA es.length vc) s.len rfl HLD.out ?_) | (refine wpList_store3 rfl _ rfl w.heap.size (w.heap.size + 1) (.slice VA es.length vc) s.len rfl rfl HTH.out rfl ?_))
  obtain ⟨x0, x1, x2⟩ := HPC.out
  refine ⟨rfl, _, (show _ = Result.ok (Value.tuple #[.agg (pcl (w.heap.size + 1) (.slice VA es.length vc) s.len).toArray, .bool false]) _ by simp [results, Tryz.results21, go_sem, x0, x1, x2]; rfl), ?_⟩
  have h := HFl.out
  rw [HN.out] at h ⊢
  exact h
set_option maxHeartbeats 100000000 in
theorem bad21i (J : Act → World → Prop) (Q0 : Exit → Act → World → Prop) (w : World) (req : Bool) (l : List (BS × BS)) (A : Option Addr) (c : Nat) (b o : Nat) (hA : A = some ⟨b, o, none⟩) (k n vc : Nat) (VA : Option Addr) (es : List Ent) (s : HRS) (wr : World) (nm vl : BS)
    (HS : Hid (HSt w wr k n (.slice VA es.length vc) es s)) (hbw : b < w.heap.size) (hln : l.length ≤ 800000) (hkl : k < l.length) (hc : l.length ≤ c)
    (X0 : Hid (wr.cell? ⟨b, o + k * 2, none⟩ = some (str nm))) (X1 : Hid (wr.cell? ⟨b, o + k * 2 + 1, none⟩ = some (str vl))) (hn1 : nm.length ≤ 1048576) (hv1 : vl.length ≤ 1048576)
    (hf1 : lowOk nm = true) (hf2 : valOk vl = true) (hp : pseudoB nm = false) (hnn : nm ≠ []) (hg1 : nameOk nm = true) (hg2 : barredNames.contains nm = false) (hg3 : (nm == [116, 101]) = true) (hg4 : (vl == [116, 114, 97, 105, 108, 101, 114, 115]) = false) (HN : Hid (hrRead req l = none))
    (u2 u3 u5 u10 u11 u12 u13 u14 u15 u16 u17 u21 u22 u23 u24 u25 u26 u27 u28 u29 u30 u31 u32 u33 u34 u35 u36 u37 u38 u39 u40 u41 u42 u43 u44 u45 u46 u47 u48 u49 u50 u51 u52 u53 u54 u55 u56 u57 u58 u59 u60 u61 u62 u63 u64 u65 u66 u67 u68 u69 u70 u71 u72 u73 u74 u75 u76 u77 u78 u79 u80 u81 u82 u83 u84 u85 u86 u87 u88 u89 u90 u91 u92 u93 u94 u95 u96 u97 u98 u99 u100 u101 u102 u103 u104 u105 u106 u107 u108 u109 u110 u111 u112 u113 u114 u115 u116 u117 u118 u119 u120 u121 u122 u123 u124 u125 u126 u127 u128 u129 u130 u131 u132 : Value) (hJ : ∀ a w1, RN21 w req l A c k u2 u3 u10 u16 u17 u125 u126 u127 u128 u129 u130 u131 u132 a w1 → J a w1) (hR : ∀ a w1, bodyPost Tryz.prog Tryz.f21 (ReadPost w (l.length + 1) (hrRead req l)) .ret a w1 → Q0 .ret a w1) :
    Code.wp Tryz.prog body21 (Exit.then J Q0) ⟨#[.slice A l.length c, .bool req, u2, u3, .pointer (some ⟨w.heap.size, 0, none⟩), u5, .pointer (some ⟨w.heap.size + 2, 0, none⟩), .bool s.beh, str s.ls, .bool s.told, u10, u11, u12, u13, u14, u15, u16, u17, .slice A l.length c, .int .i64 (l.length : Int), .int .i64 (k : Int), u21, u22, u23, u24, u25, u26, u27, u28, u29, u30, u31, u32, u33, u34, u35, u36, u37, u38, u39, u40, u41, u42, u43, u44, u45, u46, u47, u48, u49, u50, u51, u52, u53, u54, u55, u56, u57, u58, u59, u60, u61, u62, u63, u64, u65, u66, u67, u68, u69, u70, u71, u72, u73, u74, u75, u76, u77, u78, u79, u80, u81, u82, u83, u84, u85, u86, u87, u88, u89, u90, u91, u92, u93, u94, u95, u96, u97, u98, u99, u100, u101, u102, u103, u104, u105, u106, u107, u108, u109, u110, u111, u112, u113, u114, u115, u116, u117, u118, u119, u120, u121, u122, u123, u124, u125, u126, u127, u128, u129, u130, u131, u132], []⟩ wr := by
  subst hA
  obtain ⟨c0, t, rfl⟩ : ∃ c0 t, nm = c0 :: t := by
    cases nm with
    | nil => exact absurd rfl hnn
    | cons c0 t => exact ⟨c0, t, rfl⟩
  have hz0 : 0 < (⟨(c0 :: t).toArray⟩ : ByteArray).size := by show 0 < (c0 :: t).toArray.size; simp
  have hp58 : decide (c0.toNat = 58) = false := hp
  have f58 : ((((⟨(c0 :: t).toArray⟩ : ByteArray)[0]'hz0).toNat : Int) == 58) = false := by
    show ((c0.toNat : Int) == 58) = false
    simp at hp58
    simp
    omega
  clear hp hp58 hnn
  conv => arg 2; whnf
  conv => arg 4; zeta
  have hge := HS.out.ge
  have hbel := HS.out.bel.size
  have e0 := X0.out
  have e1 := X1.out
  have M1 := Lib.hid (HS.out.below (below_new wr (.cells #[str (c0 :: t), str vl] 42)))
  have KL := low_at' (c0 :: t) _ hn1 hf1
  have KV := hrvalue_at' vl _ hv1 hf2
  have KN := hrname_at' (c0 :: t) _ hn1 hg1
  have KB := barred_at' (c0 :: t) _ hg2
  have q0 : (wr.alloc (.cells #[str (c0 :: t), str vl] 42)).cell? ⟨wr.heap.size, 0, none⟩ = some (str (c0 :: t)) := by simp
  have q1 : (wr.alloc (.cells #[str (c0 :: t), str vl] 42)).cell? ⟨wr.heap.size, 1, none⟩ = some (str vl) := by simp
  have hlt : wr.heap.size < (wr.alloc (.cells #[str (c0 :: t), str vl] 42)).heap.size := by simp
  clear X0 X1 HS
  go_upto_if 88 with (first | (go_at_call 42; refine (KL _).mono ?_; rintro e w8 ⟨rfl, rfl⟩) | (go_at_call 43; refine (KV _).mono ?_; rintro e w8 ⟨rfl, rfl⟩) | (go_at_call 45; refine (KN _).mono ?_; rintro e w8 ⟨rfl, hb8⟩; have HB8 := Lib.hid hb8; have z0 := (hb8.cell (p := ⟨wr.heap.size, 0, none⟩) hlt).trans q0; have z1 := (hb8.cell (p := ⟨wr.heap.size, 1, none⟩) hlt).trans q1; have hlt8 := Nat.lt_of_lt_of_le hlt hb8.size; clear hb8) | (go_at_call 46; refine (KB _).mono ?_; rintro e w9 ⟨rfl, hb9⟩; have HB9 := Lib.hid hb9; have y0 := (hb9.cell (p := ⟨wr.heap.size, 0, none⟩) hlt8).trans z0; have y1 := (hb9.cell (p := ⟨wr.heap.size, 1, none⟩) hlt8).trans z1; have hlt9 := Nat.lt_of_lt_of_le hlt8 hb9.size; clear hb9))
  have M3 := Lib.hid ((M1.out.below HB8.out).below HB9.out)
  have HLD := Lib.hid (M3.out).cells
  have HTH := Lib.hid (M3.out).there
  have HFl := Lib.hid ((M3.out).done (m' := l.length + 1) (by omega) (hrRead req l) (by rw [HN.out]; intro s' h; cases h))
  have HPC := Lib.hid (put3_cells (M3.out) (w.heap.size + 1) (.slice VA es.length vc) s.len)
  go_wp2_with (first | (refine wpList_load3 rfl rfl (w.heap.size + 2) (w.heap.size + 1) (.slice VA es.length vc) s.len rfl HLD.out ?_) | (refine wpList_store3 rfl _ rfl w.heap.size (w.heap.size + 1) (.slice VA es.length vc) s.len rfl rfl HTH.out rfl ?_))
  obtain ⟨x0, x1, x2⟩ := HPC.out
  refine ⟨rfl, _, (show _ = Result.ok (Value.tuple #[.agg (pcl (w.heap.size + 1) (.slice VA es.length vc) s.len).toArray, .bool false]) _ by simp [results, Tryz.results21, go_sem, x0, x1, x2]; rfl), ?_⟩
  have h := HFl.out
  rw [HN.out] at h ⊢
  exact h

set_option maxHeartbeats 100000000 in
theorem ok21r (J : Act → World → Prop) (Q0 : Exit → Act → World → Prop) (w : World) (req : Bool) (l : List (BS × BS)) (A : Option Addr) (c : Nat) (b o : Nat) (hA : A = some ⟨b, o, none⟩) (k n vc : Nat) (VA : Option Addr) (es : List Ent) (s : HRS) (wr : World) (nm vl : BS)
    (HS : Hid (HSt w wr k n (.slice VA es.length vc) es s)) (hbw : b < w.heap.size) (hln : l.length ≤ 800000) (hkl : k < l.length) (hc : l.length ≤ c)
    (X0 : Hid (wr.cell? ⟨b, o + k * 2, none⟩ = some (str nm))) (X1 : Hid (wr.cell? ⟨b, o + k * 2 + 1, none⟩ = some (str vl))) (hn1 : nm.length ≤ 1048576) (hv1 : vl.length ≤ 1048576)
    (hf1 : lowOk nm = true) (hf2 : valOk vl = true) (hp : pseudoB nm = false) (hnn : nm ≠ []) (hg1 : nameOk nm = true) (hg2 : barredNames.contains nm = false) (hg : (nm == [116, 101] && vl != [116, 114, 97, 105, 108, 101, 114, 115]) = false) (hcl : (nm == [99, 111, 110, 116, 101, 110, 116, 45, 108, 101, 110, 103, 116, 104]) = false) (HNX : Hid (hsFold req {} l = hsFold req { s with beh := true, hd := hrAdd s.hd (canonOut nm) vl } (l.drop (k + 1))))
    (u2 u3 u5 u10 u11 u12 u13 u14 u15 u16 u17 u21 u22 u23 u24 u25 u26 u27 u28 u29 u30 u31 u32 u33 u34 u35 u36 u37 u38 u39 u40 u41 u42 u43 u44 u45 u46 u47 u48 u49 u50 u51 u52 u53 u54 u55 u56 u57 u58 u59 u60 u61 u62 u63 u64 u65 u66 u67 u68 u69 u70 u71 u72 u73 u74 u75 u76 u77 u78 u79 u80 u81 u82 u83 u84 u85 u86 u87 u88 u89 u90 u91 u92 u93 u94 u95 u96 u97 u98 u99 u100 u101 u102 u103 u104 u105 u106 u107 u108 u109 u110 u111 u112 u113 u114 u115 u116 u117 u118 u119 u120 u121 u122 u123 u124 u125 u126 u127 u128 u129 u130 u131 u132 : Value) (hJ : ∀ a w1, RN21 w req l A c k u2 u3 u10 u16 u17 u125 u126 u127 u128 u129 u130 u131 u132 a w1 → J a w1) (hR : ∀ a w1, bodyPost Tryz.prog Tryz.f21 (ReadPost w (l.length + 1) (hrRead req l)) .ret a w1 → Q0 .ret a w1) :
    Code.wp Tryz.prog body21 (Exit.then J Q0) ⟨#[.slice A l.length c, .bool req, u2, u3, .pointer (some ⟨w.heap.size, 0, none⟩), u5, .pointer (some ⟨w.heap.size + 2, 0, none⟩), .bool s.beh, str s.ls, .bool s.told, u10, u11, u12, u13, u14, u15, u16, u17, .slice A l.length c, .int .i64 (l.length : Int), .int .i64 (k : Int), u21, u22, u23, u24, u25, u26, u27, u28, u29, u30, u31, u32, u33, u34, u35, u36, u37, u38, u39, u40, u41, u42, u43, u44, u45, u46, u47, u48, u49, u50, u51, u52, u53, u54, u55, u56, u57, u58, u59, u60, u61, u62, u63, u64, u65, u66, u67, u68, u69, u70, u71, u72, u73, u74, u75, u76, u77, u78, u79, u80, u81, u82, u83, u84, u85, u86, u87, u88, u89, u90, u91, u92, u93, u94, u95, u96, u97, u98, u99, u100, u101, u102, u103, u104, u105, u106, u107, u108, u109, u110, u111, u112, u113, u114, u115, u116, u117, u118, u119, u120, u121, u122, u123, u124, u125, u126, u127, u128, u129, u130, u131, u132], []⟩ wr := by
  subst hA
  obtain ⟨c0, t, rfl⟩ : ∃ c0 t, nm = c0 :: t := by
    cases nm with
    | nil => exact absurd rfl hnn
    | cons c0 t => exact ⟨c0, t, rfl⟩
  have hz0 : 0 < (⟨(c0 :: t).toArray⟩ : ByteArray).size := by show 0 < (c0 :: t).toArray.size; simp
  have hp58 : decide (c0.toNat = 58) = false := hp
  have f58 : ((((⟨(c0 :: t).toArray⟩ : ByteArray)[0]'hz0).toNat : Int) == 58) = false := by
    show ((c0.toNat : Int) == 58) = false
    simp at hp58
    simp
    omega
  clear hp hp58 hnn
  conv => arg 2; whnf
  conv => arg 4; zeta
  have hge := HS.out.ge
  have hbel := HS.out.bel.size
  have e0 := X0.out
  have e1 := X1.out
  have M1 := Lib.hid (HS.out.below (below_new wr (.cells #[str (c0 :: t), str vl] 42)))
  have KL := low_at' (c0 :: t) _ hn1 hf1
  have KV := hrvalue_at' vl _ hv1 hf2
  have KN := hrname_at' (c0 :: t) _ hn1 hg1
  have KB := barred_at' (c0 :: t) _ hg2
  obtain ⟨g3, hg3⟩ : ∃ x, (c0 :: t == [116, 101]) = x := ⟨_, rfl⟩
  obtain ⟨g4, hg4⟩ : ∃ x, (vl == [116, 114, 97, 105, 108, 101, 114, 115]) = x := ⟨_, rfl⟩
  have hg5 : (g3 && !g4) = false := by rw [← hg3, ← hg4]; exact hg
  have HG5 := Lib.hid hg5
  clear hg hg5
  have q0 : (wr.alloc (.cells #[str (c0 :: t), str vl] 42)).cell? ⟨wr.heap.size, 0, none⟩ = some (str (c0 :: t)) := by simp
  have q1 : (wr.alloc (.cells #[str (c0 :: t), str vl] 42)).cell? ⟨wr.heap.size, 1, none⟩ = some (str vl) := by simp
  have hlt : wr.heap.size < (wr.alloc (.cells #[str (c0 :: t), str vl] 42)).heap.size := by simp
  clear X0 X1 HS
  have hbelF : ∀ {W W' : World}, Below (wr.alloc (.cells #[str (c0 :: t), str vl] 42)).heap.size (wr.alloc (.cells #[str (c0 :: t), str vl] 42)) W → Below W.heap.size W W' → Below (wr.alloc (.cells #[str (c0 :: t), str vl] 42)).heap.size (wr.alloc (.cells #[str (c0 :: t), str vl] 42)) W' := fun h1 h2 => Below.next h1 h1.size h2
  go_upto_region 14 with (first | (go_at_call 42; refine (KL _).mono ?_; rintro e w8 ⟨rfl, rfl⟩) | (go_at_call 43; refine (KV _).mono ?_; rintro e w8 ⟨rfl, rfl⟩))
  go_cut [88] from 21 to 124 (fun s88 wx => s88 = .bool false ∧ Below (wr.alloc (.cells #[str (c0 :: t), str vl] 42)).heap.size (wr.alloc (.cells #[str (c0 :: t), str vl] 42)) wx)
  case first =>
    cases g3
    · go_wp2_with (first | (go_at_call 45; refine (KN _).mono ?_; rintro e w8 ⟨rfl, hb8⟩; have HB8 := Lib.hid hb8; have z0 := (hb8.cell (p := ⟨wr.heap.size, 0, none⟩) hlt).trans q0; have z1 := (hb8.cell (p := ⟨wr.heap.size, 1, none⟩) hlt).trans q1; have hlt8 := Nat.lt_of_lt_of_le hlt hb8.size; clear hb8) | (go_at_call 46; refine (KB _).mono ?_; rintro e w9 ⟨rfl, hb9⟩; have HB9 := Lib.hid hb9; have y0 := (hb9.cell (p := ⟨wr.heap.size, 0, none⟩) hlt8).trans z0; have y1 := (hb9.cell (p := ⟨wr.heap.size, 1, none⟩) hlt8).trans z1; have hlt9 := Nat.lt_of_lt_of_le hlt8 hb9.size; clear hb9))
      go_meet
      exact ⟨rfl, hbelF HB8.out HB9.out⟩
    · cases g4
      · have := HG5.out
        cases this
      · go_wp2_with (first | (go_at_call 45; refine (KN _).mono ?_; rintro e w8 ⟨rfl, hb8⟩; have HB8 := Lib.hid hb8; have z0 := (hb8.cell (p := ⟨wr.heap.size, 0, none⟩) hlt).trans q0; have z1 := (hb8.cell (p := ⟨wr.heap.size, 1, none⟩) hlt).trans q1; have hlt8 := Nat.lt_of_lt_of_le hlt hb8.size; clear hb8) | (go_at_call 46; refine (KB _).mono ?_; rintro e w9 ⟨rfl, hb9⟩; have HB9 := Lib.hid hb9; have y0 := (hb9.cell (p := ⟨wr.heap.size, 0, none⟩) hlt8).trans z0; have y1 := (hb9.cell (p := ⟨wr.heap.size, 1, none⟩) hlt8).trans z1; have hlt9 := Nat.lt_of_lt_of_le hlt8 hb9.size; clear hb9))
        go_meet
        exact ⟨rfl, hbelF HB8.out HB9.out⟩
  case rest =>
    obtain ⟨rfl, hbc⟩ := hcut
    have M3 := Lib.hid (M1.out.below hbc)
    have z0 := (hbc.cell (p := ⟨wr.heap.size, 0, none⟩) hlt).trans q0
    have z1 := (hbc.cell (p := ⟨wr.heap.size, 1, none⟩) hlt).trans q1
    have hltc := Nat.lt_of_lt_of_le hlt hbc.size
    clear hbelF hbc q0 q1
    have hxl : es.length ≤ 900000 := by have := M3.out.len; omega
    have hxi : ∀ e ∈ es, e.items.length ≤ 900000 := fun e he => by have := M3.out.items e he; omega
    have KC := fun W => rcanon_at' (c0 :: t) W (by omega)
    have KA := fun W (h : Below wc.heap.size wc W) => hradd_at (canonOut (c0 :: t)) vl (w.heap.size + 3) (.slice VA es.length vc) es W (M3.out.hl.below h) (by have := h.size; have := M3.out.ge; omega) hxl hxi
    have a1 := M3.out.cells 1 _ rfl
    have f1' := M3.out.fz 1
    have hl2 : w.heap.size + 2 < wc.heap.size := by have := M3.out.ge; omega
    go_upto_region 17 with fail
    go_cut [] from 21 to 124 (fun wx => ∃ es3 A3 c3, HSt w wx (k + 1) n (.slice A3 es3.length c3) es3 { s with hd := hrAdd s.hd (canonOut (c0 :: t)) vl })
    case first =>
      refine wp_normal ?_
      go_region_with (first
        | (go_at_call 37; refine (KC _).mono ?_; rintro e w2 ⟨rfl, hb2⟩; have hB : Below wc.heap.size wc w2 := (by first | exact hb2 | exact Below.nextD (Below.refl _ _) (Nat.le_refl _) hb2); have x0 := (hB.cell (p := ⟨wr.heap.size, 0, none⟩) hltc).trans z0; have x1 := (hB.cell (p := ⟨wr.heap.size, 1, none⟩) hltc).trans z1; have a2 := (hB.cell (p := ⟨w.heap.size + 2, 1, none⟩) hl2).trans a1; have f2 := (hB.frozen (p := ⟨w.heap.size + 2, 1, none⟩) hl2).trans f1')
        | (go_at_call 36; refine (KA _ (by assumption)).mono ?_; rintro e w3 ⟨v3, es3, rfl, hL3, hA3, hb3, hown3⟩; obtain ⟨A3, c3, rfl⟩ := row_form hL3.row; have a3 := (hb3.cell (p := ⟨w.heap.size + 2, 1, none⟩) (Nat.lt_of_lt_of_le hl2 hB.size)).trans a2; have f3 := (hb3.frozen (p := ⟨w.heap.size + 2, 1, none⟩) (Nat.lt_of_lt_of_le hl2 hB.size)).trans f2))
      all_goals unfold OnlyNormal
      all_goals go_wp2_with fail
      all_goals go_meet
      all_goals exact ⟨es3, A3, c3, HSt.add M3.out hB hb3 hL3 hA3 hown3⟩
    case rest =>
      obtain ⟨es3, A3, c3, hM⟩ := hcut
      have M4 := Lib.hid (hM.flags (s' := { s with beh := true, hd := hrAdd s.hd (canonOut (c0 :: t)) vl }) rfl rfl rfl)
      clear hM
      go_wp2_with fail
      unfold RN21
      (repeat apply Exists.intro)
      refine ⟨?_, rfl⟩
      exact ⟨n, _, es3, { s with beh := true, hd := hrAdd s.hd (canonOut (c0 :: t)) vl }, (by first | rfl | simp only [hb]), rfl, (by first | rfl | simp only [hT]), by go_num, M4.out, HNX.out⟩
end Go.Proofs.YtgcfnhchmmkndaaGreatDoor
