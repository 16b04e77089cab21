/- spec.HRRequest: its end, a case a declaration. -/
import Derived.Test.YtgcfnhchmmkndaaGreatDoorS1
namespace Go.Proofs.YtgcfnhchmmkndaaGreatDoor
open Go.RowKit Go.Maps
set_option linter.unusedVariables false
set_option maxRecDepth 100000

set_option maxHeartbeats 100000000 in
theorem qend1a (w wc : World) (pb m vc : Nat) (VA : Option Addr) (es : List Ent) (n : Int) (H : AL) (m_ pa h_ p_ sc : BS) (HQ0 : Hid (QSt w wc pb m vc VA es n H)) (hlen : h_.length ≤ 1048576)
    (f1 : (m_ == [67, 79, 78, 78, 69, 67, 84]) = true) (f2 : (p_ == []) = false) (f3 : (sc == []) = true)
    (u0 u1 u3 u5 u11 u12 u13 u14 u15 u16 u17 u18 u19 u20 u21 u22 u23 u24 u25 u26 u27 u28 u29 u30 u31 u32 u33 u34 u35 u36 u37 u38 u39 u40 u41 u42 u43 u44 u45 u46 u47 u48 u49 u50 u51 u52 u53 u54 u55 u56 u57 u58 u59 u60 u61 u62 u63 u64 u65 u66 u67 u68 u69 u70 u71 u72 u73 u74 u75 u76 u77 u78 u79 u80 u81 u82 u83 u84 u85 u86 u87 u88 u89 u90 u91 u92 u93 u94 u95 u96 u97 u98 u99 u100 u101 u102 u103 u104 u105 u106 u107 u108 u109 u110 u111 u112 u113 u114 u115 u116 u117 u118 u119 u120 u121 u122 u123 u124 u125 u126 u127 u128 u129 : Value) :
    Code.wp Tryz.prog (seqTail56 6 (Tryz.f9.body.getD .skip)) (bodyPost Tryz.prog Tryz.f9 (HQPost w m (hqSel m_ pa h_ p_ sc n H))) ⟨#[u0, u1, .pointer (some ⟨w.heap.size, 0, none⟩), u3, .pointer (some ⟨pb, 0, none⟩), u5, str m_, str pa, str h_, str p_, str sc, u11, u12, u13, u14, u15, u16, u17, u18, u19, u20, u21, u22, u23, u24, u25, u26, u27, u28, u29, u30, u31, u32, u33, u34, u35, u36, u37, u38, u39, u40, u41, u42, u43, u44, u45, u46, u47, u48, u49, u50, u51, u52, u53, u54, u55, u56, u57, u58, u59, u60, u61, u62, u63, u64, u65, u66, u67, u68, u69, u70, u71, u72, u73, u74, u75, u76, u77, u78, u79, u80, u81, u82, u83, u84, u85, u86, u87, u88, u89, u90, u91, u92, u93, u94, u95, u96, u97, u98, u99, u100, u101, u102, u103, u104, u105, u106, u107, u108, u109, u110, u111, u112, u113, u114, u115, u116, u117, u118, u119, u120, u121, u122, u123, u124, u125, u126, u127, u128, u129], []⟩ wc := by
  conv => arg 2; whnf
  conv => arg 4; zeta
  have e1 := HQ0.out.v1
  have e2 := HQ0.out.v2
  have HSEL : Hid (hqSel m_ pa h_ p_ sc n H = none) := Lib.hid (by unfold hqSel; rw [bne, f1, f2]; rw [f3]; rfl)
  go_upto_region 18 with fail
  have ZZ := Lib.hid (ZQ.made wc (⟨m_, pa, kProto3, h_, pa, n, H⟩ : HQ) (.slice VA es.length vc))
  have HBB := Lib.hid (below_new wc (.cells #[str m_, str pa, str kProto3, str h_, str pa, .int .i64 n, .slice VA es.length vc, .slice none 0 0] 31))
  have HTH := Lib.hid (Z8.there (HQ0.out.z.below HBB.out))
  have HCL := Lib.hid (Z8.cells ZZ.out)
  have HXX := Lib.hid (ZQ.put (HQ0.out.z.below HBB.out) (⟨m_, pa, kProto3, h_, pa, n, H⟩ : HQ) (.slice VA es.length vc))
  have HFl := Lib.hid (HQ0.out.done HBB.out (hqSel m_ pa h_ p_ sc n H) (⟨m_, pa, kProto3, h_, pa, n, H⟩ : HQ) (by rw [HSEL.out]; intro q h; cases h))
  go_wp2_with (first | (refine wpList_load31 rfl rfl wc.heap.size (hqL (⟨m_, pa, kProto3, h_, pa, n, H⟩ : HQ) (.slice VA es.length vc)) rfl rfl HCL.out ?_) | (refine wpList_store31 rfl _ rfl w.heap.size (hqL (⟨m_, pa, kProto3, h_, pa, n, H⟩ : HQ) (.slice VA es.length vc)) rfl rfl rfl HTH.out (hqL_one _ _ _ _) ?_))
  obtain ⟨⟨x0, x1, x2, x3, x4, x5, x6, x7⟩, xf⟩ := HXX.out
  refine ⟨rfl, _, (show _ = Result.ok (Value.tuple #[.agg (hqL (⟨m_, pa, kProto3, h_, pa, n, H⟩ : HQ) (.slice VA es.length vc)).toArray, .bool false]) _ by simp [results, Tryz.results9, go_sem, x0, x1, x2, x3, x4, x5, x6, x7]; rfl), ?_⟩
  have h := HFl.out
  rw [HSEL.out] at h ⊢
  exact h
set_option maxHeartbeats 100000000 in
theorem qend1b (w wc : World) (pb m vc : Nat) (VA : Option Addr) (es : List Ent) (n : Int) (H : AL) (m_ pa h_ p_ sc : BS) (HQ0 : Hid (QSt w wc pb m vc VA es n H)) (hlen : h_.length ≤ 1048576)
    (f1 : (m_ == [67, 79, 78, 78, 69, 67, 84]) = true) (f2 : (p_ == []) = false) (f3 : (sc == []) = false) (f4 : (pa == []) = true)
    (u0 u1 u3 u5 u11 u12 u13 u14 u15 u16 u17 u18 u19 u20 u21 u22 u23 u24 u25 u26 u27 u28 u29 u30 u31 u32 u33 u34 u35 u36 u37 u38 u39 u40 u41 u42 u43 u44 u45 u46 u47 u48 u49 u50 u51 u52 u53 u54 u55 u56 u57 u58 u59 u60 u61 u62 u63 u64 u65 u66 u67 u68 u69 u70 u71 u72 u73 u74 u75 u76 u77 u78 u79 u80 u81 u82 u83 u84 u85 u86 u87 u88 u89 u90 u91 u92 u93 u94 u95 u96 u97 u98 u99 u100 u101 u102 u103 u104 u105 u106 u107 u108 u109 u110 u111 u112 u113 u114 u115 u116 u117 u118 u119 u120 u121 u122 u123 u124 u125 u126 u127 u128 u129 : Value) :
    Code.wp Tryz.prog (seqTail56 6 (Tryz.f9.body.getD .skip)) (bodyPost Tryz.prog Tryz.f9 (HQPost w m (hqSel m_ pa h_ p_ sc n H))) ⟨#[u0, u1, .pointer (some ⟨w.heap.size, 0, none⟩), u3, .pointer (some ⟨pb, 0, none⟩), u5, str m_, str pa, str h_, str p_, str sc, u11, u12, u13, u14, u15, u16, u17, u18, u19, u20, u21, u22, u23, u24, u25, u26, u27, u28, u29, u30, u31, u32, u33, u34, u35, u36, u37, u38, u39, u40, u41, u42, u43, u44, u45, u46, u47, u48, u49, u50, u51, u52, u53, u54, u55, u56, u57, u58, u59, u60, u61, u62, u63, u64, u65, u66, u67, u68, u69, u70, u71, u72, u73, u74, u75, u76, u77, u78, u79, u80, u81, u82, u83, u84, u85, u86, u87, u88, u89, u90, u91, u92, u93, u94, u95, u96, u97, u98, u99, u100, u101, u102, u103, u104, u105, u106, u107, u108, u109, u110, u111, u112, u113, u114, u115, u116, u117, u118, u119, u120, u121, u122, u123, u124, u125, u126, u127, u128, u129], []⟩ wc := by
  conv => arg 2; whnf
  conv => arg 4; zeta
  have e1 := HQ0.out.v1
  have e2 := HQ0.out.v2
  have HSEL : Hid (hqSel m_ pa h_ p_ sc n H = none) := Lib.hid (by unfold hqSel; rw [bne, f1, f2]; rw [f3, f4]; rfl)
  go_upto_region 18 with fail
  have ZZ := Lib.hid (ZQ.made wc (⟨m_, pa, kProto3, h_, pa, n, H⟩ : HQ) (.slice VA es.length vc))
  have HBB := Lib.hid (below_new wc (.cells #[str m_, str pa, str kProto3, str h_, str pa, .int .i64 n, .slice VA es.length vc, .slice none 0 0] 31))
  have HTH := Lib.hid (Z8.there (HQ0.out.z.below HBB.out))
  have HCL := Lib.hid (Z8.cells ZZ.out)
  have HXX := Lib.hid (ZQ.put (HQ0.out.z.below HBB.out) (⟨m_, pa, kProto3, h_, pa, n, H⟩ : HQ) (.slice VA es.length vc))
  have HFl := Lib.hid (HQ0.out.done HBB.out (hqSel m_ pa h_ p_ sc n H) (⟨m_, pa, kProto3, h_, pa, n, H⟩ : HQ) (by rw [HSEL.out]; intro q h; cases h))
  go_wp2_with (first | (refine wpList_load31 rfl rfl wc.heap.size (hqL (⟨m_, pa, kProto3, h_, pa, n, H⟩ : HQ) (.slice VA es.length vc)) rfl rfl HCL.out ?_) | (refine wpList_store31 rfl _ rfl w.heap.size (hqL (⟨m_, pa, kProto3, h_, pa, n, H⟩ : HQ) (.slice VA es.length vc)) rfl rfl rfl HTH.out (hqL_one _ _ _ _) ?_))
  obtain ⟨⟨x0, x1, x2, x3, x4, x5, x6, x7⟩, xf⟩ := HXX.out
  refine ⟨rfl, _, (show _ = Result.ok (Value.tuple #[.agg (hqL (⟨m_, pa, kProto3, h_, pa, n, H⟩ : HQ) (.slice VA es.length vc)).toArray, .bool false]) _ by simp [results, Tryz.results9, go_sem, x0, x1, x2, x3, x4, x5, x6, x7]; rfl), ?_⟩
  have h := HFl.out
  rw [HSEL.out] at h ⊢
  exact h
set_option maxHeartbeats 100000000 in
theorem qend1c (w wc : World) (pb m vc : Nat) (VA : Option Addr) (es : List Ent) (n : Int) (H : AL) (m_ pa h_ p_ sc : BS) (HQ0 : Hid (QSt w wc pb m vc VA es n H)) (hlen : h_.length ≤ 1048576)
    (f1 : (m_ == [67, 79, 78, 78, 69, 67, 84]) = true) (f2 : (p_ == []) = false) (f3 : (sc == []) = false) (f4 : (pa == []) = false) (f5 : (h_ == []) = true)
    (u0 u1 u3 u5 u11 u12 u13 u14 u15 u16 u17 u18 u19 u20 u21 u22 u23 u24 u25 u26 u27 u28 u29 u30 u31 u32 u33 u34 u35 u36 u37 u38 u39 u40 u41 u42 u43 u44 u45 u46 u47 u48 u49 u50 u51 u52 u53 u54 u55 u56 u57 u58 u59 u60 u61 u62 u63 u64 u65 u66 u67 u68 u69 u70 u71 u72 u73 u74 u75 u76 u77 u78 u79 u80 u81 u82 u83 u84 u85 u86 u87 u88 u89 u90 u91 u92 u93 u94 u95 u96 u97 u98 u99 u100 u101 u102 u103 u104 u105 u106 u107 u108 u109 u110 u111 u112 u113 u114 u115 u116 u117 u118 u119 u120 u121 u122 u123 u124 u125 u126 u127 u128 u129 : Value) :
    Code.wp Tryz.prog (seqTail56 6 (Tryz.f9.body.getD .skip)) (bodyPost Tryz.prog Tryz.f9 (HQPost w m (hqSel m_ pa h_ p_ sc n H))) ⟨#[u0, u1, .pointer (some ⟨w.heap.size, 0, none⟩), u3, .pointer (some ⟨pb, 0, none⟩), u5, str m_, str pa, str h_, str p_, str sc, u11, u12, u13, u14, u15, u16, u17, u18, u19, u20, u21, u22, u23, u24, u25, u26, u27, u28, u29, u30, u31, u32, u33, u34, u35, u36, u37, u38, u39, u40, u41, u42, u43, u44, u45, u46, u47, u48, u49, u50, u51, u52, u53, u54, u55, u56, u57, u58, u59, u60, u61, u62, u63, u64, u65, u66, u67, u68, u69, u70, u71, u72, u73, u74, u75, u76, u77, u78, u79, u80, u81, u82, u83, u84, u85, u86, u87, u88, u89, u90, u91, u92, u93, u94, u95, u96, u97, u98, u99, u100, u101, u102, u103, u104, u105, u106, u107, u108, u109, u110, u111, u112, u113, u114, u115, u116, u117, u118, u119, u120, u121, u122, u123, u124, u125, u126, u127, u128, u129], []⟩ wc := by
  conv => arg 2; whnf
  conv => arg 4; zeta
  have e1 := HQ0.out.v1
  have e2 := HQ0.out.v2
  have HSEL : Hid (hqSel m_ pa h_ p_ sc n H = none) := Lib.hid (by unfold hqSel; rw [bne, f1, f2]; rw [f3, f4, f5]; rfl)
  go_upto_region 18 with fail
  have ZZ := Lib.hid (ZQ.made wc (⟨m_, pa, kProto3, h_, pa, n, H⟩ : HQ) (.slice VA es.length vc))
  have HBB := Lib.hid (below_new wc (.cells #[str m_, str pa, str kProto3, str h_, str pa, .int .i64 n, .slice VA es.length vc, .slice none 0 0] 31))
  have HTH := Lib.hid (Z8.there (HQ0.out.z.below HBB.out))
  have HCL := Lib.hid (Z8.cells ZZ.out)
  have HXX := Lib.hid (ZQ.put (HQ0.out.z.below HBB.out) (⟨m_, pa, kProto3, h_, pa, n, H⟩ : HQ) (.slice VA es.length vc))
  have HFl := Lib.hid (HQ0.out.done HBB.out (hqSel m_ pa h_ p_ sc n H) (⟨m_, pa, kProto3, h_, pa, n, H⟩ : HQ) (by rw [HSEL.out]; intro q h; cases h))
  go_wp2_with (first | (refine wpList_load31 rfl rfl wc.heap.size (hqL (⟨m_, pa, kProto3, h_, pa, n, H⟩ : HQ) (.slice VA es.length vc)) rfl rfl HCL.out ?_) | (refine wpList_store31 rfl _ rfl w.heap.size (hqL (⟨m_, pa, kProto3, h_, pa, n, H⟩ : HQ) (.slice VA es.length vc)) rfl rfl rfl HTH.out (hqL_one _ _ _ _) ?_))
  obtain ⟨⟨x0, x1, x2, x3, x4, x5, x6, x7⟩, xf⟩ := HXX.out
  refine ⟨rfl, _, (show _ = Result.ok (Value.tuple #[.agg (hqL (⟨m_, pa, kProto3, h_, pa, n, H⟩ : HQ) (.slice VA es.length vc)).toArray, .bool false]) _ by simp [results, Tryz.results9, go_sem, x0, x1, x2, x3, x4, x5, x6, x7]; rfl), ?_⟩
  have h := HFl.out
  rw [HSEL.out] at h ⊢
  exact h
set_option maxHeartbeats 100000000 in
theorem qend2 (w wc : World) (pb m vc : Nat) (VA : Option Addr) (es : List Ent) (n : Int) (H : AL) (m_ pa h_ p_ sc : BS) (HQ0 : Hid (QSt w wc pb m vc VA es n H)) (hlen : h_.length ≤ 1048576)
    (f1 : (m_ == [67, 79, 78, 78, 69, 67, 84]) = true) (f2 : (p_ == []) = false) (f3 : (sc == []) = false) (f4 : (pa == []) = false) (f5 : (h_ == []) = false)
    (u0 u1 u3 u5 u11 u12 u13 u14 u15 u16 u17 u18 u19 u20 u21 u22 u23 u24 u25 u26 u27 u28 u29 u30 u31 u32 u33 u34 u35 u36 u37 u38 u39 u40 u41 u42 u43 u44 u45 u46 u47 u48 u49 u50 u51 u52 u53 u54 u55 u56 u57 u58 u59 u60 u61 u62 u63 u64 u65 u66 u67 u68 u69 u70 u71 u72 u73 u74 u75 u76 u77 u78 u79 u80 u81 u82 u83 u84 u85 u86 u87 u88 u89 u90 u91 u92 u93 u94 u95 u96 u97 u98 u99 u100 u101 u102 u103 u104 u105 u106 u107 u108 u109 u110 u111 u112 u113 u114 u115 u116 u117 u118 u119 u120 u121 u122 u123 u124 u125 u126 u127 u128 u129 : Value) :
    Code.wp Tryz.prog (seqTail56 6 (Tryz.f9.body.getD .skip)) (bodyPost Tryz.prog Tryz.f9 (HQPost w m (hqSel m_ pa h_ p_ sc n H))) ⟨#[u0, u1, .pointer (some ⟨w.heap.size, 0, none⟩), u3, .pointer (some ⟨pb, 0, none⟩), u5, str m_, str pa, str h_, str p_, str sc, u11, u12, u13, u14, u15, u16, u17, u18, u19, u20, u21, u22, u23, u24, u25, u26, u27, u28, u29, u30, u31, u32, u33, u34, u35, u36, u37, u38, u39, u40, u41, u42, u43, u44, u45, u46, u47, u48, u49, u50, u51, u52, u53, u54, u55, u56, u57, u58, u59, u60, u61, u62, u63, u64, u65, u66, u67, u68, u69, u70, u71, u72, u73, u74, u75, u76, u77, u78, u79, u80, u81, u82, u83, u84, u85, u86, u87, u88, u89, u90, u91, u92, u93, u94, u95, u96, u97, u98, u99, u100, u101, u102, u103, u104, u105, u106, u107, u108, u109, u110, u111, u112, u113, u114, u115, u116, u117, u118, u119, u120, u121, u122, u123, u124, u125, u126, u127, u128, u129], []⟩ wc := by
  conv => arg 2; whnf
  conv => arg 4; zeta
  have e1 := HQ0.out.v1
  have e2 := HQ0.out.v2
  have HSEL : Hid (hqSel m_ pa h_ p_ sc n H = some (⟨m_, pa, p_, h_, pa, n, H⟩ : HQ)) := Lib.hid (by unfold hqSel; rw [bne, f1, f2]; rw [f3, f4, f5]; rfl)
  go_upto_region 26 with fail
  have ZZ := Lib.hid (ZQ.made wc (⟨m_, pa, p_, h_, pa, n, H⟩ : HQ) (.slice VA es.length vc))
  have HBB := Lib.hid (below_new wc (.cells #[str m_, str pa, str p_, str h_, str pa, .int .i64 n, .slice VA es.length vc, .slice none 0 0] 31))
  have HTH := Lib.hid (Z8.there (HQ0.out.z.below HBB.out))
  have HCL := Lib.hid (Z8.cells ZZ.out)
  have HXX := Lib.hid (ZQ.put (HQ0.out.z.below HBB.out) (⟨m_, pa, p_, h_, pa, n, H⟩ : HQ) (.slice VA es.length vc))
  have HFl := Lib.hid (HQ0.out.done HBB.out (hqSel m_ pa h_ p_ sc n H) (⟨m_, pa, p_, h_, pa, n, H⟩ : HQ) (by rw [HSEL.out]; intro q h; injection h with h; subst h; exact ⟨rfl, rfl⟩))
  go_wp2_with (first | (refine wpList_load31 rfl rfl wc.heap.size (hqL (⟨m_, pa, p_, h_, pa, n, H⟩ : HQ) (.slice VA es.length vc)) rfl rfl HCL.out ?_) | (refine wpList_store31 rfl _ rfl w.heap.size (hqL (⟨m_, pa, p_, h_, pa, n, H⟩ : HQ) (.slice VA es.length vc)) rfl rfl rfl HTH.out (hqL_one _ _ _ _) ?_))
  obtain ⟨⟨x0, x1, x2, x3, x4, x5, x6, x7⟩, xf⟩ := HXX.out
  refine ⟨rfl, _, (show _ = Result.ok (Value.tuple #[.agg (hqL (⟨m_, pa, p_, h_, pa, n, H⟩ : HQ) (.slice VA es.length vc)).toArray, .bool true]) _ by simp [results, Tryz.results9, go_sem, x0, x1, x2, x3, x4, x5, x6, x7]; rfl), ?_⟩
  have h := HFl.out
  rw [HSEL.out] at h ⊢
  exact h
set_option maxHeartbeats 100000000 in
theorem qend3a (w wc : World) (pb m vc : Nat) (VA : Option Addr) (es : List Ent) (n : Int) (H : AL) (m_ pa h_ p_ sc : BS) (HQ0 : Hid (QSt w wc pb m vc VA es n H)) (hlen : h_.length ≤ 1048576)
    (f1 : (m_ == [67, 79, 78, 78, 69, 67, 84]) = true) (f2 : (p_ == []) = true) (f4 : (pa == []) = false)
    (u0 u1 u3 u5 u11 u12 u13 u14 u15 u16 u17 u18 u19 u20 u21 u22 u23 u24 u25 u26 u27 u28 u29 u30 u31 u32 u33 u34 u35 u36 u37 u38 u39 u40 u41 u42 u43 u44 u45 u46 u47 u48 u49 u50 u51 u52 u53 u54 u55 u56 u57 u58 u59 u60 u61 u62 u63 u64 u65 u66 u67 u68 u69 u70 u71 u72 u73 u74 u75 u76 u77 u78 u79 u80 u81 u82 u83 u84 u85 u86 u87 u88 u89 u90 u91 u92 u93 u94 u95 u96 u97 u98 u99 u100 u101 u102 u103 u104 u105 u106 u107 u108 u109 u110 u111 u112 u113 u114 u115 u116 u117 u118 u119 u120 u121 u122 u123 u124 u125 u126 u127 u128 u129 : Value) :
    Code.wp Tryz.prog (seqTail56 6 (Tryz.f9.body.getD .skip)) (bodyPost Tryz.prog Tryz.f9 (HQPost w m (hqSel m_ pa h_ p_ sc n H))) ⟨#[u0, u1, .pointer (some ⟨w.heap.size, 0, none⟩), u3, .pointer (some ⟨pb, 0, none⟩), u5, str m_, str pa, str h_, str p_, str sc, u11, u12, u13, u14, u15, u16, u17, u18, u19, u20, u21, u22, u23, u24, u25, u26, u27, u28, u29, u30, u31, u32, u33, u34, u35, u36, u37, u38, u39, u40, u41, u42, u43, u44, u45, u46, u47, u48, u49, u50, u51, u52, u53, u54, u55, u56, u57, u58, u59, u60, u61, u62, u63, u64, u65, u66, u67, u68, u69, u70, u71, u72, u73, u74, u75, u76, u77, u78, u79, u80, u81, u82, u83, u84, u85, u86, u87, u88, u89, u90, u91, u92, u93, u94, u95, u96, u97, u98, u99, u100, u101, u102, u103, u104, u105, u106, u107, u108, u109, u110, u111, u112, u113, u114, u115, u116, u117, u118, u119, u120, u121, u122, u123, u124, u125, u126, u127, u128, u129], []⟩ wc := by
  conv => arg 2; whnf
  conv => arg 4; zeta
  have e1 := HQ0.out.v1
  have e2 := HQ0.out.v2
  have HSEL : Hid (hqSel m_ pa h_ p_ sc n H = none) := Lib.hid (by unfold hqSel; simp only [bne, f1, f2, f4]; rfl)
  go_upto_region 22 with fail
  have ZZ := Lib.hid (ZQ.made wc (⟨m_, pa, kProto3, h_, pa, n, H⟩ : HQ) (.slice VA es.length vc))
  have HBB := Lib.hid (below_new wc (.cells #[str m_, str pa, str kProto3, str h_, str pa, .int .i64 n, .slice VA es.length vc, .slice none 0 0] 31))
  have HTH := Lib.hid (Z8.there (HQ0.out.z.below HBB.out))
  have HCL := Lib.hid (Z8.cells ZZ.out)
  have HXX := Lib.hid (ZQ.put (HQ0.out.z.below HBB.out) (⟨m_, pa, kProto3, h_, pa, n, H⟩ : HQ) (.slice VA es.length vc))
  have HFl := Lib.hid (HQ0.out.done HBB.out (hqSel m_ pa h_ p_ sc n H) (⟨m_, pa, kProto3, h_, pa, n, H⟩ : HQ) (by rw [HSEL.out]; intro q h; cases h))
  go_wp2_with (first | (refine wpList_load31 rfl rfl wc.heap.size (hqL (⟨m_, pa, kProto3, h_, pa, n, H⟩ : HQ) (.slice VA es.length vc)) rfl rfl HCL.out ?_) | (refine wpList_store31 rfl _ rfl w.heap.size (hqL (⟨m_, pa, kProto3, h_, pa, n, H⟩ : HQ) (.slice VA es.length vc)) rfl rfl rfl HTH.out (hqL_one _ _ _ _) ?_))
  obtain ⟨⟨x0, x1, x2, x3, x4, x5, x6, x7⟩, xf⟩ := HXX.out
  refine ⟨rfl, _, (show _ = Result.ok (Value.tuple #[.agg (hqL (⟨m_, pa, kProto3, h_, pa, n, H⟩ : HQ) (.slice VA es.length vc)).toArray, .bool false]) _ by simp [results, Tryz.results9, go_sem, x0, x1, x2, x3, x4, x5, x6, x7]; rfl), ?_⟩
  have h := HFl.out
  rw [HSEL.out] at h ⊢
  exact h
set_option maxHeartbeats 100000000 in
theorem qend3b (w wc : World) (pb m vc : Nat) (VA : Option Addr) (es : List Ent) (n : Int) (H : AL) (m_ pa h_ p_ sc : BS) (HQ0 : Hid (QSt w wc pb m vc VA es n H)) (hlen : h_.length ≤ 1048576)
    (f1 : (m_ == [67, 79, 78, 78, 69, 67, 84]) = true) (f2 : (p_ == []) = true) (f4 : (pa == []) = true) (f3 : (sc == []) = false)
    (u0 u1 u3 u5 u11 u12 u13 u14 u15 u16 u17 u18 u19 u20 u21 u22 u23 u24 u25 u26 u27 u28 u29 u30 u31 u32 u33 u34 u35 u36 u37 u38 u39 u40 u41 u42 u43 u44 u45 u46 u47 u48 u49 u50 u51 u52 u53 u54 u55 u56 u57 u58 u59 u60 u61 u62 u63 u64 u65 u66 u67 u68 u69 u70 u71 u72 u73 u74 u75 u76 u77 u78 u79 u80 u81 u82 u83 u84 u85 u86 u87 u88 u89 u90 u91 u92 u93 u94 u95 u96 u97 u98 u99 u100 u101 u102 u103 u104 u105 u106 u107 u108 u109 u110 u111 u112 u113 u114 u115 u116 u117 u118 u119 u120 u121 u122 u123 u124 u125 u126 u127 u128 u129 : Value) :
    Code.wp Tryz.prog (seqTail56 6 (Tryz.f9.body.getD .skip)) (bodyPost Tryz.prog Tryz.f9 (HQPost w m (hqSel m_ pa h_ p_ sc n H))) ⟨#[u0, u1, .pointer (some ⟨w.heap.size, 0, none⟩), u3, .pointer (some ⟨pb, 0, none⟩), u5, str m_, str pa, str h_, str p_, str sc, u11, u12, u13, u14, u15, u16, u17, u18, u19, u20, u21, u22, u23, u24, u25, u26, u27, u28, u29, u30, u31, u32, u33, u34, u35, u36, u37, u38, u39, u40, u41, u42, u43, u44, u45, u46, u47, u48, u49, u50, u51, u52, u53, u54, u55, u56, u57, u58, u59, u60, u61, u62, u63, u64, u65, u66, u67, u68, u69, u70, u71, u72, u73, u74, u75, u76, u77, u78, u79, u80, u81, u82, u83, u84, u85, u86, u87, u88, u89, u90, u91, u92, u93, u94, u95, u96, u97, u98, u99, u100, u101, u102, u103, u104, u105, u106, u107, u108, u109, u110, u111, u112, u113, u114, u115, u116, u117, u118, u119, u120, u121, u122, u123, u124, u125, u126, u127, u128, u129], []⟩ wc := by
  conv => arg 2; whnf
  conv => arg 4; zeta
  have e1 := HQ0.out.v1
  have e2 := HQ0.out.v2
  have HSEL : Hid (hqSel m_ pa h_ p_ sc n H = none) := Lib.hid (by unfold hqSel; simp only [bne, f1, f2, f4, f3]; rfl)
  go_upto_region 22 with fail
  have ZZ := Lib.hid (ZQ.made wc (⟨m_, pa, kProto3, h_, pa, n, H⟩ : HQ) (.slice VA es.length vc))
  have HBB := Lib.hid (below_new wc (.cells #[str m_, str pa, str kProto3, str h_, str pa, .int .i64 n, .slice VA es.length vc, .slice none 0 0] 31))
  have HTH := Lib.hid (Z8.there (HQ0.out.z.below HBB.out))
  have HCL := Lib.hid (Z8.cells ZZ.out)
  have HXX := Lib.hid (ZQ.put (HQ0.out.z.below HBB.out) (⟨m_, pa, kProto3, h_, pa, n, H⟩ : HQ) (.slice VA es.length vc))
  have HFl := Lib.hid (HQ0.out.done HBB.out (hqSel m_ pa h_ p_ sc n H) (⟨m_, pa, kProto3, h_, pa, n, H⟩ : HQ) (by rw [HSEL.out]; intro q h; cases h))
  go_wp2_with (first | (refine wpList_load31 rfl rfl wc.heap.size (hqL (⟨m_, pa, kProto3, h_, pa, n, H⟩ : HQ) (.slice VA es.length vc)) rfl rfl HCL.out ?_) | (refine wpList_store31 rfl _ rfl w.heap.size (hqL (⟨m_, pa, kProto3, h_, pa, n, H⟩ : HQ) (.slice VA es.length vc)) rfl rfl rfl HTH.out (hqL_one _ _ _ _) ?_))
  obtain ⟨⟨x0, x1, x2, x3, x4, x5, x6, x7⟩, xf⟩ := HXX.out
  refine ⟨rfl, _, (show _ = Result.ok (Value.tuple #[.agg (hqL (⟨m_, pa, kProto3, h_, pa, n, H⟩ : HQ) (.slice VA es.length vc)).toArray, .bool false]) _ by simp [results, Tryz.results9, go_sem, x0, x1, x2, x3, x4, x5, x6, x7]; rfl), ?_⟩
  have h := HFl.out
  rw [HSEL.out] at h ⊢
  exact h
set_option maxHeartbeats 100000000 in
theorem qend3c (w wc : World) (pb m vc : Nat) (VA : Option Addr) (es : List Ent) (n : Int) (H : AL) (m_ pa h_ p_ sc : BS) (HQ0 : Hid (QSt w wc pb m vc VA es n H)) (hlen : h_.length ≤ 1048576)
    (f1 : (m_ == [67, 79, 78, 78, 69, 67, 84]) = true) (f2 : (p_ == []) = true) (f4 : (pa == []) = true) (f3 : (sc == []) = true) (f5 : (h_ == []) = true)
    (u0 u1 u3 u5 u11 u12 u13 u14 u15 u16 u17 u18 u19 u20 u21 u22 u23 u24 u25 u26 u27 u28 u29 u30 u31 u32 u33 u34 u35 u36 u37 u38 u39 u40 u41 u42 u43 u44 u45 u46 u47 u48 u49 u50 u51 u52 u53 u54 u55 u56 u57 u58 u59 u60 u61 u62 u63 u64 u65 u66 u67 u68 u69 u70 u71 u72 u73 u74 u75 u76 u77 u78 u79 u80 u81 u82 u83 u84 u85 u86 u87 u88 u89 u90 u91 u92 u93 u94 u95 u96 u97 u98 u99 u100 u101 u102 u103 u104 u105 u106 u107 u108 u109 u110 u111 u112 u113 u114 u115 u116 u117 u118 u119 u120 u121 u122 u123 u124 u125 u126 u127 u128 u129 : Value) :
    Code.wp Tryz.prog (seqTail56 6 (Tryz.f9.body.getD .skip)) (bodyPost Tryz.prog Tryz.f9 (HQPost w m (hqSel m_ pa h_ p_ sc n H))) ⟨#[u0, u1, .pointer (some ⟨w.heap.size, 0, none⟩), u3, .pointer (some ⟨pb, 0, none⟩), u5, str m_, str pa, str h_, str p_, str sc, u11, u12, u13, u14, u15, u16, u17, u18, u19, u20, u21, u22, u23, u24, u25, u26, u27, u28, u29, u30, u31, u32, u33, u34, u35, u36, u37, u38, u39, u40, u41, u42, u43, u44, u45, u46, u47, u48, u49, u50, u51, u52, u53, u54, u55, u56, u57, u58, u59, u60, u61, u62, u63, u64, u65, u66, u67, u68, u69, u70, u71, u72, u73, u74, u75, u76, u77, u78, u79, u80, u81, u82, u83, u84, u85, u86, u87, u88, u89, u90, u91, u92, u93, u94, u95, u96, u97, u98, u99, u100, u101, u102, u103, u104, u105, u106, u107, u108, u109, u110, u111, u112, u113, u114, u115, u116, u117, u118, u119, u120, u121, u122, u123, u124, u125, u126, u127, u128, u129], []⟩ wc := by
  conv => arg 2; whnf
  conv => arg 4; zeta
  have e1 := HQ0.out.v1
  have e2 := HQ0.out.v2
  have HSEL : Hid (hqSel m_ pa h_ p_ sc n H = none) := Lib.hid (by unfold hqSel; simp only [bne, f1, f2, f4, f3, f5]; rfl)
  go_upto_region 22 with fail
  have ZZ := Lib.hid (ZQ.made wc (⟨m_, pa, kProto3, h_, pa, n, H⟩ : HQ) (.slice VA es.length vc))
  have HBB := Lib.hid (below_new wc (.cells #[str m_, str pa, str kProto3, str h_, str pa, .int .i64 n, .slice VA es.length vc, .slice none 0 0] 31))
  have HTH := Lib.hid (Z8.there (HQ0.out.z.below HBB.out))
  have HCL := Lib.hid (Z8.cells ZZ.out)
  have HXX := Lib.hid (ZQ.put (HQ0.out.z.below HBB.out) (⟨m_, pa, kProto3, h_, pa, n, H⟩ : HQ) (.slice VA es.length vc))
  have HFl := Lib.hid (HQ0.out.done HBB.out (hqSel m_ pa h_ p_ sc n H) (⟨m_, pa, kProto3, h_, pa, n, H⟩ : HQ) (by rw [HSEL.out]; intro q h; cases h))
  go_wp2_with (first | (refine wpList_load31 rfl rfl wc.heap.size (hqL (⟨m_, pa, kProto3, h_, pa, n, H⟩ : HQ) (.slice VA es.length vc)) rfl rfl HCL.out ?_) | (refine wpList_store31 rfl _ rfl w.heap.size (hqL (⟨m_, pa, kProto3, h_, pa, n, H⟩ : HQ) (.slice VA es.length vc)) rfl rfl rfl HTH.out (hqL_one _ _ _ _) ?_))
  obtain ⟨⟨x0, x1, x2, x3, x4, x5, x6, x7⟩, xf⟩ := HXX.out
  refine ⟨rfl, _, (show _ = Result.ok (Value.tuple #[.agg (hqL (⟨m_, pa, kProto3, h_, pa, n, H⟩ : HQ) (.slice VA es.length vc)).toArray, .bool false]) _ by simp [results, Tryz.results9, go_sem, x0, x1, x2, x3, x4, x5, x6, x7]; rfl), ?_⟩
  have h := HFl.out
  rw [HSEL.out] at h ⊢
  exact h
set_option maxHeartbeats 100000000 in
theorem qend4 (w wc : World) (pb m vc : Nat) (VA : Option Addr) (es : List Ent) (n : Int) (H : AL) (m_ pa h_ p_ sc : BS) (HQ0 : Hid (QSt w wc pb m vc VA es n H)) (hlen : h_.length ≤ 1048576)
    (f1 : (m_ == [67, 79, 78, 78, 69, 67, 84]) = true) (f2 : (p_ == []) = true) (f4 : (pa == []) = true) (f3 : (sc == []) = true) (f5 : (h_ == []) = false)
    (u0 u1 u3 u5 u11 u12 u13 u14 u15 u16 u17 u18 u19 u20 u21 u22 u23 u24 u25 u26 u27 u28 u29 u30 u31 u32 u33 u34 u35 u36 u37 u38 u39 u40 u41 u42 u43 u44 u45 u46 u47 u48 u49 u50 u51 u52 u53 u54 u55 u56 u57 u58 u59 u60 u61 u62 u63 u64 u65 u66 u67 u68 u69 u70 u71 u72 u73 u74 u75 u76 u77 u78 u79 u80 u81 u82 u83 u84 u85 u86 u87 u88 u89 u90 u91 u92 u93 u94 u95 u96 u97 u98 u99 u100 u101 u102 u103 u104 u105 u106 u107 u108 u109 u110 u111 u112 u113 u114 u115 u116 u117 u118 u119 u120 u121 u122 u123 u124 u125 u126 u127 u128 u129 : Value) :
    Code.wp Tryz.prog (seqTail56 6 (Tryz.f9.body.getD .skip)) (bodyPost Tryz.prog Tryz.f9 (HQPost w m (hqSel m_ pa h_ p_ sc n H))) ⟨#[u0, u1, .pointer (some ⟨w.heap.size, 0, none⟩), u3, .pointer (some ⟨pb, 0, none⟩), u5, str m_, str pa, str h_, str p_, str sc, u11, u12, u13, u14, u15, u16, u17, u18, u19, u20, u21, u22, u23, u24, u25, u26, u27, u28, u29, u30, u31, u32, u33, u34, u35, u36, u37, u38, u39, u40, u41, u42, u43, u44, u45, u46, u47, u48, u49, u50, u51, u52, u53, u54, u55, u56, u57, u58, u59, u60, u61, u62, u63, u64, u65, u66, u67, u68, u69, u70, u71, u72, u73, u74, u75, u76, u77, u78, u79, u80, u81, u82, u83, u84, u85, u86, u87, u88, u89, u90, u91, u92, u93, u94, u95, u96, u97, u98, u99, u100, u101, u102, u103, u104, u105, u106, u107, u108, u109, u110, u111, u112, u113, u114, u115, u116, u117, u118, u119, u120, u121, u122, u123, u124, u125, u126, u127, u128, u129], []⟩ wc := by
  conv => arg 2; whnf
  conv => arg 4; zeta
  have e1 := HQ0.out.v1
  have e2 := HQ0.out.v2
  obtain ⟨hh, hhe⟩ : ∃ hh, [47, 47] ++ h_ = hh := ⟨_, rfl⟩
  have hcat : ({ data := #[47, 47] } : ByteArray) ++ { data := h_.toArray } = { data := hh.toArray } := by
    subst hhe
    apply ByteArray.ext
    simp
  have HSEL : Hid (hqSel m_ pa h_ p_ sc n H = some (⟨m_, hh, kProto3, h_, h_, n, H⟩ : HQ)) := Lib.hid (by unfold hqSel; rw [← hhe]; simp only [bne, f1, f2, f4, f3, f5]; rfl)
  clear hhe
  go_upto_region 26 with fail
  have ZZ := Lib.hid (ZQ.made wc (⟨m_, hh, kProto3, h_, h_, n, H⟩ : HQ) (.slice VA es.length vc))
  have HBB := Lib.hid (below_new wc (.cells #[str m_, str hh, str kProto3, str h_, str h_, .int .i64 n, .slice VA es.length vc, .slice none 0 0] 31))
  have HTH := Lib.hid (Z8.there (HQ0.out.z.below HBB.out))
  have HCL := Lib.hid (Z8.cells ZZ.out)
  have HXX := Lib.hid (ZQ.put (HQ0.out.z.below HBB.out) (⟨m_, hh, kProto3, h_, h_, n, H⟩ : HQ) (.slice VA es.length vc))
  have HFl := Lib.hid (HQ0.out.done HBB.out (hqSel m_ pa h_ p_ sc n H) (⟨m_, hh, kProto3, h_, h_, n, H⟩ : HQ) (by rw [HSEL.out]; intro q h; injection h with h; subst h; exact ⟨rfl, rfl⟩))
  go_wp2_with (first | (refine wpList_load31 rfl rfl wc.heap.size (hqL (⟨m_, hh, kProto3, h_, h_, n, H⟩ : HQ) (.slice VA es.length vc)) rfl rfl HCL.out ?_) | (refine wpList_store31 rfl _ rfl w.heap.size (hqL (⟨m_, hh, kProto3, h_, h_, n, H⟩ : HQ) (.slice VA es.length vc)) rfl rfl rfl HTH.out (hqL_one _ _ _ _) ?_))
  obtain ⟨⟨x0, x1, x2, x3, x4, x5, x6, x7⟩, xf⟩ := HXX.out
  refine ⟨rfl, _, (show _ = Result.ok (Value.tuple #[.agg (hqL (⟨m_, hh, kProto3, h_, h_, n, H⟩ : HQ) (.slice VA es.length vc)).toArray, .bool true]) _ by simp [results, Tryz.results9, go_sem, x0, x1, x2, x3, x4, x5, x6, x7]; rfl), ?_⟩
  have h := HFl.out
  rw [HSEL.out] at h ⊢
  exact h
set_option maxHeartbeats 100000000 in
theorem qend5a (w wc : World) (pb m vc : Nat) (VA : Option Addr) (es : List Ent) (n : Int) (H : AL) (m_ pa h_ p_ sc : BS) (HQ0 : Hid (QSt w wc pb m vc VA es n H)) (hlen : h_.length ≤ 1048576)
    (f1 : (m_ == [67, 79, 78, 78, 69, 67, 84]) = false) (f6 : (m_ == []) = true)
    (u0 u1 u3 u5 u11 u12 u13 u14 u15 u16 u17 u18 u19 u20 u21 u22 u23 u24 u25 u26 u27 u28 u29 u30 u31 u32 u33 u34 u35 u36 u37 u38 u39 u40 u41 u42 u43 u44 u45 u46 u47 u48 u49 u50 u51 u52 u53 u54 u55 u56 u57 u58 u59 u60 u61 u62 u63 u64 u65 u66 u67 u68 u69 u70 u71 u72 u73 u74 u75 u76 u77 u78 u79 u80 u81 u82 u83 u84 u85 u86 u87 u88 u89 u90 u91 u92 u93 u94 u95 u96 u97 u98 u99 u100 u101 u102 u103 u104 u105 u106 u107 u108 u109 u110 u111 u112 u113 u114 u115 u116 u117 u118 u119 u120 u121 u122 u123 u124 u125 u126 u127 u128 u129 : Value) :
    Code.wp Tryz.prog (seqTail56 6 (Tryz.f9.body.getD .skip)) (bodyPost Tryz.prog Tryz.f9 (HQPost w m (hqSel m_ pa h_ p_ sc n H))) ⟨#[u0, u1, .pointer (some ⟨w.heap.size, 0, none⟩), u3, .pointer (some ⟨pb, 0, none⟩), u5, str m_, str pa, str h_, str p_, str sc, u11, u12, u13, u14, u15, u16, u17, u18, u19, u20, u21, u22, u23, u24, u25, u26, u27, u28, u29, u30, u31, u32, u33, u34, u35, u36, u37, u38, u39, u40, u41, u42, u43, u44, u45, u46, u47, u48, u49, u50, u51, u52, u53, u54, u55, u56, u57, u58, u59, u60, u61, u62, u63, u64, u65, u66, u67, u68, u69, u70, u71, u72, u73, u74, u75, u76, u77, u78, u79, u80, u81, u82, u83, u84, u85, u86, u87, u88, u89, u90, u91, u92, u93, u94, u95, u96, u97, u98, u99, u100, u101, u102, u103, u104, u105, u106, u107, u108, u109, u110, u111, u112, u113, u114, u115, u116, u117, u118, u119, u120, u121, u122, u123, u124, u125, u126, u127, u128, u129], []⟩ wc := by
  conv => arg 2; whnf
  conv => arg 4; zeta
  have e1 := HQ0.out.v1
  have e2 := HQ0.out.v2
  have HSEL : Hid (hqSel m_ pa h_ p_ sc n H = none) := Lib.hid (by unfold hqSel; simp only [bne, f1, f6]; rfl)
  go_upto_region 25 with fail
  have ZZ := Lib.hid (ZQ.made wc (⟨m_, pa, kProto3, h_, pa, n, H⟩ : HQ) (.slice VA es.length vc))
  have HBB := Lib.hid (below_new wc (.cells #[str m_, str pa, str kProto3, str h_, str pa, .int .i64 n, .slice VA es.length vc, .slice none 0 0] 31))
  have HTH := Lib.hid (Z8.there (HQ0.out.z.below HBB.out))
  have HCL := Lib.hid (Z8.cells ZZ.out)
  have HXX := Lib.hid (ZQ.put (HQ0.out.z.below HBB.out) (⟨m_, pa, kProto3, h_, pa, n, H⟩ : HQ) (.slice VA es.length vc))
  have HFl := Lib.hid (HQ0.out.done HBB.out (hqSel m_ pa h_ p_ sc n H) (⟨m_, pa, kProto3, h_, pa, n, H⟩ : HQ) (by rw [HSEL.out]; intro q h; cases h))
  go_wp2_with (first | (refine wpList_load31 rfl rfl wc.heap.size (hqL (⟨m_, pa, kProto3, h_, pa, n, H⟩ : HQ) (.slice VA es.length vc)) rfl rfl HCL.out ?_) | (refine wpList_store31 rfl _ rfl w.heap.size (hqL (⟨m_, pa, kProto3, h_, pa, n, H⟩ : HQ) (.slice VA es.length vc)) rfl rfl rfl HTH.out (hqL_one _ _ _ _) ?_))
  obtain ⟨⟨x0, x1, x2, x3, x4, x5, x6, x7⟩, xf⟩ := HXX.out
  refine ⟨rfl, _, (show _ = Result.ok (Value.tuple #[.agg (hqL (⟨m_, pa, kProto3, h_, pa, n, H⟩ : HQ) (.slice VA es.length vc)).toArray, .bool false]) _ by simp [results, Tryz.results9, go_sem, x0, x1, x2, x3, x4, x5, x6, x7]; rfl), ?_⟩
  have h := HFl.out
  rw [HSEL.out] at h ⊢
  exact h
set_option maxHeartbeats 100000000 in
theorem qend5b (w wc : World) (pb m vc : Nat) (VA : Option Addr) (es : List Ent) (n : Int) (H : AL) (m_ pa h_ p_ sc : BS) (HQ0 : Hid (QSt w wc pb m vc VA es n H)) (hlen : h_.length ≤ 1048576)
    (f1 : (m_ == [67, 79, 78, 78, 69, 67, 84]) = false) (f6 : (m_ == []) = false) (f4 : (pa == []) = true)
    (u0 u1 u3 u5 u11 u12 u13 u14 u15 u16 u17 u18 u19 u20 u21 u22 u23 u24 u25 u26 u27 u28 u29 u30 u31 u32 u33 u34 u35 u36 u37 u38 u39 u40 u41 u42 u43 u44 u45 u46 u47 u48 u49 u50 u51 u52 u53 u54 u55 u56 u57 u58 u59 u60 u61 u62 u63 u64 u65 u66 u67 u68 u69 u70 u71 u72 u73 u74 u75 u76 u77 u78 u79 u80 u81 u82 u83 u84 u85 u86 u87 u88 u89 u90 u91 u92 u93 u94 u95 u96 u97 u98 u99 u100 u101 u102 u103 u104 u105 u106 u107 u108 u109 u110 u111 u112 u113 u114 u115 u116 u117 u118 u119 u120 u121 u122 u123 u124 u125 u126 u127 u128 u129 : Value) :
    Code.wp Tryz.prog (seqTail56 6 (Tryz.f9.body.getD .skip)) (bodyPost Tryz.prog Tryz.f9 (HQPost w m (hqSel m_ pa h_ p_ sc n H))) ⟨#[u0, u1, .pointer (some ⟨w.heap.size, 0, none⟩), u3, .pointer (some ⟨pb, 0, none⟩), u5, str m_, str pa, str h_, str p_, str sc, u11, u12, u13, u14, u15, u16, u17, u18, u19, u20, u21, u22, u23, u24, u25, u26, u27, u28, u29, u30, u31, u32, u33, u34, u35, u36, u37, u38, u39, u40, u41, u42, u43, u44, u45, u46, u47, u48, u49, u50, u51, u52, u53, u54, u55, u56, u57, u58, u59, u60, u61, u62, u63, u64, u65, u66, u67, u68, u69, u70, u71, u72, u73, u74, u75, u76, u77, u78, u79, u80, u81, u82, u83, u84, u85, u86, u87, u88, u89, u90, u91, u92, u93, u94, u95, u96, u97, u98, u99, u100, u101, u102, u103, u104, u105, u106, u107, u108, u109, u110, u111, u112, u113, u114, u115, u116, u117, u118, u119, u120, u121, u122, u123, u124, u125, u126, u127, u128, u129], []⟩ wc := by
  conv => arg 2; whnf
  conv => arg 4; zeta
  have e1 := HQ0.out.v1
  have e2 := HQ0.out.v2
  have HSEL : Hid (hqSel m_ pa h_ p_ sc n H = none) := Lib.hid (by unfold hqSel; simp only [bne, f1, f6, f4]; rfl)
  go_upto_region 25 with fail
  have ZZ := Lib.hid (ZQ.made wc (⟨m_, pa, kProto3, h_, pa, n, H⟩ : HQ) (.slice VA es.length vc))
  have HBB := Lib.hid (below_new wc (.cells #[str m_, str pa, str kProto3, str h_, str pa, .int .i64 n, .slice VA es.length vc, .slice none 0 0] 31))
  have HTH := Lib.hid (Z8.there (HQ0.out.z.below HBB.out))
  have HCL := Lib.hid (Z8.cells ZZ.out)
  have HXX := Lib.hid (ZQ.put (HQ0.out.z.below HBB.out) (⟨m_, pa, kProto3, h_, pa, n, H⟩ : HQ) (.slice VA es.length vc))
  have HFl := Lib.hid (HQ0.out.done HBB.out (hqSel m_ pa h_ p_ sc n H) (⟨m_, pa, kProto3, h_, pa, n, H⟩ : HQ) (by rw [HSEL.out]; intro q h; cases h))
  go_wp2_with (first | (refine wpList_load31 rfl rfl wc.heap.size (hqL (⟨m_, pa, kProto3, h_, pa, n, H⟩ : HQ) (.slice VA es.length vc)) rfl rfl HCL.out ?_) | (refine wpList_store31 rfl _ rfl w.heap.size (hqL (⟨m_, pa, kProto3, h_, pa, n, H⟩ : HQ) (.slice VA es.length vc)) rfl rfl rfl HTH.out (hqL_one _ _ _ _) ?_))
  obtain ⟨⟨x0, x1, x2, x3, x4, x5, x6, x7⟩, xf⟩ := HXX.out
  refine ⟨rfl, _, (show _ = Result.ok (Value.tuple #[.agg (hqL (⟨m_, pa, kProto3, h_, pa, n, H⟩ : HQ) (.slice VA es.length vc)).toArray, .bool false]) _ by simp [results, Tryz.results9, go_sem, x0, x1, x2, x3, x4, x5, x6, x7]; rfl), ?_⟩
  have h := HFl.out
  rw [HSEL.out] at h ⊢
  exact h
set_option maxHeartbeats 100000000 in
theorem qend5c (w wc : World) (pb m vc : Nat) (VA : Option Addr) (es : List Ent) (n : Int) (H : AL) (m_ pa h_ p_ sc : BS) (HQ0 : Hid (QSt w wc pb m vc VA es n H)) (hlen : h_.length ≤ 1048576)
    (f1 : (m_ == [67, 79, 78, 78, 69, 67, 84]) = false) (f6 : (m_ == []) = false) (f4 : (pa == []) = false) (f5 : (h_ == []) = true)
    (u0 u1 u3 u5 u11 u12 u13 u14 u15 u16 u17 u18 u19 u20 u21 u22 u23 u24 u25 u26 u27 u28 u29 u30 u31 u32 u33 u34 u35 u36 u37 u38 u39 u40 u41 u42 u43 u44 u45 u46 u47 u48 u49 u50 u51 u52 u53 u54 u55 u56 u57 u58 u59 u60 u61 u62 u63 u64 u65 u66 u67 u68 u69 u70 u71 u72 u73 u74 u75 u76 u77 u78 u79 u80 u81 u82 u83 u84 u85 u86 u87 u88 u89 u90 u91 u92 u93 u94 u95 u96 u97 u98 u99 u100 u101 u102 u103 u104 u105 u106 u107 u108 u109 u110 u111 u112 u113 u114 u115 u116 u117 u118 u119 u120 u121 u122 u123 u124 u125 u126 u127 u128 u129 : Value) :
    Code.wp Tryz.prog (seqTail56 6 (Tryz.f9.body.getD .skip)) (bodyPost Tryz.prog Tryz.f9 (HQPost w m (hqSel m_ pa h_ p_ sc n H))) ⟨#[u0, u1, .pointer (some ⟨w.heap.size, 0, none⟩), u3, .pointer (some ⟨pb, 0, none⟩), u5, str m_, str pa, str h_, str p_, str sc, u11, u12, u13, u14, u15, u16, u17, u18, u19, u20, u21, u22, u23, u24, u25, u26, u27, u28, u29, u30, u31, u32, u33, u34, u35, u36, u37, u38, u39, u40, u41, u42, u43, u44, u45, u46, u47, u48, u49, u50, u51, u52, u53, u54, u55, u56, u57, u58, u59, u60, u61, u62, u63, u64, u65, u66, u67, u68, u69, u70, u71, u72, u73, u74, u75, u76, u77, u78, u79, u80, u81, u82, u83, u84, u85, u86, u87, u88, u89, u90, u91, u92, u93, u94, u95, u96, u97, u98, u99, u100, u101, u102, u103, u104, u105, u106, u107, u108, u109, u110, u111, u112, u113, u114, u115, u116, u117, u118, u119, u120, u121, u122, u123, u124, u125, u126, u127, u128, u129], []⟩ wc := by
  conv => arg 2; whnf
  conv => arg 4; zeta
  have e1 := HQ0.out.v1
  have e2 := HQ0.out.v2
  have HSEL : Hid (hqSel m_ pa h_ p_ sc n H = none) := Lib.hid (by unfold hqSel; simp only [bne, f1, f6, f4, f5]; rfl)
  go_upto_region 25 with fail
  have ZZ := Lib.hid (ZQ.made wc (⟨m_, pa, kProto3, h_, pa, n, H⟩ : HQ) (.slice VA es.length vc))
  have HBB := Lib.hid (below_new wc (.cells #[str m_, str pa, str kProto3, str h_, str pa, .int .i64 n, .slice VA es.length vc, .slice none 0 0] 31))
  have HTH := Lib.hid (Z8.there (HQ0.out.z.below HBB.out))
  have HCL := Lib.hid (Z8.cells ZZ.out)
  have HXX := Lib.hid (ZQ.put (HQ0.out.z.below HBB.out) (⟨m_, pa, kProto3, h_, pa, n, H⟩ : HQ) (.slice VA es.length vc))
  have HFl := Lib.hid (HQ0.out.done HBB.out (hqSel m_ pa h_ p_ sc n H) (⟨m_, pa, kProto3, h_, pa, n, H⟩ : HQ) (by rw [HSEL.out]; intro q h; cases h))
  go_wp2_with (first | (refine wpList_load31 rfl rfl wc.heap.size (hqL (⟨m_, pa, kProto3, h_, pa, n, H⟩ : HQ) (.slice VA es.length vc)) rfl rfl HCL.out ?_) | (refine wpList_store31 rfl _ rfl w.heap.size (hqL (⟨m_, pa, kProto3, h_, pa, n, H⟩ : HQ) (.slice VA es.length vc)) rfl rfl rfl HTH.out (hqL_one _ _ _ _) ?_))
  obtain ⟨⟨x0, x1, x2, x3, x4, x5, x6, x7⟩, xf⟩ := HXX.out
  refine ⟨rfl, _, (show _ = Result.ok (Value.tuple #[.agg (hqL (⟨m_, pa, kProto3, h_, pa, n, H⟩ : HQ) (.slice VA es.length vc)).toArray, .bool false]) _ by simp [results, Tryz.results9, go_sem, x0, x1, x2, x3, x4, x5, x6, x7]; rfl), ?_⟩
  have h := HFl.out
  rw [HSEL.out] at h ⊢
  exact h
set_option maxHeartbeats 100000000 in
theorem qend5d (w wc : World) (pb m vc : Nat) (VA : Option Addr) (es : List Ent) (n : Int) (H : AL) (m_ pa h_ p_ sc : BS) (HQ0 : Hid (QSt w wc pb m vc VA es n H)) (hlen : h_.length ≤ 1048576)
    (f1 : (m_ == [67, 79, 78, 78, 69, 67, 84]) = false) (f6 : (m_ == []) = false) (f4 : (pa == []) = false) (f5 : (h_ == []) = false) (f2 : (p_ == []) = false)
    (u0 u1 u3 u5 u11 u12 u13 u14 u15 u16 u17 u18 u19 u20 u21 u22 u23 u24 u25 u26 u27 u28 u29 u30 u31 u32 u33 u34 u35 u36 u37 u38 u39 u40 u41 u42 u43 u44 u45 u46 u47 u48 u49 u50 u51 u52 u53 u54 u55 u56 u57 u58 u59 u60 u61 u62 u63 u64 u65 u66 u67 u68 u69 u70 u71 u72 u73 u74 u75 u76 u77 u78 u79 u80 u81 u82 u83 u84 u85 u86 u87 u88 u89 u90 u91 u92 u93 u94 u95 u96 u97 u98 u99 u100 u101 u102 u103 u104 u105 u106 u107 u108 u109 u110 u111 u112 u113 u114 u115 u116 u117 u118 u119 u120 u121 u122 u123 u124 u125 u126 u127 u128 u129 : Value) :
    Code.wp Tryz.prog (seqTail56 6 (Tryz.f9.body.getD .skip)) (bodyPost Tryz.prog Tryz.f9 (HQPost w m (hqSel m_ pa h_ p_ sc n H))) ⟨#[u0, u1, .pointer (some ⟨w.heap.size, 0, none⟩), u3, .pointer (some ⟨pb, 0, none⟩), u5, str m_, str pa, str h_, str p_, str sc, u11, u12, u13, u14, u15, u16, u17, u18, u19, u20, u21, u22, u23, u24, u25, u26, u27, u28, u29, u30, u31, u32, u33, u34, u35, u36, u37, u38, u39, u40, u41, u42, u43, u44, u45, u46, u47, u48, u49, u50, u51, u52, u53, u54, u55, u56, u57, u58, u59, u60, u61, u62, u63, u64, u65, u66, u67, u68, u69, u70, u71, u72, u73, u74, u75, u76, u77, u78, u79, u80, u81, u82, u83, u84, u85, u86, u87, u88, u89, u90, u91, u92, u93, u94, u95, u96, u97, u98, u99, u100, u101, u102, u103, u104, u105, u106, u107, u108, u109, u110, u111, u112, u113, u114, u115, u116, u117, u118, u119, u120, u121, u122, u123, u124, u125, u126, u127, u128, u129], []⟩ wc := by
  conv => arg 2; whnf
  conv => arg 4; zeta
  have e1 := HQ0.out.v1
  have e2 := HQ0.out.v2
  have HSEL : Hid (hqSel m_ pa h_ p_ sc n H = none) := Lib.hid (by unfold hqSel; simp only [bne, f1, f6, f4, f5, f2]; rfl)
  go_upto_region 25 with fail
  have ZZ := Lib.hid (ZQ.made wc (⟨m_, pa, kProto3, h_, pa, n, H⟩ : HQ) (.slice VA es.length vc))
  have HBB := Lib.hid (below_new wc (.cells #[str m_, str pa, str kProto3, str h_, str pa, .int .i64 n, .slice VA es.length vc, .slice none 0 0] 31))
  have HTH := Lib.hid (Z8.there (HQ0.out.z.below HBB.out))
  have HCL := Lib.hid (Z8.cells ZZ.out)
  have HXX := Lib.hid (ZQ.put (HQ0.out.z.below HBB.out) (⟨m_, pa, kProto3, h_, pa, n, H⟩ : HQ) (.slice VA es.length vc))
  have HFl := Lib.hid (HQ0.out.done HBB.out (hqSel m_ pa h_ p_ sc n H) (⟨m_, pa, kProto3, h_, pa, n, H⟩ : HQ) (by rw [HSEL.out]; intro q h; cases h))
  go_wp2_with (first | (refine wpList_load31 rfl rfl wc.heap.size (hqL (⟨m_, pa, kProto3, h_, pa, n, H⟩ : HQ) (.slice VA es.length vc)) rfl rfl HCL.out ?_) | (refine wpList_store31 rfl _ rfl w.heap.size (hqL (⟨m_, pa, kProto3, h_, pa, n, H⟩ : HQ) (.slice VA es.length vc)) rfl rfl rfl HTH.out (hqL_one _ _ _ _) ?_))
  obtain ⟨⟨x0, x1, x2, x3, x4, x5, x6, x7⟩, xf⟩ := HXX.out
  refine ⟨rfl, _, (show _ = Result.ok (Value.tuple #[.agg (hqL (⟨m_, pa, kProto3, h_, pa, n, H⟩ : HQ) (.slice VA es.length vc)).toArray, .bool false]) _ by simp [results, Tryz.results9, go_sem, x0, x1, x2, x3, x4, x5, x6, x7]; rfl), ?_⟩
  have h := HFl.out
  rw [HSEL.out] at h ⊢
  exact h
set_option maxHeartbeats 100000000 in
theorem qend6 (w wc : World) (pb m vc : Nat) (VA : Option Addr) (es : List Ent) (n : Int) (H : AL) (m_ pa h_ p_ sc : BS) (HQ0 : Hid (QSt w wc pb m vc VA es n H)) (hlen : h_.length ≤ 1048576)
    (f1 : (m_ == [67, 79, 78, 78, 69, 67, 84]) = false) (f2 : (p_ == []) = true) (f4 : (pa == []) = false) (f5 : (h_ == []) = false) (f6 : (m_ == []) = false)
    (u0 u1 u3 u5 u11 u12 u13 u14 u15 u16 u17 u18 u19 u20 u21 u22 u23 u24 u25 u26 u27 u28 u29 u30 u31 u32 u33 u34 u35 u36 u37 u38 u39 u40 u41 u42 u43 u44 u45 u46 u47 u48 u49 u50 u51 u52 u53 u54 u55 u56 u57 u58 u59 u60 u61 u62 u63 u64 u65 u66 u67 u68 u69 u70 u71 u72 u73 u74 u75 u76 u77 u78 u79 u80 u81 u82 u83 u84 u85 u86 u87 u88 u89 u90 u91 u92 u93 u94 u95 u96 u97 u98 u99 u100 u101 u102 u103 u104 u105 u106 u107 u108 u109 u110 u111 u112 u113 u114 u115 u116 u117 u118 u119 u120 u121 u122 u123 u124 u125 u126 u127 u128 u129 : Value) :
    Code.wp Tryz.prog (seqTail56 6 (Tryz.f9.body.getD .skip)) (bodyPost Tryz.prog Tryz.f9 (HQPost w m (hqSel m_ pa h_ p_ sc n H))) ⟨#[u0, u1, .pointer (some ⟨w.heap.size, 0, none⟩), u3, .pointer (some ⟨pb, 0, none⟩), u5, str m_, str pa, str h_, str p_, str sc, u11, u12, u13, u14, u15, u16, u17, u18, u19, u20, u21, u22, u23, u24, u25, u26, u27, u28, u29, u30, u31, u32, u33, u34, u35, u36, u37, u38, u39, u40, u41, u42, u43, u44, u45, u46, u47, u48, u49, u50, u51, u52, u53, u54, u55, u56, u57, u58, u59, u60, u61, u62, u63, u64, u65, u66, u67, u68, u69, u70, u71, u72, u73, u74, u75, u76, u77, u78, u79, u80, u81, u82, u83, u84, u85, u86, u87, u88, u89, u90, u91, u92, u93, u94, u95, u96, u97, u98, u99, u100, u101, u102, u103, u104, u105, u106, u107, u108, u109, u110, u111, u112, u113, u114, u115, u116, u117, u118, u119, u120, u121, u122, u123, u124, u125, u126, u127, u128, u129], []⟩ wc := by
  conv => arg 2; whnf
  conv => arg 4; zeta
  have e1 := HQ0.out.v1
  have e2 := HQ0.out.v2
  have HSEL : Hid (hqSel m_ pa h_ p_ sc n H = some (⟨m_, pa, kProto3, h_, pa, n, H⟩ : HQ)) := Lib.hid (by unfold hqSel; simp only [bne, f1, f2, f4, f5, f6]; rfl)
  go_upto_region 26 with fail
  have ZZ := Lib.hid (ZQ.made wc (⟨m_, pa, kProto3, h_, pa, n, H⟩ : HQ) (.slice VA es.length vc))
  have HBB := Lib.hid (below_new wc (.cells #[str m_, str pa, str kProto3, str h_, str pa, .int .i64 n, .slice VA es.length vc, .slice none 0 0] 31))
  have HTH := Lib.hid (Z8.there (HQ0.out.z.below HBB.out))
  have HCL := Lib.hid (Z8.cells ZZ.out)
  have HXX := Lib.hid (ZQ.put (HQ0.out.z.below HBB.out) (⟨m_, pa, kProto3, h_, pa, n, H⟩ : HQ) (.slice VA es.length vc))
  have HFl := Lib.hid (HQ0.out.done HBB.out (hqSel m_ pa h_ p_ sc n H) (⟨m_, pa, kProto3, h_, pa, n, H⟩ : HQ) (by rw [HSEL.out]; intro q h; injection h with h; subst h; exact ⟨rfl, rfl⟩))
  go_wp2_with (first | (refine wpList_load31 rfl rfl wc.heap.size (hqL (⟨m_, pa, kProto3, h_, pa, n, H⟩ : HQ) (.slice VA es.length vc)) rfl rfl HCL.out ?_) | (refine wpList_store31 rfl _ rfl w.heap.size (hqL (⟨m_, pa, kProto3, h_, pa, n, H⟩ : HQ) (.slice VA es.length vc)) rfl rfl rfl HTH.out (hqL_one _ _ _ _) ?_))
  obtain ⟨⟨x0, x1, x2, x3, x4, x5, x6, x7⟩, xf⟩ := HXX.out
  refine ⟨rfl, _, (show _ = Result.ok (Value.tuple #[.agg (hqL (⟨m_, pa, kProto3, h_, pa, n, H⟩ : HQ) (.slice VA es.length vc)).toArray, .bool true]) _ by simp [results, Tryz.results9, go_sem, x0, x1, x2, x3, x4, x5, x6, x7]; rfl), ?_⟩
  have h := HFl.out
  rw [HSEL.out] at h ⊢
  exact h
end Go.Proofs.YtgcfnhchmmkndaaGreatDoor
