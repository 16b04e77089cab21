/- spec.HRRead: lengths. -/
import Derived.Test.YtgcfnhchmmkndaaGreatDoorR1
namespace Go.Proofs.YtgcfnhchmmkndaaGreatDoor
open Go.RowKit Go.Maps
set_option linter.unusedVariables false
set_option maxRecDepth 100000

set_option maxHeartbeats 100000000 in
theorem ok21ef (J : Act → World → Prop) (Q0 : Exit → Act → World → Prop) (w : World) (req : Bool) (l : List (BS × BS)) (A : Option Addr) (c : Nat) (b o : Nat) (hA : A = some ⟨b, o, none⟩) (k n vc : Nat) (VA : Option Addr) (es : List Ent) (s : HRS) (wr : World) (nm vl : BS)
    (HS : Hid (HSt w wr k n (.slice VA es.length vc) es s)) (hbw : b < w.heap.size) (hln : l.length ≤ 800000) (hkl : k < l.length) (hc : l.length ≤ c)
    (X0 : Hid (wr.cell? ⟨b, o + k * 2, none⟩ = some (str nm))) (X1 : Hid (wr.cell? ⟨b, o + k * 2 + 1, none⟩ = some (str vl))) (hn1 : nm.length ≤ 1048576) (hv1 : vl.length ≤ 1048576)
    (hf1 : lowOk nm = true) (hf2 : valOk vl = true) (hp : pseudoB nm = false) (hnn : nm ≠ []) (hg1 : nameOk nm = true) (hg2 : barredNames.contains nm = false) (hg : (nm == [116, 101] && vl != [116, 114, 97, 105, 108, 101, 114, 115]) = false) (hcl : (nm == [99, 111, 110, 116, 101, 110, 116, 45, 108, 101, 110, 103, 116, 104]) = true) (hT : s.told = false) (hve : (vl == []) = true) (HNX : Hid (hsFold req {} l = hsFold req { s with beh := true, ls := vl, told := true } (l.drop (k + 1))))
    (u2 u3 u5 u10 u11 u12 u13 u14 u15 u16 u17 u21 u22 u23 u24 u25 u26 u27 u28 u29 u30 u31 u32 u33 u34 u35 u36 u37 u38 u39 u40 u41 u42 u43 u44 u45 u46 u47 u48 u49 u50 u51 u52 u53 u54 u55 u56 u57 u58 u59 u60 u61 u62 u63 u64 u65 u66 u67 u68 u69 u70 u71 u72 u73 u74 u75 u76 u77 u78 u79 u80 u81 u82 u83 u84 u85 u86 u87 u88 u89 u90 u91 u92 u93 u94 u95 u96 u97 u98 u99 u100 u101 u102 u103 u104 u105 u106 u107 u108 u109 u110 u111 u112 u113 u114 u115 u116 u117 u118 u119 u120 u121 u122 u123 u124 u125 u126 u127 u128 u129 u130 u131 u132 : Value) (hJ : ∀ a w1, RN21 w req l A c k u2 u3 u10 u16 u17 u125 u126 u127 u128 u129 u130 u131 u132 a w1 → J a w1) (hR : ∀ a w1, bodyPost Tryz.prog Tryz.f21 (ReadPost w (l.length + 1) (hrRead req l)) .ret a w1 → Q0 .ret a w1) :
    Code.wp Tryz.prog body21 (Exit.then J Q0) ⟨#[.slice A l.length c, .bool req, u2, u3, .pointer (some ⟨w.heap.size, 0, none⟩), u5, .pointer (some ⟨w.heap.size + 2, 0, none⟩), .bool s.beh, str s.ls, .bool s.told, u10, u11, u12, u13, u14, u15, u16, u17, .slice A l.length c, .int .i64 (l.length : Int), .int .i64 (k : Int), u21, u22, u23, u24, u25, u26, u27, u28, u29, u30, u31, u32, u33, u34, u35, u36, u37, u38, u39, u40, u41, u42, u43, u44, u45, u46, u47, u48, u49, u50, u51, u52, u53, u54, u55, u56, u57, u58, u59, u60, u61, u62, u63, u64, u65, u66, u67, u68, u69, u70, u71, u72, u73, u74, u75, u76, u77, u78, u79, u80, u81, u82, u83, u84, u85, u86, u87, u88, u89, u90, u91, u92, u93, u94, u95, u96, u97, u98, u99, u100, u101, u102, u103, u104, u105, u106, u107, u108, u109, u110, u111, u112, u113, u114, u115, u116, u117, u118, u119, u120, u121, u122, u123, u124, u125, u126, u127, u128, u129, u130, u131, u132], []⟩ wr := by
  subst hA
  obtain ⟨c0, t, rfl⟩ : ∃ c0 t, nm = c0 :: t := by
    cases nm with
    | nil => exact absurd rfl hnn
    | cons c0 t => exact ⟨c0, t, rfl⟩
  have hz0 : 0 < (⟨(c0 :: t).toArray⟩ : ByteArray).size := by show 0 < (c0 :: t).toArray.size; simp
  have hp58 : decide (c0.toNat = 58) = false := hp
  have f58 : ((((⟨(c0 :: t).toArray⟩ : ByteArray)[0]'hz0).toNat : Int) == 58) = false := by
    show ((c0.toNat : Int) == 58) = false
    simp at hp58
    simp
    omega
  clear hp hp58 hnn
  conv => arg 2; whnf
  conv => arg 4; zeta
  have hge := HS.out.ge
  have hbel := HS.out.bel.size
  have e0 := X0.out
  have e1 := X1.out
  have M1 := Lib.hid (HS.out.below (below_new wr (.cells #[str (c0 :: t), str vl] 42)))
  have KL := low_at' (c0 :: t) _ hn1 hf1
  have KV := hrvalue_at' vl _ hv1 hf2
  have KN := hrname_at' (c0 :: t) _ hn1 hg1
  have KB := barred_at' (c0 :: t) _ hg2
  obtain ⟨g3, hg3⟩ : ∃ x, (c0 :: t == [116, 101]) = x := ⟨_, rfl⟩
  obtain ⟨g4, hg4⟩ : ∃ x, (vl == [116, 114, 97, 105, 108, 101, 114, 115]) = x := ⟨_, rfl⟩
  have hg5 : (g3 && !g4) = false := by rw [← hg3, ← hg4]; exact hg
  have HG5 := Lib.hid hg5
  clear hg hg5
  rw [hT]
  have q0 : (wr.alloc (.cells #[str (c0 :: t), str vl] 42)).cell? ⟨wr.heap.size, 0, none⟩ = some (str (c0 :: t)) := by simp
  have q1 : (wr.alloc (.cells #[str (c0 :: t), str vl] 42)).cell? ⟨wr.heap.size, 1, none⟩ = some (str vl) := by simp
  have hlt : wr.heap.size < (wr.alloc (.cells #[str (c0 :: t), str vl] 42)).heap.size := by simp
  clear X0 X1 HS
  have hbelF : ∀ {W W' : World}, Below (wr.alloc (.cells #[str (c0 :: t), str vl] 42)).heap.size (wr.alloc (.cells #[str (c0 :: t), str vl] 42)) W → Below W.heap.size W W' → Below (wr.alloc (.cells #[str (c0 :: t), str vl] 42)).heap.size (wr.alloc (.cells #[str (c0 :: t), str vl] 42)) W' := fun h1 h2 => Below.next h1 h1.size h2
  go_upto_region 14 with (first | (go_at_call 42; refine (KL _).mono ?_; rintro e w8 ⟨rfl, rfl⟩) | (go_at_call 43; refine (KV _).mono ?_; rintro e w8 ⟨rfl, rfl⟩))
  go_cut [88] from 21 to 124 (fun s88 wx => s88 = .bool false ∧ Below (wr.alloc (.cells #[str (c0 :: t), str vl] 42)).heap.size (wr.alloc (.cells #[str (c0 :: t), str vl] 42)) wx)
  case first =>
    cases g3
    · go_wp2_with (first | (go_at_call 45; refine (KN _).mono ?_; rintro e w8 ⟨rfl, hb8⟩; have HB8 := Lib.hid hb8; have z0 := (hb8.cell (p := ⟨wr.heap.size, 0, none⟩) hlt).trans q0; have z1 := (hb8.cell (p := ⟨wr.heap.size, 1, none⟩) hlt).trans q1; have hlt8 := Nat.lt_of_lt_of_le hlt hb8.size; clear hb8) | (go_at_call 46; refine (KB _).mono ?_; rintro e w9 ⟨rfl, hb9⟩; have HB9 := Lib.hid hb9; have y0 := (hb9.cell (p := ⟨wr.heap.size, 0, none⟩) hlt8).trans z0; have y1 := (hb9.cell (p := ⟨wr.heap.size, 1, none⟩) hlt8).trans z1; have hlt9 := Nat.lt_of_lt_of_le hlt8 hb9.size; clear hb9))
      go_meet
      exact ⟨rfl, hbelF HB8.out HB9.out⟩
    · cases g4
      · have := HG5.out
        cases this
      · go_wp2_with (first | (go_at_call 45; refine (KN _).mono ?_; rintro e w8 ⟨rfl, hb8⟩; have HB8 := Lib.hid hb8; have z0 := (hb8.cell (p := ⟨wr.heap.size, 0, none⟩) hlt).trans q0; have z1 := (hb8.cell (p := ⟨wr.heap.size, 1, none⟩) hlt).trans q1; have hlt8 := Nat.lt_of_lt_of_le hlt hb8.size; clear hb8) | (go_at_call 46; refine (KB _).mono ?_; rintro e w9 ⟨rfl, hb9⟩; have HB9 := Lib.hid hb9; have y0 := (hb9.cell (p := ⟨wr.heap.size, 0, none⟩) hlt8).trans z0; have y1 := (hb9.cell (p := ⟨wr.heap.size, 1, none⟩) hlt8).trans z1; have hlt9 := Nat.lt_of_lt_of_le hlt8 hb9.size; clear hb9))
        go_meet
        exact ⟨rfl, hbelF HB8.out HB9.out⟩
  case rest =>
    obtain ⟨rfl, hbc⟩ := hcut
    have M3 := Lib.hid (M1.out.below hbc)
    have z0 := (hbc.cell (p := ⟨wr.heap.size, 0, none⟩) hlt).trans q0
    have z1 := (hbc.cell (p := ⟨wr.heap.size, 1, none⟩) hlt).trans q1
    have hltc := Nat.lt_of_lt_of_le hlt hbc.size
    clear hbelF hbc q0 q1
    have M4 := Lib.hid ((M3.out.flags (s' := { s with beh := true, ls := vl, told := true }) rfl rfl rfl).weak (Nat.le_succ k))
    go_wp2_with fail
    unfold RN21
    (repeat apply Exists.intro)
    refine ⟨?_, rfl⟩
    exact ⟨n, _, es, { s with beh := true, ls := vl, told := true }, (by first | rfl | simp only [hb]), rfl, (by first | rfl | simp only [hT]), by go_num, M4.out, HNX.out⟩
set_option maxHeartbeats 100000000 in
theorem bad21lf (J : Act → World → Prop) (Q0 : Exit → Act → World → Prop) (w : World) (req : Bool) (l : List (BS × BS)) (A : Option Addr) (c : Nat) (b o : Nat) (hA : A = some ⟨b, o, none⟩) (k n vc : Nat) (VA : Option Addr) (es : List Ent) (s : HRS) (wr : World) (nm vl : BS)
    (HS : Hid (HSt w wr k n (.slice VA es.length vc) es s)) (hbw : b < w.heap.size) (hln : l.length ≤ 800000) (hkl : k < l.length) (hc : l.length ≤ c)
    (X0 : Hid (wr.cell? ⟨b, o + k * 2, none⟩ = some (str nm))) (X1 : Hid (wr.cell? ⟨b, o + k * 2 + 1, none⟩ = some (str vl))) (hn1 : nm.length ≤ 1048576) (hv1 : vl.length ≤ 1048576)
    (hf1 : lowOk nm = true) (hf2 : valOk vl = true) (hp : pseudoB nm = false) (hnn : nm ≠ []) (hg1 : nameOk nm = true) (hg2 : barredNames.contains nm = false) (hg : (nm == [116, 101] && vl != [116, 114, 97, 105, 108, 101, 114, 115]) = false) (hcl : (nm == [99, 111, 110, 116, 101, 110, 116, 45, 108, 101, 110, 103, 116, 104]) = true) (hT : s.told = false) (hve : (vl == []) = false) (hpc : parseCL vl = none) (HN : Hid (hrRead req l = none))
    (u2 u3 u5 u10 u11 u12 u13 u14 u15 u16 u17 u21 u22 u23 u24 u25 u26 u27 u28 u29 u30 u31 u32 u33 u34 u35 u36 u37 u38 u39 u40 u41 u42 u43 u44 u45 u46 u47 u48 u49 u50 u51 u52 u53 u54 u55 u56 u57 u58 u59 u60 u61 u62 u63 u64 u65 u66 u67 u68 u69 u70 u71 u72 u73 u74 u75 u76 u77 u78 u79 u80 u81 u82 u83 u84 u85 u86 u87 u88 u89 u90 u91 u92 u93 u94 u95 u96 u97 u98 u99 u100 u101 u102 u103 u104 u105 u106 u107 u108 u109 u110 u111 u112 u113 u114 u115 u116 u117 u118 u119 u120 u121 u122 u123 u124 u125 u126 u127 u128 u129 u130 u131 u132 : Value) (hJ : ∀ a w1, RN21 w req l A c k u2 u3 u10 u16 u17 u125 u126 u127 u128 u129 u130 u131 u132 a w1 → J a w1) (hR : ∀ a w1, bodyPost Tryz.prog Tryz.f21 (ReadPost w (l.length + 1) (hrRead req l)) .ret a w1 → Q0 .ret a w1) :
    Code.wp Tryz.prog body21 (Exit.then J Q0) ⟨#[.slice A l.length c, .bool req, u2, u3, .pointer (some ⟨w.heap.size, 0, none⟩), u5, .pointer (some ⟨w.heap.size + 2, 0, none⟩), .bool s.beh, str s.ls, .bool s.told, u10, u11, u12, u13, u14, u15, u16, u17, .slice A l.length c, .int .i64 (l.length : Int), .int .i64 (k : Int), u21, u22, u23, u24, u25, u26, u27, u28, u29, u30, u31, u32, u33, u34, u35, u36, u37, u38, u39, u40, u41, u42, u43, u44, u45, u46, u47, u48, u49, u50, u51, u52, u53, u54, u55, u56, u57, u58, u59, u60, u61, u62, u63, u64, u65, u66, u67, u68, u69, u70, u71, u72, u73, u74, u75, u76, u77, u78, u79, u80, u81, u82, u83, u84, u85, u86, u87, u88, u89, u90, u91, u92, u93, u94, u95, u96, u97, u98, u99, u100, u101, u102, u103, u104, u105, u106, u107, u108, u109, u110, u111, u112, u113, u114, u115, u116, u117, u118, u119, u120, u121, u122, u123, u124, u125, u126, u127, u128, u129, u130, u131, u132], []⟩ wr := by
  subst hA
  obtain ⟨c0, t, rfl⟩ : ∃ c0 t, nm = c0 :: t := by
    cases nm with
    | nil => exact absurd rfl hnn
    | cons c0 t => exact ⟨c0, t, rfl⟩
  have hz0 : 0 < (⟨(c0 :: t).toArray⟩ : ByteArray).size := by show 0 < (c0 :: t).toArray.size; simp
  have hp58 : decide (c0.toNat = 58) = false := hp
  have f58 : ((((⟨(c0 :: t).toArray⟩ : ByteArray)[0]'hz0).toNat : Int) == 58) = false := by
    show ((c0.toNat : Int) == 58) = false
    simp at hp58
    simp
    omega
  clear hp hp58 hnn
  conv => arg 2; whnf
  conv => arg 4; zeta
  have hge := HS.out.ge
  have hbel := HS.out.bel.size
  have e0 := X0.out
  have e1 := X1.out
  have M1 := Lib.hid (HS.out.below (below_new wr (.cells #[str (c0 :: t), str vl] 42)))
  have KL := low_at' (c0 :: t) _ hn1 hf1
  have KV := hrvalue_at' vl _ hv1 hf2
  have KN := hrname_at' (c0 :: t) _ hn1 hg1
  have KB := barred_at' (c0 :: t) _ hg2
  obtain ⟨g3, hg3⟩ : ∃ x, (c0 :: t == [116, 101]) = x := ⟨_, rfl⟩
  obtain ⟨g4, hg4⟩ : ∃ x, (vl == [116, 114, 97, 105, 108, 101, 114, 115]) = x := ⟨_, rfl⟩
  have hg5 : (g3 && !g4) = false := by rw [← hg3, ← hg4]; exact hg
  have HG5 := Lib.hid hg5
  clear hg hg5
  rw [hT]
  have q0 : (wr.alloc (.cells #[str (c0 :: t), str vl] 42)).cell? ⟨wr.heap.size, 0, none⟩ = some (str (c0 :: t)) := by simp
  have q1 : (wr.alloc (.cells #[str (c0 :: t), str vl] 42)).cell? ⟨wr.heap.size, 1, none⟩ = some (str vl) := by simp
  have hlt : wr.heap.size < (wr.alloc (.cells #[str (c0 :: t), str vl] 42)).heap.size := by simp
  clear X0 X1 HS
  have hbelF : ∀ {W W' : World}, Below (wr.alloc (.cells #[str (c0 :: t), str vl] 42)).heap.size (wr.alloc (.cells #[str (c0 :: t), str vl] 42)) W → Below W.heap.size W W' → Below (wr.alloc (.cells #[str (c0 :: t), str vl] 42)).heap.size (wr.alloc (.cells #[str (c0 :: t), str vl] 42)) W' := fun h1 h2 => Below.next h1 h1.size h2
  go_upto_region 14 with (first | (go_at_call 42; refine (KL _).mono ?_; rintro e w8 ⟨rfl, rfl⟩) | (go_at_call 43; refine (KV _).mono ?_; rintro e w8 ⟨rfl, rfl⟩))
  go_cut [88] from 21 to 124 (fun s88 wx => s88 = .bool false ∧ Below (wr.alloc (.cells #[str (c0 :: t), str vl] 42)).heap.size (wr.alloc (.cells #[str (c0 :: t), str vl] 42)) wx)
  case first =>
    cases g3
    · go_wp2_with (first | (go_at_call 45; refine (KN _).mono ?_; rintro e w8 ⟨rfl, hb8⟩; have HB8 := Lib.hid hb8; have z0 := (hb8.cell (p := ⟨wr.heap.size, 0, none⟩) hlt).trans q0; have z1 := (hb8.cell (p := ⟨wr.heap.size, 1, none⟩) hlt).trans q1; have hlt8 := Nat.lt_of_lt_of_le hlt hb8.size; clear hb8) | (go_at_call 46; refine (KB _).mono ?_; rintro e w9 ⟨rfl, hb9⟩; have HB9 := Lib.hid hb9; have y0 := (hb9.cell (p := ⟨wr.heap.size, 0, none⟩) hlt8).trans z0; have y1 := (hb9.cell (p := ⟨wr.heap.size, 1, none⟩) hlt8).trans z1; have hlt9 := Nat.lt_of_lt_of_le hlt8 hb9.size; clear hb9))
      go_meet
      exact ⟨rfl, hbelF HB8.out HB9.out⟩
    · cases g4
      · have := HG5.out
        cases this
      · go_wp2_with (first | (go_at_call 45; refine (KN _).mono ?_; rintro e w8 ⟨rfl, hb8⟩; have HB8 := Lib.hid hb8; have z0 := (hb8.cell (p := ⟨wr.heap.size, 0, none⟩) hlt).trans q0; have z1 := (hb8.cell (p := ⟨wr.heap.size, 1, none⟩) hlt).trans q1; have hlt8 := Nat.lt_of_lt_of_le hlt hb8.size; clear hb8) | (go_at_call 46; refine (KB _).mono ?_; rintro e w9 ⟨rfl, hb9⟩; have HB9 := Lib.hid hb9; have y0 := (hb9.cell (p := ⟨wr.heap.size, 0, none⟩) hlt8).trans z0; have y1 := (hb9.cell (p := ⟨wr.heap.size, 1, none⟩) hlt8).trans z1; have hlt9 := Nat.lt_of_lt_of_le hlt8 hb9.size; clear hb9))
        go_meet
        exact ⟨rfl, hbelF HB8.out HB9.out⟩
  case rest =>
    obtain ⟨rfl, hbc⟩ := hcut
    have M3 := Lib.hid (M1.out.below hbc)
    have z0 := (hbc.cell (p := ⟨wr.heap.size, 0, none⟩) hlt).trans q0
    have z1 := (hbc.cell (p := ⟨wr.heap.size, 1, none⟩) hlt).trans q1
    have hltc := Nat.lt_of_lt_of_le hlt hbc.size
    clear hbelF hbc q0 q1
    have KH := hrlength_none vl hv1 hpc
    have HLD := Lib.hid (M3.out).cells
    have HTH := Lib.hid (M3.out).there
    have HFl := Lib.hid ((M3.out).done (m' := l.length + 1) (by omega) (hrRead req l) (by rw [HN.out]; intro s' h; cases h))
    have HPC := Lib.hid (put3_cells (M3.out) (w.heap.size + 1) (.slice VA es.length vc) s.len)
    go_wp2_with (first | (go_at_call 47; refine (KH _).mono ?_; rintro e w8 ⟨rfl, rfl⟩) | (refine wpList_load3 rfl rfl (w.heap.size + 2) (w.heap.size + 1) (.slice VA es.length vc) s.len rfl HLD.out ?_) | (refine wpList_store3 rfl _ rfl w.heap.size (w.heap.size + 1) (.slice VA es.length vc) s.len rfl rfl HTH.out rfl ?_))
    obtain ⟨x0, x1, x2⟩ := HPC.out
    refine ⟨rfl, _, (show _ = Result.ok (Value.tuple #[.agg (pcl (w.heap.size + 1) (.slice VA es.length vc) s.len).toArray, .bool false]) _ by simp [results, Tryz.results21, go_sem, x0, x1, x2]; rfl), ?_⟩
    have h := HFl.out
    rw [HN.out] at h ⊢
    exact h
set_option maxHeartbeats 100000000 in
theorem ok21nf (J : Act → World → Prop) (Q0 : Exit → Act → World → Prop) (w : World) (req : Bool) (l : List (BS × BS)) (A : Option Addr) (c : Nat) (b o : Nat) (hA : A = some ⟨b, o, none⟩) (k n vc : Nat) (VA : Option Addr) (es : List Ent) (s : HRS) (wr : World) (nm vl : BS)
    (HS : Hid (HSt w wr k n (.slice VA es.length vc) es s)) (hbw : b < w.heap.size) (hln : l.length ≤ 800000) (hkl : k < l.length) (hc : l.length ≤ c)
    (X0 : Hid (wr.cell? ⟨b, o + k * 2, none⟩ = some (str nm))) (X1 : Hid (wr.cell? ⟨b, o + k * 2 + 1, none⟩ = some (str vl))) (hn1 : nm.length ≤ 1048576) (hv1 : vl.length ≤ 1048576)
    (hf1 : lowOk nm = true) (hf2 : valOk vl = true) (hp : pseudoB nm = false) (hnn : nm ≠ []) (hg1 : nameOk nm = true) (hg2 : barredNames.contains nm = false) (hg : (nm == [116, 101] && vl != [116, 114, 97, 105, 108, 101, 114, 115]) = false) (N : Nat) (hcl : (nm == [99, 111, 110, 116, 101, 110, 116, 45, 108, 101, 110, 103, 116, 104]) = true) (hT : s.told = false) (hve : (vl == []) = false) (hpc : parseCL vl = some N) (HNX : Hid (hsFold req {} l = hsFold req { s with beh := true, ls := vl, told := true, len := (N : Int) } (l.drop (k + 1))))
    (u2 u3 u5 u10 u11 u12 u13 u14 u15 u16 u17 u21 u22 u23 u24 u25 u26 u27 u28 u29 u30 u31 u32 u33 u34 u35 u36 u37 u38 u39 u40 u41 u42 u43 u44 u45 u46 u47 u48 u49 u50 u51 u52 u53 u54 u55 u56 u57 u58 u59 u60 u61 u62 u63 u64 u65 u66 u67 u68 u69 u70 u71 u72 u73 u74 u75 u76 u77 u78 u79 u80 u81 u82 u83 u84 u85 u86 u87 u88 u89 u90 u91 u92 u93 u94 u95 u96 u97 u98 u99 u100 u101 u102 u103 u104 u105 u106 u107 u108 u109 u110 u111 u112 u113 u114 u115 u116 u117 u118 u119 u120 u121 u122 u123 u124 u125 u126 u127 u128 u129 u130 u131 u132 : Value) (hJ : ∀ a w1, RN21 w req l A c k u2 u3 u10 u16 u17 u125 u126 u127 u128 u129 u130 u131 u132 a w1 → J a w1) (hR : ∀ a w1, bodyPost Tryz.prog Tryz.f21 (ReadPost w (l.length + 1) (hrRead req l)) .ret a w1 → Q0 .ret a w1) :
    Code.wp Tryz.prog body21 (Exit.then J Q0) ⟨#[.slice A l.length c, .bool req, u2, u3, .pointer (some ⟨w.heap.size, 0, none⟩), u5, .pointer (some ⟨w.heap.size + 2, 0, none⟩), .bool s.beh, str s.ls, .bool s.told, u10, u11, u12, u13, u14, u15, u16, u17, .slice A l.length c, .int .i64 (l.length : Int), .int .i64 (k : Int), u21, u22, u23, u24, u25, u26, u27, u28, u29, u30, u31, u32, u33, u34, u35, u36, u37, u38, u39, u40, u41, u42, u43, u44, u45, u46, u47, u48, u49, u50, u51, u52, u53, u54, u55, u56, u57, u58, u59, u60, u61, u62, u63, u64, u65, u66, u67, u68, u69, u70, u71, u72, u73, u74, u75, u76, u77, u78, u79, u80, u81, u82, u83, u84, u85, u86, u87, u88, u89, u90, u91, u92, u93, u94, u95, u96, u97, u98, u99, u100, u101, u102, u103, u104, u105, u106, u107, u108, u109, u110, u111, u112, u113, u114, u115, u116, u117, u118, u119, u120, u121, u122, u123, u124, u125, u126, u127, u128, u129, u130, u131, u132], []⟩ wr := by
  subst hA
  obtain ⟨c0, t, rfl⟩ : ∃ c0 t, nm = c0 :: t := by
    cases nm with
    | nil => exact absurd rfl hnn
    | cons c0 t => exact ⟨c0, t, rfl⟩
  have hz0 : 0 < (⟨(c0 :: t).toArray⟩ : ByteArray).size := by show 0 < (c0 :: t).toArray.size; simp
  have hp58 : decide (c0.toNat = 58) = false := hp
  have f58 : ((((⟨(c0 :: t).toArray⟩ : ByteArray)[0]'hz0).toNat : Int) == 58) = false := by
    show ((c0.toNat : Int) == 58) = false
    simp at hp58
    simp
    omega
  clear hp hp58 hnn
  conv => arg 2; whnf
  conv => arg 4; zeta
  have hge := HS.out.ge
  have hbel := HS.out.bel.size
  have e0 := X0.out
  have e1 := X1.out
  have M1 := Lib.hid (HS.out.below (below_new wr (.cells #[str (c0 :: t), str vl] 42)))
  have KL := low_at' (c0 :: t) _ hn1 hf1
  have KV := hrvalue_at' vl _ hv1 hf2
  have KN := hrname_at' (c0 :: t) _ hn1 hg1
  have KB := barred_at' (c0 :: t) _ hg2
  obtain ⟨g3, hg3⟩ : ∃ x, (c0 :: t == [116, 101]) = x := ⟨_, rfl⟩
  obtain ⟨g4, hg4⟩ : ∃ x, (vl == [116, 114, 97, 105, 108, 101, 114, 115]) = x := ⟨_, rfl⟩
  have hg5 : (g3 && !g4) = false := by rw [← hg3, ← hg4]; exact hg
  have HG5 := Lib.hid hg5
  clear hg hg5
  rw [hT]
  have q0 : (wr.alloc (.cells #[str (c0 :: t), str vl] 42)).cell? ⟨wr.heap.size, 0, none⟩ = some (str (c0 :: t)) := by simp
  have q1 : (wr.alloc (.cells #[str (c0 :: t), str vl] 42)).cell? ⟨wr.heap.size, 1, none⟩ = some (str vl) := by simp
  have hlt : wr.heap.size < (wr.alloc (.cells #[str (c0 :: t), str vl] 42)).heap.size := by simp
  clear X0 X1 HS
  have hbelF : ∀ {W W' : World}, Below (wr.alloc (.cells #[str (c0 :: t), str vl] 42)).heap.size (wr.alloc (.cells #[str (c0 :: t), str vl] 42)) W → Below W.heap.size W W' → Below (wr.alloc (.cells #[str (c0 :: t), str vl] 42)).heap.size (wr.alloc (.cells #[str (c0 :: t), str vl] 42)) W' := fun h1 h2 => Below.next h1 h1.size h2
  go_upto_region 14 with (first | (go_at_call 42; refine (KL _).mono ?_; rintro e w8 ⟨rfl, rfl⟩) | (go_at_call 43; refine (KV _).mono ?_; rintro e w8 ⟨rfl, rfl⟩))
  go_cut [88] from 21 to 124 (fun s88 wx => s88 = .bool false ∧ Below (wr.alloc (.cells #[str (c0 :: t), str vl] 42)).heap.size (wr.alloc (.cells #[str (c0 :: t), str vl] 42)) wx)
  case first =>
    cases g3
    · go_wp2_with (first | (go_at_call 45; refine (KN _).mono ?_; rintro e w8 ⟨rfl, hb8⟩; have HB8 := Lib.hid hb8; have z0 := (hb8.cell (p := ⟨wr.heap.size, 0, none⟩) hlt).trans q0; have z1 := (hb8.cell (p := ⟨wr.heap.size, 1, none⟩) hlt).trans q1; have hlt8 := Nat.lt_of_lt_of_le hlt hb8.size; clear hb8) | (go_at_call 46; refine (KB _).mono ?_; rintro e w9 ⟨rfl, hb9⟩; have HB9 := Lib.hid hb9; have y0 := (hb9.cell (p := ⟨wr.heap.size, 0, none⟩) hlt8).trans z0; have y1 := (hb9.cell (p := ⟨wr.heap.size, 1, none⟩) hlt8).trans z1; have hlt9 := Nat.lt_of_lt_of_le hlt8 hb9.size; clear hb9))
      go_meet
      exact ⟨rfl, hbelF HB8.out HB9.out⟩
    · cases g4
      · have := HG5.out
        cases this
      · go_wp2_with (first | (go_at_call 45; refine (KN _).mono ?_; rintro e w8 ⟨rfl, hb8⟩; have HB8 := Lib.hid hb8; have z0 := (hb8.cell (p := ⟨wr.heap.size, 0, none⟩) hlt).trans q0; have z1 := (hb8.cell (p := ⟨wr.heap.size, 1, none⟩) hlt).trans q1; have hlt8 := Nat.lt_of_lt_of_le hlt hb8.size; clear hb8) | (go_at_call 46; refine (KB _).mono ?_; rintro e w9 ⟨rfl, hb9⟩; have HB9 := Lib.hid hb9; have y0 := (hb9.cell (p := ⟨wr.heap.size, 0, none⟩) hlt8).trans z0; have y1 := (hb9.cell (p := ⟨wr.heap.size, 1, none⟩) hlt8).trans z1; have hlt9 := Nat.lt_of_lt_of_le hlt8 hb9.size; clear hb9))
        go_meet
        exact ⟨rfl, hbelF HB8.out HB9.out⟩
  case rest =>
    obtain ⟨rfl, hbc⟩ := hcut
    have M3 := Lib.hid (M1.out.below hbc)
    have z0 := (hbc.cell (p := ⟨wr.heap.size, 0, none⟩) hlt).trans q0
    have z1 := (hbc.cell (p := ⟨wr.heap.size, 1, none⟩) hlt).trans q1
    have hltc := Nat.lt_of_lt_of_le hlt hbc.size
    clear hbelF hbc q0 q1
    have KH := hrlength_some vl N hv1 hpc
    have a2 := M3.out.cells 2 _ rfl
    have f2 := M3.out.fz 2
    have M4 := Lib.hid (((M3.out.set (V' := .slice VA es.length vc) (s' := { s with len := (N : Int) }) (i := 2) (u := .int .i64 (N : Int)) (by decide) rfl rfl M3.out.hl M3.out.abs M3.out.len M3.out.items M3.out.own).flags (s' := { s with beh := true, ls := vl, told := true, len := (N : Int) }) rfl rfl rfl).weak (Nat.le_succ k))
    go_wp2_with (go_at_call 47; refine (KH _).mono ?_; rintro e w8 ⟨rfl, rfl⟩)
    unfold RN21
    (repeat apply Exists.intro)
    refine ⟨?_, rfl⟩
    exact ⟨n, _, es, { s with beh := true, ls := vl, told := true, len := (N : Int) }, (by first | rfl | simp only [hb]), rfl, (by first | rfl | simp only [hT]), by go_num, M4.out, HNX.out⟩
set_option maxHeartbeats 100000000 in
theorem bad21m (J : Act → World → Prop) (Q0 : Exit → Act → World → Prop) (w : World) (req : Bool) (l : List (BS × BS)) (A : Option Addr) (c : Nat) (b o : Nat) (hA : A = some ⟨b, o, none⟩) (k n vc : Nat) (VA : Option Addr) (es : List Ent) (s : HRS) (wr : World) (nm vl : BS)
    (HS : Hid (HSt w wr k n (.slice VA es.length vc) es s)) (hbw : b < w.heap.size) (hln : l.length ≤ 800000) (hkl : k < l.length) (hc : l.length ≤ c)
    (X0 : Hid (wr.cell? ⟨b, o + k * 2, none⟩ = some (str nm))) (X1 : Hid (wr.cell? ⟨b, o + k * 2 + 1, none⟩ = some (str vl))) (hn1 : nm.length ≤ 1048576) (hv1 : vl.length ≤ 1048576)
    (hf1 : lowOk nm = true) (hf2 : valOk vl = true) (hp : pseudoB nm = false) (hnn : nm ≠ []) (hg1 : nameOk nm = true) (hg2 : barredNames.contains nm = false) (hg : (nm == [116, 101] && vl != [116, 114, 97, 105, 108, 101, 114, 115]) = false) (hcl : (nm == [99, 111, 110, 116, 101, 110, 116, 45, 108, 101, 110, 103, 116, 104]) = true) (hT : s.told = true) (hL : (s.ls == vl) = false) (HN : Hid (hrRead req l = none))
    (u2 u3 u5 u10 u11 u12 u13 u14 u15 u16 u17 u21 u22 u23 u24 u25 u26 u27 u28 u29 u30 u31 u32 u33 u34 u35 u36 u37 u38 u39 u40 u41 u42 u43 u44 u45 u46 u47 u48 u49 u50 u51 u52 u53 u54 u55 u56 u57 u58 u59 u60 u61 u62 u63 u64 u65 u66 u67 u68 u69 u70 u71 u72 u73 u74 u75 u76 u77 u78 u79 u80 u81 u82 u83 u84 u85 u86 u87 u88 u89 u90 u91 u92 u93 u94 u95 u96 u97 u98 u99 u100 u101 u102 u103 u104 u105 u106 u107 u108 u109 u110 u111 u112 u113 u114 u115 u116 u117 u118 u119 u120 u121 u122 u123 u124 u125 u126 u127 u128 u129 u130 u131 u132 : Value) (hJ : ∀ a w1, RN21 w req l A c k u2 u3 u10 u16 u17 u125 u126 u127 u128 u129 u130 u131 u132 a w1 → J a w1) (hR : ∀ a w1, bodyPost Tryz.prog Tryz.f21 (ReadPost w (l.length + 1) (hrRead req l)) .ret a w1 → Q0 .ret a w1) :
    Code.wp Tryz.prog body21 (Exit.then J Q0) ⟨#[.slice A l.length c, .bool req, u2, u3, .pointer (some ⟨w.heap.size, 0, none⟩), u5, .pointer (some ⟨w.heap.size + 2, 0, none⟩), .bool s.beh, str s.ls, .bool s.told, u10, u11, u12, u13, u14, u15, u16, u17, .slice A l.length c, .int .i64 (l.length : Int), .int .i64 (k : Int), u21, u22, u23, u24, u25, u26, u27, u28, u29, u30, u31, u32, u33, u34, u35, u36, u37, u38, u39, u40, u41, u42, u43, u44, u45, u46, u47, u48, u49, u50, u51, u52, u53, u54, u55, u56, u57, u58, u59, u60, u61, u62, u63, u64, u65, u66, u67, u68, u69, u70, u71, u72, u73, u74, u75, u76, u77, u78, u79, u80, u81, u82, u83, u84, u85, u86, u87, u88, u89, u90, u91, u92, u93, u94, u95, u96, u97, u98, u99, u100, u101, u102, u103, u104, u105, u106, u107, u108, u109, u110, u111, u112, u113, u114, u115, u116, u117, u118, u119, u120, u121, u122, u123, u124, u125, u126, u127, u128, u129, u130, u131, u132], []⟩ wr := by
  subst hA
  obtain ⟨c0, t, rfl⟩ : ∃ c0 t, nm = c0 :: t := by
    cases nm with
    | nil => exact absurd rfl hnn
    | cons c0 t => exact ⟨c0, t, rfl⟩
  have hz0 : 0 < (⟨(c0 :: t).toArray⟩ : ByteArray).size := by show 0 < (c0 :: t).toArray.size; simp
  have hp58 : decide (c0.toNat = 58) = false := hp
  have f58 : ((((⟨(c0 :: t).toArray⟩ : ByteArray)[0]'hz0).toNat : Int) == 58) = false := by
    show ((c0.toNat : Int) == 58) = false
    simp at hp58
    simp
    omega
  clear hp hp58 hnn
  conv => arg 2; whnf
  conv => arg 4; zeta
  have hge := HS.out.ge
  have hbel := HS.out.bel.size
  have e0 := X0.out
  have e1 := X1.out
  have M1 := Lib.hid (HS.out.below (below_new wr (.cells #[str (c0 :: t), str vl] 42)))
  have KL := low_at' (c0 :: t) _ hn1 hf1
  have KV := hrvalue_at' vl _ hv1 hf2
  have KN := hrname_at' (c0 :: t) _ hn1 hg1
  have KB := barred_at' (c0 :: t) _ hg2
  obtain ⟨g3, hg3⟩ : ∃ x, (c0 :: t == [116, 101]) = x := ⟨_, rfl⟩
  obtain ⟨g4, hg4⟩ : ∃ x, (vl == [116, 114, 97, 105, 108, 101, 114, 115]) = x := ⟨_, rfl⟩
  have hg5 : (g3 && !g4) = false := by rw [← hg3, ← hg4]; exact hg
  have HG5 := Lib.hid hg5
  clear hg hg5
  rw [hT]
  have q0 : (wr.alloc (.cells #[str (c0 :: t), str vl] 42)).cell? ⟨wr.heap.size, 0, none⟩ = some (str (c0 :: t)) := by simp
  have q1 : (wr.alloc (.cells #[str (c0 :: t), str vl] 42)).cell? ⟨wr.heap.size, 1, none⟩ = some (str vl) := by simp
  have hlt : wr.heap.size < (wr.alloc (.cells #[str (c0 :: t), str vl] 42)).heap.size := by simp
  clear X0 X1 HS
  have hbelF : ∀ {W W' : World}, Below (wr.alloc (.cells #[str (c0 :: t), str vl] 42)).heap.size (wr.alloc (.cells #[str (c0 :: t), str vl] 42)) W → Below W.heap.size W W' → Below (wr.alloc (.cells #[str (c0 :: t), str vl] 42)).heap.size (wr.alloc (.cells #[str (c0 :: t), str vl] 42)) W' := fun h1 h2 => Below.next h1 h1.size h2
  go_upto_region 14 with (first | (go_at_call 42; refine (KL _).mono ?_; rintro e w8 ⟨rfl, rfl⟩) | (go_at_call 43; refine (KV _).mono ?_; rintro e w8 ⟨rfl, rfl⟩))
  go_cut [88] from 21 to 124 (fun s88 wx => s88 = .bool false ∧ Below (wr.alloc (.cells #[str (c0 :: t), str vl] 42)).heap.size (wr.alloc (.cells #[str (c0 :: t), str vl] 42)) wx)
  case first =>
    cases g3
    · go_wp2_with (first | (go_at_call 45; refine (KN _).mono ?_; rintro e w8 ⟨rfl, hb8⟩; have HB8 := Lib.hid hb8; have z0 := (hb8.cell (p := ⟨wr.heap.size, 0, none⟩) hlt).trans q0; have z1 := (hb8.cell (p := ⟨wr.heap.size, 1, none⟩) hlt).trans q1; have hlt8 := Nat.lt_of_lt_of_le hlt hb8.size; clear hb8) | (go_at_call 46; refine (KB _).mono ?_; rintro e w9 ⟨rfl, hb9⟩; have HB9 := Lib.hid hb9; have y0 := (hb9.cell (p := ⟨wr.heap.size, 0, none⟩) hlt8).trans z0; have y1 := (hb9.cell (p := ⟨wr.heap.size, 1, none⟩) hlt8).trans z1; have hlt9 := Nat.lt_of_lt_of_le hlt8 hb9.size; clear hb9))
      go_meet
      exact ⟨rfl, hbelF HB8.out HB9.out⟩
    · cases g4
      · have := HG5.out
        cases this
      · go_wp2_with (first | (go_at_call 45; refine (KN _).mono ?_; rintro e w8 ⟨rfl, hb8⟩; have HB8 := Lib.hid hb8; have z0 := (hb8.cell (p := ⟨wr.heap.size, 0, none⟩) hlt).trans q0; have z1 := (hb8.cell (p := ⟨wr.heap.size, 1, none⟩) hlt).trans q1; have hlt8 := Nat.lt_of_lt_of_le hlt hb8.size; clear hb8) | (go_at_call 46; refine (KB _).mono ?_; rintro e w9 ⟨rfl, hb9⟩; have HB9 := Lib.hid hb9; have y0 := (hb9.cell (p := ⟨wr.heap.size, 0, none⟩) hlt8).trans z0; have y1 := (hb9.cell (p := ⟨wr.heap.size, 1, none⟩) hlt8).trans z1; have hlt9 := Nat.lt_of_lt_of_le hlt8 hb9.size; clear hb9))
        go_meet
        exact ⟨rfl, hbelF HB8.out HB9.out⟩
  case rest =>
    obtain ⟨rfl, hbc⟩ := hcut
    have M3 := Lib.hid (M1.out.below hbc)
    have z0 := (hbc.cell (p := ⟨wr.heap.size, 0, none⟩) hlt).trans q0
    have z1 := (hbc.cell (p := ⟨wr.heap.size, 1, none⟩) hlt).trans q1
    have hltc := Nat.lt_of_lt_of_le hlt hbc.size
    clear hbelF hbc q0 q1
    have HLD := Lib.hid (M3.out).cells
    have HTH := Lib.hid (M3.out).there
    have HFl := Lib.hid ((M3.out).done (m' := l.length + 1) (by omega) (hrRead req l) (by rw [HN.out]; intro s' h; cases h))
    have HPC := Lib.hid (put3_cells (M3.out) (w.heap.size + 1) (.slice VA es.length vc) s.len)
    go_wp2_with (first | (refine wpList_load3 rfl rfl (w.heap.size + 2) (w.heap.size + 1) (.slice VA es.length vc) s.len rfl HLD.out ?_) | (refine wpList_store3 rfl _ rfl w.heap.size (w.heap.size + 1) (.slice VA es.length vc) s.len rfl rfl HTH.out rfl ?_))
    obtain ⟨x0, x1, x2⟩ := HPC.out
    refine ⟨rfl, _, (show _ = Result.ok (Value.tuple #[.agg (pcl (w.heap.size + 1) (.slice VA es.length vc) s.len).toArray, .bool false]) _ by simp [results, Tryz.results21, go_sem, x0, x1, x2]; rfl), ?_⟩
    have h := HFl.out
    rw [HN.out] at h ⊢
    exact h

set_option maxHeartbeats 100000000 in
theorem ok21et (J : Act → World → Prop) (Q0 : Exit → Act → World → Prop) (w : World) (req : Bool) (l : List (BS × BS)) (A : Option Addr) (c : Nat) (b o : Nat) (hA : A = some ⟨b, o, none⟩) (k n vc : Nat) (VA : Option Addr) (es : List Ent) (s : HRS) (wr : World) (nm vl : BS)
    (HS : Hid (HSt w wr k n (.slice VA es.length vc) es s)) (hbw : b < w.heap.size) (hln : l.length ≤ 800000) (hkl : k < l.length) (hc : l.length ≤ c)
    (X0 : Hid (wr.cell? ⟨b, o + k * 2, none⟩ = some (str nm))) (X1 : Hid (wr.cell? ⟨b, o + k * 2 + 1, none⟩ = some (str vl))) (hn1 : nm.length ≤ 1048576) (hv1 : vl.length ≤ 1048576)
    (hf1 : lowOk nm = true) (hf2 : valOk vl = true) (hp : pseudoB nm = false) (hnn : nm ≠ []) (hg1 : nameOk nm = true) (hg2 : barredNames.contains nm = false) (hg : (nm == [116, 101] && vl != [116, 114, 97, 105, 108, 101, 114, 115]) = false) (hcl : (nm == [99, 111, 110, 116, 101, 110, 116, 45, 108, 101, 110, 103, 116, 104]) = true) (hT : s.told = true) (hL : (s.ls == vl) = true) (hve : (vl == []) = true) (HNX : Hid (hsFold req {} l = hsFold req { s with beh := true, ls := vl, told := true } (l.drop (k + 1))))
    (u2 u3 u5 u10 u11 u12 u13 u14 u15 u16 u17 u21 u22 u23 u24 u25 u26 u27 u28 u29 u30 u31 u32 u33 u34 u35 u36 u37 u38 u39 u40 u41 u42 u43 u44 u45 u46 u47 u48 u49 u50 u51 u52 u53 u54 u55 u56 u57 u58 u59 u60 u61 u62 u63 u64 u65 u66 u67 u68 u69 u70 u71 u72 u73 u74 u75 u76 u77 u78 u79 u80 u81 u82 u83 u84 u85 u86 u87 u88 u89 u90 u91 u92 u93 u94 u95 u96 u97 u98 u99 u100 u101 u102 u103 u104 u105 u106 u107 u108 u109 u110 u111 u112 u113 u114 u115 u116 u117 u118 u119 u120 u121 u122 u123 u124 u125 u126 u127 u128 u129 u130 u131 u132 : Value) (hJ : ∀ a w1, RN21 w req l A c k u2 u3 u10 u16 u17 u125 u126 u127 u128 u129 u130 u131 u132 a w1 → J a w1) (hR : ∀ a w1, bodyPost Tryz.prog Tryz.f21 (ReadPost w (l.length + 1) (hrRead req l)) .ret a w1 → Q0 .ret a w1) :
    Code.wp Tryz.prog body21 (Exit.then J Q0) ⟨#[.slice A l.length c, .bool req, u2, u3, .pointer (some ⟨w.heap.size, 0, none⟩), u5, .pointer (some ⟨w.heap.size + 2, 0, none⟩), .bool s.beh, str s.ls, .bool s.told, u10, u11, u12, u13, u14, u15, u16, u17, .slice A l.length c, .int .i64 (l.length : Int), .int .i64 (k : Int), u21, u22, u23, u24, u25, u26, u27, u28, u29, u30, u31, u32, u33, u34, u35, u36, u37, u38, u39, u40, u41, u42, u43, u44, u45, u46, u47, u48, u49, u50, u51, u52, u53, u54, u55, u56, u57, u58, u59, u60, u61, u62, u63, u64, u65, u66, u67, u68, u69, u70, u71, u72, u73, u74, u75, u76, u77, u78, u79, u80, u81, u82, u83, u84, u85, u86, u87, u88, u89, u90, u91, u92, u93, u94, u95, u96, u97, u98, u99, u100, u101, u102, u103, u104, u105, u106, u107, u108, u109, u110, u111, u112, u113, u114, u115, u116, u117, u118, u119, u120, u121, u122, u123, u124, u125, u126, u127, u128, u129, u130, u131, u132], []⟩ wr := by
  subst hA
  obtain ⟨c0, t, rfl⟩ : ∃ c0 t, nm = c0 :: t := by
    cases nm with
    | nil => exact absurd rfl hnn
    | cons c0 t => exact ⟨c0, t, rfl⟩
  have hz0 : 0 < (⟨(c0 :: t).toArray⟩ : ByteArray).size := by show 0 < (c0 :: t).toArray.size; simp
  have hp58 : decide (c0.toNat = 58) = false := hp
  have f58 : ((((⟨(c0 :: t).toArray⟩ : ByteArray)[0]'hz0).toNat : Int) == 58) = false := by
    show ((c0.toNat : Int) == 58) = false
    simp at hp58
    simp
    omega
  clear hp hp58 hnn
  conv => arg 2; whnf
  conv => arg 4; zeta
  have hge := HS.out.ge
  have hbel := HS.out.bel.size
  have e0 := X0.out
  have e1 := X1.out
  have M1 := Lib.hid (HS.out.below (below_new wr (.cells #[str (c0 :: t), str vl] 42)))
  have KL := low_at' (c0 :: t) _ hn1 hf1
  have KV := hrvalue_at' vl _ hv1 hf2
  have KN := hrname_at' (c0 :: t) _ hn1 hg1
  have KB := barred_at' (c0 :: t) _ hg2
  obtain ⟨g3, hg3⟩ : ∃ x, (c0 :: t == [116, 101]) = x := ⟨_, rfl⟩
  obtain ⟨g4, hg4⟩ : ∃ x, (vl == [116, 114, 97, 105, 108, 101, 114, 115]) = x := ⟨_, rfl⟩
  have hg5 : (g3 && !g4) = false := by rw [← hg3, ← hg4]; exact hg
  have HG5 := Lib.hid hg5
  clear hg hg5
  rw [hT]
  have q0 : (wr.alloc (.cells #[str (c0 :: t), str vl] 42)).cell? ⟨wr.heap.size, 0, none⟩ = some (str (c0 :: t)) := by simp
  have q1 : (wr.alloc (.cells #[str (c0 :: t), str vl] 42)).cell? ⟨wr.heap.size, 1, none⟩ = some (str vl) := by simp
  have hlt : wr.heap.size < (wr.alloc (.cells #[str (c0 :: t), str vl] 42)).heap.size := by simp
  clear X0 X1 HS
  have hbelF : ∀ {W W' : World}, Below (wr.alloc (.cells #[str (c0 :: t), str vl] 42)).heap.size (wr.alloc (.cells #[str (c0 :: t), str vl] 42)) W → Below W.heap.size W W' → Below (wr.alloc (.cells #[str (c0 :: t), str vl] 42)).heap.size (wr.alloc (.cells #[str (c0 :: t), str vl] 42)) W' := fun h1 h2 => Below.next h1 h1.size h2
  go_upto_region 14 with (first | (go_at_call 42; refine (KL _).mono ?_; rintro e w8 ⟨rfl, rfl⟩) | (go_at_call 43; refine (KV _).mono ?_; rintro e w8 ⟨rfl, rfl⟩))
  go_cut [88] from 21 to 124 (fun s88 wx => s88 = .bool false ∧ Below (wr.alloc (.cells #[str (c0 :: t), str vl] 42)).heap.size (wr.alloc (.cells #[str (c0 :: t), str vl] 42)) wx)
  case first =>
    cases g3
    · go_wp2_with (first | (go_at_call 45; refine (KN _).mono ?_; rintro e w8 ⟨rfl, hb8⟩; have HB8 := Lib.hid hb8; have z0 := (hb8.cell (p := ⟨wr.heap.size, 0, none⟩) hlt).trans q0; have z1 := (hb8.cell (p := ⟨wr.heap.size, 1, none⟩) hlt).trans q1; have hlt8 := Nat.lt_of_lt_of_le hlt hb8.size; clear hb8) | (go_at_call 46; refine (KB _).mono ?_; rintro e w9 ⟨rfl, hb9⟩; have HB9 := Lib.hid hb9; have y0 := (hb9.cell (p := ⟨wr.heap.size, 0, none⟩) hlt8).trans z0; have y1 := (hb9.cell (p := ⟨wr.heap.size, 1, none⟩) hlt8).trans z1; have hlt9 := Nat.lt_of_lt_of_le hlt8 hb9.size; clear hb9))
      go_meet
      exact ⟨rfl, hbelF HB8.out HB9.out⟩
    · cases g4
      · have := HG5.out
        cases this
      · go_wp2_with (first | (go_at_call 45; refine (KN _).mono ?_; rintro e w8 ⟨rfl, hb8⟩; have HB8 := Lib.hid hb8; have z0 := (hb8.cell (p := ⟨wr.heap.size, 0, none⟩) hlt).trans q0; have z1 := (hb8.cell (p := ⟨wr.heap.size, 1, none⟩) hlt).trans q1; have hlt8 := Nat.lt_of_lt_of_le hlt hb8.size; clear hb8) | (go_at_call 46; refine (KB _).mono ?_; rintro e w9 ⟨rfl, hb9⟩; have HB9 := Lib.hid hb9; have y0 := (hb9.cell (p := ⟨wr.heap.size, 0, none⟩) hlt8).trans z0; have y1 := (hb9.cell (p := ⟨wr.heap.size, 1, none⟩) hlt8).trans z1; have hlt9 := Nat.lt_of_lt_of_le hlt8 hb9.size; clear hb9))
        go_meet
        exact ⟨rfl, hbelF HB8.out HB9.out⟩
  case rest =>
    obtain ⟨rfl, hbc⟩ := hcut
    have M3 := Lib.hid (M1.out.below hbc)
    have z0 := (hbc.cell (p := ⟨wr.heap.size, 0, none⟩) hlt).trans q0
    have z1 := (hbc.cell (p := ⟨wr.heap.size, 1, none⟩) hlt).trans q1
    have hltc := Nat.lt_of_lt_of_le hlt hbc.size
    clear hbelF hbc q0 q1
    have M4 := Lib.hid ((M3.out.flags (s' := { s with beh := true, ls := vl, told := true }) rfl rfl rfl).weak (Nat.le_succ k))
    go_wp2_with fail
    unfold RN21
    (repeat apply Exists.intro)
    refine ⟨?_, rfl⟩
    exact ⟨n, _, es, { s with beh := true, ls := vl, told := true }, (by first | rfl | simp only [hb]), rfl, (by first | rfl | simp only [hT]), by go_num, M4.out, HNX.out⟩
set_option maxHeartbeats 100000000 in
theorem bad21lt (J : Act → World → Prop) (Q0 : Exit → Act → World → Prop) (w : World) (req : Bool) (l : List (BS × BS)) (A : Option Addr) (c : Nat) (b o : Nat) (hA : A = some ⟨b, o, none⟩) (k n vc : Nat) (VA : Option Addr) (es : List Ent) (s : HRS) (wr : World) (nm vl : BS)
    (HS : Hid (HSt w wr k n (.slice VA es.length vc) es s)) (hbw : b < w.heap.size) (hln : l.length ≤ 800000) (hkl : k < l.length) (hc : l.length ≤ c)
    (X0 : Hid (wr.cell? ⟨b, o + k * 2, none⟩ = some (str nm))) (X1 : Hid (wr.cell? ⟨b, o + k * 2 + 1, none⟩ = some (str vl))) (hn1 : nm.length ≤ 1048576) (hv1 : vl.length ≤ 1048576)
    (hf1 : lowOk nm = true) (hf2 : valOk vl = true) (hp : pseudoB nm = false) (hnn : nm ≠ []) (hg1 : nameOk nm = true) (hg2 : barredNames.contains nm = false) (hg : (nm == [116, 101] && vl != [116, 114, 97, 105, 108, 101, 114, 115]) = false) (hcl : (nm == [99, 111, 110, 116, 101, 110, 116, 45, 108, 101, 110, 103, 116, 104]) = true) (hT : s.told = true) (hL : (s.ls == vl) = true) (hve : (vl == []) = false) (hpc : parseCL vl = none) (HN : Hid (hrRead req l = none))
    (u2 u3 u5 u10 u11 u12 u13 u14 u15 u16 u17 u21 u22 u23 u24 u25 u26 u27 u28 u29 u30 u31 u32 u33 u34 u35 u36 u37 u38 u39 u40 u41 u42 u43 u44 u45 u46 u47 u48 u49 u50 u51 u52 u53 u54 u55 u56 u57 u58 u59 u60 u61 u62 u63 u64 u65 u66 u67 u68 u69 u70 u71 u72 u73 u74 u75 u76 u77 u78 u79 u80 u81 u82 u83 u84 u85 u86 u87 u88 u89 u90 u91 u92 u93 u94 u95 u96 u97 u98 u99 u100 u101 u102 u103 u104 u105 u106 u107 u108 u109 u110 u111 u112 u113 u114 u115 u116 u117 u118 u119 u120 u121 u122 u123 u124 u125 u126 u127 u128 u129 u130 u131 u132 : Value) (hJ : ∀ a w1, RN21 w req l A c k u2 u3 u10 u16 u17 u125 u126 u127 u128 u129 u130 u131 u132 a w1 → J a w1) (hR : ∀ a w1, bodyPost Tryz.prog Tryz.f21 (ReadPost w (l.length + 1) (hrRead req l)) .ret a w1 → Q0 .ret a w1) :
    Code.wp Tryz.prog body21 (Exit.then J Q0) ⟨#[.slice A l.length c, .bool req, u2, u3, .pointer (some ⟨w.heap.size, 0, none⟩), u5, .pointer (some ⟨w.heap.size + 2, 0, none⟩), .bool s.beh, str s.ls, .bool s.told, u10, u11, u12, u13, u14, u15, u16, u17, .slice A l.length c, .int .i64 (l.length : Int), .int .i64 (k : Int), u21, u22, u23, u24, u25, u26, u27, u28, u29, u30, u31, u32, u33, u34, u35, u36, u37, u38, u39, u40, u41, u42, u43, u44, u45, u46, u47, u48, u49, u50, u51, u52, u53, u54, u55, u56, u57, u58, u59, u60, u61, u62, u63, u64, u65, u66, u67, u68, u69, u70, u71, u72, u73, u74, u75, u76, u77, u78, u79, u80, u81, u82, u83, u84, u85, u86, u87, u88, u89, u90, u91, u92, u93, u94, u95, u96, u97, u98, u99, u100, u101, u102, u103, u104, u105, u106, u107, u108, u109, u110, u111, u112, u113, u114, u115, u116, u117, u118, u119, u120, u121, u122, u123, u124, u125, u126, u127, u128, u129, u130, u131, u132], []⟩ wr := by
  subst hA
  obtain ⟨c0, t, rfl⟩ : ∃ c0 t, nm = c0 :: t := by
    cases nm with
    | nil => exact absurd rfl hnn
    | cons c0 t => exact ⟨c0, t, rfl⟩
  have hz0 : 0 < (⟨(c0 :: t).toArray⟩ : ByteArray).size := by show 0 < (c0 :: t).toArray.size; simp
  have hp58 : decide (c0.toNat = 58) = false := hp
  have f58 : ((((⟨(c0 :: t).toArray⟩ : ByteArray)[0]'hz0).toNat : Int) == 58) = false := by
    show ((c0.toNat : Int) == 58) = false
    simp at hp58
    simp
    omega
  clear hp hp58 hnn
  conv => arg 2; whnf
  conv => arg 4; zeta
  have hge := HS.out.ge
  have hbel := HS.out.bel.size
  have e0 := X0.out
  have e1 := X1.out
  have M1 := Lib.hid (HS.out.below (below_new wr (.cells #[str (c0 :: t), str vl] 42)))
  have KL := low_at' (c0 :: t) _ hn1 hf1
  have KV := hrvalue_at' vl _ hv1 hf2
  have KN := hrname_at' (c0 :: t) _ hn1 hg1
  have KB := barred_at' (c0 :: t) _ hg2
  obtain ⟨g3, hg3⟩ : ∃ x, (c0 :: t == [116, 101]) = x := ⟨_, rfl⟩
  obtain ⟨g4, hg4⟩ : ∃ x, (vl == [116, 114, 97, 105, 108, 101, 114, 115]) = x := ⟨_, rfl⟩
  have hg5 : (g3 && !g4) = false := by rw [← hg3, ← hg4]; exact hg
  have HG5 := Lib.hid hg5
  clear hg hg5
  rw [hT]
  have q0 : (wr.alloc (.cells #[str (c0 :: t), str vl] 42)).cell? ⟨wr.heap.size, 0, none⟩ = some (str (c0 :: t)) := by simp
  have q1 : (wr.alloc (.cells #[str (c0 :: t), str vl] 42)).cell? ⟨wr.heap.size, 1, none⟩ = some (str vl) := by simp
  have hlt : wr.heap.size < (wr.alloc (.cells #[str (c0 :: t), str vl] 42)).heap.size := by simp
  clear X0 X1 HS
  have hbelF : ∀ {W W' : World}, Below (wr.alloc (.cells #[str (c0 :: t), str vl] 42)).heap.size (wr.alloc (.cells #[str (c0 :: t), str vl] 42)) W → Below W.heap.size W W' → Below (wr.alloc (.cells #[str (c0 :: t), str vl] 42)).heap.size (wr.alloc (.cells #[str (c0 :: t), str vl] 42)) W' := fun h1 h2 => Below.next h1 h1.size h2
  go_upto_region 14 with (first | (go_at_call 42; refine (KL _).mono ?_; rintro e w8 ⟨rfl, rfl⟩) | (go_at_call 43; refine (KV _).mono ?_; rintro e w8 ⟨rfl, rfl⟩))
  go_cut [88] from 21 to 124 (fun s88 wx => s88 = .bool false ∧ Below (wr.alloc (.cells #[str (c0 :: t), str vl] 42)).heap.size (wr.alloc (.cells #[str (c0 :: t), str vl] 42)) wx)
  case first =>
    cases g3
    · go_wp2_with (first | (go_at_call 45; refine (KN _).mono ?_; rintro e w8 ⟨rfl, hb8⟩; have HB8 := Lib.hid hb8; have z0 := (hb8.cell (p := ⟨wr.heap.size, 0, none⟩) hlt).trans q0; have z1 := (hb8.cell (p := ⟨wr.heap.size, 1, none⟩) hlt).trans q1; have hlt8 := Nat.lt_of_lt_of_le hlt hb8.size; clear hb8) | (go_at_call 46; refine (KB _).mono ?_; rintro e w9 ⟨rfl, hb9⟩; have HB9 := Lib.hid hb9; have y0 := (hb9.cell (p := ⟨wr.heap.size, 0, none⟩) hlt8).trans z0; have y1 := (hb9.cell (p := ⟨wr.heap.size, 1, none⟩) hlt8).trans z1; have hlt9 := Nat.lt_of_lt_of_le hlt8 hb9.size; clear hb9))
      go_meet
      exact ⟨rfl, hbelF HB8.out HB9.out⟩
    · cases g4
      · have := HG5.out
        cases this
      · go_wp2_with (first | (go_at_call 45; refine (KN _).mono ?_; rintro e w8 ⟨rfl, hb8⟩; have HB8 := Lib.hid hb8; have z0 := (hb8.cell (p := ⟨wr.heap.size, 0, none⟩) hlt).trans q0; have z1 := (hb8.cell (p := ⟨wr.heap.size, 1, none⟩) hlt).trans q1; have hlt8 := Nat.lt_of_lt_of_le hlt hb8.size; clear hb8) | (go_at_call 46; refine (KB _).mono ?_; rintro e w9 ⟨rfl, hb9⟩; have HB9 := Lib.hid hb9; have y0 := (hb9.cell (p := ⟨wr.heap.size, 0, none⟩) hlt8).trans z0; have y1 := (hb9.cell (p := ⟨wr.heap.size, 1, none⟩) hlt8).trans z1; have hlt9 := Nat.lt_of_lt_of_le hlt8 hb9.size; clear hb9))
        go_meet
        exact ⟨rfl, hbelF HB8.out HB9.out⟩
  case rest =>
    obtain ⟨rfl, hbc⟩ := hcut
    have M3 := Lib.hid (M1.out.below hbc)
    have z0 := (hbc.cell (p := ⟨wr.heap.size, 0, none⟩) hlt).trans q0
    have z1 := (hbc.cell (p := ⟨wr.heap.size, 1, none⟩) hlt).trans q1
    have hltc := Nat.lt_of_lt_of_le hlt hbc.size
    clear hbelF hbc q0 q1
    have KH := hrlength_none vl hv1 hpc
    have HLD := Lib.hid (M3.out).cells
    have HTH := Lib.hid (M3.out).there
    have HFl := Lib.hid ((M3.out).done (m' := l.length + 1) (by omega) (hrRead req l) (by rw [HN.out]; intro s' h; cases h))
    have HPC := Lib.hid (put3_cells (M3.out) (w.heap.size + 1) (.slice VA es.length vc) s.len)
    go_wp2_with (first | (go_at_call 47; refine (KH _).mono ?_; rintro e w8 ⟨rfl, rfl⟩) | (refine wpList_load3 rfl rfl (w.heap.size + 2) (w.heap.size + 1) (.slice VA es.length vc) s.len rfl HLD.out ?_) | (refine wpList_store3 rfl _ rfl w.heap.size (w.heap.size + 1) (.slice VA es.length vc) s.len rfl rfl HTH.out rfl ?_))
    obtain ⟨x0, x1, x2⟩ := HPC.out
    refine ⟨rfl, _, (show _ = Result.ok (Value.tuple #[.agg (pcl (w.heap.size + 1) (.slice VA es.length vc) s.len).toArray, .bool false]) _ by simp [results, Tryz.results21, go_sem, x0, x1, x2]; rfl), ?_⟩
    have h := HFl.out
    rw [HN.out] at h ⊢
    exact h
set_option maxHeartbeats 100000000 in
theorem ok21nt (J : Act → World → Prop) (Q0 : Exit → Act → World → Prop) (w : World) (req : Bool) (l : List (BS × BS)) (A : Option Addr) (c : Nat) (b o : Nat) (hA : A = some ⟨b, o, none⟩) (k n vc : Nat) (VA : Option Addr) (es : List Ent) (s : HRS) (wr : World) (nm vl : BS)
    (HS : Hid (HSt w wr k n (.slice VA es.length vc) es s)) (hbw : b < w.heap.size) (hln : l.length ≤ 800000) (hkl : k < l.length) (hc : l.length ≤ c)
    (X0 : Hid (wr.cell? ⟨b, o + k * 2, none⟩ = some (str nm))) (X1 : Hid (wr.cell? ⟨b, o + k * 2 + 1, none⟩ = some (str vl))) (hn1 : nm.length ≤ 1048576) (hv1 : vl.length ≤ 1048576)
    (hf1 : lowOk nm = true) (hf2 : valOk vl = true) (hp : pseudoB nm = false) (hnn : nm ≠ []) (hg1 : nameOk nm = true) (hg2 : barredNames.contains nm = false) (hg : (nm == [116, 101] && vl != [116, 114, 97, 105, 108, 101, 114, 115]) = false) (N : Nat) (hcl : (nm == [99, 111, 110, 116, 101, 110, 116, 45, 108, 101, 110, 103, 116, 104]) = true) (hT : s.told = true) (hL : (s.ls == vl) = true) (hve : (vl == []) = false) (hpc : parseCL vl = some N) (HNX : Hid (hsFold req {} l = hsFold req { s with beh := true, ls := vl, told := true, len := (N : Int) } (l.drop (k + 1))))
    (u2 u3 u5 u10 u11 u12 u13 u14 u15 u16 u17 u21 u22 u23 u24 u25 u26 u27 u28 u29 u30 u31 u32 u33 u34 u35 u36 u37 u38 u39 u40 u41 u42 u43 u44 u45 u46 u47 u48 u49 u50 u51 u52 u53 u54 u55 u56 u57 u58 u59 u60 u61 u62 u63 u64 u65 u66 u67 u68 u69 u70 u71 u72 u73 u74 u75 u76 u77 u78 u79 u80 u81 u82 u83 u84 u85 u86 u87 u88 u89 u90 u91 u92 u93 u94 u95 u96 u97 u98 u99 u100 u101 u102 u103 u104 u105 u106 u107 u108 u109 u110 u111 u112 u113 u114 u115 u116 u117 u118 u119 u120 u121 u122 u123 u124 u125 u126 u127 u128 u129 u130 u131 u132 : Value) (hJ : ∀ a w1, RN21 w req l A c k u2 u3 u10 u16 u17 u125 u126 u127 u128 u129 u130 u131 u132 a w1 → J a w1) (hR : ∀ a w1, bodyPost Tryz.prog Tryz.f21 (ReadPost w (l.length + 1) (hrRead req l)) .ret a w1 → Q0 .ret a w1) :
    Code.wp Tryz.prog body21 (Exit.then J Q0) ⟨#[.slice A l.length c, .bool req, u2, u3, .pointer (some ⟨w.heap.size, 0, none⟩), u5, .pointer (some ⟨w.heap.size + 2, 0, none⟩), .bool s.beh, str s.ls, .bool s.told, u10, u11, u12, u13, u14, u15, u16, u17, .slice A l.length c, .int .i64 (l.length : Int), .int .i64 (k : Int), u21, u22, u23, u24, u25, u26, u27, u28, u29, u30, u31, u32, u33, u34, u35, u36, u37, u38, u39, u40, u41, u42, u43, u44, u45, u46, u47, u48, u49, u50, u51, u52, u53, u54, u55, u56, u57, u58, u59, u60, u61, u62, u63, u64, u65, u66, u67, u68, u69, u70, u71, u72, u73, u74, u75, u76, u77, u78, u79, u80, u81, u82, u83, u84, u85, u86, u87, u88, u89, u90, u91, u92, u93, u94, u95, u96, u97, u98, u99, u100, u101, u102, u103, u104, u105, u106, u107, u108, u109, u110, u111, u112, u113, u114, u115, u116, u117, u118, u119, u120, u121, u122, u123, u124, u125, u126, u127, u128, u129, u130, u131, u132], []⟩ wr := by
  subst hA
  obtain ⟨c0, t, rfl⟩ : ∃ c0 t, nm = c0 :: t := by
    cases nm with
    | nil => exact absurd rfl hnn
    | cons c0 t => exact ⟨c0, t, rfl⟩
  have hz0 : 0 < (⟨(c0 :: t).toArray⟩ : ByteArray).size := by show 0 < (c0 :: t).toArray.size; simp
  have hp58 : decide (c0.toNat = 58) = false := hp
  have f58 : ((((⟨(c0 :: t).toArray⟩ : ByteArray)[0]'hz0).toNat : Int) == 58) = false := by
    show ((c0.toNat : Int) == 58) = false
    simp at hp58
    simp
    omega
  clear hp hp58 hnn
  conv => arg 2; whnf
  conv => arg 4; zeta
  have hge := HS.out.ge
  have hbel := HS.out.bel.size
  have e0 := X0.out
  have e1 := X1.out
  have M1 := Lib.hid (HS.out.below (below_new wr (.cells #[str (c0 :: t), str vl] 42)))
  have KL := low_at' (c0 :: t) _ hn1 hf1
  have KV := hrvalue_at' vl _ hv1 hf2
  have KN := hrname_at' (c0 :: t) _ hn1 hg1
  have KB := barred_at' (c0 :: t) _ hg2
  obtain ⟨g3, hg3⟩ : ∃ x, (c0 :: t == [116, 101]) = x := ⟨_, rfl⟩
  obtain ⟨g4, hg4⟩ : ∃ x, (vl == [116, 114, 97, 105, 108, 101, 114, 115]) = x := ⟨_, rfl⟩
  have hg5 : (g3 && !g4) = false := by rw [← hg3, ← hg4]; exact hg
  have HG5 := Lib.hid hg5
  clear hg hg5
  rw [hT]
  have q0 : (wr.alloc (.cells #[str (c0 :: t), str vl] 42)).cell? ⟨wr.heap.size, 0, none⟩ = some (str (c0 :: t)) := by simp
  have q1 : (wr.alloc (.cells #[str (c0 :: t), str vl] 42)).cell? ⟨wr.heap.size, 1, none⟩ = some (str vl) := by simp
  have hlt : wr.heap.size < (wr.alloc (.cells #[str (c0 :: t), str vl] 42)).heap.size := by simp
  clear X0 X1 HS
  have hbelF : ∀ {W W' : World}, Below (wr.alloc (.cells #[str (c0 :: t), str vl] 42)).heap.size (wr.alloc (.cells #[str (c0 :: t), str vl] 42)) W → Below W.heap.size W W' → Below (wr.alloc (.cells #[str (c0 :: t), str vl] 42)).heap.size (wr.alloc (.cells #[str (c0 :: t), str vl] 42)) W' := fun h1 h2 => Below.next h1 h1.size h2
  go_upto_region 14 with (first | (go_at_call 42; refine (KL _).mono ?_; rintro e w8 ⟨rfl, rfl⟩) | (go_at_call 43; refine (KV _).mono ?_; rintro e w8 ⟨rfl, rfl⟩))
  go_cut [88] from 21 to 124 (fun s88 wx => s88 = .bool false ∧ Below (wr.alloc (.cells #[str (c0 :: t), str vl] 42)).heap.size (wr.alloc (.cells #[str (c0 :: t), str vl] 42)) wx)
  case first =>
    cases g3
    · go_wp2_with (first | (go_at_call 45; refine (KN _).mono ?_; rintro e w8 ⟨rfl, hb8⟩; have HB8 := Lib.hid hb8; have z0 := (hb8.cell (p := ⟨wr.heap.size, 0, none⟩) hlt).trans q0; have z1 := (hb8.cell (p := ⟨wr.heap.size, 1, none⟩) hlt).trans q1; have hlt8 := Nat.lt_of_lt_of_le hlt hb8.size; clear hb8) | (go_at_call 46; refine (KB _).mono ?_; rintro e w9 ⟨rfl, hb9⟩; have HB9 := Lib.hid hb9; have y0 := (hb9.cell (p := ⟨wr.heap.size, 0, none⟩) hlt8).trans z0; have y1 := (hb9.cell (p := ⟨wr.heap.size, 1, none⟩) hlt8).trans z1; have hlt9 := Nat.lt_of_lt_of_le hlt8 hb9.size; clear hb9))
      go_meet
      exact ⟨rfl, hbelF HB8.out HB9.out⟩
    · cases g4
      · have := HG5.out
        cases this
      · go_wp2_with (first | (go_at_call 45; refine (KN _).mono ?_; rintro e w8 ⟨rfl, hb8⟩; have HB8 := Lib.hid hb8; have z0 := (hb8.cell (p := ⟨wr.heap.size, 0, none⟩) hlt).trans q0; have z1 := (hb8.cell (p := ⟨wr.heap.size, 1, none⟩) hlt).trans q1; have hlt8 := Nat.lt_of_lt_of_le hlt hb8.size; clear hb8) | (go_at_call 46; refine (KB _).mono ?_; rintro e w9 ⟨rfl, hb9⟩; have HB9 := Lib.hid hb9; have y0 := (hb9.cell (p := ⟨wr.heap.size, 0, none⟩) hlt8).trans z0; have y1 := (hb9.cell (p := ⟨wr.heap.size, 1, none⟩) hlt8).trans z1; have hlt9 := Nat.lt_of_lt_of_le hlt8 hb9.size; clear hb9))
        go_meet
        exact ⟨rfl, hbelF HB8.out HB9.out⟩
  case rest =>
    obtain ⟨rfl, hbc⟩ := hcut
    have M3 := Lib.hid (M1.out.below hbc)
    have z0 := (hbc.cell (p := ⟨wr.heap.size, 0, none⟩) hlt).trans q0
    have z1 := (hbc.cell (p := ⟨wr.heap.size, 1, none⟩) hlt).trans q1
    have hltc := Nat.lt_of_lt_of_le hlt hbc.size
    clear hbelF hbc q0 q1
    have KH := hrlength_some vl N hv1 hpc
    have a2 := M3.out.cells 2 _ rfl
    have f2 := M3.out.fz 2
    have M4 := Lib.hid (((M3.out.set (V' := .slice VA es.length vc) (s' := { s with len := (N : Int) }) (i := 2) (u := .int .i64 (N : Int)) (by decide) rfl rfl M3.out.hl M3.out.abs M3.out.len M3.out.items M3.out.own).flags (s' := { s with beh := true, ls := vl, told := true, len := (N : Int) }) rfl rfl rfl).weak (Nat.le_succ k))
    go_wp2_with (go_at_call 47; refine (KH _).mono ?_; rintro e w8 ⟨rfl, rfl⟩)
    unfold RN21
    (repeat apply Exists.intro)
    refine ⟨?_, rfl⟩
    exact ⟨n, _, es, { s with beh := true, ls := vl, told := true, len := (N : Int) }, (by first | rfl | simp only [hb]), rfl, (by first | rfl | simp only [hT]), by go_num, M4.out, HNX.out⟩

set_option maxHeartbeats 100000000 in
theorem end21 (J : Act → World → Prop) (Q0 : Exit → Act → World → Prop) (w : World) (req : Bool) (l : List (BS × BS)) (A : Option Addr) (c : Nat) (n : Nat) (V : Value) (es : List Ent) (s : HRS) (wr : World)
    (HS : Hid (HSt w wr l.length n V es s)) (hfo : hsFold req {} l = some s)
    (u2 u3 u5 u10 u11 u12 u13 u14 u15 u16 u17 u21 u22 u23 u24 u25 u26 u27 u28 u29 u30 u31 u32 u33 u34 u35 u36 u37 u38 u39 u40 u41 u42 u43 u44 u45 u46 u47 u48 u49 u50 u51 u52 u53 u54 u55 u56 u57 u58 u59 u60 u61 u62 u63 u64 u65 u66 u67 u68 u69 u70 u71 u72 u73 u74 u75 u76 u77 u78 u79 u80 u81 u82 u83 u84 u85 u86 u87 u88 u89 u90 u91 u92 u93 u94 u95 u96 u97 u98 u99 u100 u101 u102 u103 u104 u105 u106 u107 u108 u109 u110 u111 u112 u113 u114 u115 u116 u117 u118 u119 u120 u121 u122 u123 u124 u125 u126 u127 u128 u129 u130 u131 u132 : Value) (hX : ∀ a w1, RX21 w req l A c u2 u3 u10 u16 u17 u125 u126 u127 u128 u129 u130 u131 u132 a w1 → Q0 (.exit 0) a w1) :
    Code.wp Tryz.prog body21 (Exit.then J Q0) ⟨#[.slice A l.length c, .bool req, u2, u3, .pointer (some ⟨w.heap.size, 0, none⟩), u5, .pointer (some ⟨w.heap.size + 2, 0, none⟩), .bool s.beh, str s.ls, .bool s.told, u10, u11, u12, u13, u14, u15, u16, u17, .slice A l.length c, .int .i64 (l.length : Int), .int .i64 (l.length : Int), u21, u22, u23, u24, u25, u26, u27, u28, u29, u30, u31, u32, u33, u34, u35, u36, u37, u38, u39, u40, u41, u42, u43, u44, u45, u46, u47, u48, u49, u50, u51, u52, u53, u54, u55, u56, u57, u58, u59, u60, u61, u62, u63, u64, u65, u66, u67, u68, u69, u70, u71, u72, u73, u74, u75, u76, u77, u78, u79, u80, u81, u82, u83, u84, u85, u86, u87, u88, u89, u90, u91, u92, u93, u94, u95, u96, u97, u98, u99, u100, u101, u102, u103, u104, u105, u106, u107, u108, u109, u110, u111, u112, u113, u114, u115, u116, u117, u118, u119, u120, u121, u122, u123, u124, u125, u126, u127, u128, u129, u130, u131, u132], []⟩ wr := by
  conv => arg 2; whnf
  conv => arg 4; zeta
  have f1 : decide ((l.length : Int) < (l.length : Int)) = false := by simp
  go_wp2_with fail
  unfold RX21
  (repeat apply Exists.intro)
  refine ⟨?_, rfl⟩
  exact ⟨n, V, es, s, rfl, HS.out, hfo⟩

theorem HSt.ended {w wx w3 : World} {m n vc : Nat} {VA A3 : Option Addr} {c3 : Nat} {es es3 : List Ent} {s : HRS} (h : HSt w wx m n (.slice VA es.length vc) es s) (hq : (s.ls == []) = false) (hb3 : Below wx.heap.size wx w3) (hL : HL w3 (w.heap.size + 3) (.slice A3 es3.length c3) es3)
    (hA : absE es3 = hrAdd (setOff (absE es) kCLength) kCLength s.ls) (ho : ∀ g, (Value.slice A3 es3.length c3).ownBlock = some g → wx.heap.size ≤ g) :
    HSt w (w3.setCell ⟨w.heap.size + 2, 1, none⟩ (.slice A3 es3.length c3)) (m + 1) n (.slice A3 es3.length c3) es3 (hsEnd s) := by
  have he : hsEnd s = { s with hd := hrAdd (setOff s.hd kCLength) kCLength s.ls } := by unfold hsEnd; rw [hq]; rfl
  have h1 := absE_len hA
  have h4 := hrAdd_len (setOff (absE es) kCLength) kCLength s.ls
  have h5 : (setOff (absE es) kCLength).length ≤ es.length := Nat.le_trans (List.length_filter_le _ _) (by simp [absE])
  have hl := h.len
  rw [he]
  refine ((h.below hb3).weak (Nat.le_succ m)).set (s' := { s with hd := hrAdd (setOff s.hd kCLength) kCLength s.ls }) (i := 1) (u := .slice A3 es3.length c3) (by decide) rfl rfl hL (by rw [hA, h.abs]) (by omega) (fun e he => ?_) (fun g hg => by have := ho g hg; have := h.ge; omega)
  have hm : (e.key, e.items) ∈ absE es3 := List.mem_map_of_mem (f := fun e : Ent => (e.key, e.items)) he
  rw [hA] at hm
  refine hrAdd_items (m := m) (fun q hq => ?_) _ _ _ hm
  obtain ⟨e2, he2, rfl⟩ := List.mem_map.1 (List.mem_filter.1 hq).1
  exact h.items e2 he2
set_option maxHeartbeats 100000000 in
theorem tail21 (w : World) (req : Bool) (l : List (BS × BS)) (A : Option Addr) (c : Nat) (n vc : Nat) (VA : Option Addr) (es : List Ent) (s : HRS) (wr : World)
    (HS : Hid (HSt w wr l.length n (.slice VA es.length vc) es s)) (hfo : hsFold req {} l = some s) (hln : l.length ≤ 800000)
    (u2 u3 u5 u7 u9 u10 u11 u12 u13 u14 u15 u16 u17 u20 u21 u22 u23 u24 u25 u26 u27 u28 u29 u30 u31 u32 u33 u34 u35 u36 u37 u38 u39 u40 u41 u42 u43 u44 u45 u46 u47 u48 u49 u50 u51 u52 u53 u54 u55 u56 u57 u58 u59 u60 u61 u62 u63 u64 u65 u66 u67 u68 u69 u70 u71 u72 u73 u74 u75 u76 u77 u78 u79 u80 u81 u82 u83 u84 u85 u86 u87 u88 u89 u90 u91 u92 u93 u94 u95 u96 u97 u98 u99 u100 u101 u102 u103 u104 u105 u106 u107 u108 u109 u110 u111 u112 u113 u114 u115 u116 u117 u118 u119 u120 u121 u122 u123 u124 u125 u126 u127 u128 u129 u130 u131 u132 : Value) :
    Code.wp Tryz.prog (seqTail56 4 (Tryz.f21.body.getD .skip)) (bodyPost Tryz.prog Tryz.f21 (ReadPost w (l.length + 1) (hrRead req l))) ⟨#[.slice A l.length c, .bool req, u2, u3, .pointer (some ⟨w.heap.size, 0, none⟩), u5, .pointer (some ⟨w.heap.size + 2, 0, none⟩), u7, str s.ls, u9, u10, u11, u12, u13, u14, u15, u16, u17, .slice A l.length c, .int .i64 (l.length : Int), u20, u21, u22, u23, u24, u25, u26, u27, u28, u29, u30, u31, u32, u33, u34, u35, u36, u37, u38, u39, u40, u41, u42, u43, u44, u45, u46, u47, u48, u49, u50, u51, u52, u53, u54, u55, u56, u57, u58, u59, u60, u61, u62, u63, u64, u65, u66, u67, u68, u69, u70, u71, u72, u73, u74, u75, u76, u77, u78, u79, u80, u81, u82, u83, u84, u85, u86, u87, u88, u89, u90, u91, u92, u93, u94, u95, u96, u97, u98, u99, u100, u101, u102, u103, u104, u105, u106, u107, u108, u109, u110, u111, u112, u113, u114, u115, u116, u117, u118, u119, u120, u121, u122, u123, u124, u125, u126, u127, u128, u129, u130, u131, u132], []⟩ wr := by
  conv => arg 2; whnf
  conv => arg 4; zeta
  have HRD : Hid (hrRead req l = some (hsEnd s)) := Lib.hid (by unfold hrRead; rw [hfo]; rfl)
  cases hq : (s.ls == [])
  · skip
    have a1 := HS.out.cells 1 _ rfl
    have f1 := HS.out.fz 1
    have hge := HS.out.ge
    have KS := hrset_at kCLength s.ls (w.heap.size + 3) (.slice VA es.length vc) es wr HS.out.hl (by omega) (by have := HS.out.len; omega) (fun e he => by have := HS.out.items e he; omega)
    have HQ := Lib.hid hq
    go_upto_region 29 with (go_at_call 30; refine KS.mono ?_; rintro e w3 ⟨v3, es3, rfl, hL3, hA3, hb3, hown3⟩; obtain ⟨A3, c3, rfl⟩ := row_form hL3.row; have a3 := (hb3.cell (p := ⟨w.heap.size + 2, 1, none⟩) (by dsimp only; omega)).trans a1; have f3 := (hb3.frozen (p := ⟨w.heap.size + 2, 1, none⟩) (by dsimp only; omega)).trans f1; have M8 : Hid (HSt w (w3.setCell ⟨w.heap.size + 2, 1, none⟩ (.slice A3 es3.length c3)) (l.length + 1) n (.slice A3 es3.length c3) es3 (hsEnd s)) := Lib.hid (HSt.ended HS.out HQ.out hb3 hL3 hA3 hown3); clear hL3 hA3 hb3 hown3 KS)
    have M9 := M8
    clear M8
    have HLD := Lib.hid (M9.out).cells
    have HTH := Lib.hid (M9.out).there
    have HFl := Lib.hid ((M9.out).done (m' := l.length + 1) (Nat.le_refl _) (hrRead req l) (by rw [HRD.out]; intro s' h; injection h with h; exact h.symm))
    have HPC := Lib.hid (put3_cells (M9.out) (w.heap.size + 1) (.slice A3 es3.length c3) (hsEnd s).len)
    go_wp2_with (first | (refine wpList_load3 rfl rfl (w.heap.size + 2) (w.heap.size + 1) (.slice A3 es3.length c3) (hsEnd s).len rfl HLD.out ?_) | (refine wpList_store3 rfl _ rfl w.heap.size (w.heap.size + 1) (.slice A3 es3.length c3) (hsEnd s).len rfl rfl HTH.out rfl ?_))
    obtain ⟨x0, x1, x2⟩ := HPC.out
    refine ⟨rfl, _, (show _ = Result.ok (Value.tuple #[.agg (pcl (w.heap.size + 1) (.slice A3 es3.length c3) (hsEnd s).len).toArray, .bool true]) _ by simp [results, Tryz.results21, go_sem, x0, x1, x2]; rfl), ?_⟩
    have h := HFl.out
    rw [HRD.out] at h ⊢
    exact h
  · have h8 : hsEnd s = s := by unfold hsEnd; rw [hq]; rfl
    have M9 : Hid (HSt w wr l.length n (.slice VA es.length vc) es (hsEnd s)) := by rw [h8]; exact HS
    clear h8 HS
    have HLD := Lib.hid (M9.out).cells
    have HTH := Lib.hid (M9.out).there
    have HFl := Lib.hid ((M9.out).done (m' := l.length + 1) (by omega) (hrRead req l) (by rw [HRD.out]; intro s' h; injection h with h; exact h.symm))
    have HPC := Lib.hid (put3_cells (M9.out) (w.heap.size + 1) (.slice VA es.length vc) (hsEnd s).len)
    go_wp2_with (first | (refine wpList_load3 rfl rfl (w.heap.size + 2) (w.heap.size + 1) (.slice VA es.length vc) (hsEnd s).len rfl HLD.out ?_) | (refine wpList_store3 rfl _ rfl w.heap.size (w.heap.size + 1) (.slice VA es.length vc) (hsEnd s).len rfl rfl HTH.out rfl ?_))
    obtain ⟨x0, x1, x2⟩ := HPC.out
    refine ⟨rfl, _, (show _ = Result.ok (Value.tuple #[.agg (pcl (w.heap.size + 1) (.slice VA es.length vc) (hsEnd s).len).toArray, .bool true]) _ by simp [results, Tryz.results21, go_sem, x0, x1, x2]; rfl), ?_⟩
    have h := HFl.out
    rw [HRD.out] at h ⊢
    exact h
end Go.Proofs.YtgcfnhchmmkndaaGreatDoor
