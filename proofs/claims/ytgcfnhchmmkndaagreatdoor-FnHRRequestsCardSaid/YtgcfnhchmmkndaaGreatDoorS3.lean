/- spec.HRRequest: cookies. -/
import Derived.Test.YtgcfnhchmmkndaaGreatDoorS2
import Derived.Test.YtgcfnhchmmkndaaGreatDoorG5
import Derived.Test.YtgcfnhchmmkndaaGreatDoorR10
import Derived.BigQuiet
namespace Go.Proofs.YtgcfnhchmmkndaaGreatDoor
open Go.RowKit Go.Maps
set_option linter.unusedVariables false
set_option maxRecDepth 100000

/-- a store into a cell that holds a slice leaves a list of heads elsewhere as it is -/
theorem HL.aside {w : World} {base pb i : Nat} {v u : Value} {es : List Ent} (h : HL w base v es) (h1 : ∀ g, v.ownBlock = some g → g ≠ pb) {A : Option Addr} {n c : Nat} (hs : w.cell? ⟨pb, i, none⟩ = some (.slice A n c)) : HL (w.setCell ⟨pb, i, none⟩ u) base v es where
  row := h.row.kept (grown_set w pb i u) (by
    cases hv : v.ownBlock with
    | none => exact .inl rfl
    | some g => exact .inr (fun e => h1 g hv (by injection e)))
  vals := fun e he => ⟨by
    obtain ⟨A1, c1, k1, k2, k3, k4⟩ := (h.vals e he).ex
    refine ⟨A1, c1, k1, ?_, k3, k4⟩
    refine Reads.more ⟨k2.1, fun hn => ?_⟩ (grown_set w pb i u).size
    obtain ⟨ad, e1, hb, hc⟩ := k2.2 hn
    refine ⟨ad, e1, hb, fun j x hx => ?_⟩
    by_cases e2 : ad.add j = ⟨pb, i, none⟩
    · have h3 := hc j x hx
      rw [e2, hs] at h3
      have hm : x ∈ scells e.items := List.mem_of_getElem? hx
      unfold scells at hm
      obtain ⟨y, _, rfl⟩ := List.mem_map.1 hm
      cases h3
    · rw [World.cell?_setCell_other _ _ _ _ (fun h => e2 h.symm)]
      exact hc j x hx⟩
  lo := h.lo
theorem getH_bound {H : AL} {k : BS} {m : Nat} (h : ∀ q ∈ H, q.2.length ≤ m) : (getH H k).length ≤ m := by
  unfold getH
  cases hf : H.find? fun p => p.1 == k with
  | none => simp
  | some q => simpa using h q (List.mem_of_find?_eq_some hf)
/-- ahead of the cookies -/
structure CSt (w wx : World) (pb m vc : Nat) (VA : Option Addr) (es : List Ent) (s : HRS) : Prop where
  z : Z8 wx w.heap.size (str []) (str []) (str []) (str []) (str []) (.int .i64 0) (.slice none 0 0) (.slice none 0 0)
  v1 : wx.cell? ⟨pb, 1, none⟩ = some (.slice VA es.length vc)
  v2 : wx.cell? ⟨pb, 2, none⟩ = some (.int .i64 s.len)
  f1 : wx.frozen? ⟨pb, 1, none⟩ = false
  hl : HL wx (w.heap.size + 1) (.slice VA es.length vc) es
  ab : absE es = s.hd
  bel : Below w.heap.size w wx
  ge : w.heap.size + 1 ≤ pb
  lt : pb < wx.heap.size
  len : es.length ≤ m
  items : ∀ e ∈ es, e.items.length ≤ m
theorem CSt.kept {w wx : World} {pb m vc : Nat} {VA : Option Addr} {es : List Ent} {s : HRS} (h : CSt w wx pb m vc VA es s) (hc : hqHd s.hd = s.hd) : QSt w wx pb (m + 1) vc VA es s.len (hqHd s.hd) :=
  ⟨h.z, h.v1, h.v2, h.hl, by rw [hc]; exact h.ab, h.bel, by have := h.ge; have := h.lt; omega, Nat.le_succ_of_le h.len, fun e he => Nat.le_succ_of_le (h.items e he)⟩
theorem CSt.put {w wx w1 w3 : World} {pb m vc c3 : Nat} {VA A3 : Option Addr} {es es3 : List Ent} {s : HRS} {x : BS} {t : List BS} (h : CSt w wx pb m vc VA es s) (hg : getH s.hd kCookie = x :: t) (hb1 : Below wx.heap.size wx w1) (hb3 : Below w1.heap.size w1 w3) (hL : HL w3 (w.heap.size + 1) (.slice A3 es3.length c3) es3)
    (hA : absE es3 = hrAdd (setOff (absE es) kCookie) kCookie (Lib.join (x :: t) [59, 32])) (ho : ∀ g, (Value.slice A3 es3.length c3).ownBlock = some g → w1.heap.size ≤ g) :
    QSt w (w3.setCell ⟨pb, 1, none⟩ (.slice A3 es3.length c3)) pb (m + 1) c3 A3 es3 s.len (hqHd s.hd) := by
  have hb := Below.next hb1 hb1.size hb3
  have hlt := h.lt
  have hge := h.ge
  have c1 := (hb.cell (p := ⟨pb, 1, none⟩) hlt).trans h.v1
  have h1 := absE_len hA
  have h4 := hrAdd_len (setOff (absE es) kCookie) kCookie (Lib.join (x :: t) [59, 32])
  have h5 : (setOff (absE es) kCookie).length ≤ es.length := Nat.le_trans (List.length_filter_le _ _) (by simp [absE])
  have hl := h.len
  refine ⟨(h.z.below hb).other (by omega), cs_same c1, cs_other (by decide) ((hb.cell (p := ⟨pb, 2, none⟩) hlt).trans h.v2), hL.aside (fun g hg => by have := ho g hg; have := hb1.size; omega) c1, ?_, ?_, by have := hb.size; simp; omega, by omega, fun e he => ?_⟩
  · rw [hA, h.ab]; unfold hqHd; rw [hg]; rfl
  · exact (Below.next h.bel h.bel.size hb).grown (grown_set w3 pb 1 _) (by have := h.bel.size; have := hb.size; omega) (fun k hk => by injection hk with hk; omega)
  · have hm : (e.key, e.items) ∈ absE es3 := List.mem_map_of_mem (f := fun e : Ent => (e.key, e.items)) he
    rw [hA] at hm
    refine hrAdd_items (m := m) (fun q hq => ?_) _ _ _ hm
    obtain ⟨e2, he2, rfl⟩ := List.mem_map.1 (List.mem_filter.1 hq).1
    exact h.items e2 he2
theorem qend (w wc : World) (pb m vc : Nat) (VA : Option Addr) (es : List Ent) (n : Int) (H : AL) (m_ pa h_ p_ sc : BS) (HQ0 : Hid (QSt w wc pb m vc VA es n H)) (hlen : h_.length ≤ 1048576)
    (u0 u1 u3 u5 u11 u12 u13 u14 u15 u16 u17 u18 u19 u20 u21 u22 u23 u24 u25 u26 u27 u28 u29 u30 u31 u32 u33 u34 u35 u36 u37 u38 u39 u40 u41 u42 u43 u44 u45 u46 u47 u48 u49 u50 u51 u52 u53 u54 u55 u56 u57 u58 u59 u60 u61 u62 u63 u64 u65 u66 u67 u68 u69 u70 u71 u72 u73 u74 u75 u76 u77 u78 u79 u80 u81 u82 u83 u84 u85 u86 u87 u88 u89 u90 u91 u92 u93 u94 u95 u96 u97 u98 u99 u100 u101 u102 u103 u104 u105 u106 u107 u108 u109 u110 u111 u112 u113 u114 u115 u116 u117 u118 u119 u120 u121 u122 u123 u124 u125 u126 u127 u128 u129 : Value) :
    Code.wp Tryz.prog (seqTail56 6 (Tryz.f9.body.getD .skip)) (bodyPost Tryz.prog Tryz.f9 (HQPost w m (hqSel m_ pa h_ p_ sc n H))) ⟨#[u0, u1, .pointer (some ⟨w.heap.size, 0, none⟩), u3, .pointer (some ⟨pb, 0, none⟩), u5, str m_, str pa, str h_, str p_, str sc, u11, u12, u13, u14, u15, u16, u17, u18, u19, u20, u21, u22, u23, u24, u25, u26, u27, u28, u29, u30, u31, u32, u33, u34, u35, u36, u37, u38, u39, u40, u41, u42, u43, u44, u45, u46, u47, u48, u49, u50, u51, u52, u53, u54, u55, u56, u57, u58, u59, u60, u61, u62, u63, u64, u65, u66, u67, u68, u69, u70, u71, u72, u73, u74, u75, u76, u77, u78, u79, u80, u81, u82, u83, u84, u85, u86, u87, u88, u89, u90, u91, u92, u93, u94, u95, u96, u97, u98, u99, u100, u101, u102, u103, u104, u105, u106, u107, u108, u109, u110, u111, u112, u113, u114, u115, u116, u117, u118, u119, u120, u121, u122, u123, u124, u125, u126, u127, u128, u129], []⟩ wc := by
  cases f1 : (m_ == [67, 79, 78, 78, 69, 67, 84])
  · cases f6 : (m_ == [])
    · cases f4 : (pa == [])
      · cases f5 : (h_ == [])
        · cases f2 : (p_ == [])
          · exact qend5d w wc pb m vc VA es n H m_ pa h_ p_ sc HQ0 hlen f1 f6 f4 f5 f2 _ _ _ _ _ _ _ _ _ _ _ _ _ _ _ _ _ _ _ _ _ _ _ _ _ _ _ _ _ _ _ _ _ _ _ _ _ _ _ _ _ _ _ _ _ _ _ _ _ _ _ _ _ _ _ _ _ _ _ _ _ _ _ _ _ _ _ _ _ _ _ _ _ _ _ _ _ _ _ _ _ _ _ _ _ _ _ _ _ _ _ _ _ _ _ _ _ _ _ _ _ _ _ _ _ _ _ _ _ _ _ _ _ _ _ _ _ _ _ _ _ _ _
          · exact qend6 w wc pb m vc VA es n H m_ pa h_ p_ sc HQ0 hlen f1 f2 f4 f5 f6 _ _ _ _ _ _ _ _ _ _ _ _ _ _ _ _ _ _ _ _ _ _ _ _ _ _ _ _ _ _ _ _ _ _ _ _ _ _ _ _ _ _ _ _ _ _ _ _ _ _ _ _ _ _ _ _ _ _ _ _ _ _ _ _ _ _ _ _ _ _ _ _ _ _ _ _ _ _ _ _ _ _ _ _ _ _ _ _ _ _ _ _ _ _ _ _ _ _ _ _ _ _ _ _ _ _ _ _ _ _ _ _ _ _ _ _ _ _ _ _ _ _ _
        · exact qend5c w wc pb m vc VA es n H m_ pa h_ p_ sc HQ0 hlen f1 f6 f4 f5 _ _ _ _ _ _ _ _ _ _ _ _ _ _ _ _ _ _ _ _ _ _ _ _ _ _ _ _ _ _ _ _ _ _ _ _ _ _ _ _ _ _ _ _ _ _ _ _ _ _ _ _ _ _ _ _ _ _ _ _ _ _ _ _ _ _ _ _ _ _ _ _ _ _ _ _ _ _ _ _ _ _ _ _ _ _ _ _ _ _ _ _ _ _ _ _ _ _ _ _ _ _ _ _ _ _ _ _ _ _ _ _ _ _ _ _ _ _ _ _ _ _ _
      · exact qend5b w wc pb m vc VA es n H m_ pa h_ p_ sc HQ0 hlen f1 f6 f4 _ _ _ _ _ _ _ _ _ _ _ _ _ _ _ _ _ _ _ _ _ _ _ _ _ _ _ _ _ _ _ _ _ _ _ _ _ _ _ _ _ _ _ _ _ _ _ _ _ _ _ _ _ _ _ _ _ _ _ _ _ _ _ _ _ _ _ _ _ _ _ _ _ _ _ _ _ _ _ _ _ _ _ _ _ _ _ _ _ _ _ _ _ _ _ _ _ _ _ _ _ _ _ _ _ _ _ _ _ _ _ _ _ _ _ _ _ _ _ _ _ _ _
    · exact qend5a w wc pb m vc VA es n H m_ pa h_ p_ sc HQ0 hlen f1 f6 _ _ _ _ _ _ _ _ _ _ _ _ _ _ _ _ _ _ _ _ _ _ _ _ _ _ _ _ _ _ _ _ _ _ _ _ _ _ _ _ _ _ _ _ _ _ _ _ _ _ _ _ _ _ _ _ _ _ _ _ _ _ _ _ _ _ _ _ _ _ _ _ _ _ _ _ _ _ _ _ _ _ _ _ _ _ _ _ _ _ _ _ _ _ _ _ _ _ _ _ _ _ _ _ _ _ _ _ _ _ _ _ _ _ _ _ _ _ _ _ _ _ _
  · cases f2 : (p_ == [])
    · cases f3 : (sc == [])
      · cases f4 : (pa == [])
        · cases f5 : (h_ == [])
          · exact qend2 w wc pb m vc VA es n H m_ pa h_ p_ sc HQ0 hlen f1 f2 f3 f4 f5 _ _ _ _ _ _ _ _ _ _ _ _ _ _ _ _ _ _ _ _ _ _ _ _ _ _ _ _ _ _ _ _ _ _ _ _ _ _ _ _ _ _ _ _ _ _ _ _ _ _ _ _ _ _ _ _ _ _ _ _ _ _ _ _ _ _ _ _ _ _ _ _ _ _ _ _ _ _ _ _ _ _ _ _ _ _ _ _ _ _ _ _ _ _ _ _ _ _ _ _ _ _ _ _ _ _ _ _ _ _ _ _ _ _ _ _ _ _ _ _ _ _ _
          · exact qend1c w wc pb m vc VA es n H m_ pa h_ p_ sc HQ0 hlen f1 f2 f3 f4 f5 _ _ _ _ _ _ _ _ _ _ _ _ _ _ _ _ _ _ _ _ _ _ _ _ _ _ _ _ _ _ _ _ _ _ _ _ _ _ _ _ _ _ _ _ _ _ _ _ _ _ _ _ _ _ _ _ _ _ _ _ _ _ _ _ _ _ _ _ _ _ _ _ _ _ _ _ _ _ _ _ _ _ _ _ _ _ _ _ _ _ _ _ _ _ _ _ _ _ _ _ _ _ _ _ _ _ _ _ _ _ _ _ _ _ _ _ _ _ _ _ _ _ _
        · exact qend1b w wc pb m vc VA es n H m_ pa h_ p_ sc HQ0 hlen f1 f2 f3 f4 _ _ _ _ _ _ _ _ _ _ _ _ _ _ _ _ _ _ _ _ _ _ _ _ _ _ _ _ _ _ _ _ _ _ _ _ _ _ _ _ _ _ _ _ _ _ _ _ _ _ _ _ _ _ _ _ _ _ _ _ _ _ _ _ _ _ _ _ _ _ _ _ _ _ _ _ _ _ _ _ _ _ _ _ _ _ _ _ _ _ _ _ _ _ _ _ _ _ _ _ _ _ _ _ _ _ _ _ _ _ _ _ _ _ _ _ _ _ _ _ _ _ _
      · exact qend1a w wc pb m vc VA es n H m_ pa h_ p_ sc HQ0 hlen f1 f2 f3 _ _ _ _ _ _ _ _ _ _ _ _ _ _ _ _ _ _ _ _ _ _ _ _ _ _ _ _ _ _ _ _ _ _ _ _ _ _ _ _ _ _ _ _ _ _ _ _ _ _ _ _ _ _ _ _ _ _ _ _ _ _ _ _ _ _ _ _ _ _ _ _ _ _ _ _ _ _ _ _ _ _ _ _ _ _ _ _ _ _ _ _ _ _ _ _ _ _ _ _ _ _ _ _ _ _ _ _ _ _ _ _ _ _ _ _ _ _ _ _ _ _ _
    · cases f4 : (pa == [])
      · exact qend3a w wc pb m vc VA es n H m_ pa h_ p_ sc HQ0 hlen f1 f2 f4 _ _ _ _ _ _ _ _ _ _ _ _ _ _ _ _ _ _ _ _ _ _ _ _ _ _ _ _ _ _ _ _ _ _ _ _ _ _ _ _ _ _ _ _ _ _ _ _ _ _ _ _ _ _ _ _ _ _ _ _ _ _ _ _ _ _ _ _ _ _ _ _ _ _ _ _ _ _ _ _ _ _ _ _ _ _ _ _ _ _ _ _ _ _ _ _ _ _ _ _ _ _ _ _ _ _ _ _ _ _ _ _ _ _ _ _ _ _ _ _ _ _ _
      · cases f3 : (sc == [])
        · exact qend3b w wc pb m vc VA es n H m_ pa h_ p_ sc HQ0 hlen f1 f2 f4 f3 _ _ _ _ _ _ _ _ _ _ _ _ _ _ _ _ _ _ _ _ _ _ _ _ _ _ _ _ _ _ _ _ _ _ _ _ _ _ _ _ _ _ _ _ _ _ _ _ _ _ _ _ _ _ _ _ _ _ _ _ _ _ _ _ _ _ _ _ _ _ _ _ _ _ _ _ _ _ _ _ _ _ _ _ _ _ _ _ _ _ _ _ _ _ _ _ _ _ _ _ _ _ _ _ _ _ _ _ _ _ _ _ _ _ _ _ _ _ _ _ _ _ _
        · cases f5 : (h_ == [])
          · exact qend4 w wc pb m vc VA es n H m_ pa h_ p_ sc HQ0 hlen f1 f2 f4 f3 f5 _ _ _ _ _ _ _ _ _ _ _ _ _ _ _ _ _ _ _ _ _ _ _ _ _ _ _ _ _ _ _ _ _ _ _ _ _ _ _ _ _ _ _ _ _ _ _ _ _ _ _ _ _ _ _ _ _ _ _ _ _ _ _ _ _ _ _ _ _ _ _ _ _ _ _ _ _ _ _ _ _ _ _ _ _ _ _ _ _ _ _ _ _ _ _ _ _ _ _ _ _ _ _ _ _ _ _ _ _ _ _ _ _ _ _ _ _ _ _ _ _ _ _
          · exact qend3c w wc pb m vc VA es n H m_ pa h_ p_ sc HQ0 hlen f1 f2 f4 f3 f5 _ _ _ _ _ _ _ _ _ _ _ _ _ _ _ _ _ _ _ _ _ _ _ _ _ _ _ _ _ _ _ _ _ _ _ _ _ _ _ _ _ _ _ _ _ _ _ _ _ _ _ _ _ _ _ _ _ _ _ _ _ _ _ _ _ _ _ _ _ _ _ _ _ _ _ _ _ _ _ _ _ _ _ _ _ _ _ _ _ _ _ _ _ _ _ _ _ _ _ _ _ _ _ _ _ _ _ _ _ _ _ _ _ _ _ _ _ _ _ _ _ _ _
set_option maxHeartbeats 100000000 in
theorem cook9 (w wc : World) (pb m vc : Nat) (VA : Option Addr) (es : List Ent) (s : HRS) (m_ pa h_ p_ sc : BS) (HC : Hid (CSt w wc pb m vc VA es s)) (hm : m ≤ 800000) (hlen : h_.length ≤ 1048576) (hjoin : (Lib.join (getH s.hd kCookie) [59, 32]).length ≤ 2147483648)
    (u0 u1 u3 u5 u11 u12 u13 u14 u15 u16 u17 u18 u19 u20 u21 u22 u23 u24 u25 u26 u27 u28 u29 u30 u31 u32 u33 u34 u35 u36 u37 u38 u39 u40 u41 u42 u43 u44 u45 u46 u47 u48 u49 u50 u51 u52 u53 u54 u55 u56 u57 u58 u59 u60 u61 u62 u63 u64 u65 u66 u67 u68 u69 u70 u71 u72 u73 u74 u75 u76 u77 u78 u79 u80 u81 u82 u83 u84 u85 u86 u87 u88 u89 u90 u91 u92 u93 u94 u95 u96 u97 u98 u99 u100 u101 u102 u103 u104 u105 u106 u107 u108 u109 u110 u111 u112 u113 u114 u115 u116 u117 u118 u119 u120 u121 u122 u123 u124 u125 u126 u127 u128 u129 : Value) :
    Code.wp Tryz.prog (seqTail56 5 (Tryz.f9.body.getD .skip)) (bodyPost Tryz.prog Tryz.f9 (HQPost w (m + 1) (hqSel m_ pa h_ p_ sc s.len (hqHd s.hd)))) ⟨#[u0, u1, .pointer (some ⟨w.heap.size, 0, none⟩), u3, .pointer (some ⟨pb, 0, none⟩), u5, str m_, str pa, str h_, str p_, str sc, u11, u12, u13, u14, u15, u16, u17, u18, u19, u20, u21, u22, u23, u24, u25, u26, u27, u28, u29, u30, u31, u32, u33, u34, u35, u36, u37, u38, u39, u40, u41, u42, u43, u44, u45, u46, u47, u48, u49, u50, u51, u52, u53, u54, u55, u56, u57, u58, u59, u60, u61, u62, u63, u64, u65, u66, u67, u68, u69, u70, u71, u72, u73, u74, u75, u76, u77, u78, u79, u80, u81, u82, u83, u84, u85, u86, u87, u88, u89, u90, u91, u92, u93, u94, u95, u96, u97, u98, u99, u100, u101, u102, u103, u104, u105, u106, u107, u108, u109, u110, u111, u112, u113, u114, u115, u116, u117, u118, u119, u120, u121, u122, u123, u124, u125, u126, u127, u128, u129], []⟩ wc := by
  conv => arg 2; whnf
  conv => arg 4; zeta
  have e1 := HC.out.v1
  have KG := hrget_at kCookie (w.heap.size + 1) (.slice VA es.length vc) es wc HC.out.hl (by have := HC.out.len; omega)
  rw [HC.out.ab] at KG
  obtain ⟨its, hits⟩ : ∃ x, getH s.hd kCookie = x := ⟨_, rfl⟩
  rw [hits] at KG
  have HG := Lib.hid hits
  clear hits
  go_upto_region 6 with fail
  rename_i K0 hK0 K1 hK1
  go_upto_if 44 with (go_at_call 29; refine KG.mono ?_; rintro e w1 ⟨A1, c1, rfl, hrd, hcap, hb1⟩; have HB1 := Lib.hid hb1; have HRD := Lib.hid hrd; clear hb1 hrd KG)
  go_cut [11] (fun s11 wx => ∃ VA' es' vc', QSt w wx pb (m + 1) vc' VA' es' s.len (hqHd s.hd))
  case first =>
    cases its with
    | nil =>
      have hq : Hid (hqHd s.hd = s.hd) := Lib.hid (by unfold hqHd; rw [HG.out]; rfl)
      go_wp2_with fail
      go_meet
      exact ⟨VA, es, vc, (CSt.kept ⟨HC.out.z.below HB1.out, (HB1.out.cell (p := ⟨pb, 1, none⟩) HC.out.lt).trans HC.out.v1, (HB1.out.cell (p := ⟨pb, 2, none⟩) HC.out.lt).trans HC.out.v2, (HB1.out.frozen (p := ⟨pb, 1, none⟩) HC.out.lt).trans HC.out.f1, HC.out.hl.below HB1.out, HC.out.ab, Below.next HC.out.bel HC.out.bel.size HB1.out, HC.out.ge, Nat.lt_of_lt_of_le HC.out.lt HB1.out.size, HC.out.len, HC.out.items⟩ hq.out)⟩
    | cons x t =>
      obtain ⟨bk, o, rfl, hbk, _, g1⟩ := reads_strs HRD.out (by simp)
      have htl : t.length ≤ 800000 := by
        have h := getH_bound (H := s.hd) (k := kCookie) (m := m) (fun q hq => by
          rw [← HC.out.ab] at hq
          obtain ⟨e2, he2, rfl⟩ := List.mem_map.1 hq
          exact HC.out.items e2 he2)
        rw [HG.out] at h
        simp at h
        omega
      have hpos : (0 : Int) < ((x :: t).length : Int) := by simp
      have a0 := g1 0 (by simp)
      rw [Nat.add_zero] at a0
      have ht1 : (1 : Int) ≤ ((x :: t).length : Int) := by simp; omega
      have hcI : ((x :: t).length : Int) ≤ (c1 : Int) := by omega
      have G1 : Hid (∀ k, (hk : k < t.length) → w1.cell? ⟨bk, o + 1 + k, none⟩ = some (str t[k])) := Lib.hid (fun k hk => by
        have h := g1 (k + 1) (by simp; omega)
        rwa [show o + (k + 1) = o + 1 + k by omega] at h)
      clear g1
      obtain ⟨JN, hJN⟩ : ∃ J, Lib.join (x :: t) [59, 32] = J := ⟨_, rfl⟩
      have KS := hrset_at kCookie JN (w.heap.size + 1) (.slice VA es.length vc) es w1 (HC.out.hl.below HB1.out) (by have := HC.out.ge; have := HC.out.lt; have := HB1.out.size; omega) (by have := HC.out.len; omega) (fun e he => by have := HC.out.items e he; omega)
      have HJN := Lib.hid hJN
      clear hJN
      have c1' := (HB1.out.cell (p := ⟨pb, 1, none⟩) HC.out.lt).trans e1
      have f1' := (HB1.out.frozen (p := ⟨pb, 1, none⟩) HC.out.lt).trans HC.out.f1
      have hlt1 := Nat.lt_of_lt_of_le HC.out.lt HB1.out.size
      rcases Nat.eq_zero_or_pos t.length with ht0 | htp
      · obtain rfl := List.eq_nil_of_length_eq_zero ht0
        have hj : x = JN := by rw [← HJN.out, Lib.join_one]
        have HX := Lib.hid hj
        clear hj ht0 G1
        go_wp2_with fail
        all_goals
          refine wp_loop_rounds 1 ?_
          rw [rounds_succ, HX.out]
          go_wp2_with (go_at_call 30; refine KS.mono ?_; rintro e w3 ⟨v3, es3, rfl, hL3, hA3, hb3, hown3⟩; obtain ⟨A3, c3, rfl⟩ := row_form hL3.row; have a3 := (hb3.cell (p := ⟨pb, 1, none⟩) hlt1).trans c1'; have f3 := (hb3.frozen (p := ⟨pb, 1, none⟩) hlt1).trans f1')
          go_meet
          exact ⟨A3, es3, c3, CSt.put HC.out HG.out HB1.out hb3 hL3 (by rw [HJN.out]; exact hA3) hown3⟩
      · have hc1 : ¬ c1 = 1 := fun h => by simp at hcap; omega
        go_wp2_with fail
        go_loopw [12, 51] (fun s12 s51 wx => ∃ i : Nat, i ≤ t.length ∧ s51 = .int .i64 (i : Int) ∧ s12 = str (x ++ Lib.joinTail [59, 32] (t.take i)) ∧ wx = w1) (fun _ s51 _ => t.length - (intOf s51).toNat)
        case atStart => exact ⟨0, by omega, rfl, by simp [Lib.joinTail], rfl⟩
        case round =>
          obtain ⟨i, hi, rfl, rfl, rfl⟩ := hrel
          rcases Nat.lt_or_ge i t.length with hil | hil
          · have y0 := G1.out i hil
            obtain ⟨y, hy⟩ : ∃ y, t[i] = y := ⟨_, rfl⟩
            rw [hy] at y0
            obtain ⟨al, hal⟩ : ∃ al, x ++ Lib.joinTail [59, 32] (t.take i) = al := ⟨_, rfl⟩
            obtain ⟨z, hz⟩ : ∃ z, [59, 32] ++ y = z := ⟨_, rfl⟩
            obtain ⟨z2, hz2⟩ : ∃ z2, al ++ z = z2 := ⟨_, rfl⟩
            have q1 : ({ data := #[59, 32] } : ByteArray) ++ { data := y.toArray } = { data := z.toArray } := by rw [← hz]; exact ba_app [59, 32] y
            have q2 : ({ data := al.toArray } : ByteArray) ++ { data := z.toArray } = { data := z2.toArray } := by rw [← hz2]; exact ba_app al z
            have HZ : Hid (x ++ Lib.joinTail [59, 32] (t.take (i + 1)) = z2) := Lib.hid (by rw [Lib.joinTail_take_succ [59, 32] t i y (by rw [List.getElem?_eq_getElem hil, hy]), ← hz2, ← hal, ← hz]; simp only [List.append_assoc])
            have f9 : al.length + z.length ≤ 2147483648 := by
              have h1 := hjoin
              rw [HG.out, Lib.join_cons, List.length_append] at h1
              have h2 := Lib.joinTail_take_le [59, 32] t (i + 1)
              have h3 : (x ++ Lib.joinTail [59, 32] (t.take (i + 1))).length = al.length + z.length := by rw [HZ.out, ← hz2, List.length_append]
              rw [List.length_append] at h3
              omega
            have f8 : 2 + y.length ≤ 2147483648 := by
              have h4 : z.length = 2 + y.length := by rw [← hz, List.length_append]; rfl
              omega
            rw [hal]
            clear hz hz2 hal hy
            go_wp2_with fail
            all_goals first
              | exact ⟨⟨i + 1, hil, by go_num, by rw [HZ.out], by first | rfl | trivial⟩, by simp [intOf]; omega⟩
              | (exfalso; omega)
          · have e : i = t.length := by omega
            subst e
            have hj : x ++ Lib.joinTail [59, 32] (t.take t.length) = JN := by rw [List.take_length, ← Lib.join_cons]; exact HJN.out
            rw [hj]
            clear hj
            have f0 : decide ((t.length : Int) < (t.length : Int)) = false := by simp
            go_wp2_with (go_at_call 30; refine KS.mono ?_; rintro e w3 ⟨v3, es3, rfl, hL3, hA3, hb3, hown3⟩; obtain ⟨A3, c3, rfl⟩ := row_form hL3.row; have a3 := (hb3.cell (p := ⟨pb, 1, none⟩) hlt1).trans c1'; have f3 := (hb3.frozen (p := ⟨pb, 1, none⟩) hlt1).trans f1')
            go_meet
            exact ⟨A3, es3, c3, CSt.put HC.out HG.out HB1.out hb3 hL3 (by rw [HJN.out]; exact hA3) hown3⟩
  case rest =>
    obtain ⟨VA', es', vc', hQ⟩ := hcut
    refine hK0 _ _ ?_
    exact qend w _ pb (m + 1) vc' VA' es' s.len (hqHd s.hd) m_ pa h_ p_ sc (Lib.hid hQ) hlen _ _ _ _ _ _ _ _ _ _ _ _ _ _ _ _ _ _ _ _ _ _ _ _ _ _ _ _ _ _ _ _ _ _ _ _ _ _ _ _ _ _ _ _ _ _ _ _ _ _ _ _ _ _ _ _ _ _ _ _ _ _ _ _ _ _ _ _ _ _ _ _ _ _ _ _ _ _ _ _ _ _ _ _ _ _ _ _ _ _ _ _ _ _ _ _ _ _ _ _ _ _ _ _ _ _ _ _ _ _ _ _ _ _ _ _ _ _ _ _ _ _ _

theorem HL.drew {w : World} {base : Nat} {v : Value} {es : List Ent} (h : HL w base v es) : HL w.drew base v es :=
  ⟨h.row, fun e he => ⟨by obtain ⟨A, c, h1, h2, h3, h4⟩ := (h.vals e he).ex; exact ⟨A, c, h1, h2, h3, h4⟩⟩, h.lo⟩
theorem HL.drewN {w : World} {base : Nat} {v : Value} {es : List Ent} (h : HL w base v es) (k : Nat) : HL (w.drewN k) base v es :=
  ⟨h.row, fun e he => ⟨by obtain ⟨A, c, h1, h2, h3, h4⟩ := (h.vals e he).ex; exact ⟨A, c, h1, h2, h3, h4⟩⟩, h.lo⟩
theorem CSt.drewN {w wx : World} {pb m vc : Nat} {VA : Option Addr} {es : List Ent} {s : HRS} (h : CSt w wx pb m vc VA es s) (k : Nat) : CSt w (wx.drewN k) pb m vc VA es s :=
  ⟨⟨⟨h.z.1.1, h.z.1.2.1, h.z.1.2.2.1, h.z.1.2.2.2.1, h.z.1.2.2.2.2.1, h.z.1.2.2.2.2.2.1, h.z.1.2.2.2.2.2.2.1, h.z.1.2.2.2.2.2.2.2⟩, h.z.2⟩, h.v1, h.v2, h.f1, h.hl.drewN k, h.ab, ⟨h.bel.os, h.bel.tape, h.bel.output, h.bel.size, h.bel.block⟩, h.ge, h.lt, h.len, h.items⟩
theorem PMap.drewN {w : World} {b n : Nat} {m : List (BS × BS)} (h : PMap w b n m) (k : Nat) : PMap (w.drewN k) b n m := by
  obtain ⟨D, h1, h2⟩ := h.own
  exact ⟨D, h1, h2⟩
set_option maxHeartbeats 100000000 in
theorem hrreq_at (l : List (BS × BS)) (A : Option Addr) (c : Nat) (w : World) (hR : Reads w w.heap.size 2 A l.length (fc l)) (hc : l.length ≤ c) (hln : l.length ≤ 700000) (hB : ∀ q ∈ l, q.1.length ≤ 1048576 ∧ q.2.length ≤ 1048576)
    (hs : ∀ s, hrRead true l = some s → (getP s.pm kAuth).length ≤ 1048576 ∧ (Lib.join (getH s.hd kCookie) [59, 32]).length ≤ 2147483648) :
    Calls Tryz.prog 9 #[.slice A l.length c] w (HQPost w (l.length + 2) ((hrRead true l).bind hqOf)) := by
  have hb0 := below_new w zero31
  have KR := read_at true l A c (w.alloc zero31) ((hR.alloc (Nat.le_refl _) _).more hb0.size) hc (by omega) hB
  have Z0 := Lib.hid (Z8.new w (str []) (str []) (str []) (str []) (str []) (.int .i64 0) (.slice none 0 0) (.slice none 0 0) 31)
  have HB0 := Lib.hid hb0
  have HSS := Lib.hid hs
  obtain ⟨r, hr⟩ : ∃ r, hrRead true l = r := ⟨_, rfl⟩
  rw [hr] at KR ⊢
  have HR0 := Lib.hid hr
  clear hR hb0 hs hr
  go_enter Tryz.func9, Tryz.ntmps9
  go_wp2_with fail
  refine KR.mono ?_
  rintro e w2 ⟨n, V, es, s, rfl, hb2, hP, hL, ha, hn, hel, hei, hown, hz2, hrs⟩
  obtain ⟨VA, vc, rfl⟩ := row_form hL.row
  have hsz : (w.alloc zero31).heap.size = w.heap.size + 1 := by simp
  rw [hsz] at hP hL hown hz2
  have HB2 := Lib.hid (Below.next HB0.out HB0.out.size hb2)
  have Z2 := Lib.hid (Z0.out.below hb2)
  have hpcl : pcl ((w.alloc zero31).heap.size + 1) (.slice VA es.length vc) s.len = [.map (some (w.heap.size + 1 + 1)), .slice VA es.length vc, .int .i64 s.len] := by rw [hsz]; rfl
  rw [hpcl]
  clear hpcl hb2 KR
  cases r with
  | none =>
    have b1 := below_new w2 (.cells #[.map (some (w.heap.size + 1 + 1)), .slice VA es.length vc, .int .i64 s.len] 53)
    have hZ := Z2.out.below b1
    have HTH := Lib.hid (Z8.there hZ)
    have HXX := Lib.hid (ZQ.put hZ ⟨[], [], [], [], [], 0, []⟩ (.slice none 0 0))
    have HBF := Lib.hid ((Below.next HB2.out HB2.out.size b1).grown (putq_grown _ w.heap.size ⟨[], [], [], [], [], 0, []⟩ (.slice none 0 0)) (Below.next HB2.out HB2.out.size b1).size (fun k hk => by injection hk with hk; omega))
    clear hZ b1 hP hL ha hei hown hrs
    go_wp2_with (refine wpList_store31 rfl _ rfl w.heap.size (hqL ⟨[], [], [], [], [], 0, []⟩ (.slice none 0 0)) rfl rfl rfl HTH.out (hqL_one _ _ _ _) ?_)
    obtain ⟨⟨x0, x1, x2, x3, x4, x5, x6, x7⟩, xf⟩ := HXX.out
    exact ⟨rfl, _, (show _ = Result.ok (Value.tuple #[.agg (hqL ⟨[], [], [], [], [], 0, []⟩ (.slice none 0 0)).toArray, .bool false]) _ by simp [results, Tryz.results9, go_sem, x0, x1, x2, x3, x4, x5, x6, x7]; rfl), _, rfl, HBF.out, ⟨_, none, 0, 0, rfl⟩, fun q hq => by cases hq⟩
  | some s0 =>
    obtain rfl : s0 = s := hrs s0 rfl
    have hbp := below_new w2 (.cells #[.map (some (w.heap.size + 1 + 1)), .slice VA es.length vc, .int .i64 s0.len] 53)
    have HP := Lib.hid (hP.below hbp)
    have HC : Hid (CSt w (w2.alloc (.cells #[.map (some (w.heap.size + 1 + 1)), .slice VA es.length vc, .int .i64 s0.len] 53)) w2.heap.size (l.length + 1) vc VA es s0) := Lib.hid
      ⟨Z2.out.below hbp, by simp, by simp, World.frozen?_alloc_at _ _ _ _ rfl, (hL.below hbp).base (by omega), ha, Below.next HB2.out HB2.out.size hbp, by omega, by simp, hel, hei⟩
    have k1 := fun n => (HP.out.drewN n).look kMethod (by simp)
    have k2 := fun n => (HP.out.drewN n).look kPath (by simp)
    have k3 := fun n => (HP.out.drewN n).look kAuth (by simp)
    have k4 := fun n => (HP.out.drewN n).look kProto (by simp)
    have k5 := fun n => (HP.out.drewN n).look kScheme (by simp)
    have q0 : (w2.alloc (.cells #[.map (some (w.heap.size + 1 + 1)), .slice VA es.length vc, .int .i64 s0.len] 53)).cell? ⟨w2.heap.size, 0, none⟩ = some (.map (some (w.heap.size + 1 + 1))) := by simp
    obtain ⟨h1, h2⟩ := HSS.out s0 HR0.out
    clear hP hL ha hei hown hrs hbp
    go_upto_region 4 with fail
    go_quiet (fail)
    have k5' := k5 nq
    have HC2 := Lib.hid (HC.out.drewN nq)
    have q1 := HC.out.v1
    clear k1 k2 k3 k4 k5
    go_upto_region 5 with fail
    rename_i K0 hK0
    go_cut [10] (fun s10 wx => s10 = str (getP s0.pm kScheme) ∧ wx = (w2.alloc (.cells #[.map (some (w.heap.size + 1 + 1)), .slice VA es.length vc, .int .i64 s0.len] 53)).drewN nq)
    case first =>
      go_wp2_with fail
      go_meet
      exact ⟨rfl, rfl⟩
    case rest =>
      obtain ⟨rfl, rfl⟩ := hcut
      refine hK0 _ _ ?_
      exact cook9 w _ w2.heap.size (l.length + 1) vc VA es s0 _ _ _ _ _ HC2 (by omega) h1 h2 _ _ _ _ _ _ _ _ _ _ _ _ _ _ _ _ _ _ _ _ _ _ _ _ _ _ _ _ _ _ _ _ _ _ _ _ _ _ _ _ _ _ _ _ _ _ _ _ _ _ _ _ _ _ _ _ _ _ _ _ _ _ _ _ _ _ _ _ _ _ _ _ _ _ _ _ _ _ _ _ _ _ _ _ _ _ _ _ _ _ _ _ _ _ _ _ _ _ _ _ _ _ _ _ _ _ _ _ _ _ _ _ _ _ _ _ _ _ _ _ _ _ _
end Go.Proofs.YtgcfnhchmmkndaaGreatDoor
