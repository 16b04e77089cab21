/- spec.HRRead: one round of its loop. -/
import Derived.Test.YtgcfnhchmmkndaaGreatDoorR1
import Derived.Test.YtgcfnhchmmkndaaGreatDoorR4
import Derived.Test.YtgcfnhchmmkndaaGreatDoorR7
namespace Go.Proofs.YtgcfnhchmmkndaaGreatDoor
open Go.RowKit Go.Maps
set_option linter.unusedVariables false
set_option maxRecDepth 100000

set_option maxHeartbeats 100000000 in
theorem round21 (J : Act → World → Prop) (Q0 : Exit → Act → World → Prop) (w : World) (req : Bool) (l : List (BS × BS)) (A : Option Addr) (c : Nat) (k n : Nat) (V : Value) (es : List Ent) (s : HRS) (wr : World)
    (HRd : Hid (Reads w w.heap.size 2 A l.length (fc l))) (hc : l.length ≤ c) (hln : l.length ≤ 800000) (HB : Hid (∀ q ∈ l, q.1.length ≤ 1048576 ∧ q.2.length ≤ 1048576)) (hk : k ≤ l.length) (hS : HSt w wr k n V es s) (hfold : hsFold req {} l = hsFold req s (l.drop k))
    (u2 u3 u5 u10 u11 u12 u13 u14 u15 u16 u17 u21 u22 u23 u24 u25 u26 u27 u28 u29 u30 u31 u32 u33 u34 u35 u36 u37 u38 u39 u40 u41 u42 u43 u44 u45 u46 u47 u48 u49 u50 u51 u52 u53 u54 u55 u56 u57 u58 u59 u60 u61 u62 u63 u64 u65 u66 u67 u68 u69 u70 u71 u72 u73 u74 u75 u76 u77 u78 u79 u80 u81 u82 u83 u84 u85 u86 u87 u88 u89 u90 u91 u92 u93 u94 u95 u96 u97 u98 u99 u100 u101 u102 u103 u104 u105 u106 u107 u108 u109 u110 u111 u112 u113 u114 u115 u116 u117 u118 u119 u120 u121 u122 u123 u124 u125 u126 u127 u128 u129 u130 u131 u132 : Value) (hJ : k < l.length → ∀ a w1, RN21 w req l A c k u2 u3 u10 u16 u17 u125 u126 u127 u128 u129 u130 u131 u132 a w1 → J a w1) (hX : ∀ a w1, RX21 w req l A c u2 u3 u10 u16 u17 u125 u126 u127 u128 u129 u130 u131 u132 a w1 → Q0 (.exit 0) a w1) (hR : ∀ a w1, bodyPost Tryz.prog Tryz.f21 (ReadPost w (l.length + 1) (hrRead req l)) .ret a w1 → Q0 .ret a w1) :
    Code.wp Tryz.prog body21 (Exit.then J Q0) ⟨#[.slice A l.length c, .bool req, u2, u3, .pointer (some ⟨w.heap.size, 0, none⟩), u5, .pointer (some ⟨w.heap.size + 2, 0, none⟩), .bool s.beh, str s.ls, .bool s.told, u10, u11, u12, u13, u14, u15, u16, u17, .slice A l.length c, .int .i64 (l.length : Int), .int .i64 (k : Int), u21, u22, u23, u24, u25, u26, u27, u28, u29, u30, u31, u32, u33, u34, u35, u36, u37, u38, u39, u40, u41, u42, u43, u44, u45, u46, u47, u48, u49, u50, u51, u52, u53, u54, u55, u56, u57, u58, u59, u60, u61, u62, u63, u64, u65, u66, u67, u68, u69, u70, u71, u72, u73, u74, u75, u76, u77, u78, u79, u80, u81, u82, u83, u84, u85, u86, u87, u88, u89, u90, u91, u92, u93, u94, u95, u96, u97, u98, u99, u100, u101, u102, u103, u104, u105, u106, u107, u108, u109, u110, u111, u112, u113, u114, u115, u116, u117, u118, u119, u120, u121, u122, u123, u124, u125, u126, u127, u128, u129, u130, u131, u132], []⟩ wr := by
  obtain ⟨VA, vc, rfl⟩ := row_form hS.hl.row
  rcases Nat.lt_or_ge k l.length with hkl | hkl
  · have hJ := hJ hkl
    obtain ⟨b, o, hA, hb, hcl⟩ := reads_fields (HRd.out.below hS.bel) (by omega)
    obtain ⟨e0, e1⟩ := hcl k hkl
    obtain ⟨⟨nm, vl⟩, hpq⟩ : ∃ pq, l[k] = pq := ⟨_, rfl⟩
    have hmem : (nm, vl) ∈ l := hpq ▸ List.getElem_mem hkl
    have hdr : l.drop k = (nm, vl) :: l.drop (k + 1) := by rw [List.drop_eq_getElem_cons hkl, hpq]
    rw [hpq] at e0 e1
    have X0 := Lib.hid (show wr.cell? ⟨b, o + k * 2, none⟩ = some (str nm) from e0)
    have X1 := Lib.hid (show wr.cell? ⟨b, o + k * 2 + 1, none⟩ = some (str vl) from e1)
    obtain ⟨hn1, hv1⟩ := HB.out _ hmem
    have hst : hsFold req {} l = (hsStep req s (nm, vl)).bind fun s' => hsFold req s' (l.drop (k + 1)) := by rw [hfold, hdr]; rfl
    have NONE : hsStep req s (nm, vl) = none → Hid (hrRead req l = none) := fun h => Lib.hid (hr_fold_none (by rw [hst, h]; rfl))
    have SOME : ∀ s', hsStep req s (nm, vl) = some s' → Hid (hsFold req {} l = hsFold req s' (l.drop (k + 1))) := fun s' h => Lib.hid (by rw [hst, h]; rfl)
    have HS := Lib.hid hS
    clear hcl e0 e1 hpq hdr hfold hS
    cases hf1 : lowOk nm
    · exact bad21a J Q0 w req l A c b o hA k n vc VA es s wr nm vl HS hb hln hkl hc X0 X1 hn1 hv1 hf1 (NONE (by unfold hsStep; simp only [hf1, Bool.not_false, Bool.true_or, if_true])) _ _ _ _ _ _ _ _ _ _ _ _ _ _ _ _ _ _ _ _ _ _ _ _ _ _ _ _ _ _ _ _ _ _ _ _ _ _ _ _ _ _ _ _ _ _ _ _ _ _ _ _ _ _ _ _ _ _ _ _ _ _ _ _ _ _ _ _ _ _ _ _ _ _ _ _ _ _ _ _ _ _ _ _ _ _ _ _ _ _ _ _ _ _ _ _ _ _ _ _ _ _ _ _ _ _ _ _ _ _ _ _ _ _ _ _ _ _ _ _ _ _ _ hJ hR
    · cases hf2 : valOk vl
      · exact bad21b J Q0 w req l A c b o hA k n vc VA es s wr nm vl HS hb hln hkl hc X0 X1 hn1 hv1 hf1 hf2 (NONE (by unfold hsStep; simp only [hf1, hf2, Bool.not_false, Bool.not_true, Bool.false_or, Bool.true_or, if_true])) _ _ _ _ _ _ _ _ _ _ _ _ _ _ _ _ _ _ _ _ _ _ _ _ _ _ _ _ _ _ _ _ _ _ _ _ _ _ _ _ _ _ _ _ _ _ _ _ _ _ _ _ _ _ _ _ _ _ _ _ _ _ _ _ _ _ _ _ _ _ _ _ _ _ _ _ _ _ _ _ _ _ _ _ _ _ _ _ _ _ _ _ _ _ _ _ _ _ _ _ _ _ _ _ _ _ _ _ _ _ _ _ _ _ _ _ _ _ _ _ _ _ _ hJ hR
      · by_cases hnn : nm = []
        · exact bad21c J Q0 w req l A c b o hA k n vc VA es s wr nm vl HS hb hln hkl hc X0 X1 hn1 hv1 hf1 hf2 hnn (NONE (by unfold hsStep; subst hnn; simp)) _ _ _ _ _ _ _ _ _ _ _ _ _ _ _ _ _ _ _ _ _ _ _ _ _ _ _ _ _ _ _ _ _ _ _ _ _ _ _ _ _ _ _ _ _ _ _ _ _ _ _ _ _ _ _ _ _ _ _ _ _ _ _ _ _ _ _ _ _ _ _ _ _ _ _ _ _ _ _ _ _ _ _ _ _ _ _ _ _ _ _ _ _ _ _ _ _ _ _ _ _ _ _ _ _ _ _ _ _ _ _ _ _ _ _ _ _ _ _ _ _ _ _ hJ hR
        · have hn0 : (nm == []) = false := beq_eq_false_iff_ne.2 hnn
          have HST : hsStep req s (nm, vl) = if pseudoB nm then hsPs req s nm vl else hsRg s nm vl := by unfold hsStep; simp only [hf1, hf2, hn0, Bool.not_true, Bool.or_self, Bool.false_eq_true, if_false]
          cases hp : pseudoB nm
          · rw [hp] at HST
            simp only [Bool.false_eq_true, if_false] at HST
            cases hg1 : nameOk nm
            · exact bad21g J Q0 w req l A c b o hA k n vc VA es s wr nm vl HS hb hln hkl hc X0 X1 hn1 hv1 hf1 hf2 hp hnn hg1 (NONE (HST.trans (by unfold hsRg; simp only [hg1, Bool.not_false, Bool.true_or, if_true]))) _ _ _ _ _ _ _ _ _ _ _ _ _ _ _ _ _ _ _ _ _ _ _ _ _ _ _ _ _ _ _ _ _ _ _ _ _ _ _ _ _ _ _ _ _ _ _ _ _ _ _ _ _ _ _ _ _ _ _ _ _ _ _ _ _ _ _ _ _ _ _ _ _ _ _ _ _ _ _ _ _ _ _ _ _ _ _ _ _ _ _ _ _ _ _ _ _ _ _ _ _ _ _ _ _ _ _ _ _ _ _ _ _ _ _ _ _ _ _ _ _ _ _ hJ hR
            · cases hg2 : barredNames.contains nm
              · have key : ∀ hg : (nm == [116, 101] && vl != [116, 114, 97, 105, 108, 101, 114, 115]) = false, Code.wp Tryz.prog body21 (Exit.then J Q0) ⟨#[.slice A l.length c, .bool req, u2, u3, .pointer (some ⟨w.heap.size, 0, none⟩), u5, .pointer (some ⟨w.heap.size + 2, 0, none⟩), .bool s.beh, str s.ls, .bool s.told, u10, u11, u12, u13, u14, u15, u16, u17, .slice A l.length c, .int .i64 (l.length : Int), .int .i64 (k : Int), u21, u22, u23, u24, u25, u26, u27, u28, u29, u30, u31, u32, u33, u34, u35, u36, u37, u38, u39, u40, u41, u42, u43, u44, u45, u46, u47, u48, u49, u50, u51, u52, u53, u54, u55, u56, u57, u58, u59, u60, u61, u62, u63, u64, u65, u66, u67, u68, u69, u70, u71, u72, u73, u74, u75, u76, u77, u78, u79, u80, u81, u82, u83, u84, u85, u86, u87, u88, u89, u90, u91, u92, u93, u94, u95, u96, u97, u98, u99, u100, u101, u102, u103, u104, u105, u106, u107, u108, u109, u110, u111, u112, u113, u114, u115, u116, u117, u118, u119, u120, u121, u122, u123, u124, u125, u126, u127, u128, u129, u130, u131, u132], []⟩ wr := fun hg => by
                  have hg0 : (!nameOk nm || barredNames.contains nm || (nm == [116, 101] && vl != [116, 114, 97, 105, 108, 101, 114, 115])) = false := by rw [hg1, hg2, hg]; rfl
                  cases hcl : (nm == [99, 111, 110, 116, 101, 110, 116, 45, 108, 101, 110, 103, 116, 104])
                  · have hcl2 : (nm != kLength) = true := by show (!(nm == [99, 111, 110, 116, 101, 110, 116, 45, 108, 101, 110, 103, 116, 104])) = true; rw [hcl]; rfl
                    exact ok21r J Q0 w req l A c b o hA k n vc VA es s wr nm vl HS hb hln hkl hc X0 X1 hn1 hv1 hf1 hf2 hp hnn hg1 hg2 hg hcl (SOME _ (HST.trans (by unfold hsRg; rw [hg0, hcl2]; rfl))) _ _ _ _ _ _ _ _ _ _ _ _ _ _ _ _ _ _ _ _ _ _ _ _ _ _ _ _ _ _ _ _ _ _ _ _ _ _ _ _ _ _ _ _ _ _ _ _ _ _ _ _ _ _ _ _ _ _ _ _ _ _ _ _ _ _ _ _ _ _ _ _ _ _ _ _ _ _ _ _ _ _ _ _ _ _ _ _ _ _ _ _ _ _ _ _ _ _ _ _ _ _ _ _ _ _ _ _ _ _ _ _ _ _ _ _ _ _ _ _ _ _ _ hJ hR
                  · have hcl2 : (nm != kLength) = false := by show (!(nm == [99, 111, 110, 116, 101, 110, 116, 45, 108, 101, 110, 103, 116, 104])) = false; rw [hcl]; rfl
                    rcases Bool.eq_false_or_eq_true s.told with hT | hT
                    · cases hL : (s.ls == vl)
                      · exact bad21m J Q0 w req l A c b o hA k n vc VA es s wr nm vl HS hb hln hkl hc X0 X1 hn1 hv1 hf1 hf2 hp hnn hg1 hg2 hg hcl hT hL (NONE (HST.trans (by unfold hsRg; rw [hg0, hcl2, hT, bne, hL]; rfl))) _ _ _ _ _ _ _ _ _ _ _ _ _ _ _ _ _ _ _ _ _ _ _ _ _ _ _ _ _ _ _ _ _ _ _ _ _ _ _ _ _ _ _ _ _ _ _ _ _ _ _ _ _ _ _ _ _ _ _ _ _ _ _ _ _ _ _ _ _ _ _ _ _ _ _ _ _ _ _ _ _ _ _ _ _ _ _ _ _ _ _ _ _ _ _ _ _ _ _ _ _ _ _ _ _ _ _ _ _ _ _ _ _ _ _ _ _ _ _ _ _ _ _ hJ hR
                      · cases hve : (vl == [])
                        · cases hpc : parseCL vl with
                          | none => exact bad21lt J Q0 w req l A c b o hA k n vc VA es s wr nm vl HS hb hln hkl hc X0 X1 hn1 hv1 hf1 hf2 hp hnn hg1 hg2 hg hcl hT hL hve hpc (NONE (HST.trans (by unfold hsRg; rw [hg0, hcl2, hT, bne, hL, hve, hpc]; rfl))) _ _ _ _ _ _ _ _ _ _ _ _ _ _ _ _ _ _ _ _ _ _ _ _ _ _ _ _ _ _ _ _ _ _ _ _ _ _ _ _ _ _ _ _ _ _ _ _ _ _ _ _ _ _ _ _ _ _ _ _ _ _ _ _ _ _ _ _ _ _ _ _ _ _ _ _ _ _ _ _ _ _ _ _ _ _ _ _ _ _ _ _ _ _ _ _ _ _ _ _ _ _ _ _ _ _ _ _ _ _ _ _ _ _ _ _ _ _ _ _ _ _ _ hJ hR
                          | some N => exact ok21nt J Q0 w req l A c b o hA k n vc VA es s wr nm vl HS hb hln hkl hc X0 X1 hn1 hv1 hf1 hf2 hp hnn hg1 hg2 hg N hcl hT hL hve hpc (SOME _ (HST.trans (by unfold hsRg; rw [hg0, hcl2, hT, bne, hL, hve, hpc]; rfl))) _ _ _ _ _ _ _ _ _ _ _ _ _ _ _ _ _ _ _ _ _ _ _ _ _ _ _ _ _ _ _ _ _ _ _ _ _ _ _ _ _ _ _ _ _ _ _ _ _ _ _ _ _ _ _ _ _ _ _ _ _ _ _ _ _ _ _ _ _ _ _ _ _ _ _ _ _ _ _ _ _ _ _ _ _ _ _ _ _ _ _ _ _ _ _ _ _ _ _ _ _ _ _ _ _ _ _ _ _ _ _ _ _ _ _ _ _ _ _ _ _ _ _ hJ hR
                        · exact ok21et J Q0 w req l A c b o hA k n vc VA es s wr nm vl HS hb hln hkl hc X0 X1 hn1 hv1 hf1 hf2 hp hnn hg1 hg2 hg hcl hT hL hve (SOME _ (HST.trans (by unfold hsRg; rw [hg0, hcl2, hT, bne, hL, hve]; rfl))) _ _ _ _ _ _ _ _ _ _ _ _ _ _ _ _ _ _ _ _ _ _ _ _ _ _ _ _ _ _ _ _ _ _ _ _ _ _ _ _ _ _ _ _ _ _ _ _ _ _ _ _ _ _ _ _ _ _ _ _ _ _ _ _ _ _ _ _ _ _ _ _ _ _ _ _ _ _ _ _ _ _ _ _ _ _ _ _ _ _ _ _ _ _ _ _ _ _ _ _ _ _ _ _ _ _ _ _ _ _ _ _ _ _ _ _ _ _ _ _ _ _ _ hJ hR
                    · cases hve : (vl == [])
                      · cases hpc : parseCL vl with
                        | none => exact bad21lf J Q0 w req l A c b o hA k n vc VA es s wr nm vl HS hb hln hkl hc X0 X1 hn1 hv1 hf1 hf2 hp hnn hg1 hg2 hg hcl hT hve hpc (NONE (HST.trans (by unfold hsRg; rw [hg0, hcl2, hT, hve, hpc]; rfl))) _ _ _ _ _ _ _ _ _ _ _ _ _ _ _ _ _ _ _ _ _ _ _ _ _ _ _ _ _ _ _ _ _ _ _ _ _ _ _ _ _ _ _ _ _ _ _ _ _ _ _ _ _ _ _ _ _ _ _ _ _ _ _ _ _ _ _ _ _ _ _ _ _ _ _ _ _ _ _ _ _ _ _ _ _ _ _ _ _ _ _ _ _ _ _ _ _ _ _ _ _ _ _ _ _ _ _ _ _ _ _ _ _ _ _ _ _ _ _ _ _ _ _ hJ hR
                        | some N => exact ok21nf J Q0 w req l A c b o hA k n vc VA es s wr nm vl HS hb hln hkl hc X0 X1 hn1 hv1 hf1 hf2 hp hnn hg1 hg2 hg N hcl hT hve hpc (SOME _ (HST.trans (by unfold hsRg; rw [hg0, hcl2, hT, hve, hpc]; rfl))) _ _ _ _ _ _ _ _ _ _ _ _ _ _ _ _ _ _ _ _ _ _ _ _ _ _ _ _ _ _ _ _ _ _ _ _ _ _ _ _ _ _ _ _ _ _ _ _ _ _ _ _ _ _ _ _ _ _ _ _ _ _ _ _ _ _ _ _ _ _ _ _ _ _ _ _ _ _ _ _ _ _ _ _ _ _ _ _ _ _ _ _ _ _ _ _ _ _ _ _ _ _ _ _ _ _ _ _ _ _ _ _ _ _ _ _ _ _ _ _ _ _ _ hJ hR
                      · exact ok21ef J Q0 w req l A c b o hA k n vc VA es s wr nm vl HS hb hln hkl hc X0 X1 hn1 hv1 hf1 hf2 hp hnn hg1 hg2 hg hcl hT hve (SOME _ (HST.trans (by unfold hsRg; rw [hg0, hcl2, hT, hve]; rfl))) _ _ _ _ _ _ _ _ _ _ _ _ _ _ _ _ _ _ _ _ _ _ _ _ _ _ _ _ _ _ _ _ _ _ _ _ _ _ _ _ _ _ _ _ _ _ _ _ _ _ _ _ _ _ _ _ _ _ _ _ _ _ _ _ _ _ _ _ _ _ _ _ _ _ _ _ _ _ _ _ _ _ _ _ _ _ _ _ _ _ _ _ _ _ _ _ _ _ _ _ _ _ _ _ _ _ _ _ _ _ _ _ _ _ _ _ _ _ _ _ _ _ _ hJ hR
                cases hg3 : (nm == [116, 101])
                · exact key (by rw [hg3]; rfl)
                · cases hg4 : (vl == [116, 114, 97, 105, 108, 101, 114, 115])
                  · exact bad21i J Q0 w req l A c b o hA k n vc VA es s wr nm vl HS hb hln hkl hc X0 X1 hn1 hv1 hf1 hf2 hp hnn hg1 hg2 hg3 hg4 (NONE (HST.trans (by unfold hsRg; rw [hg1, hg2, bne, hg3, hg4]; rfl))) _ _ _ _ _ _ _ _ _ _ _ _ _ _ _ _ _ _ _ _ _ _ _ _ _ _ _ _ _ _ _ _ _ _ _ _ _ _ _ _ _ _ _ _ _ _ _ _ _ _ _ _ _ _ _ _ _ _ _ _ _ _ _ _ _ _ _ _ _ _ _ _ _ _ _ _ _ _ _ _ _ _ _ _ _ _ _ _ _ _ _ _ _ _ _ _ _ _ _ _ _ _ _ _ _ _ _ _ _ _ _ _ _ _ _ _ _ _ _ _ _ _ _ hJ hR
                  · exact key (by rw [hg3, bne, hg4]; rfl)
              · exact bad21h J Q0 w req l A c b o hA k n vc VA es s wr nm vl HS hb hln hkl hc X0 X1 hn1 hv1 hf1 hf2 hp hnn hg1 hg2 (NONE (HST.trans (by unfold hsRg; rw [hg1, hg2]; rfl))) _ _ _ _ _ _ _ _ _ _ _ _ _ _ _ _ _ _ _ _ _ _ _ _ _ _ _ _ _ _ _ _ _ _ _ _ _ _ _ _ _ _ _ _ _ _ _ _ _ _ _ _ _ _ _ _ _ _ _ _ _ _ _ _ _ _ _ _ _ _ _ _ _ _ _ _ _ _ _ _ _ _ _ _ _ _ _ _ _ _ _ _ _ _ _ _ _ _ _ _ _ _ _ _ _ _ _ _ _ _ _ _ _ _ _ _ _ _ _ _ _ _ _ hJ hR
          · rw [hp] at HST
            simp only [if_true] at HST
            rcases Bool.eq_false_or_eq_true s.beh with hb' | hb'
            · exact bad21d J Q0 w req l A c b o hA k n vc VA es s wr nm vl HS hb hln hkl hc X0 X1 hn1 hv1 hf1 hf2 hp hnn hb' (NONE (HST.trans (by unfold hsPs; rw [hb']; rfl))) _ _ _ _ _ _ _ _ _ _ _ _ _ _ _ _ _ _ _ _ _ _ _ _ _ _ _ _ _ _ _ _ _ _ _ _ _ _ _ _ _ _ _ _ _ _ _ _ _ _ _ _ _ _ _ _ _ _ _ _ _ _ _ _ _ _ _ _ _ _ _ _ _ _ _ _ _ _ _ _ _ _ _ _ _ _ _ _ _ _ _ _ _ _ _ _ _ _ _ _ _ _ _ _ _ _ _ _ _ _ _ _ _ _ _ _ _ _ _ _ _ _ _ hJ hR
            · cases hh : hasP s.pm nm
              · cases hps : pseOk req nm
                · exact bad21f J Q0 w req l A c b o hA k n vc VA es s wr nm vl HS hb hln hkl hc X0 X1 hn1 hv1 hf1 hf2 hp hnn hb' hh hps (NONE (HST.trans (by unfold hsPs; rw [hb', hh, hps]; rfl))) _ _ _ _ _ _ _ _ _ _ _ _ _ _ _ _ _ _ _ _ _ _ _ _ _ _ _ _ _ _ _ _ _ _ _ _ _ _ _ _ _ _ _ _ _ _ _ _ _ _ _ _ _ _ _ _ _ _ _ _ _ _ _ _ _ _ _ _ _ _ _ _ _ _ _ _ _ _ _ _ _ _ _ _ _ _ _ _ _ _ _ _ _ _ _ _ _ _ _ _ _ _ _ _ _ _ _ _ _ _ _ _ _ _ _ _ _ _ _ _ _ _ _ hJ hR
                · exact ok21p J Q0 w req l A c b o hA k n vc VA es s wr nm vl HS hb hln hkl hc X0 X1 hn1 hv1 hf1 hf2 hp hnn hb' hh hps (SOME _ (HST.trans (by unfold hsPs; rw [hb', hh, hps]; rfl))) _ _ _ _ _ _ _ _ _ _ _ _ _ _ _ _ _ _ _ _ _ _ _ _ _ _ _ _ _ _ _ _ _ _ _ _ _ _ _ _ _ _ _ _ _ _ _ _ _ _ _ _ _ _ _ _ _ _ _ _ _ _ _ _ _ _ _ _ _ _ _ _ _ _ _ _ _ _ _ _ _ _ _ _ _ _ _ _ _ _ _ _ _ _ _ _ _ _ _ _ _ _ _ _ _ _ _ _ _ _ _ _ _ _ _ _ _ _ _ _ _ _ _ hJ hR
              · exact bad21e J Q0 w req l A c b o hA k n vc VA es s wr nm vl HS hb hln hkl hc X0 X1 hn1 hv1 hf1 hf2 hp hnn hb' hh (NONE (HST.trans (by unfold hsPs; rw [hb', hh]; rfl))) _ _ _ _ _ _ _ _ _ _ _ _ _ _ _ _ _ _ _ _ _ _ _ _ _ _ _ _ _ _ _ _ _ _ _ _ _ _ _ _ _ _ _ _ _ _ _ _ _ _ _ _ _ _ _ _ _ _ _ _ _ _ _ _ _ _ _ _ _ _ _ _ _ _ _ _ _ _ _ _ _ _ _ _ _ _ _ _ _ _ _ _ _ _ _ _ _ _ _ _ _ _ _ _ _ _ _ _ _ _ _ _ _ _ _ _ _ _ _ _ _ _ _ hJ hR
  · have e : k = l.length := by omega
    subst e
    rw [List.drop_length] at hfold
    exact end21 J Q0 w req l A c n _ es s wr (Lib.hid hS) (by rw [hfold]; rfl) _ _ _ _ _ _ _ _ _ _ _ _ _ _ _ _ _ _ _ _ _ _ _ _ _ _ _ _ _ _ _ _ _ _ _ _ _ _ _ _ _ _ _ _ _ _ _ _ _ _ _ _ _ _ _ _ _ _ _ _ _ _ _ _ _ _ _ _ _ _ _ _ _ _ _ _ _ _ _ _ _ _ _ _ _ _ _ _ _ _ _ _ _ _ _ _ _ _ _ _ _ _ _ _ _ _ _ _ _ _ _ _ _ _ _ _ _ _ _ _ _ _ _ hX

set_option maxHeartbeats 100000000 in
theorem read_at (req : Bool) (l : List (BS × BS)) (A : Option Addr) (c : Nat) (w : World) (hR : Reads w w.heap.size 2 A l.length (fc l)) (hc : l.length ≤ c) (hln : l.length ≤ 800000) (hB : ∀ q ∈ l, q.1.length ≤ 1048576 ∧ q.2.length ≤ 1048576) :
    Calls Tryz.prog 21 #[.slice A l.length c, .bool req] w (ReadPost w (l.length + 1) (hrRead req l)) := by
  have HRd := Lib.hid hR
  have HB := Lib.hid hB
  have hmm := @run_makeMap Tryz.prog
  clear hR hB
  go_enter Tryz.func21, Tryz.ntmps21
  go_wp2_with fail
  rename_i K0 hK0
  clear hmm
  go_loopw [7, 8, 9, 20] (fun s7 s8 s9 s20 wx => ∃ k, k ≤ l.length ∧ NextR w req l k s7 s8 s9 s20 wx) (fun _ _ _ s20 _ => l.length - (intOf s20).toNat)
  case atStart => exact ⟨0, by omega, 0, _, [], {}, rfl, rfl, rfl, rfl, HSt.start w, rfl⟩
  case round =>
    obtain ⟨k, hk, n, V, es, s, rfl, rfl, rfl, rfl, hS, hfold⟩ := hrel
    refine round21 _ _ w req l A c k n V es s wr HRd hc hln HB hk hS hfold _ _ _ _ _ _ _ _ _ _ _ _ _ _ _ _ _ _ _ _ _ _ _ _ _ _ _ _ _ _ _ _ _ _ _ _ _ _ _ _ _ _ _ _ _ _ _ _ _ _ _ _ _ _ _ _ _ _ _ _ _ _ _ _ _ _ _ _ _ _ _ _ _ _ _ _ _ _ _ _ _ _ _ _ _ _ _ _ _ _ _ _ _ _ _ _ _ _ _ _ _ _ _ _ _ _ _ _ _ _ _ _ _ _ _ _ _ _ _ _ _ _ _ ?_ ?_ ?_
    · intro hkl a w1 h
      unfold RN21 at h
      obtain ⟨u5, h⟩ := h
      obtain ⟨u7, h⟩ := h
      obtain ⟨u8, h⟩ := h
      obtain ⟨u9, h⟩ := h
      obtain ⟨u11, h⟩ := h
      obtain ⟨u12, h⟩ := h
      obtain ⟨u13, h⟩ := h
      obtain ⟨u14, h⟩ := h
      obtain ⟨u15, h⟩ := h
      obtain ⟨u20, h⟩ := h
      obtain ⟨u21, h⟩ := h
      obtain ⟨u22, h⟩ := h
      obtain ⟨u23, h⟩ := h
      obtain ⟨u24, h⟩ := h
      obtain ⟨u25, h⟩ := h
      obtain ⟨u26, h⟩ := h
      obtain ⟨u27, h⟩ := h
      obtain ⟨u28, h⟩ := h
      obtain ⟨u29, h⟩ := h
      obtain ⟨u30, h⟩ := h
      obtain ⟨u31, h⟩ := h
      obtain ⟨u32, h⟩ := h
      obtain ⟨u33, h⟩ := h
      obtain ⟨u34, h⟩ := h
      obtain ⟨u35, h⟩ := h
      obtain ⟨u36, h⟩ := h
      obtain ⟨u37, h⟩ := h
      obtain ⟨u38, h⟩ := h
      obtain ⟨u39, h⟩ := h
      obtain ⟨u40, h⟩ := h
      obtain ⟨u41, h⟩ := h
      obtain ⟨u42, h⟩ := h
      obtain ⟨u43, h⟩ := h
      obtain ⟨u44, h⟩ := h
      obtain ⟨u45, h⟩ := h
      obtain ⟨u46, h⟩ := h
      obtain ⟨u47, h⟩ := h
      obtain ⟨u48, h⟩ := h
      obtain ⟨u49, h⟩ := h
      obtain ⟨u50, h⟩ := h
      obtain ⟨u51, h⟩ := h
      obtain ⟨u52, h⟩ := h
      obtain ⟨u53, h⟩ := h
      obtain ⟨u54, h⟩ := h
      obtain ⟨u55, h⟩ := h
      obtain ⟨u56, h⟩ := h
      obtain ⟨u57, h⟩ := h
      obtain ⟨u58, h⟩ := h
      obtain ⟨u59, h⟩ := h
      obtain ⟨u60, h⟩ := h
      obtain ⟨u61, h⟩ := h
      obtain ⟨u62, h⟩ := h
      obtain ⟨u63, h⟩ := h
      obtain ⟨u64, h⟩ := h
      obtain ⟨u65, h⟩ := h
      obtain ⟨u66, h⟩ := h
      obtain ⟨u67, h⟩ := h
      obtain ⟨u68, h⟩ := h
      obtain ⟨u69, h⟩ := h
      obtain ⟨u70, h⟩ := h
      obtain ⟨u71, h⟩ := h
      obtain ⟨u72, h⟩ := h
      obtain ⟨u73, h⟩ := h
      obtain ⟨u74, h⟩ := h
      obtain ⟨u75, h⟩ := h
      obtain ⟨u76, h⟩ := h
      obtain ⟨u77, h⟩ := h
      obtain ⟨u78, h⟩ := h
      obtain ⟨u79, h⟩ := h
      obtain ⟨u80, h⟩ := h
      obtain ⟨u81, h⟩ := h
      obtain ⟨u82, h⟩ := h
      obtain ⟨u83, h⟩ := h
      obtain ⟨u84, h⟩ := h
      obtain ⟨u85, h⟩ := h
      obtain ⟨u86, h⟩ := h
      obtain ⟨u87, h⟩ := h
      obtain ⟨u88, h⟩ := h
      obtain ⟨u89, h⟩ := h
      obtain ⟨u90, h⟩ := h
      obtain ⟨u91, h⟩ := h
      obtain ⟨u92, h⟩ := h
      obtain ⟨u93, h⟩ := h
      obtain ⟨u94, h⟩ := h
      obtain ⟨u95, h⟩ := h
      obtain ⟨u96, h⟩ := h
      obtain ⟨u97, h⟩ := h
      obtain ⟨u98, h⟩ := h
      obtain ⟨u99, h⟩ := h
      obtain ⟨u100, h⟩ := h
      obtain ⟨u101, h⟩ := h
      obtain ⟨u102, h⟩ := h
      obtain ⟨u103, h⟩ := h
      obtain ⟨u104, h⟩ := h
      obtain ⟨u105, h⟩ := h
      obtain ⟨u106, h⟩ := h
      obtain ⟨u107, h⟩ := h
      obtain ⟨u108, h⟩ := h
      obtain ⟨u109, h⟩ := h
      obtain ⟨u110, h⟩ := h
      obtain ⟨u111, h⟩ := h
      obtain ⟨u112, h⟩ := h
      obtain ⟨u113, h⟩ := h
      obtain ⟨u114, h⟩ := h
      obtain ⟨u115, h⟩ := h
      obtain ⟨u116, h⟩ := h
      obtain ⟨u117, h⟩ := h
      obtain ⟨u118, h⟩ := h
      obtain ⟨u119, h⟩ := h
      obtain ⟨u120, h⟩ := h
      obtain ⟨u121, h⟩ := h
      obtain ⟨u122, h⟩ := h
      obtain ⟨u123, h⟩ := h
      obtain ⟨u124, h⟩ := h
      obtain ⟨h, rfl⟩ := h
      refine ⟨?_, ?_⟩
      · (repeat apply Exists.intro)
        exact ⟨⟨k + 1, hkl, h⟩, rfl⟩
      · obtain ⟨n', V', es', s', _, _, _, rfl, h⟩ := h
        show l.length - (intOf (.int .i64 ((k + 1 : Nat) : Int))).toNat < l.length - (intOf (.int .i64 (k : Int))).toNat
        simp only [intOf]
        omega
    · intro a w1 h
      unfold RX21 at h
      obtain ⟨u5, h⟩ := h
      obtain ⟨u7, h⟩ := h
      obtain ⟨u8, h⟩ := h
      obtain ⟨u9, h⟩ := h
      obtain ⟨u11, h⟩ := h
      obtain ⟨u12, h⟩ := h
      obtain ⟨u13, h⟩ := h
      obtain ⟨u14, h⟩ := h
      obtain ⟨u15, h⟩ := h
      obtain ⟨u20, h⟩ := h
      obtain ⟨u21, h⟩ := h
      obtain ⟨u22, h⟩ := h
      obtain ⟨u23, h⟩ := h
      obtain ⟨u24, h⟩ := h
      obtain ⟨u25, h⟩ := h
      obtain ⟨u26, h⟩ := h
      obtain ⟨u27, h⟩ := h
      obtain ⟨u28, h⟩ := h
      obtain ⟨u29, h⟩ := h
      obtain ⟨u30, h⟩ := h
      obtain ⟨u31, h⟩ := h
      obtain ⟨u32, h⟩ := h
      obtain ⟨u33, h⟩ := h
      obtain ⟨u34, h⟩ := h
      obtain ⟨u35, h⟩ := h
      obtain ⟨u36, h⟩ := h
      obtain ⟨u37, h⟩ := h
      obtain ⟨u38, h⟩ := h
      obtain ⟨u39, h⟩ := h
      obtain ⟨u40, h⟩ := h
      obtain ⟨u41, h⟩ := h
      obtain ⟨u42, h⟩ := h
      obtain ⟨u43, h⟩ := h
      obtain ⟨u44, h⟩ := h
      obtain ⟨u45, h⟩ := h
      obtain ⟨u46, h⟩ := h
      obtain ⟨u47, h⟩ := h
      obtain ⟨u48, h⟩ := h
      obtain ⟨u49, h⟩ := h
      obtain ⟨u50, h⟩ := h
      obtain ⟨u51, h⟩ := h
      obtain ⟨u52, h⟩ := h
      obtain ⟨u53, h⟩ := h
      obtain ⟨u54, h⟩ := h
      obtain ⟨u55, h⟩ := h
      obtain ⟨u56, h⟩ := h
      obtain ⟨u57, h⟩ := h
      obtain ⟨u58, h⟩ := h
      obtain ⟨u59, h⟩ := h
      obtain ⟨u60, h⟩ := h
      obtain ⟨u61, h⟩ := h
      obtain ⟨u62, h⟩ := h
      obtain ⟨u63, h⟩ := h
      obtain ⟨u64, h⟩ := h
      obtain ⟨u65, h⟩ := h
      obtain ⟨u66, h⟩ := h
      obtain ⟨u67, h⟩ := h
      obtain ⟨u68, h⟩ := h
      obtain ⟨u69, h⟩ := h
      obtain ⟨u70, h⟩ := h
      obtain ⟨u71, h⟩ := h
      obtain ⟨u72, h⟩ := h
      obtain ⟨u73, h⟩ := h
      obtain ⟨u74, h⟩ := h
      obtain ⟨u75, h⟩ := h
      obtain ⟨u76, h⟩ := h
      obtain ⟨u77, h⟩ := h
      obtain ⟨u78, h⟩ := h
      obtain ⟨u79, h⟩ := h
      obtain ⟨u80, h⟩ := h
      obtain ⟨u81, h⟩ := h
      obtain ⟨u82, h⟩ := h
      obtain ⟨u83, h⟩ := h
      obtain ⟨u84, h⟩ := h
      obtain ⟨u85, h⟩ := h
      obtain ⟨u86, h⟩ := h
      obtain ⟨u87, h⟩ := h
      obtain ⟨u88, h⟩ := h
      obtain ⟨u89, h⟩ := h
      obtain ⟨u90, h⟩ := h
      obtain ⟨u91, h⟩ := h
      obtain ⟨u92, h⟩ := h
      obtain ⟨u93, h⟩ := h
      obtain ⟨u94, h⟩ := h
      obtain ⟨u95, h⟩ := h
      obtain ⟨u96, h⟩ := h
      obtain ⟨u97, h⟩ := h
      obtain ⟨u98, h⟩ := h
      obtain ⟨u99, h⟩ := h
      obtain ⟨u100, h⟩ := h
      obtain ⟨u101, h⟩ := h
      obtain ⟨u102, h⟩ := h
      obtain ⟨u103, h⟩ := h
      obtain ⟨u104, h⟩ := h
      obtain ⟨u105, h⟩ := h
      obtain ⟨u106, h⟩ := h
      obtain ⟨u107, h⟩ := h
      obtain ⟨u108, h⟩ := h
      obtain ⟨u109, h⟩ := h
      obtain ⟨u110, h⟩ := h
      obtain ⟨u111, h⟩ := h
      obtain ⟨u112, h⟩ := h
      obtain ⟨u113, h⟩ := h
      obtain ⟨u114, h⟩ := h
      obtain ⟨u115, h⟩ := h
      obtain ⟨u116, h⟩ := h
      obtain ⟨u117, h⟩ := h
      obtain ⟨u118, h⟩ := h
      obtain ⟨u119, h⟩ := h
      obtain ⟨u120, h⟩ := h
      obtain ⟨u121, h⟩ := h
      obtain ⟨u122, h⟩ := h
      obtain ⟨u123, h⟩ := h
      obtain ⟨u124, h⟩ := h
      obtain ⟨⟨n', V', es', s', rfl, hM, hfo⟩, rfl⟩ := h
      obtain ⟨VA', vc', rfl⟩ := row_form hM.hl.row
      refine hK0 _ _ ?_
      exact tail21 w req l A c n' vc' VA' es' s' _ (Lib.hid hM) hfo hln _ _ _ _ _ _ _ _ _ _ _ _ _ _ _ _ _ _ _ _ _ _ _ _ _ _ _ _ _ _ _ _ _ _ _ _ _ _ _ _ _ _ _ _ _ _ _ _ _ _ _ _ _ _ _ _ _ _ _ _ _ _ _ _ _ _ _ _ _ _ _ _ _ _ _ _ _ _ _ _ _ _ _ _ _ _ _ _ _ _ _ _ _ _ _ _ _ _ _ _ _ _ _ _ _ _ _ _ _ _ _ _ _ _ _ _ _ _ _ _ _ _ _ _ _ _
    · intro a w1 h
      exact h
end Go.Proofs.YtgcfnhchmmkndaaGreatDoor
