/- parseHeaders: what stands behind its loop. -/
import Derived.Test.YtgcfnhchmmkndaaGreatDoorC5
namespace Go.Proofs.YtgcfnhchmmkndaaGreatDoor
open Go.RowKit Go.Maps
set_option linter.unusedVariables false
set_option maxRecDepth 100000

/-- the function's statements behind the first n -/
def seqTail56 : Nat → Code → Code
  | 0, c => c
  | n + 1, .seq _ b => seqTail56 n b
  | _ + 1, c => c
noncomputable def tail56 (n : Nat) : Code := seqTail56 n (Tryz.f56.body.getD .skip)
set_option maxHeartbeats 100000000 in
theorem endE (req : Bool) (vOk : BS × BS → Bool) (l : List (BS × BS)) (Bx : Nat) (w wc : World) (HPU : Hid (∀ s, psFold req vOk {} l = some s → s.cls ≠ [] → ∀ W, w.grownBy W (some Bx) → Calls Tryz.prog 76 #[str s.cls, .int .i64 10, .int .i64 63] W (CLPost W s.cls))) (hBw : Bx < w.heap.size) (hlen : l.length ≤ 32768)
    (n : Nat) (es : List Ent) (s : PS) (rest : List (BS × BS)) (hfo : psFold req vOk {} l = some s) (hM1 : PSt w wc Bx l.length rest n es s 0)
    (u0 u1 u2 u3 u4 u5 u6 u7 u9 u11 u12 u13 u14 u16 u17 u18 u19 u20 u21 u22 u23 u24 u25 u26 u27 u28 u29 u30 u31 u32 u33 u34 u35 u36 u37 u38 u39 u40 u41 u42 u43 u44 u45 u46 u47 u48 u49 u50 u51 u52 u53 u54 u55 u56 u57 u58 u59 u60 u61 u62 u63 u64 u65 u66 u67 u68 u69 u70 u71 u72 u73 u74 u75 u76 u77 u78 u79 u80 u81 u82 u83 u84 u85 u86 u87 u88 u89 u90 u91 u92 u93 u94 u95 u96 u97 u98 u99 u100 u101 u102 u103 u104 u105 u106 u107 u108 u109 u110 u111 u112 u113 u114 u115 u116 u117 u118 u119 u120 u121 u122 u123 u124 u125 u126 u127 u128 u129 u130 u131 u132 u133 u134 u135 u136 u137 u138 u139 u140 u141 u142 u143 u144 u145 u146 u147 u148 u149 u150 u151 u152 u153 u154 u155 u156 u157 u158 u159 u160 u161 u162 u163 u164 u165 u166 u167 u168 u169 u170 u171 u172 u173 u174 u175 u176 u177 u178 u179 u180 u181 u182 u183 u184 u185 u186 u187 u188 u189 u190 u191 u192 u193 u194 u195 u196 u197 u198 u199 u200 u201 u202 u203 u204 u205 u206 u207 u208 u209 u210 u211 u212 u213 u214 u215 u216 u217 u218 u219 u220 u221 u222 u223 u224 u225 : Value) :
    Code.wp Tryz.prog (tail56 5) (bodyPost Tryz.prog Tryz.f56 (HPost w req vOk l Bx)) ⟨#[u0, u1, u2, u3, u4, u5, u6, u7, .pointer (some ⟨w.heap.size, 0, none⟩), u9, .pointer (some ⟨w.heap.size + 2, 0, none⟩), u11, u12, u13, u14, str s.cls, u16, u17, u18, u19, u20, u21, u22, u23, u24, u25, u26, u27, u28, u29, u30, u31, u32, u33, u34, u35, u36, u37, u38, u39, u40, u41, u42, u43, u44, u45, u46, u47, u48, u49, u50, u51, u52, u53, u54, u55, u56, u57, u58, u59, u60, u61, u62, u63, u64, u65, u66, u67, u68, u69, u70, u71, u72, u73, u74, u75, u76, u77, u78, u79, u80, u81, u82, u83, u84, u85, u86, u87, u88, u89, u90, u91, u92, u93, u94, u95, u96, u97, u98, u99, u100, u101, u102, u103, u104, u105, u106, u107, u108, u109, u110, u111, u112, u113, u114, u115, u116, u117, u118, u119, u120, u121, u122, u123, u124, u125, u126, u127, u128, u129, u130, u131, u132, u133, u134, u135, u136, u137, u138, u139, u140, u141, u142, u143, u144, u145, u146, u147, u148, u149, u150, u151, u152, u153, u154, u155, u156, u157, u158, u159, u160, u161, u162, u163, u164, u165, u166, u167, u168, u169, u170, u171, u172, u173, u174, u175, u176, u177, u178, u179, u180, u181, u182, u183, u184, u185, u186, u187, u188, u189, u190, u191, u192, u193, u194, u195, u196, u197, u198, u199, u200, u201, u202, u203, u204, u205, u206, u207, u208, u209, u210, u211, u212, u213, u214, u215, u216, u217, u218, u219, u220, u221, u222, u223, u224, u225], []⟩ wc := by
  conv => arg 2; whnf
  conv => arg 4; zeta
  have M1 := Lib.hid hM1
  clear hM1
  have M2 := Lib.hid (M1.out.set (s' := s) (cl' := -1) (i := 6) (u := .int .i64 (-1)) hBw (by decide) rfl rfl)
  have g6 := M1.out.cells 6 _ rfl
  have y6 := M1.out.fz 6
  by_cases hcl0 : s.cls = []
  · have HALL : Hid (psAll req vOk l = some (s, -1)) := Lib.hid (by unfold psAll; rw [hfo]; simp [psEnd, hcl0])
    have M := M2.out
    have hpx := put8_cell _ w.heap.size s (-1) (.map (some (w.heap.size + 1))) M.rex
    have HTH := Lib.hid M.there
    have HLD := Lib.hid M.cells
    have HFl := Lib.hid (M.done (req := req) (vOk := vOk) (l := l) (by omega) HALL.out)
    have HX := Lib.hid hpx
    clear hpx M
    go_wp2_with (first | (refine wpList_load8 rfl rfl (w.heap.size + 2) s (-1) (.map (some (w.heap.size + 1))) rfl HLD.out ?_) | (refine wpList_store8 rfl _ rfl w.heap.size s (-1) (.map (some (w.heap.size + 1))) rfl rfl HTH.out rfl ?_))
    have x0 := HX.out 0 _ rfl
    have x1 := HX.out 1 _ rfl
    have x2 := HX.out 2 _ rfl
    have x3 := HX.out 3 _ rfl
    have x4 := HX.out 4 _ rfl
    have x5 := HX.out 5 _ rfl
    have x6 := HX.out 6 _ rfl
    have x7 := HX.out 7 _ rfl
    exact ⟨rfl, _, (show _ = Result.ok (Value.tuple #[.agg (hcl s (-1) (.map (some (w.heap.size + 1)))).toArray, .nilIface]) _ by simp [results, Tryz.results56, go_sem, x0, x1, x2, x3, x4, x5, x6, x7]; rfl), HFl.out⟩
  · have KU := HPU.out s hfo hcl0
    have hlc : (0 : Int) < (s.cls.length : Int) := by
      cases hcc : s.cls with
      | nil => exact absurd hcc hcl0
      | cons a t => simp
    have HC0 := Lib.hid hcl0
    clear hcl0
    go_wp2_with fail
    refine (KU _ M2.out.g).mono ?_
    rintro e w2 ⟨v, ev, rfl, hb2, hsome, hnone⟩
    have M3 := Lib.hid (M2.out.below hb2)
    clear hb2 KU
    obtain ⟨r, hr⟩ : ∃ r, parseCL s.cls = r := ⟨_, rfl⟩
    rw [hr] at hsome hnone
    have HR := Lib.hid hr
    clear hr
    cases r
    · obtain ⟨t, x, rfl⟩ := hnone rfl
      have HN : Hid (psAll req vOk l = none) := Lib.hid (by unfold psAll; rw [hfo]; simp [psEnd, HC0.out, HR.out])
      clear hsome hnone
      go_wp2_with fail
      refine (new_at' _ _).mono ?_
      rintro e w9 ⟨q9, rfl, hb9⟩
      have M := (M3.out).below hb9
      clear hb9
      have hex := put8_cell w9 w.heap.size {} 0 (.map none) M.rex
      have HTH := Lib.hid M.there
      have HFl := Lib.hid (M.fail (req := req) (vOk := vOk) (l := l) HN.out (.iface 136 (.pointer (some q9))) ⟨_, rfl⟩)
      have HX := Lib.hid hex
      clear hex M
      go_wp2_with (refine wpList_store8 rfl _ rfl w.heap.size {} 0 (.map none) rfl rfl HTH.out rfl ?_)
      have x0 := HX.out 0 _ rfl
      have x1 := HX.out 1 _ rfl
      have x2 := HX.out 2 _ rfl
      have x3 := HX.out 3 _ rfl
      have x4 := HX.out 4 _ rfl
      have x5 := HX.out 5 _ rfl
      have x6 := HX.out 6 _ rfl
      have x7 := HX.out 7 _ rfl
      exact ⟨rfl, _, (show _ = Result.ok (Value.tuple #[.agg (hcl {} 0 (.map none)).toArray, .iface 136 (.pointer (some q9))]) _ by simp [results, Tryz.results56, go_sem, x0, x1, x2, x3, x4, x5, x6, x7]; rfl), HFl.out⟩
    · next N =>
      obtain ⟨rfl, rfl⟩ := hsome N rfl
      have hNb : N < 9223372036854775808 := by
        have := HR.out
        unfold parseCL at this
        split at this
        · next hh =>
          injection this with this
          rw [← this]
          simpa using (by simp at hh; exact hh.2 : decN s.cls < 9223372036854775808)
        · cases this
      have HALL : Hid (psAll req vOk l = some ({ s with H := putH s.H kCLength [s.cls] }, (N : Int))) := Lib.hid (by unfold psAll; rw [hfo]; simp [psEnd, HC0.out, HR.out])
      have KS := set_at kCLength s.cls (w.heap.size + 3) (w.heap.size + 1) n es w2 M3.out.hdr (by simp) (by have := M3.out.hn; omega) M3.out.ge
      have hcan : canonL kCLength = kCLength := by decide
      rw [hcan] at KS
      have e7 := M3.out.cells 7 _ rfl
      clear hsome hnone
      go_wp2_with fail
      refine KS.mono ?_
      rintro e w3 ⟨es', rfl, hH3, ha3, hb3⟩
      have M4 := Lib.hid (M3.out.turn (m' := l.length + 1) (H' := putH s.H kCLength [s.cls]) hBw hH3 (by rw [ha3, M3.out.abs]) (by have := M3.out.hn; omega) (fun e he => by
        have hm : (e.key, e.items) ∈ absE es' := List.mem_map_of_mem (f := fun e : Ent => (e.key, e.items)) he
        rw [ha3] at hm
        refine putH_items (m := l.length + 1) (fun q hq => ?_) (by simp) _ hm
        obtain ⟨e2, he2, rfl⟩ := List.mem_map.1 hq
        exact Nat.le_succ_of_le (M3.out.items e2 he2)) hb3)
      have g6' := M4.out.cells 6 _ rfl
      have y6' := M4.out.fz 6
      have M := M4.out.set (s' := { s with H := putH s.H kCLength [s.cls] }) (cl' := (N : Int)) (i := 6) (u := .int .i64 (N : Int)) hBw (by decide) rfl rfl
      clear hH3 ha3 hb3 KS e7
      have hpx := put8_cell _ w.heap.size { s with H := putH s.H kCLength [s.cls] } (N : Int) (.map (some (w.heap.size + 1))) M.rex
      have HTH := Lib.hid M.there
      have HLD := Lib.hid M.cells
      have HFl := Lib.hid (M.done (req := req) (vOk := vOk) (l := l) (by omega) HALL.out)
      have HX := Lib.hid hpx
      clear hpx M
      go_wp2_with (first | (refine wpList_load8 rfl rfl (w.heap.size + 2) { s with H := putH s.H kCLength [s.cls] } (N : Int) (.map (some (w.heap.size + 1))) rfl HLD.out ?_) | (refine wpList_store8 rfl _ rfl w.heap.size { s with H := putH s.H kCLength [s.cls] } (N : Int) (.map (some (w.heap.size + 1))) rfl rfl HTH.out rfl ?_))
      have x0 := HX.out 0 _ rfl
      have x1 := HX.out 1 _ rfl
      have x2 := HX.out 2 _ rfl
      have x3 := HX.out 3 _ rfl
      have x4 := HX.out 4 _ rfl
      have x5 := HX.out 5 _ rfl
      have x6 := HX.out 6 _ rfl
      have x7 := HX.out 7 _ rfl
      exact ⟨rfl, _, (show _ = Result.ok (Value.tuple #[.agg (hcl { s with H := putH s.H kCLength [s.cls] } (N : Int) (.map (some (w.heap.size + 1)))).toArray, .nilIface]) _ by simp [results, Tryz.results56, go_sem, x0, x1, x2, x3, x4, x5, x6, x7]; rfl), HFl.out⟩
end Go.Proofs.YtgcfnhchmmkndaaGreatDoor
