/- The maker of requests: its start; hrMade.request whole. -/
import Derived.Test.YtgcfnhchmmkndaaGreatDoorY5
namespace Go.Proofs.YtgcfnhchmmkndaaGreatDoor
open Go.RowKit Go.Maps
set_option linter.unusedVariables false
set_option maxRecDepth 100000

abbrev rowMt : Array Value := #[Value.string { data := #[71, 69, 84] }, Value.string { data := #[80, 79, 83, 84] }, Value.string { data := #[67, 79, 78, 78, 69, 67, 84] }, Value.string { data := #[79, 80, 84, 73, 79, 78, 83] }, Value.string { data := #[72, 69, 65, 68] }, Value.string { data := #[67, 79, 78, 78, 69, 67, 84] }, Value.string { data := #[112, 117, 116] }]
abbrev rowPa : Array Value := #[Value.string { data := #[47] }, Value.string { data := #[47, 97] }, Value.string { data := #[47, 97, 47, 98, 63, 99, 61, 100] }, Value.string { data := #[47, 120, 37, 50, 48, 121] }, Value.string { data := #[47, 63] }]
abbrev rowSc : Array Value := #[Value.string { data := #[104, 116, 116, 112, 115] }, Value.string { data := #[104, 116, 116, 112] }]
abbrev rowAu : Array Value := #[Value.string { data := #[101, 120, 97, 109, 112, 108, 101, 46, 99, 111, 109] }, Value.string { data := #[104, 58, 52, 52, 51] }]
theorem rowMt_new (W : World) (i : Nat) (hi : i < 7) : (W.alloc (.cells rowMt 9)).cell? ⟨W.heap.size, i, none⟩ = some (str (mR.getD i [])) := tab_new W mR i hi
theorem rowPa_new (W : World) (i : Nat) (hi : i < 5) : (W.alloc (.cells rowPa 9)).cell? ⟨W.heap.size, i, none⟩ = some (str (paR.getD i [])) := tab_new W paR i hi
theorem rowSc_new (W : World) (i : Nat) (hi : i < 2) : (W.alloc (.cells rowSc 9)).cell? ⟨W.heap.size, i, none⟩ = some (str (scR.getD i [])) := tab_new W scR i hi
theorem rowAu_new (W : World) (i : Nat) (hi : i < 2) : (W.alloc (.cells rowAu 9)).cell? ⟨W.heap.size, i, none⟩ = some (str (auR.getD i [])) := tab_new W auR i hi
theorem getD_mem {L : List BS} (i : Nat) (hi : i < L.length) : L.getD i [] ∈ L := by
  rw [List.getD_eq_getElem?_getD, List.getElem?_eq_getElem hi]
  exact List.getElem_mem _
/-- ahead of the first list: the two tables -/
structure P3 (w wx : World) (mb K : Nat) (oa ob : Option Nat) : Prop where
  m : MG w wx mb K
  fa : ∀ f, oa = some f → w.heap.size ≤ f ∧ ∀ i, i < 2 → wx.cell? ⟨f, i, none⟩ = some (str (scR.getD i []))
  fb : ∀ f, ob = some f → w.heap.size ≤ f ∧ ∀ i, i < 2 → wx.cell? ⟨f, i, none⟩ = some (str (auR.getD i []))
section
variable {w wx w' : World} {mb K : Nat} {oa ob : Option Nat}
theorem P3.byte (h : P3 w wx mb K oa ob) (hM : Mk w' mb K) (g : wx.grownBy w' (some mb)) : P3 w w' mb K oa ob where
  m := h.m.byte hM g
  fa := fun f hf => ⟨(h.fa f hf).1, fun i hi => cell_far2 ((h.fa f hf).2 i hi) g (by have := (h.fa f hf).1; have := h.m.lt; omega)⟩
  fb := fun f hf => ⟨(h.fb f hf).1, fun i hi => cell_far2 ((h.fb f hf).2 i hi) g (by have := (h.fb f hf).1; have := h.m.lt; omega)⟩
theorem P3.drew (h : P3 w wx mb K oa ob) : P3 w wx.drew mb K oa ob := ⟨h.m.drew, h.fa, h.fb⟩
theorem P3.newA {N : Nat} (h : P3 w wx mb K none ob) (hN : wx.heap.size = N) : P3 w (wx.alloc (.cells rowSc 9)) mb K (some N) ob where
  m := h.m.al
  fa := fun f hf => by injection hf with hf; subst hf hN; exact ⟨h.m.g.size, rowSc_new wx⟩
  fb := fun f hf => ⟨(h.fb f hf).1, fun i hi => bka ((h.fb f hf).2 i hi)⟩
theorem P3.newB {N : Nat} (h : P3 w wx mb K oa none) (hN : wx.heap.size = N) : P3 w (wx.alloc (.cells rowAu 9)) mb K oa (some N) where
  m := h.m.al
  fb := fun f hf => by injection hf with hf; subst hf hN; exact ⟨h.m.g.size, rowAu_new wx⟩
  fa := fun f hf => ⟨(h.fa f hf).1, fun i hi => bka ((h.fa f hf).2 i hi)⟩
theorem MG.p3 (h : MG w wx mb K) : P3 w wx mb K none none := ⟨h, fun f hf => (by cases hf), fun f hf => (by cases hf)⟩
theorem P3.fin (h : P3 w wx mb K oa ob) (m sc a pa : BS) : ML w (wx.alloc (.cells #[str kMethod, str m, str kScheme, str sc, str kAuth, str a, str kPath, str pa] 42)) mb K (.slice (some ⟨wx.heap.size, 0, none⟩) 4 4) 4 (baseL m sc a pa) :=
  ⟨h.m.al, row_lit wx h.m.g.size (baseL m sc a pa) (by simp [baseL]), rfl⟩
theorem P3.fin2 {N : Nat} (h : P3 w wx mb K oa ob) (hN : wx.heap.size = N) (m sc a pa : BS) : ML w (wx.alloc (.cells #[str kMethod, str m, str kScheme, str sc, str kAuth, str a, str kPath, str pa] 42)) mb K (.slice (some ⟨N, 0, none⟩) 4 4) 4 (baseL m sc a pa) := by
  subst hN
  exact h.fin m sc a pa
theorem al_size2 (W : World) (o o' : Obj) : ((W.alloc o).alloc o').heap.size = W.heap.size + 1 + 1 := by rw [al_size, al_size]
end
set_option maxHeartbeats 8000000 in
theorem tail3 (w wx : World) (mb K : Nat) (m pa : BS) (HG : Hid (MG w wx mb K)) (hm : m ∈ mR) (hpa : pa ∈ paR)
    (u1 u2 u5 u6 u7 u8 u9 u10 u11 u12 u13 u14 u15 u16 u17 u18 u19 u20 u21 u22 u23 u24 u25 u26 u27 u28 u29 u30 u31 u32 u33 u34 u35 u36 u37 u38 u39 u40 u41 u42 u43 u44 u45 u46 u47 u48 u49 u50 u51 u52 u53 u54 u55 u56 u57 u58 u59 u60 u61 u62 u63 u64 u65 u66 u67 u68 u69 u70 u71 u72 u73 u74 u75 u76 u77 u78 u79 u80 u81 u82 u83 u84 u85 u86 u87 u88 u89 u90 u91 u92 u93 u94 u95 u96 u97 u98 u99 u100 u101 u102 u103 u104 u105 u106 u107 u108 u109 u110 u111 u112 u113 u114 u115 u116 u117 u118 u119 u120 u121 u122 u123 u124 u125 u126 u127 u128 u129 u130 u131 u132 u133 u134 u135 u136 u137 u138 u139 u140 u141 u142 u143 u144 u145 u146 u147 u148 u149 u150 u151 u152 u153 u154 u155 : Value) :
    Code.wp Tryz.prog (tail7 3) (bodyPost Tryz.prog Tryz.f7 (ReqLPost w mb K)) ⟨#[.pointer (some ⟨mb, 0, none⟩), u1, u2, str m, str pa, u5, u6, u7, u8, u9, u10, u11, u12, u13, u14, u15, u16, u17, u18, u19, u20, u21, u22, u23, u24, u25, u26, u27, u28, u29, u30, u31, u32, u33, u34, u35, u36, u37, u38, u39, u40, u41, u42, u43, u44, u45, u46, u47, u48, u49, u50, u51, u52, u53, u54, u55, u56, u57, u58, u59, u60, u61, u62, u63, u64, u65, u66, u67, u68, u69, u70, u71, u72, u73, u74, u75, u76, u77, u78, u79, u80, u81, u82, u83, u84, u85, u86, u87, u88, u89, u90, u91, u92, u93, u94, u95, u96, u97, u98, u99, u100, u101, u102, u103, u104, u105, u106, u107, u108, u109, u110, u111, u112, u113, u114, u115, u116, u117, u118, u119, u120, u121, u122, u123, u124, u125, u126, u127, u128, u129, u130, u131, u132, u133, u134, u135, u136, u137, u138, u139, u140, u141, u142, u143, u144, u145, u146, u147, u148, u149, u150, u151, u152, u153, u154, u155], []⟩ wx := by
  conv => arg 2; whnf
  conv => arg 4; zeta
  have P := HG.out.p3
  go_upto_region 3 with fail
  rename_i K0 hK0
  go_cut [5] (fun s5 wx => ∃ g i j : Nat, s5 = .slice (some ⟨g, 0, none⟩) 4 4 ∧ i < 2 ∧ j < 2 ∧ ML w wx mb K (.slice (some ⟨g, 0, none⟩) 4 4) 4 (baseL m (scR.getD i []) (auR.getD j []) pa))
  case first =>
    go_region_law (go_simp; go_at_call 15; first
      | (refine (byte_at2 mb K _ (by first | exact P2.m.mkr | exact P2.m.mkr.drew | exact P2.m.mkr.al | exact P2.m.mkr.al.drew | exact P2.m.mkr.al.al | exact P2.m.mkr.al.al.drew)).mono ?_
         rintro e w3 ⟨c3, hc3, rfl, hM3, hg3, hs3⟩
         first
           | have P4 := P2.byte hM3 hg3
           | have P4 := P2.drew.byte hM3 hg3
           | have P4 := (P2.newA rfl).byte hM3 hg3
           | have P4 := (P2.newA rfl).drew.byte hM3 hg3
           | have P4 := (P2.newB rfl).byte hM3 hg3
           | have P4 := (P2.newB rfl).drew.byte hM3 hg3
           | have P4 := ((P2.newA rfl).newB (al_size _ _)).byte hM3 hg3
           | have P4 := ((P2.newA rfl).newB (al_size _ _)).drew.byte hM3 hg3
           | have P4 := ((P2.newB rfl).newA (al_size _ _)).byte hM3 hg3
           | have P4 := ((P2.newB rfl).newA (al_size _ _)).drew.byte hM3 hg3
         obtain ⟨j, hj⟩ : ∃ i, c3 % 2 = i := ⟨_, rfl⟩
         have htj : ((c3 : Int)).tmod 2 = (j : Int) := by have h := tmod_nat c3 2; rw [hj] at h; exact h
         have hj2 : j < 2 := by omega
         have hj0 : (0 : Int) ≤ (j : Int) := by omega
         have hj1 : (j : Int) < 2 := by omega
         (try have qa3 := (P4.fa _ rfl).2 i hi2)
         (try have qb3 := (P4.fb _ rfl).2 j hj2)
         (try have qa4 := bka (o := .cells rowAu 9) qa3)
         (try have qb4 := bka (o := .cells rowSc 9) qb3)
         have hn4 := rowSc_new w3 i hi2
         have hn5 := bka (o := .cells rowAu 9) hn4
         have hn6 := rowAu_new w3 j hj2
         have hn7 := bka (o := .cells rowSc 9) hn6
         have hn8 := rowAu_new (w3.alloc (.cells rowSc 9)) j hj2
         have hn9 := rowSc_new (w3.alloc (.cells rowAu 9)) i hi2
         rw [al_size] at hn8 hn9
         clear P2 hj hM3 hg3 hs3)
      | (refine (byte_at2 mb K _ (by first | exact P.m.mkr | exact P.m.mkr.drew | exact P.m.mkr.al | exact P.m.mkr.al.drew | exact P.m.mkr.al.al | exact P.m.mkr.al.al.drew)).mono ?_
         rintro e w2 ⟨c2, hc2, rfl, hM2, hg2, hs2⟩
         first
           | have P2 := P.byte hM2 hg2
           | have P2 := P.drew.byte hM2 hg2
           | have P2 := (P.newA rfl).byte hM2 hg2
           | have P2 := (P.newA rfl).drew.byte hM2 hg2
           | have P2 := (P.newB rfl).byte hM2 hg2
           | have P2 := (P.newB rfl).drew.byte hM2 hg2
           | have P2 := ((P.newA rfl).newB (al_size _ _)).byte hM2 hg2
           | have P2 := ((P.newA rfl).newB (al_size _ _)).drew.byte hM2 hg2
           | have P2 := ((P.newB rfl).newA (al_size _ _)).byte hM2 hg2
           | have P2 := ((P.newB rfl).newA (al_size _ _)).drew.byte hM2 hg2
         obtain ⟨i, hi⟩ : ∃ i, c2 % 2 = i := ⟨_, rfl⟩
         have hti : ((c2 : Int)).tmod 2 = (i : Int) := by have h := tmod_nat c2 2; rw [hi] at h; exact h
         have hi2 : i < 2 := by omega
         have hi0 : (0 : Int) ≤ (i : Int) := by omega
         have hi1 : (i : Int) < 2 := by omega
         (try have qa := (P2.fa _ rfl).2 i hi2)
         (try have qa2 := bka (o := .cells rowAu 9) qa)
         have hm4 := rowSc_new w2 i hi2
         have hm5 := bka (o := .cells rowAu 9) hm4
         have hm9 := rowSc_new (w2.alloc (.cells rowAu 9)) i hi2
         rw [al_size] at hm9
         clear hi hM2 hg2 hs2))
    all_goals go_wp2_with fail
    all_goals go_meet
    all_goals first
      | exact ⟨_, i, j, rfl, hi2, hj2, P4.fin2 rfl _ _ _ _⟩
      | exact ⟨_, i, j, rfl, hi2, hj2, (P4.newB rfl).fin2 (al_size _ _) _ _ _ _⟩
      | exact ⟨_, i, j, rfl, hi2, hj2, (P4.newA rfl).fin2 (al_size _ _) _ _ _ _⟩
      | exact ⟨_, i, j, rfl, hi2, hj2, ((P4.newA rfl).newB (al_size _ _)).fin2 (al_size2 _ _ _) _ _ _ _⟩
      | exact ⟨_, i, j, rfl, hi2, hj2, ((P4.newB rfl).newA (al_size _ _)).fin2 (al_size2 _ _ _) _ _ _ _⟩
      | exact ⟨_, i, j, rfl, hi2, hj2, (P4.fin2 rfl _ _ _ _).drew⟩
      | exact ⟨_, i, j, rfl, hi2, hj2, ((P4.newB rfl).fin2 (al_size _ _) _ _ _ _).drew⟩
      | exact ⟨_, i, j, rfl, hi2, hj2, ((P4.newA rfl).fin2 (al_size _ _) _ _ _ _).drew⟩
  case rest =>
    obtain ⟨g, i, j, rfl, hi, hj, hML⟩ := hcut
    refine hK0 _ _ ?_
    exact tail4 w _ mb K _ _ m _ _ pa (Lib.hid hML) hm (getD_mem i hi) (getD_mem j hj) hpa _ _ _ _ _ _ _ _ _ _ _ _ _ _ _ _ _ _ _ _ _ _ _ _ _ _ _ _ _ _ _ _ _ _ _ _ _ _ _ _ _ _ _ _ _ _ _ _ _ _ _ _ _ _ _ _ _ _ _ _ _ _ _ _ _ _ _ _ _ _ _ _ _ _ _ _ _ _ _ _ _ _ _ _ _ _ _ _ _ _ _ _ _ _ _ _ _ _ _ _ _ _ _ _ _ _ _ _ _ _ _ _ _ _ _ _ _ _ _ _ _ _ _ _ _ _ _ _ _ _ _ _ _ _ _ _ _ _ _ _ _ _ _ _ _ _ _ _ _ _ _ _
set_option maxHeartbeats 8000000 in
theorem req7_at (mb K : Nat) (w : World) (h : Mk w mb K) : Calls Tryz.prog 7 #[.pointer (some ⟨mb, 0, none⟩)] w (ReqLPost w mb K) := by
  have HG := Lib.hid (MG.start h)
  have hnm : ¬ w.heap.size = mb := by have := h.lt; omega
  clear h
  go_enter Tryz.func7, Tryz.ntmps7
  go_upto_region 1 with fail
  go_cut [3] (fun s3 wx => ∃ i : Nat, i < 7 ∧ s3 = str (mR.getD i []) ∧ MG w wx mb K)
  case first =>
    have KB := byte_at2 mb K (w.alloc (.cells rowMt 9)) HG.out.mkr.al
    go_wp2_with fail
    refine KB.mono ?_
    rintro e w1 ⟨c0, hc0, rfl, hM1, hg1, hs1⟩
    have q : w1.cell? ⟨w.heap.size, c0 % 7, none⟩ = some (str (mR.getD (c0 % 7) [])) := cell_far2 (rowMt_new w (c0 % 7) (Nat.mod_lt _ (by decide))) hg1 hnm
    have ht : ((c0 : Int)).tmod 7 = ((c0 % 7 : Nat) : Int) := tmod_nat c0 7
    obtain ⟨j, hj⟩ : ∃ j, c0 % 7 = j := ⟨_, rfl⟩
    rw [hj] at q ht
    have hj7 : j < 7 := by omega
    have hj0 : (0 : Int) ≤ (j : Int) := by omega
    have hj1 : (j : Int) < 7 := by omega
    have HG1 := Lib.hid (HG.out.al.byte hM1 hg1)
    clear hj hM1 hg1 hs1 KB
    go_wp2_with fail
    go_meet
    exact ⟨j, hj7, rfl, HG1.out⟩
  case rest =>
    obtain ⟨i, hi, rfl, hMG⟩ := hcut
    have HG1 := Lib.hid hMG
    have hmm := getD_mem (L := mR) i hi
    obtain ⟨m, hm⟩ : ∃ m, mR.getD i [] = m := ⟨_, rfl⟩
    rw [hm] at hmm ⊢
    have hnm : ¬ wc.heap.size = mb := by have := hMG.g.size; have := hMG.lt; omega
    clear hMG hm
    go_upto_region 2 with fail
    rename_i K2 hK2
    go_cut [4] (fun s4 wx => ∃ i : Nat, i < 5 ∧ s4 = str (paR.getD i []) ∧ MG w wx mb K)
    case first =>
      have KB := byte_at2 mb K (wc.alloc (.cells rowPa 9)) HG1.out.mkr.al
      go_wp2_with fail
      refine KB.mono ?_
      rintro e w1 ⟨c0, hc0, rfl, hM1, hg1, hs1⟩
      have q : w1.cell? ⟨wc.heap.size, c0 % 5, none⟩ = some (str (paR.getD (c0 % 5) [])) := cell_far2 (rowPa_new wc (c0 % 5) (Nat.mod_lt _ (by decide))) hg1 hnm
      have ht : ((c0 : Int)).tmod 5 = ((c0 % 5 : Nat) : Int) := tmod_nat c0 5
      obtain ⟨j, hj⟩ : ∃ j, c0 % 5 = j := ⟨_, rfl⟩
      rw [hj] at q ht
      have hj7 : j < 5 := by omega
      have hj0 : (0 : Int) ≤ (j : Int) := by omega
      have hj1 : (j : Int) < 5 := by omega
      have HG2 := Lib.hid (HG1.out.al.byte hM1 hg1)
      clear hj hM1 hg1 hs1 KB
      go_wp2_with fail
      go_meet
      exact ⟨j, hj7, rfl, HG2.out⟩
    case rest =>
      obtain ⟨i2, hi2, rfl, hMG⟩ := hcut
      refine hK2 _ _ ?_
      exact tail3 w _ mb K m _ (Lib.hid hMG) hmm (getD_mem i2 hi2) _ _ _ _ _ _ _ _ _ _ _ _ _ _ _ _ _ _ _ _ _ _ _ _ _ _ _ _ _ _ _ _ _ _ _ _ _ _ _ _ _ _ _ _ _ _ _ _ _ _ _ _ _ _ _ _ _ _ _ _ _ _ _ _ _ _ _ _ _ _ _ _ _ _ _ _ _ _ _ _ _ _ _ _ _ _ _ _ _ _ _ _ _ _ _ _ _ _ _ _ _ _ _ _ _ _ _ _ _ _ _ _ _ _ _ _ _ _ _ _ _ _ _ _ _ _ _ _ _ _ _ _ _ _ _ _ _ _ _ _ _ _ _ _ _ _ _ _ _ _ _ _ _
end Go.Proofs.YtgcfnhchmmkndaaGreatDoor
