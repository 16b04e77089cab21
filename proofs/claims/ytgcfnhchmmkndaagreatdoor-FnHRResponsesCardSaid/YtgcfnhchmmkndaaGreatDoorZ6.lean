/- laws.FnHRResponses: its walk. -/
import Derived.Test.YtgcfnhchmmkndaaGreatDoorZ3
import Derived.Test.YtgcfnhchmmkndaaGreatDoorZ4
import Derived.Test.YtgcfnhchmmkndaaGreatDoorZ5
import Derived.Test.YtgcfnhchmmkndaaGreatDoorR10
import Derived.Test.YtgcfnhchmmkndaaGreatDoorT1
namespace Go.Proofs.YtgcfnhchmmkndaaGreatDoor
open Go.RowKit Go.Maps
set_option linter.unusedVariables false
set_option maxRecDepth 100000

theorem resOk_l {l : List (BS × BS)} (hm : MkS l) (hn : l.length ≤ 100) (p : Addr) : ResOk GW p l (l.length + 1) (rsL l) := by
  intro W A c hR hc hE hG
  have hb := below_new W zero91
  have hz : (W.alloc zero91).heap.size = W.heap.size + 1 := al_size _ _
  have hb2 := hb.alloc hb.size (.cells #[.slice A l.length c] 66)
  have hbn := below_new (W.alloc zero91) (.cells #[.slice A l.length c] 66)
  have hlt := hG.1.lt
  have hEr : ErrC ((W.alloc zero91).alloc (.cells #[.slice A l.length c] 66)) := hG.1.cut hb2
  have KH := headers_at false vOkQ l (W.alloc zero91).heap.size p ((W.alloc zero91).alloc (.cells #[.slice A l.length c] 66)) (pin_of hm.fld hn p (W.alloc zero91) _ (hG.below hb)) (Feed.made (W.alloc zero91) A c l ((hR.alloc (Nat.le_refl _) _).more hb.size) hc) (hE.cut hb2 hE.ge) (by omega) (fun s h1 h2 W' hg => by
    have h3 := hEr.grown hg (by omega)
    exact pu76_at s.cls h2 (by have := cls_of2 hm.fld h1; omega) W' h3 h3.lt)
  rw [hz] at KH
  refine respof_at A c (l.length + 1) (rsL l) l W (update_at _ (psAll false vOkQ l) (rsL l) rfl _ W.heap.size (W.heap.size + 1) (l.length + 1) (KH.mono fun e w' h => h) hEr (Nat.lt_succ_self _) (by simp) (by omega) ((R9.made W).below hbn (by rw [hz]; exact Nat.lt_succ_self _)) (fun s cl hs => ⟨(pc_all hm.fld hs).1.trailer, ?_⟩))
  rcases same_s hm with ⟨h1, _⟩ | ⟨s', cl', h, h1, h2, h3, h4, _⟩
  · rw [h1] at hs; cases hs
  · rw [h1] at hs
    injection hs with hs
    injection hs with hs _
    subst hs
    exact h4
theorem rsH_len {l : List (BS × BS)} (hm : MkS l) (hn : l.length ≤ 100) : ∀ x, rsL l = some x → x.H.length ≤ 900000 := by
  intro x hx
  rcases same_s hm with ⟨_, _, h1⟩ | ⟨s, cl, h, h1, h2, h3, h4, _, _, h5⟩
  · rw [h1] at hx; cases hx
  · rw [h5] at hx
    unfold rsOf at hx
    split at hx
    · injection hx with hx
      subst hx
      have := (pc_all hm.fld h1).1.hl
      show s.H.length ≤ 900000
      omega
    · cases hx
theorem heads_items3 {H : AL} {m : Nat} (h : ∀ q ∈ H, q.2.length ≤ m) : ∀ q ∈ headsOf H, q.2.length ≤ m := fun q hq => by
  unfold headsOf at hq
  obtain ⟨k, _, rfl⟩ := List.mem_map.1 hq
  exact getH_items h k
theorem heads_len3 (H : AL) : (headsOf H).length = H.length := by unfold headsOf; rw [List.length_map, sortK_len, List.length_map]
set_option maxHeartbeats 32000000 in
theorem responses_at (w : World) (p : Addr) (A : Option Addr) (n c : Nat) (bs : List UInt8) (hE : Env w p) (hG : GW w) (hR : Reads w w.heap.size 1 A n (bcells bs)) (hc : n ≤ c) (hn : n ≤ 2147483647) :
    Calls Tryz.prog 6 #[.slice A n c] w (fun e w' => e = .returned (.bool true) ∧ Below w.heap.size w w') := by
  have hmk : Mk (w.alloc (.cells #[.slice A n c] 25)) w.heap.size w.heap.size := ⟨⟨A, n, c, bs, by simp, hR.alloc (Nat.le_refl _) _, hc, hn⟩, by simp, Nat.le_refl _, by simp⟩
  have hb0 := below_new w (.cells #[.slice A n c] 25)
  have hle : ¬ (2147483647 < (n : Int)) := by omega
  have KM := res19_at _ _ _ hmk
  have HE := Lib.hid hE
  have HG := Lib.hid hG
  have HB0 := Lib.hid hb0
  clear hR hmk hb0 hE hG
  go_enter Tryz.func6, Tryz.ntmps6
  go_wp2_with fail
  refine KM.mono ?_
  rintro e w1 ⟨A1, c1, l, rfl, hmk, hl11, hML⟩
  have HB1 := Lib.hid (HB0.out.grown hML.m.g HB0.out.size (fun k hk => by injection hk with hk; omega))
  have HMK := Lib.hid hmk
  have hll : l.length ≤ 100 := by omega
  have hrd : Reads w1 w1.heap.size 2 A1 l.length (fc l) := Reads.of_own hML.row
  have hcap : l.length ≤ c1 := row_cap hML.row
  have HE1 := Lib.hid (HE.out.cut HB1.out HE.out.ge)
  have HG1 := Lib.hid (HG.out.below HB1.out)
  have HRD := Lib.hid hrd
  have K20 := hres_at GW A1 c1 (l.length + 1) l p (rsL l) w1 hrd (by omega) HE1.out (by omega) (resOk_l hmk hll p) (rsH_len hmk hll) (fun W k => HG1.out.below k)
  have HK10 := Lib.hid fun (W : World) (h : Reads W W.heap.size 2 A1 l.length (fc l)) => odd_at false l A1 c1 W h hcap (by omega)
  have HK21 := Lib.hid fun (W : World) (h : Reads W W.heap.size 2 A1 l.length (fc l)) => read_at false l A1 c1 W h hcap (by omega) (fun q hq => by have := (HMK.out.fld q hq).len; omega)
  have HKA := Lib.hid fun (W : World) (h : Env W p) => awake_at p 7 W h (by omega) (aw_ok p)
  have HS := Lib.hid (same_s hmk)
  clear KM hML hmk hrd
  go_wp2_with fail
  refine K20.mono ?_
  rintro e w2 h20
  have HS' := HS.out
  rcases HS' with ⟨h1, h2, h3⟩ | ⟨s, cl, h, h1, h2, h3, h4, h5, h6, h7⟩
  · rw [h3] at h20
    obtain ⟨rfl, hb2⟩ := h20
    have HR2 := Lib.hid h2
    have HB2 := Lib.hid (Below.next HB1.out HB1.out.size hb2)
    have HRD2 := Lib.hid ((HRD.out.below hb2).more hb2.size)
    clear hb2 h1 h2 h3 K20 HS
    go_wp2_with fail
    refine (HK10.out _ HRD2.out).mono ?_
    rintro e w3 ⟨rfl, hb3⟩
    have HB3 := Lib.hid (Below.next HB2.out HB2.out.size hb3)
    have HRD3 := Lib.hid ((HRD2.out.below hb3).more hb3.size)
    have HE3 := Lib.hid (HE.out.cut HB3.out HE.out.ge)
    clear hb3
    cases hod : hrOddF false [] [] l
    · go_wp2_with fail
      refine (HK21.out _ HRD3.out).mono ?_
      rintro e w4 ⟨n4, V4, es4, s4, rfl, hb4, hP4, hL4, _, _, _, _, _, hz4, _⟩
      rw [HR2.out]
      obtain ⟨A4, k4, rfl⟩ := row_form hL4.row
      have hpc : (pcl (w3.heap.size + 1) (.slice A4 es4.length k4) s4.len).toArray = #[.map (some (w3.heap.size + 1)), .slice A4 es4.length k4, .int .i64 s4.len] := rfl
      have hso : (none : Option HRS).isSome = false := rfl
      rw [hpc, hso]
      have HB4 := Lib.hid (Below.next HB3.out HB3.out.size hb4)
      have HB5 := Lib.hid (HB4.out.alloc HB4.out.size (.cells #[.map (some (w3.heap.size + 1)), .slice A4 es4.length k4, .int .i64 s4.len] 53))
      have k1 := (hP4.below (below_new w4 (.cells #[.map (some (w3.heap.size + 1)), .slice A4 es4.length k4, .int .i64 s4.len] 53))).look kStatus (by simp)
      have HE5 := Lib.hid (HE.out.cut HB5.out HE.out.ge)
      clear hb4 hP4 hL4 hpc hso hz4
      go_wp2_with fail
      refine (HKA.out _ HE5.out).mono ?_
      rintro e w6 ⟨rfl, hb6⟩
      go_wp2_with fail
      go_ret
      exact ⟨rfl, Below.next HB5.out HB5.out.size hb6⟩
    · go_wp2_with fail
      refine (HKA.out _ HE3.out).mono ?_
      rintro e w6 ⟨rfl, hb6⟩
      go_wp2_with fail
      go_ret
      exact ⟨rfl, Below.next HB3.out HB3.out.size hb6⟩
  · obtain ⟨st, hst0⟩ : ∃ st, s.status = st := ⟨_, rfl⟩
    rw [hst0] at h4 h3
    have HIT : Hid (h.hd.length ≤ 900000) := Lib.hid (by
      rw [← h6, heads_len3]
      have := (pc_all HMK.out.fld h1).1.hl
      omega)
    rcases Bool.eq_false_or_eq_true (stOk st) with hk | hk
    · have h20' : ∃ v es tA tc, e = .returned (.tuple #[.int .i64 (decN st : Int), str st, .int .i64 h.len, v, .slice tA 0 tc, .bool true]) ∧ HL w2 w1.heap.size v es ∧ absE es = h.hd ∧ Below w1.heap.size w1 w2 := by
        have hrs : rsL l = some ⟨st, h.len, s.H⟩ := by rw [h7]; unfold rsOf; rw [hst0, if_pos hk, h5]
        rw [hrs] at h20
        obtain ⟨v, es, tA, tc, e1, e2, e3, e4⟩ := h20
        exact ⟨v, es, tA, tc, e1, e2, e3.trans h6, e4⟩
      obtain ⟨v2, es2, tA, tc, rfl, hL2, hA2, hb2⟩ := h20'
      obtain ⟨A2, k2, rfl⟩ := row_form hL2.row
      have HR2 := Lib.hid h2
      have HB2 := Lib.hid (Below.next HB1.out HB1.out.size hb2)
      have HRD2 := Lib.hid ((HRD.out.below hb2).more hb2.size)
      have HL2 := Lib.hid hL2
      have HA2 := Lib.hid hA2
      have HK22 := Lib.hid fun (W : World) => number_at h4 hk W
      have HST := Lib.hid (And.intro h3 h4)
      have HOK := Lib.hid hk
      clear hb2 h1 h2 h3 h4 h5 h6 h7 K20 HS hL2 hA2 h20 hst0 hk
      go_wp2_with fail
      refine (HK10.out _ HRD2.out).mono ?_
      rintro e w3 ⟨rfl, hb3⟩
      have HB3 := Lib.hid (Below.next HB2.out HB2.out.size hb3)
      have HRD3 := Lib.hid ((HRD2.out.below hb3).more hb3.size)
      have HE3 := Lib.hid (HE.out.cut HB3.out HE.out.ge)
      have HL3 := Lib.hid (HL2.out.below hb3)
      clear hb3
      cases hod : hrOddF false [] [] l
      · go_wp2_with fail
        refine (HK21.out _ HRD3.out).mono ?_
        rintro e w4 ⟨n4, V4, es4, s4, rfl, hb4, hP4, hL4, hA4, _, hn4, hi4, _, hz4, hs4⟩
        rw [HR2.out] at hs4 ⊢
        obtain rfl := hs4 _ rfl
        obtain ⟨A4, k4, rfl⟩ := row_form hL4.row
        have hpc : (pcl (w3.heap.size + 1) (.slice A4 es4.length k4) h.len).toArray = #[.map (some (w3.heap.size + 1)), .slice A4 es4.length k4, .int .i64 h.len] := rfl
        have hso : (some h : Option HRS).isSome = true := rfl
        rw [hpc, hso]
        have HB4 := Lib.hid (Below.next HB3.out HB3.out.size hb4)
        have bn5 := below_new w4 (.cells #[.map (some (w3.heap.size + 1)), .slice A4 es4.length k4, .int .i64 h.len] 53)
        have HB5 := Lib.hid (HB4.out.alloc HB4.out.size (.cells #[.map (some (w3.heap.size + 1)), .slice A4 es4.length k4, .int .i64 h.len] 53))
        have k1 := (hP4.below bn5).look kStatus (by simp)
        rw [← HST.out.1] at k1
        have HE5 := Lib.hid (HE.out.cut HB5.out HE.out.ge)
        have HLa := Lib.hid ((HL3.out.below hb4).below bn5)
        have HLb := Lib.hid (hL4.below bn5)
        have hab : absE es2 = absE es4 := HA2.out.trans hA4.symm
        have HAB := Lib.hid hab
        have HIL : Hid (∀ e ∈ es2, e.items.length ≤ 900000) := Lib.hid (items_eq hab fun e he => by have := hi4 e he; omega)
        have HLN : Hid (es2.length ≤ 900000) := Lib.hid (by rw [absE_len HA2.out]; exact HIT.out)
        have HC5 : ∀ j v, [Value.map (some (w3.heap.size + 1)), .slice A4 es4.length k4, .int .i64 h.len][j]? = some v → (w4.alloc (.cells #[.map (some (w3.heap.size + 1)), .slice A4 es4.length k4, .int .i64 h.len] 53)).cell? ⟨w4.heap.size, j, none⟩ = some v := fun j v hv => by
          have hc := cells_new w4 [Value.map (some (w3.heap.size + 1)), .slice A4 es4.length k4, .int .i64 h.len] 53 j v hv
          rwa [Addr.add_lit, Nat.zero_add] at hc
        have c1' := Lib.hid (HC5 1 _ rfl)
        have c2' := Lib.hid (HC5 2 _ rfl)
        clear hb4 hP4 hL4 hpc hso hz4 hs4 bn5 hab hA4 hn4 hi4 HC5
        go_upto_region 10 with fail
        rename_i K0 hK0
        go_cut [12] (fun s12 wx => s12 = .bool true ∧ wx = w4.alloc (.cells #[.map (some (w3.heap.size + 1)), .slice A4 es4.length k4, .int .i64 h.len] 53))
        case first =>
          have hst := HST.out.2
          have hk := HOK.out
          clear k1
          rcases stR_at hst with rfl | rfl | rfl | rfl | rfl | rfl | rfl
          all_goals first
            | exact absurd hk (by decide)
            | (clear hst hk
               go_wp2_with fail
               go_meet
               exact ⟨rfl, rfl⟩)
        case rest =>
          obtain ⟨rfl, rfl⟩ := hcut
          refine hK0 _ _ ?_
          clear k1
          go_wp2_with fail
          refine (HK22.out _).mono ?_
          rintro e w7 ⟨rfl, hb7⟩
          have d1 := bk hb7 c1'.out
          have d2 := bk hb7 c2'.out
          have HB7 := Lib.hid (Below.next HB5.out HB5.out.size hb7)
          have K18 := same_at _ _ (.slice A2 es2.length k2) (.slice A4 es4.length k4) es2 es4 w7 (HLa.out.below hb7) (HLb.out.below hb7) HAB.out HLN.out HIL.out
          clear hb7
          go_wp2_with fail
          refine K18.mono ?_
          rintro e w8 ⟨rfl, hb8⟩
          have HB8 := Lib.hid (Below.next HB7.out HB7.out.size hb8)
          have HE8 := Lib.hid (HE.out.cut HB8.out HE.out.ge)
          clear hb8 K18
          go_wp2_with fail
          refine (HKA.out _ HE8.out).mono ?_
          rintro e w9 ⟨rfl, hb9⟩
          go_wp2_with fail
          go_ret
          exact ⟨rfl, Below.next HB8.out HB8.out.size hb9⟩
      · go_wp2_with fail
        refine (HKA.out _ HE3.out).mono ?_
        rintro e w6 ⟨rfl, hb6⟩
        go_wp2_with fail
        go_ret
        exact ⟨rfl, Below.next HB3.out HB3.out.size hb6⟩
    · have hrs : rsL l = none := by rw [h7]; unfold rsOf; rw [hst0, if_neg (by rw [hk]; decide)]
      rw [hrs] at h20
      obtain ⟨rfl, hb2⟩ := h20
      have HR2 := Lib.hid h2
      have HB2 := Lib.hid (Below.next HB1.out HB1.out.size hb2)
      have HRD2 := Lib.hid ((HRD.out.below hb2).more hb2.size)
      have HST := Lib.hid (And.intro h3 h4)
      have HOK := Lib.hid hk
      clear hb2 h1 h2 h3 h4 h5 h6 h7 K20 HS hst0 hk hrs
      go_wp2_with fail
      refine (HK10.out _ HRD2.out).mono ?_
      rintro e w3 ⟨rfl, hb3⟩
      have HB3 := Lib.hid (Below.next HB2.out HB2.out.size hb3)
      have HRD3 := Lib.hid ((HRD2.out.below hb3).more hb3.size)
      have HE3 := Lib.hid (HE.out.cut HB3.out HE.out.ge)
      clear hb3
      cases hod : hrOddF false [] [] l
      · go_wp2_with fail
        refine (HK21.out _ HRD3.out).mono ?_
        rintro e w4 ⟨n4, V4, es4, s4, rfl, hb4, hP4, hL4, hA4, _, hn4, hi4, _, hz4, hs4⟩
        rw [HR2.out] at hs4 ⊢
        obtain rfl := hs4 _ rfl
        obtain ⟨A4, k4, rfl⟩ := row_form hL4.row
        have hpc : (pcl (w3.heap.size + 1) (.slice A4 es4.length k4) h.len).toArray = #[.map (some (w3.heap.size + 1)), .slice A4 es4.length k4, .int .i64 h.len] := rfl
        have hso : (some h : Option HRS).isSome = true := rfl
        rw [hpc, hso]
        have HB4 := Lib.hid (Below.next HB3.out HB3.out.size hb4)
        have bn5 := below_new w4 (.cells #[.map (some (w3.heap.size + 1)), .slice A4 es4.length k4, .int .i64 h.len] 53)
        have HB5 := Lib.hid (HB4.out.alloc HB4.out.size (.cells #[.map (some (w3.heap.size + 1)), .slice A4 es4.length k4, .int .i64 h.len] 53))
        have k1 := (hP4.below bn5).look kStatus (by simp)
        rw [← HST.out.1] at k1
        have HE5 := Lib.hid (HE.out.cut HB5.out HE.out.ge)
        clear hb4 hP4 hL4 hpc hso hz4 hs4 bn5 hA4 hn4 hi4
        go_upto_region 10 with fail
        rename_i K0 hK0
        go_cut [12] (fun s12 wx => s12 = .bool false ∧ wx = w4.alloc (.cells #[.map (some (w3.heap.size + 1)), .slice A4 es4.length k4, .int .i64 h.len] 53))
        case first =>
          have hst := HST.out.2
          have hk := HOK.out
          clear k1
          rcases stR_at hst with rfl | rfl | rfl | rfl | rfl | rfl | rfl
          all_goals first
            | exact absurd hk (by decide)
            | (clear hst hk
               go_wp2_with fail
               go_meet
               exact ⟨rfl, rfl⟩)
        case rest =>
          obtain ⟨rfl, rfl⟩ := hcut
          refine hK0 _ _ ?_
          clear k1
          go_wp2_with fail
          refine (HKA.out _ HE5.out).mono ?_
          rintro e w9 ⟨rfl, hb9⟩
          go_wp2_with fail
          go_ret
          exact ⟨rfl, Below.next HB5.out HB5.out.size hb9⟩
      · go_wp2_with fail
        refine (HKA.out _ HE3.out).mono ?_
        rintro e w6 ⟨rfl, hb6⟩
        go_wp2_with fail
        go_ret
        exact ⟨rfl, Below.next HB3.out HB3.out.size hb6⟩
end Go.Proofs.YtgcfnhchmmkndaaGreatDoor
