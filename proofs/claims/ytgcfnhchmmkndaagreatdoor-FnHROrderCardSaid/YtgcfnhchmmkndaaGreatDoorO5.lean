/- laws.FnHROrder: its walk. -/
import Derived.Test.YtgcfnhchmmkndaaGreatDoorO4
import Derived.Test.YtgcfnhchmmkndaaGreatDoorY1
namespace Go.Proofs.YtgcfnhchmmkndaaGreatDoor
open Go.RowKit Go.Maps
set_option linter.unusedVariables false
set_option maxRecDepth 100000

/-- what the other order is read as -/
def TurnRel (X wx : World) (q' : RQ) (s13 s14 : Value) : Prop :=
  ∃ (xb : Nat) (VA tA : Option Addr) (k9 tc : Nat) (es' : List Ent), s13 = .pointer (some ⟨xb, 0, none⟩) ∧ s14 = .bool true ∧ Z8 wx xb (str q'.meth) (str (urlOf q')) (str q'.proto) (str q'.host) (str q'.uri) (.int .i64 q'.len) (.slice VA es'.length k9) (.slice tA 0 tc) ∧
    HL wx X.heap.size (.slice VA es'.length k9) es' ∧ absE es' = headsOf q'.H ∧ Below X.heap.size X wx
theorem hl_drew {w : World} {base : Nat} {v : Value} {es : List Ent} (h : HL w base v es) : HL w.drew base v es :=
  ⟨h.row, fun e he => ⟨by obtain ⟨A, c, h1, h2, h3, h4⟩ := (h.vals e he).ex; exact ⟨A, c, h1, h2, h3, h4⟩⟩, h.lo⟩
/-- the turned list, in a world that has grown -/
def RV (X V : World) (A6 : Option Addr) (l : List (BS × BS)) : Prop := Below X.heap.size X V ∧ Reads V V.heap.size 2 A6 l.length (fc l)
theorem RV.drew {X V : World} {A6 : Option Addr} {l : List (BS × BS)} (h : RV X V A6 l) : RV X V.drew A6 l := ⟨h.1.drew, h.2.drew⟩
theorem RV.al {X V : World} {A6 : Option Addr} {l : List (BS × BS)} (h : RV X V A6 l) (o : Obj) : RV X (V.alloc o) A6 l := ⟨h.1.alloc h.1.size o, (h.2.alloc (Nat.le_refl _) o).more (by simp)⟩
theorem below_al {V w7 : World} {o : Obj} (h : Below (V.alloc o).heap.size (V.alloc o) w7) : Below V.heap.size V w7 := Below.next (below_new V o) (by simp) h
theorem TurnRel.new {X W : World} {q' : RQ} {VA tA : Option Addr} {k9 tc base : Nat} {es' : List Ent} (hL : HL W base (.slice VA es'.length k9) es') (hb : X.heap.size ≤ base) (hA : absE es' = headsOf q'.H) (hB : Below X.heap.size X W) {N : Nat} (hN : W.heap.size = N) :
    TurnRel X (W.alloc (.cells #[str q'.meth, str (urlOf q'), str q'.proto, str q'.host, str q'.uri, .int .i64 q'.len, .slice VA es'.length k9, .slice tA 0 tc] 31)) q' (.pointer (some ⟨N, 0, none⟩)) (.bool true) := by
  subst hN
  exact ⟨_, VA, tA, k9, tc, es', rfl, rfl, Z8.new W _ _ _ _ _ _ _ _ 31, (hL.below (below_new W _)).base hb, hA, hB.alloc hB.size _⟩
theorem TurnRel.old {X W : World} {q' : RQ} {VA tA : Option Addr} {k9 tc base xb : Nat} {es' : List Ent} (hL : HL W base (.slice VA es'.length k9) es') (hb : X.heap.size ≤ base) (hA : absE es' = headsOf q'.H) (hB : Below X.heap.size X W) {v0 v1 v2 v3 v4 v5 v6 v7 : Value} (hZ : Z8 W xb v0 v1 v2 v3 v4 v5 v6 v7) (hx : xb < base) (hx2 : X.heap.size ≤ xb) :
    TurnRel X (put8v W xb (str q'.meth) (str (urlOf q')) (str q'.proto) (str q'.host) (str q'.uri) (.int .i64 q'.len) (.slice VA es'.length k9) (.slice tA 0 tc)) q' (.pointer (some ⟨xb, 0, none⟩)) (.bool true) := by
  have g := put8v_grown W xb (str q'.meth) (str (urlOf q')) (str q'.proto) (str q'.host) (str q'.uri) (.int .i64 q'.len) (.slice VA es'.length k9) (.slice tA 0 tc)
  exact ⟨_, VA, tA, k9, tc, es', rfl, rfl, hZ.put, (hL.grown g hx).base hb, hA, hB.grown g hB.size (fun k hk => by injection hk with hk; omega)⟩
theorem TurnRel.drew {X W : World} {q' : RQ} {a b : Value} (h : TurnRel X W q' a b) : TurnRel X W.drew q' a b := by
  obtain ⟨xb, VA, tA, k9, tc, es', h1, h2, h3, h4, h5, h6⟩ := h
  exact ⟨xb, VA, tA, k9, tc, es', h1, h2, h3.drew, hl_drew h4, h5, h6.drew⟩
set_option maxHeartbeats 32000000 in
theorem order_at (hReq : ∀ (mb K : Nat) (w : World), Mk w mb K → Calls Tryz.prog 7 #[.pointer (some ⟨mb, 0, none⟩)] w (ReqLPost w mb K))
    (w : World) (p : Addr) (A : Option Addr) (n c y : Nat) (bs : List UInt8) (hE : Env w p) (hG : GW w) (hR : Reads w w.heap.size 1 A n (bcells bs)) (hc : n ≤ c) (hn : n ≤ 2147483647) (hy : y < 256) :
    Calls Tryz.prog 4 #[.slice A n c, .int .u8 (y : Int)] w (fun e w' => e = .returned (.bool true) ∧ Below w.heap.size w w') := by
  have hmk : Mk (w.alloc (.cells #[.slice A n c] 25)) w.heap.size w.heap.size := ⟨⟨A, n, c, bs, by simp, hR.alloc (Nat.le_refl _) _, hc, hn⟩, by simp, Nat.le_refl _, by simp⟩
  have hb0 := below_new w (.cells #[.slice A n c] 25)
  have hle : ¬ (2147483647 < (n : Int)) := by omega
  have KM := hReq _ _ _ hmk
  have HE := Lib.hid hE
  have HG := Lib.hid hG
  have HB0 := Lib.hid hb0
  clear hR hmk hb0 hE hG hReq
  go_enter Tryz.func4, Tryz.ntmps4
  go_wp2_with fail
  refine KM.mono ?_
  rintro e w1 ⟨A1, c1, l, rfl, hmk, hl11, hML⟩
  have HB1 := Lib.hid (HB0.out.grown hML.m.g HB0.out.size (fun k hk => by injection hk with hk; omega))
  have HMK := Lib.hid hmk
  have hll : l.length ≤ 100 := by omega
  have hrd : Reads w1 w1.heap.size 2 A1 l.length (fc l) := Reads.of_own hML.row
  have hcap : l.length ≤ c1 := row_cap hML.row
  have HE1 := Lib.hid (HE.out.cut HB1.out HE.out.ge)
  have HG1 := Lib.hid (HG.out.below HB1.out)
  have HRD := Lib.hid hrd
  have K8 := hrG_at GW A1 c1 (l.length + 2) l p (rqL l) w1 hrd (by omega) HE1.out (by omega) (reqOk_l hmk.fld hll p) (fun q hq => (rqb_of hmk.fld hll hq).1) (fun W k => HG1.out.below k)
  clear KM hML hmk hrd
  go_wp2_with fail
  refine K8.mono ?_
  rintro e w2 ⟨hv, es, tA, tc, rfl, hb2, hL2, hA2⟩
  have HB2 := Lib.hid (Below.next HB1.out HB1.out.size hb2)
  obtain ⟨A2, k2, rfl⟩ := row_form hL2.row
  have HRD2 := Lib.hid ((HRD.out.below hb2).more hb2.size)
  have HL2 := Lib.hid hL2
  have HA2 := Lib.hid hA2
  have K13 : ∀ o : Obj, Calls Tryz.prog 13 #[.slice A1 l.length c1] (w2.alloc o) (SplitPost (w2.alloc o) l) := fun o => split_at l A1 c1 (w2.alloc o) ((HRD2.out.alloc (Nat.le_refl _) o).more (by simp)) hcap (by omega)
  have KA := fun (W : World) (h : Env W p) => awake_at p 7 W h (by omega) (aw_ok p)
  have HKA := Lib.hid KA
  clear K8 hb2 hL2 hA2 KA
  obtain ⟨r, hr⟩ : ∃ r, rqL l = r := ⟨_, rfl⟩
  have HR := Lib.hid hr
  rw [hr] at HA2 ⊢
  clear hr
  cases r with
  | none =>
    have hrv : reqV none (.slice A2 es.length k2) tA tc = .agg #[str [], str [], str [], str [], str [], .int .i64 0, .slice none 0 0, .slice none 0 0] := rfl
    have hso : (none : Option RQ).isSome = false := rfl
    rw [hrv, hso]
    have HK13 := Lib.hid (K13 (.cells #[str [], str [], str [], str [], str [], .int .i64 0, .slice none 0 0, .slice none 0 0] 31))
    have HB3 := Lib.hid (HB2.out.alloc HB2.out.size (.cells #[str [], str [], str [], str [], str [], .int .i64 0, .slice none 0 0, .slice none 0 0] 31))
    clear hrv hso K13
    go_wp2_with fail
    refine HK13.out.mono ?_
    rintro e w3 ⟨hb3, hs⟩
    have HB4 := Lib.hid (Below.next HB3.out HB3.out.size hb3)
    have HE4 := Lib.hid (HE.out.cut HB4.out HE.out.ge)
    clear hb3
    rcases hs with ⟨_, rfl⟩ | ⟨a, b, b', A3, c3, A4, c4, _, _, _, rfl, _, _⟩
    · go_wp2_with fail
      refine (HKA.out _ HE4.out).mono ?_
      rintro e w6 ⟨rfl, hb6⟩
      go_wp2_with fail
      go_ret
      exact ⟨rfl, Below.next HB4.out HB4.out.size hb6⟩
    · go_wp2_with fail
      refine (HKA.out _ HE4.out).mono ?_
      rintro e w6 ⟨rfl, hb6⟩
      go_wp2_with fail
      go_ret
      exact ⟨rfl, Below.next HB4.out HB4.out.size hb6⟩
  | some q =>
    have hrv : reqV (some q) (.slice A2 es.length k2) tA tc = .agg #[str q.meth, str (urlOf q), str q.proto, str q.host, str q.uri, .int .i64 q.len, .slice A2 es.length k2, .slice tA 0 tc] := rfl
    have hso : (some q : Option RQ).isSome = true := rfl
    rw [hrv, hso]
    have hA2' : absE es = headsOf q.H := HA2.out
    have hes : es.length ≤ 900000 := by
      rw [absE_len hA2', heads_len2]
      have := (rqb_of HMK.out.fld hll HR.out).2
      omega
    have hil : ∀ e ∈ es, e.items.length ≤ 900000 := fun e he => by
      have hm : (e.key, e.items) ∈ absE es := List.mem_map_of_mem (f := fun e : Ent => (e.key, e.items)) he
      rw [hA2'] at hm
      have := heads_items2 (rqi_of HMK.out.fld hll HR.out) _ hm
      simp only at this
      omega
    have HIL := Lib.hid hil
    have HK13 := Lib.hid (K13 (.cells #[str q.meth, str (urlOf q), str q.proto, str q.host, str q.uri, .int .i64 q.len, .slice A2 es.length k2, .slice tA 0 tc] 31))
    have b2n := below_new w2 (.cells #[str q.meth, str (urlOf q), str q.proto, str q.host, str q.uri, .int .i64 q.len, .slice A2 es.length k2, .slice tA 0 tc] 31)
    have HB3 := Lib.hid (HB2.out.alloc HB2.out.size (.cells #[str q.meth, str (urlOf q), str q.proto, str q.host, str q.uri, .int .i64 q.len, .slice A2 es.length k2, .slice tA 0 tc] 31))
    have HZ3 := Lib.hid (Z8.new w2 (str q.meth) (str (urlOf q)) (str q.proto) (str q.host) (str q.uri) (.int .i64 q.len) (.slice A2 es.length k2) (.slice tA 0 tc) 31)
    have HL3 := Lib.hid (HL2.out.below b2n)
    clear hrv hso K13 hA2' hil b2n
    go_wp2_with fail
    refine HK13.out.mono ?_
    rintro e X ⟨hb3, hs⟩
    have HB4 := Lib.hid (Below.next HB3.out HB3.out.size hb3)
    have HE4 := Lib.hid (HE.out.cut HB4.out HE.out.ge)
    have HG4 := Lib.hid (HG.out.below HB4.out)
    have HZ4 := Lib.hid (HZ3.out.below hb3)
    have HL4 := Lib.hid (HL3.out.below hb3)
    clear hb3
    rcases hs with ⟨_, rfl⟩ | ⟨a, b, b', A3, c3, A4, c4, hs1, hs2, hs3, rfl, hr1, hr2⟩
    · go_wp2_with fail
      refine (HKA.out _ HE4.out).mono ?_
      rintro e w6 ⟨rfl, hb6⟩
      go_wp2_with fail
      go_ret
      exact ⟨rfl, Below.next HB4.out HB4.out.size hb6⟩
    · by_cases ha0 : a.length = 0
      · clear hr1 hr2
        go_wp2_with fail
        refine (HKA.out _ HE4.out).mono ?_
        rintro e w6 ⟨rfl, hb6⟩
        go_wp2_with fail
        go_ret
        exact ⟨rfl, Below.next HB4.out HB4.out.size hb6⟩
      · obtain ⟨k, hk⟩ : ∃ k, y % a.length = k := ⟨_, rfl⟩
        have hkl : k < a.length := hk ▸ Nat.mod_lt _ (by omega)
        have ht : ((y : Int)).tmod (a.length : Int) = (k : Int) := by rw [tmod_nat, hk]
        have hal : a.length + b.length = l.length := by
          have := (splitF_ok l [] [] a b (fun q hq => by cases hq) (fun q hq => by cases hq) hs1).1
          rw [show [] ++ [] ++ l = l from rfl] at this
          rw [this, List.length_append]
        have hal2 : a.length + b'.length ≤ 100 := by omega
        obtain ⟨hmk', q', hq', e1, e2, e3, e4, e5, e6, e7⟩ := turn_same HMK.out hs1 hs2 k HR.out
        have hln : (turnL a b' k).length ≤ 100 := by rw [turn_len hs3]; omega
        have HMK' := Lib.hid hmk'
        have HQ' := Lib.hid hq'
        have HZ5 : Hid (Z8 X w2.heap.size (str q'.meth) (str (urlOf q')) (str q'.proto) (str q'.host) (str q'.uri) (.int .i64 q'.len) (.slice A2 es.length k2) (.slice tA 0 tc)) := Lib.hid (by have h := HZ4.out; rwa [e1, e2, e3, e4, e5, e6] at h)
        have HAQ : Hid (absE es = headsOf q'.H) := Lib.hid (HA2.out.trans e7)
        obtain ⟨g, hg, hgb, hgl, hgc⟩ := row_block hr1 (by omega)
        obtain ⟨AA, hAA⟩ : ∃ AA, (if c3 = k then some (⟨g, 0, none⟩ : Addr) else some ⟨g, k * 2, none⟩) = AA := ⟨_, rfl⟩
        have KC := fun (Y : World) (B : Nat) => turn_at X A3 A4 c3 c4 k a b' hr1 hr2 (by omega) hkl hal2 hg hAA Y B
        have HKC := Lib.hid KC
        have K8 : ∀ (V : World) (A6 : Option Addr) (c6 : Nat), RV X V A6 (turnL a b' k) → Calls Tryz.prog 8 #[.slice A6 (turnL a b' k).length c6] V (HRPost V (some q')) := fun V A6 c6 ⟨hbV, hrV⟩ => by
          have h := hrG_at GW A6 c6 ((turnL a b' k).length + 2) (turnL a b' k) p (rqL (turnL a b' k)) V hrV (by omega) (HE4.out.cut hbV HE4.out.ge) (by omega) (reqOk_l hmk'.fld hln p) (fun q hq => (rqb_of hmk'.fld hln hq).1) (fun W kk => (HG4.out.below hbV).below kk)
          rw [hq'] at h
          exact h
        have HK8 := Lib.hid K8
        have hnz : ((a.length : Int) == 0) = false := by rw [beq_eq_false_iff_ne]; omega
        have hnil : ¬ a = [] := fun e => ha0 (by rw [e]; rfl)
        have hkc : k ≤ c3 := by omega
        have hkl2 : k ≤ a.length := by omega
        have C1 := Lib.hid (CW.made (X := X) (Below.refl _ _) (.slice AA (a.length - k) (c3 - k)) (.slice (some ⟨g, 0, none⟩) k c3) (.slice A4 b'.length c4))
        have c2 := (CW.made (X := X) (below_new X (.cells zc31 31)) (.slice AA (a.length - k) (c3 - k)) (.slice (some ⟨g, 0, none⟩) k c3) (.slice A4 b'.length c4))
        have ZA := Lib.hid ((Z8.new X (str []) (str []) (str []) (str []) (str []) (.int .i64 0) (.slice none 0 0) (.slice none 0 0) 31).below (below_new _ (.cells #[.slice AA (a.length - k) (c3 - k), .slice (some ⟨g, 0, none⟩) k c3, .slice A4 b'.length c4] 26)))
        have zb := (Z8.new (X.alloc (.cells #[.slice AA (a.length - k) (c3 - k), .slice (some ⟨g, 0, none⟩) k c3, .slice A4 b'.length c4] 26)) (str []) (str []) (str []) (str []) (str []) (.int .i64 0) (.slice none 0 0) (.slice none 0 0) 31)
        simp only [al_size] at zb c2
        have C2 := Lib.hid c2
        have ZB := Lib.hid zb
        subst hg
        clear zb c2 hk hal hal2 hs1 hs2 hs3 hr1 hr2 hmk' hq' e1 e2 e3 e4 e5 e6 e7 KC K8 hgb HZ4 HZ3 HL3
        go_upto_region 10 with fail
        rename_i K0 hK0
        go_cut [13, 14] (fun s13 s14 wx => TurnRel X wx q' s13 s14)
        case first =>
          go_region_law (first
            | (go_simp; go_at_call 14
               refine (HKC.out _ _ (by first | exact C1.out | exact C1.out.drew | exact C2.out | exact C2.out.drew | exact C1.out.al _ | exact (C1.out.al _).drew | exact C1.out.drew.al _)).mono ?_
               rintro e w6 ⟨A6, c6, rfl, hr6, hbY, hb6⟩
               have P6 : Hid (RV X w6 A6 (turnL a b' k)) := Lib.hid ⟨hb6, Reads.of_own hr6⟩
               (try have HZ6 := Lib.hid (ZA.out.below hbY))
               (try have HZ6 := Lib.hid (ZA.out.drew.below hbY))
               (try have HZ6 := Lib.hid (ZB.out.below hbY))
               (try have HZ6 := Lib.hid (ZB.out.drew.below hbY))
               have hs6 : X.heap.size + 1 ≤ w6.heap.size := by have := hbY.size; simp at this; omega
               (try have hs6' : X.heap.size + 2 ≤ w6.heap.size := by (have := hbY.size; simp at this; omega))
               clear hr6 hb6 hbY)
            | (go_simp; go_at_call 8
               have P7 := P6
               first
                 | (refine (HK8.out _ _ _ P6.out).mono ?_
                    rintro e w7 ⟨hv, es', tA', tc', rfl, hb7, hL7, hA7⟩
                    (try have HZ7 := Lib.hid (HZ6.out.below hb7)))
                 | (refine (HK8.out _ _ _ P6.out.drew).mono ?_
                    rintro e w7 ⟨hv, es', tA', tc', rfl, hb7, hL7, hA7⟩
                    (try have HZ7 := Lib.hid (HZ6.out.drew.below hb7)))
                 | (refine (HK8.out _ _ _ (P6.out.al _)).mono ?_
                    rintro e w7 ⟨hv, es', tA', tc', rfl, hb7, hL7, hA7⟩
                    have HZ7 := Lib.hid ((Z8.new _ _ _ _ _ _ _ _ _ _).below hb7))
                 | (refine (HK8.out _ _ _ (P6.out.al _).drew).mono ?_
                    rintro e w7 ⟨hv, es', tA', tc', rfl, hb7, hL7, hA7⟩
                    have HZ7 := Lib.hid ((Z8.new _ _ _ _ _ _ _ _ _ _).drew.below hb7))
               obtain ⟨VA, k9, rfl⟩ := row_form hL7.row
               have HB7 := Lib.hid (Below.next P6.out.1 P6.out.1.size (by first | exact hb7 | exact below_al hb7))
               have hrv' : reqV (some q') (.slice VA es'.length k9) tA' tc' = .agg #[str q'.meth, str (urlOf q'), str q'.proto, str q'.host, str q'.uri, .int .i64 q'.len, .slice VA es'.length k9, .slice tA' 0 tc'] := rfl
               have hso' : (some q' : Option RQ).isSome = true := rfl
               rw [hrv', hso']
               (try obtain ⟨⟨z0, z1, z2, z3, z4, z5, z6, z7⟩, zf⟩ := HZ7.out)
               clear hb7 hrv' hso' P7))
          all_goals go_wp2_with fail
          all_goals go_meet
          · exact TurnRel.new (N := w7.heap.size) hL7 (by first | omega | (simp; omega)) hA7 HB7.out rfl
          · exact TurnRel.old (xb := w6.heap.size) hL7 (by first | omega | (simp; done) | (simp; omega)) hA7 HB7.out HZ7.out (by first | omega | (simp; done) | (simp; omega)) (by omega)
          · exact TurnRel.old (xb := X.heap.size + 1) hL7 (by first | omega | (simp; done) | (simp; omega)) hA7 HB7.out HZ7.out (by first | omega | (simp; done) | (simp; omega)) (by omega)
          · exact TurnRel.old (xb := X.heap.size) hL7 (by first | omega | (simp; done) | (simp; omega)) hA7 HB7.out HZ7.out (by first | omega | (simp; done) | (simp; omega)) (by omega)
        case rest =>
          obtain ⟨xb, VA, tA', k9, tc', es', rfl, rfl, hz, hL9, hA9, hb9⟩ := hcut
          obtain ⟨⟨x0, x1, x2, x3, x4, x5, x6, x7⟩, xf⟩ := HZ5.out.below hb9
          obtain ⟨⟨y0, y1, y2, y3, y4, y5, y6, y7⟩, yf⟩ := hz
          have K12 := alike9_at q'.meth (urlOf q') q'.proto q'.host q'.uri q'.len A2 VA tA tA' k2 k9 tc tc' _ _ es es' wc (HL4.out.below hb9) hL9 (HAQ.out.trans hA9.symm) hes HIL.out
          have HB9 := Lib.hid (Below.next HB4.out HB4.out.size hb9)
          have HE9 := Lib.hid (HE4.out.cut hb9 HE4.out.ge)
          clear hL9 hA9 hb9
          go_wp2_with fail
          refine K12.mono ?_
          rintro e w6 ⟨rfl, hb6⟩
          have HB6 := Lib.hid (Below.next HB9.out HB9.out.size hb6)
          have HE6 := Lib.hid (HE9.out.cut hb6 HE9.out.ge)
          clear hb6 K12
          go_wp2_with fail
          refine (HKA.out _ HE6.out).mono ?_
          rintro e w7 ⟨rfl, hb7⟩
          go_wp2_with fail
          go_ret
          exact ⟨rfl, Below.next HB6.out HB6.out.size hb7⟩
end Go.Proofs.YtgcfnhchmmkndaaGreatDoor
