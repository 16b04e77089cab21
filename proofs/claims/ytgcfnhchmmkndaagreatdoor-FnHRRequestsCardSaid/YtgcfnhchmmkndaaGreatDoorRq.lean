/- laws.FnHRRequests: its walk. -/
import Derived.Test.YtgcfnhchmmkndaaGreatDoorL11
import Derived.Test.YtgcfnhchmmkndaaGreatDoorY1
import Derived.Test.YtgcfnhchmmkndaaGreatDoorS3
import Derived.Test.YtgcfnhchmmkndaaGreatDoorT1
import Derived.Test.YtgcfnhchmmkndaaGreatDoorE1
namespace Go.Proofs.YtgcfnhchmmkndaaGreatDoor
open Go.RowKit Go.Maps
set_option linter.unusedVariables false
set_option maxRecDepth 100000

theorem heads_len' (H : AL) : (headsOf H).length = H.length := by unfold headsOf; rw [List.length_map, sortK_len, List.length_map]
set_option maxHeartbeats 16000000 in
theorem requests_at (hReq : ∀ (mb K : Nat) (w : World), Mk w mb K → Calls Tryz.prog 7 #[.pointer (some ⟨mb, 0, none⟩)] w (ReqLPost w mb K))
    (w : World) (p : Addr) (A : Option Addr) (n c : Nat) (bs : List UInt8) (hE : Env w p) (hG : GW w) (hR : Reads w w.heap.size 1 A n (bcells bs)) (hc : n ≤ c) (hn : n ≤ 2147483647) :
    Calls Tryz.prog 3 #[.slice A n c] w (fun e w' => e = .returned (.bool true) ∧ Below w.heap.size w w') := by
  have hmk : Mk (w.alloc (.cells #[.slice A n c] 25)) w.heap.size w.heap.size := ⟨⟨A, n, c, bs, by simp, hR.alloc (Nat.le_refl _) _, hc, hn⟩, by simp, Nat.le_refl _, by simp⟩
  have hb0 := below_new w (.cells #[.slice A n c] 25)
  have hle : ¬ (2147483647 < (n : Int)) := by omega
  have KM := hReq _ _ _ hmk
  have HE := Lib.hid hE
  have HG := Lib.hid hG
  have HB0 := Lib.hid hb0
  clear hR hmk hb0 hE hG hReq
  go_enter Tryz.func3, Tryz.ntmps3
  go_wp2_with fail
  refine KM.mono ?_
  rintro e w1 ⟨A1, c1, l, rfl, hmk, hl11, hML⟩
  have HB1 := Lib.hid (HB0.out.grown hML.m.g HB0.out.size (fun k hk => by injection hk with hk; omega))
  have HMK := Lib.hid hmk
  have hll : l.length ≤ 100 := by omega
  have hrd : Reads w1 w1.heap.size 2 A1 l.length (fc l) := Reads.of_own hML.row
  have hcap : l.length ≤ c1 := row_cap hML.row
  have hle1 : w.heap.size + 1 ≤ w1.heap.size := by have := hML.m.g.size; simp at this; omega
  have HE1 := Lib.hid (HE.out.cut HB1.out HE.out.ge)
  have HG1 := Lib.hid (HG.out.below HB1.out)
  have HS := Lib.hid (same_l hmk)
  have HRD := Lib.hid hrd
  have K8 := hrG_at GW A1 c1 (l.length + 2) l p (rqL l) w1 hrd (by omega) HE1.out (by omega) (reqOk_l hmk.fld hll p) (fun q hq => (rqb_of hmk.fld hll hq).1) (fun W k => HG1.out.below k)
  have HHL : Hid (∀ q, rqL l = some q → q.H.length ≤ 200) := Lib.hid fun q hq => (rqb_of hmk.fld hll hq).2
  clear KM hML hmk hrd
  go_wp2_with fail
  refine K8.mono ?_
  rintro e w2 ⟨hv, es, tA, tc, rfl, hb2, hL2, hA2⟩
  have HB2 := Lib.hid (Below.next HB1.out HB1.out.size hb2)
  obtain ⟨A2, k2, rfl⟩ := row_form hL2.row
  have hw12 := hb2.size
  have HRD2 := Lib.hid ((HRD.out.below hb2).more hb2.size)
  have HE2 := Lib.hid (HE1.out.cut hb2 HE1.out.ge)
  have HL2 := Lib.hid hL2
  have HA2 := Lib.hid hA2
  have K9 : ∀ o : Obj, Calls Tryz.prog 9 #[.slice A1 l.length c1] (w2.alloc o) (HQPost (w2.alloc o) (l.length + 2) (hqLs l)) := fun o => hrreq_at l A1 c1 (w2.alloc o) ((HRD2.out.below (below_new w2 o)).more (below_new w2 o).size) hcap (by omega) (fun q hq => by have := (HMK.out.fld q hq).len; omega) (hs_l HMK.out.fld hll)
  have K10 := fun (W : World) (h : Reads W W.heap.size 2 A1 l.length (fc l)) => odd_at true l A1 c1 W h hcap (by omega)
  have HK10 := Lib.hid K10
  have KA := fun (W : World) (h : Env W p) => awake_at p 7 W h (by omega) (aw_ok p)
  have HKA := Lib.hid KA
  clear K8 hb2 hL2 hA2 K10 KA
  obtain ⟨r, hr⟩ : ∃ r, rqL l = r := ⟨_, rfl⟩
  obtain ⟨h0, hh0⟩ : ∃ r, hqLs l = r := ⟨_, rfl⟩
  have hsame := HS.out
  rw [hr, hh0] at hsame
  rw [hr] at HHL HA2 ⊢
  rw [hh0] at K9
  have HK9 := Lib.hid K9
  clear K9 hr hh0 HS
  rcases hsame with ⟨rfl, rfl⟩ | ⟨q, ⟨rm, ru, rp, rh, ri, rn, rhd⟩, rfl, rfl, e1, e2, e3, e4, e5, e6, e7⟩
  · have hrv : reqV none (.slice A2 es.length k2) tA tc = .agg #[str [], str [], str [], str [], str [], .int .i64 0, .slice none 0 0, .slice none 0 0] := rfl
    have hso : (none : Option RQ).isSome = false := rfl
    rw [hrv, hso]
    clear hrv hso
    go_wp2_with fail
    refine (HK9.out _).mono ?_
    rintro e w3 ⟨v3, rfl, hb3, ⟨q0, A0, n0, c0, rfl⟩, _⟩
    have hso : (none : Option HQ).isSome = false := rfl
    rw [hso]
    have hql : (hqL q0 (.slice A0 n0 c0)).toArray = #[str q0.meth, str q0.url, str q0.proto, str q0.host, str q0.uri, .int .i64 q0.len, .slice A0 n0 c0, .slice none 0 0] := rfl
    rw [hql]
    have b2 := HB2.out.alloc HB2.out.size (.cells #[str [], str [], str [], str [], str [], .int .i64 0, .slice none 0 0, .slice none 0 0] 31)
    have HB3 := Lib.hid (Below.next b2 b2.size hb3)
    have hz3 : w2.heap.size + 1 ≤ w3.heap.size := by have := hb3.size; simp at this; omega
    have HB4 := Lib.hid (HB3.out.alloc HB3.out.size (.cells #[str q0.meth, str q0.url, str q0.proto, str q0.host, str q0.uri, .int .i64 q0.len, .slice A0 n0 c0, .slice none 0 0] 31))
    have HRD4 := Lib.hid (((HRD2.out.alloc (Nat.le_refl _) (.cells #[str [], str [], str [], str [], str [], .int .i64 0, .slice none 0 0, .slice none 0 0] 31)).more (by simp)).below hb3 |>.more hb3.size)
    have HE4 := Lib.hid (HE.out.cut HB4.out HE.out.ge)
    clear hql hso hb3 b2
    go_wp2_with fail
    refine (HK10.out _ ((HRD4.out.alloc (Nat.le_refl _) _).more (by simp))).mono ?_
    rintro e w5 ⟨rfl, hb5⟩
    have HB5 := Lib.hid (Below.next HB4.out HB4.out.size hb5)
    have HE5 := Lib.hid (HE4.out.cut hb5 HE4.out.ge)
    clear hb5
    cases hod : hrOddF true [] [] l
    · go_wp2_with fail
      refine (HKA.out _ HE5.out).mono ?_
      rintro e w6 ⟨rfl, hb6⟩
      go_wp2_with fail
      go_ret
      exact ⟨rfl, Below.next HB5.out HB5.out.size hb6⟩
    · go_wp2_with fail
      refine (HKA.out _ HE5.out).mono ?_
      rintro e w6 ⟨rfl, hb6⟩
      go_wp2_with fail
      go_ret
      exact ⟨rfl, Below.next HB5.out HB5.out.size hb6⟩
  · dsimp only at e1 e2 e3 e4 e5 e6 e7
    have hrv : reqV (some q) (.slice A2 es.length k2) tA tc = .agg #[str q.meth, str (urlOf q), str q.proto, str q.host, str q.uri, .int .i64 q.len, .slice A2 es.length k2, .slice tA 0 tc] := rfl
    have hso : (some q : Option RQ).isSome = true := rfl
    rw [hrv, hso, e1, e2, e3, e4, e5, e6]
    have HHq := HHL.out q rfl
    have hA2' : absE es = rhd := HA2.out.trans e7
    have hes : es.length ≤ 900000 := by
      rw [absE_len HA2.out]
      show (headsOf q.H).length ≤ 900000
      rw [heads_len']
      omega
    clear hrv hso e1 e2 e3 e4 e5 e6 e7 HHq HHL HA2
    go_wp2_with fail
    refine (HK9.out _).mono ?_
    rintro e w3 ⟨v3, rfl, hb3, _, hq3⟩
    obtain ⟨VA, vc, es', rfl, hL3, hA3, hn3, hi3⟩ := hq3 _ rfl
    have hso : (some (⟨rm, ru, rp, rh, ri, rn, rhd⟩ : HQ)).isSome = true := rfl
    rw [hso]
    have hql : (hqL (⟨rm, ru, rp, rh, ri, rn, rhd⟩ : HQ) (.slice VA es'.length vc)).toArray = #[str rm, str ru, str rp, str rh, str ri, .int .i64 rn, .slice VA es'.length vc, .slice none 0 0] := rfl
    rw [hql]
    have b2n := below_new w2 (.cells #[str rm, str ru, str rp, str rh, str ri, .int .i64 rn, .slice A2 es.length k2, .slice tA 0 tc] 31)
    have b2 := HB2.out.alloc HB2.out.size (.cells #[str rm, str ru, str rp, str rh, str ri, .int .i64 rn, .slice A2 es.length k2, .slice tA 0 tc] 31)
    have b4n := below_new w3 (.cells #[str rm, str ru, str rp, str rh, str ri, .int .i64 rn, .slice VA es'.length vc, .slice none 0 0] 31)
    have HB3 := Lib.hid (Below.next b2 b2.size hb3)
    have hz3 : w2.heap.size + 1 ≤ w3.heap.size := by have := hb3.size; simp at this; omega
    have HB4 := Lib.hid (HB3.out.alloc HB3.out.size (.cells #[str rm, str ru, str rp, str rh, str ri, .int .i64 rn, .slice VA es'.length vc, .slice none 0 0] 31))
    have HRD4 := Lib.hid (((HRD2.out.alloc (Nat.le_refl _) (.cells #[str rm, str ru, str rp, str rh, str ri, .int .i64 rn, .slice A2 es.length k2, .slice tA 0 tc] 31)).more (by simp)).below hb3 |>.more hb3.size)
    have HE4 := Lib.hid (HE.out.cut HB4.out HE.out.ge)
    have HZ5 := Lib.hid ((((Z8.new w2 (str rm) (str ru) (str rp) (str rh) (str ri) (.int .i64 rn) (.slice A2 es.length k2) (.slice tA 0 tc) 31).below hb3)).below b4n)
    have HZ7 := Lib.hid (Z8.new w3 (str rm) (str ru) (str rp) (str rh) (str ri) (.int .i64 rn) (.slice VA es'.length vc) (.slice none 0 0) 31)
    have HLa := Lib.hid (((HL2.out.below b2n).below hb3).below b4n)
    have HLb := Lib.hid (hL3.below b4n)
    have hab : absE es = absE es' := hA2'.trans hA3.symm
    have hil : ∀ e ∈ es, e.items.length ≤ 900000 := items_eq hab fun e he => by have := hi3 e he; omega
    have HAB := Lib.hid hab
    have HIL := Lib.hid hil
    have hz4 : (w3.alloc (.cells #[str rm, str ru, str rp, str rh, str ri, .int .i64 rn, .slice VA es'.length vc, .slice none 0 0] 31)).heap.size = w3.heap.size + 1 := al_size _ _
    clear hql hso hb3 b2 b2n b4n hL3 hA3 hn3 hi3 hq3 hab hil hA2'
    go_wp2_with fail
    refine (HK10.out _ ((HRD4.out.alloc (Nat.le_refl _) _).more (by simp))).mono ?_
    rintro e w5 ⟨rfl, hb5⟩
    have HB5 := Lib.hid (Below.next HB4.out HB4.out.size hb5)
    have HE5 := Lib.hid (HE4.out.cut hb5 HE4.out.ge)
    obtain ⟨⟨x0, x1, x2, x3, x4, x5, x6, x7⟩, xf⟩ := HZ5.out.below hb5
    obtain ⟨⟨y0, y1, y2, y3, y4, y5, y6, y7⟩, yf⟩ := HZ7.out.below hb5
    have K12 := alike9_at rm ru rp rh ri rn A2 VA tA none k2 vc tc 0 _ _ es es' w5 (HLa.out.below hb5) (HLb.out.below hb5) HAB.out hes HIL.out
    clear hb5
    cases hod : hrOddF true [] [] l
    · go_wp2_with fail
      refine K12.mono ?_
      rintro e w6 ⟨rfl, hb6⟩
      have HB6 := Lib.hid (Below.next HB5.out HB5.out.size hb6)
      have HE6 := Lib.hid (HE5.out.cut hb6 HE5.out.ge)
      clear hb6 K12
      go_wp2_with fail
      refine (HKA.out _ HE6.out).mono ?_
      rintro e w7 ⟨rfl, hb7⟩
      go_wp2_with fail
      go_ret
      exact ⟨rfl, Below.next HB6.out HB6.out.size hb7⟩
    · go_wp2_with fail
      refine (HKA.out _ HE5.out).mono ?_
      rintro e w6 ⟨rfl, hb6⟩
      go_wp2_with fail
      go_ret
      exact ⟨rfl, Below.next HB5.out HB5.out.size hb6⟩
end Go.Proofs.YtgcfnhchmmkndaaGreatDoor
