/- laws.FnHRTrailers over the reading of hrAwake's request. -/
import Derived.Test.YtgcfnhchmmkndaaGreatDoorF1
import Derived.Test.YtgcfnhchmmkndaaGreatDoorC4
import Derived.Test.YtgcfnhchmmkndaaGreatDoorB7
namespace Go.Proofs.YtgcfnhchmmkndaaGreatDoor
open Go.RowKit Go.Maps
set_option linter.unusedVariables false
set_option maxRecDepth 100000

theorem nm_ok : ∀ i, i < 4 → (Lib.toLowerA (nmF i) == nmF i) = true ∧ pseudoB (nmF i) = false ∧ regularOk (nmF i) [] = true ∧ trailerOk (nmF i) = true ∧ tokAll (nmF i) = true ∧ ascii (nmF i) = true ∧ (nmF i).length ≤ 11 ∧ (nmF i == teName) = false ∧ rtOk (nmF i, []) = true := by decide
theorem vl_ok : ∀ j, j < 26 → valOk [118, letC j] = true := by decide
theorem trField_ok {q : BS × BS} (h : trField q) : trFieldOk q = true := by
  obtain ⟨⟨i, hi, h1⟩, j, hj, h2⟩ := h
  obtain ⟨a1, a2, a3, a4, a5, a6, a7, a8, a9⟩ := nm_ok i hi
  have b := vl_ok j hj
  unfold trFieldOk fieldOk trailerFieldOk
  rw [h1, h2, a1, b, a2, a4]
  unfold regularOk at a3 ⊢
  rw [a8] at a3 ⊢
  simpa using a3
theorem trField_rt {q : BS × BS} (h : trField q) : rtOk q = true := by
  obtain ⟨⟨i, hi, h1⟩, j, hj, h2⟩ := h
  have := (nm_ok i hi).2.2.2.2.2.2.2.2
  unfold rtOk at this ⊢
  rw [h1]
  exact this
theorem trField_tok {q : BS × BS} (h : trField q) : tokAll q.1 = true := by
  obtain ⟨⟨i, hi, h1⟩, j, hj, h2⟩ := h
  rw [h1]
  exact (nm_ok i hi).2.2.2.2.1
theorem trField_asc {q : BS × BS} (h : trField q) : ascii q.1 = true := by
  obtain ⟨⟨i, hi, h1⟩, j, hj, h2⟩ := h
  rw [h1]
  exact (nm_ok i hi).2.2.2.2.2.1
theorem trField_len {q : BS × BS} (h : trField q) : q.1.length ≤ 11 ∧ q.2.length = 2 := by
  obtain ⟨⟨i, hi, h1⟩, j, hj, h2⟩ := h
  rw [h1, h2]
  exact ⟨(nm_ok i hi).2.2.2.2.2.2.1, rfl⟩
theorem trSize_le {l : List (BS × BS)} (h : ∀ q ∈ l, q.1.length + q.2.length ≤ 100) : trSize l ≤ l.length * 132 := by
  induction l with
  | nil => simp [trSize]
  | cons q t ih =>
    have h1 := h q (List.mem_cons_self ..)
    have h2 := ih (fun x hx => h x (List.mem_cons_of_mem _ hx))
    unfold trSize at h2 ⊢
    simp only [List.map_cons, List.sum_cons, List.length_cons]
    omega
def kSt200 : BS × BS := (kStatus, [50, 48, 48])
theorem heads_items {H : AL} {m : Nat} (h : ∀ q ∈ H, q.2.length ≤ m) : ∀ q ∈ headsOf H, q.2.length ≤ m := fun q hq => by
  unfold headsOf at hq
  obtain ⟨k, _, rfl⟩ := List.mem_map.1 hq
  exact getH_items h k
theorem heads_len (H : AL) : (headsOf H).length = H.length := by unfold headsOf; rw [List.length_map, sortK_len, List.length_map]

set_option maxHeartbeats 8000000 in
theorem trailers_at (w : World) (p : Addr) (m : Nat) (A : Option Addr) (n c : Nat) (bs : List UInt8) (pseudo : Bool) (hE : Env w p) (hm : m ≤ 900000) (hAw : ReqOk p awL m (some awQ)) (hR : Reads w w.heap.size 1 A n (bcells bs)) (hc : n ≤ c) (hn : n ≤ 2147483647) :
    Calls Tryz.prog 5 #[.slice A n c, .bool pseudo] w (fun e w' => e = .returned (.bool true) ∧ Below w.heap.size w w') := by
  have hmk : Mk (w.alloc (.cells #[.slice A n c] 25)) w.heap.size w.heap.size := ⟨⟨A, n, c, bs, by simp, hR.alloc (Nat.le_refl _) _, hc, hn⟩, by simp, Nat.le_refl _, by simp⟩
  have hst : FSt w (w.alloc (.cells #[.slice A n c] 25)) (.slice none 0 0) [] := ⟨World.ownsRow_nil _ _ _ _, hmk, below_new _ _, fun q hq => by cases hq⟩
  have hle : ¬ (2147483647 < (n : Int)) := by omega
  have HST := Lib.hid hst
  clear hR hst
  go_enter Tryz.func5, Tryz.ntmps5
  go_wp2_with fail
  refine (byte_at2 _ _ _ hmk).mono ?_
  rintro e w1 ⟨k0, hk0, rfl, hM1, hg1, hs1⟩
  have HS1 : Hid (FSt w w1 (.slice none 0 0) []) := Lib.hid ⟨World.ownsRow_nil _ _ _ _, hM1, HST.out.bel.grown hg1 HST.out.bel.size (fun k hk => by injection hk with hk; omega), fun q hq => by cases hq⟩
  have h0c : (0 : Int) ≤ (k0 : Int) := by omega
  clear hg1 hs1 hM1 HST hmk
  go_wp2_with fail
  go_loopw [6, 7] (fun s6 s7 wx => ∃ (l : List (BS × BS)) (k : Nat), s7 = .int .i64 (k : Int) ∧ l.length + k ≤ 5 ∧ FSt w wx s6 l) (fun _ s7 _ => (intOf s7).toNat)
  case atStart => exact ⟨[], k0 % 6, by simp, by simp; omega, HS1.out⟩
  case round =>
    obtain ⟨l, k, rfl, hlk, hF⟩ := hrel
    obtain ⟨A6, c6, rfl⟩ := row_form hF.row
    rcases Nat.eq_zero_or_pos k with h0 | hk
    · subst h0
      have HF := Lib.hid hF
      have HE0 := Lib.hid hE
      have HAW := Lib.hid hAw
      have hlt := hF.mkr.lt
      have hge := hF.bel.size
      clear hF hE hAw
      go_upto_if 43 with fail
      go_cut [6] (fun s6 wx => ∃ A2 c2 l2, s6 = .slice A2 (List.length l2) c2 ∧ l2 = (if pseudo then l ++ [kSt200] else l) ∧ wx.ownsRow (w.heap.size + 1) 42 2 (.slice A2 l2.length c2) l2.length (fc l2) ∧ Below w.heap.size w wx)
      case first =>
        cases pseudo
        · go_wp2_with fail
          go_meet
          exact ⟨A6, c6, l, rfl, rfl, HF.out.row, HF.out.bel⟩
        · obtain ⟨i9, hi9, hz0, hz1, hz2⟩ := info_parts info42
          have hrow2 := HF.out.row.alloc (.cells #[str kStatus, str [50, 48, 48]] 42)
          have hlt1 := HF.out.row.lt
          go_wp2_with (at_builtin; refine wpList_append_own _ rfl (.tmp 44) (.tmp 46) 26 rfl (w.heap.size + 1) 42 i9 (fldV [] []) 2 32 Tryz.underlying26 hi9 hz0 hz1 hz2 rfl (by decide) _ l.length (fc l) rfl hrow2 ⟨wr.heap.size, 0, none⟩ 1 1 [str kStatus, str [50, 48, 48]] rfl rfl ?gg1 ?gg2 ?gg3 ?gg4 ?gg5 ?_)
          case gg2 => exact ⟨rfl, rfl⟩
          case gg3 => unfold maxLen; omega
          case gg4 => omega
          intro v' w9 hown' hgrow _
          obtain ⟨A9, c9, rfl⟩ := row_form hown'
          have hbel9 : Below w.heap.size w w9 := HF.out.bel.grown ((World.grownBy_alloc wr _ _).trans hgrow) HF.out.bel.size (fun k hk => by have := (hlt1 k hk).1; omega)
          have HP : Hid (∃ A2 c2 l2, Value.slice A9 (l.length + 1) c9 = .slice A2 (List.length l2) c2 ∧ l2 = (if true = true then l ++ [kSt200] else l) ∧ w9.ownsRow (w.heap.size + 1) 42 2 (.slice A2 l2.length c2) l2.length (fc l2) ∧ Below w.heap.size w w9) :=
            Lib.hid ⟨A9, c9, l ++ [kSt200], by simp, rfl, by rw [List.length_append, fc_append]; exact hown', hbel9⟩
          clear hown' hgrow hbel9 hrow2 hi9 hz0 hz1 hz2 hlt1
          go_wp2_with fail
          go_meet
          exact HP.out
      case rest =>
        obtain ⟨A2, c2, l2, rfl, hl2, hrow, hbel⟩ := hcut
        have HOK := Lib.hid HF.out.ok
        have hl2n : l2.length ≤ 6 := by
          rw [hl2]
          split
          · rw [List.length_append, List.length_singleton]; omega
          · omega
        have hsz : ∀ q ∈ l2, q.1.length + q.2.length ≤ 100 ∧ ascii q.1 = true := fun q hq => by
          rw [hl2] at hq
          have h1 : q ∈ l ∨ q = kSt200 := by
            split at hq
            · rcases List.mem_append.1 hq with hq | hq
              · exact .inl hq
              · exact .inr (by simpa using hq)
            · exact .inl hq
          rcases h1 with h1 | rfl
          · have := trField_len (HOK.out q h1)
            exact ⟨by omega, trField_asc (HOK.out q h1)⟩
          · exact ⟨by decide, by decide⟩
        have hTr : TrIn l2 := ⟨fun q hq => (hsz q hq).2, by have := trSize_le (fun q hq => (hsz q hq).1); omega⟩
        have hEc := HE0.out.cut hbel HE0.out.ge
        have KT := ht_at A2 c2 l2 p wc (Reads.of_own hrow) (row_cap hrow) hTr hEc
        have hokT : l2.all trFieldOk = !pseudo := by
          rw [hl2]
          cases pseudo
          · simp only [Bool.false_eq_true, if_false, Bool.not_false, List.all_eq_true]
            exact fun q hq => trField_ok (HOK.out q hq)
          · simp only [if_true, List.all_append, Bool.not_true]
            rw [show [kSt200].all trFieldOk = false by decide, Bool.and_false]
        have hokR : l2.all rtOk = !pseudo := by
          rw [hl2]
          cases pseudo
          · simp only [Bool.false_eq_true, if_false, Bool.not_false, List.all_eq_true]
            exact fun q hq => trField_rt (HOK.out q hq)
          · simp only [if_true, List.all_append, Bool.not_true]
            rw [show [kSt200].all rtOk = false by decide, Bool.and_false]
        have HROW := Lib.hid hrow
        have HB := Lib.hid hbel
        have HL2 := Lib.hid hl2
        have HOKT := Lib.hid hokT
        have HOKR := Lib.hid hokR
        have HNM : Hid (∀ q ∈ l2, q.1.length ≤ 2147483648) := Lib.hid (fun q hq => by have := (hsz q hq).1; omega)
        have HEc := Lib.hid hEc
        clear hrow hbel hl2 hokT hokR hsz hTr hEc
        go_wp2_with fail
        refine KT.mono ?_
        rintro e w3 ⟨v3, es3, rfl, hL3, hA3, hb3⟩
        obtain ⟨A3, c3, rfl⟩ := row_form hL3.row
        rw [HOKT.out] at hA3 ⊢
        have HL3 := Lib.hid hL3
        have HA3 := Lib.hid hA3
        have HB3 := Lib.hid (Below.next HB.out HB.out.size hb3)
        have hz3 : wc.heap.size ≤ w3.heap.size := hb3.size
        have KR := rt_at A2 c2 l2 w3 (((Reads.of_own HROW.out).below hb3).more hb3.size) (row_cap HROW.out) (by omega) HNM.out
        have HEc3 := Lib.hid (HEc.out.cut hb3 HEc.out.ge)
        clear hL3 hA3 hb3 KT
        go_wp2_with fail
        refine KR.mono ?_
        rintro e w4 ⟨v4, es4, rfl, hL4, hA4, hb4⟩
        obtain ⟨A4, c4, rfl⟩ := row_form hL4.row
        rw [HOKR.out] at hA4 ⊢
        have HL4 := Lib.hid hL4
        have HA4 := Lib.hid hA4
        have HB4 := Lib.hid (Below.next HB3.out HB3.out.size hb4)
        have HL34 := Lib.hid (HL3.out.below hb4)
        have HEc4 := Lib.hid (HEc3.out.cut hb4 HEc3.out.ge)
        clear hL4 hA4 hb4 KR
        cases pseudo
        · have habs : absE es3 = absE es4 := by
            rw [HA3.out, HA4.out]
            simp only [Bool.not_false, if_true]
            exact headsOf_fold l2 (fun q hq => trField_tok (HOK.out q (by have := HL2.out; simp only [Bool.false_eq_true, if_false] at this; rw [this] at hq; exact hq)))
          have hlen : es3.length ≤ 900000 := by
            rw [absE_len HA3.out]
            simp only [Bool.not_false, if_true]
            rw [heads_len]
            have := trFold_len l2
            omega
          have hil : ∀ e ∈ es3, e.items.length ≤ 900000 := fun e he => by
            have hm : (e.key, e.items) ∈ absE es3 := List.mem_map_of_mem (f := fun e : Ent => (e.key, e.items)) he
            rw [HA3.out] at hm
            simp only [Bool.not_false, if_true] at hm
            have := heads_items (trFold_items l2) _ hm
            simp only at this
            omega
          have KS := same_at _ _ _ _ es3 es4 w4 HL34.out HL4.out habs hlen hil
          clear habs hlen hil
          go_wp2_with fail
          refine KS.mono ?_
          rintro e w5 ⟨rfl, hb5⟩
          have KA := awake_at p m w5 (HEc4.out.cut hb5 HEc4.out.ge) hm HAW.out
          have HB5 := Lib.hid (Below.next HB4.out HB4.out.size hb5)
          clear hb5 KS
          go_wp2_with fail
          refine KA.mono ?_
          rintro e w6 ⟨rfl, hb6⟩
          have HB6 := Lib.hid (Below.next HB5.out HB5.out.size hb6)
          clear hb6 KA
          go_wp2_with fail
          go_ret
          exact ⟨rfl, HB6.out⟩
        · have KA := awake_at p m w4 HEc4.out hm HAW.out
          go_wp2_with fail
          refine KA.mono ?_
          rintro e w6 ⟨rfl, hb6⟩
          have HB6 := Lib.hid (Below.next HB4.out HB4.out.size hb6)
          clear hb6 KA
          go_wp2_with fail
          go_ret
          exact ⟨rfl, HB6.out⟩
    · have hM0 := hF.mkr
      have hlt := hM0.lt
      have hge := hF.bel.size
      obtain ⟨i9, hi9, hz0, hz1, hz2⟩ := info_parts info42
      have F3 := hF
      have hnew := nm_new
      have hal := al_rule
      have n0 : ¬ (wr.heap.size = w.heap.size) := by omega
      have k1 : (0 : Int) < (k : Int) := by omega
      have k2 : (k : Int) ≤ 5 := by omega
      clear hF
      have hli := nm_list
      go_upto_block 1 with fail
      go_cut [6] (fun s6 wx => ∃ l', l'.length = l.length + 1 ∧ FSt w wx s6 l')
      case rest =>
        obtain ⟨l', hl', hF'⟩ := hcut
        have HF' := Lib.hid hF'
        clear hF' hli hal hnew F3
        go_wp2_with fail
        refine ⟨⟨l', k - 1, by go_num, by omega, HF'.out⟩, by simp [intOf]; omega⟩
      go_wp2_with fail
      go_region_law (first
        | (go_simp; go_at_call 15; refine (byte_at2 w.heap.size w.heap.size _ (by first | exact F3.mkr | exact F3.drew.mkr | exact F3.al.mkr | exact F3.al.drew.mkr | exact F3.al.al.mkr | exact F3.al.al.drew.mkr)).mono ?_
           rintro e w3 ⟨c, hc, rfl, hM, hg, hsz⟩
           have F4 : FSt w w3 (.slice A6 l.length c6) l := by first | exact F3.byte hM hg | exact F3.drew.byte hM hg | exact F3.al.byte hM hg | exact F3.al.drew.byte hM hg | exact F3.al.al.byte hM hg | exact F3.al.al.drew.byte hM hg
           (try have nm3 := NM.far (nm_new _) hg n1)
           (try have nm3 := NM.far (NM.drew (nm_new _)) hg n0)
           (try have nm3 := NM.far (NM.al (nm_new _)) hg n1)
           (try have nm3 := NM.far (NM.al nm3) hg n0)
           (try have nm3 := NM.far (NM.al nm3) hg n1)
           (try have nm3 := NM.far nm3 hg n0)
           (try have nm3 := NM.far (nm_new (World.alloc _ _)) hg n2)
           (try have by3 := cell_far2 (one_new _ _ 5) hg n1)
           (try have by3 := cell_far2 (bka (one_new _ _ 5)) hg n1)
           (try have by3 := cell_far2 (one_new (World.alloc _ _) _ 5) hg n2)
           (try simp only [al_size] at nm3)
           (try simp only [al_size] at by3)
           clear F3
           have F3 := F4
           clear F4
           obtain ⟨i, hi, hi4⟩ : ∃ i : Nat, ((c : Int)).tmod 4 = (i : Int) ∧ i < 4 := ⟨c % 4, tmod_nat c 4, by omega⟩
           obtain ⟨j, hj, hj4⟩ : ∃ j : Nat, ((c : Int)).tmod 26 = (j : Int) ∧ j < 26 := ⟨c % 26, tmod_nat c 26, by omega⟩
           have hcv := conv1 j hj4
           have n1 : ¬ (w3.heap.size = w.heap.size) := by have := hM.lt; omega
           have n2 : ¬ ((w3.alloc (.cells #[Value.int IntKind.u8 (97 + (j : Int))] 5)).heap.size = w.heap.size) := by have := hM.lt; simp; omega
           have i1 : (0 : Int) ≤ (i : Int) := by omega
           have i2 : (i : Int) < 4 := by omega
           have wr1 : IntKind.i64.wrap (97 + (j : Int)) = 97 + (j : Int) := IntWalk.i64_in _ (by omega)
           have wr2 : IntKind.u8.wrap (97 + (j : Int)) = 97 + (j : Int) := IntWalk.u8_in _ (by omega)
           clear hg hM hc hsz)
        | (refine step_app rfl (.tmp 25) (.tmp 41) rfl (w := w) (A := A6) (c := c6) (l := l) _ _ (by first | exact F3 | exact F3.al | exact F3.al.al) (by omega) rfl (by first | rfl | simp) rfl ?_
           intro g cap w9 hN9))
      all_goals go_simp
      all_goals go_wp2_with fail
      all_goals go_meet
      all_goals exact ⟨_, by simp, hN9 _ _ rfl (val_eq _) ⟨⟨_, by assumption, rfl⟩, _, by assumption, rfl⟩⟩
end Go.Proofs.YtgcfnhchmmkndaaGreatDoor
