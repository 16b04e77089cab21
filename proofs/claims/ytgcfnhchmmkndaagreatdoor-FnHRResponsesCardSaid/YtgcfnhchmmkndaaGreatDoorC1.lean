/- spec.HRAdd, on a list that holds some. -/
import Derived.Test.YtgcfnhchmmkndaaGreatDoorB8
import Derived.Sort.Walk0
namespace Go.Proofs.YtgcfnhchmmkndaaGreatDoor
open Go.RowKit Go.Maps
set_option linter.unusedVariables false
set_option maxRecDepth 100000

theorem row_zero (w : World) : (w.alloc (.cells #[] 9)).ownsRow w.heap.size 9 1 (.slice (some ⟨w.heap.size, 0, none⟩) 0 0) 0 [] :=
  ⟨rfl, .inr ⟨w.heap.size, 0, #[], rfl, Nat.le_refl _, by unfold World.alloc; exact Array.getElem?_push_size, Nat.le_refl _, Nat.zero_le _, rfl, rfl⟩⟩

theorem mul2_ne (i n : Nat) : (i * 2 = n * 2) ↔ i = n := by omega

set_option maxHeartbeats 8000000 in
theorem hradd_some (k v : BS) (base b c : Nat) (es : List Ent) (w : World) (hL : HL w base (.slice (some ⟨b, 0, none⟩) es.length c) es) (hbw : b < w.heap.size) (hbb : base ≤ b) (hc : es.length ≤ c) (hR : HRow w b es)
    (hn : es.length ≤ 900000) (hil : ∀ e ∈ es, e.items.length ≤ 900000) : Calls Tryz.prog 36 #[.slice (some ⟨b, 0, none⟩) es.length c, str k, str v] w (HAddPost w base (hrAdd (absE es) k v)) := by
  have HR := Lib.hid hR
  have HLL := Lib.hid hL
  have HIL := Lib.hid hil
  have hbase : base ≤ w.heap.size := by omega
  obtain ⟨n, hn'⟩ : ∃ n, es.length = n := ⟨_, rfl⟩
  have HN := Lib.hid hn'
  have HH : Hid (∀ i, i ≤ n → (∀ q, (h : q < i) → (h2 : q < es.length) → es[q].key < k) → ((h : i < es.length) → ¬ es[i].key < k) → hrAdd (absE es) k v = absE (es.take i) ++ (if h : i < es.length then if es[i].key = k then (k, es[i].items ++ [v]) :: absE (es.drop (i + 1)) else (k, [v]) :: absE (es.drop i) else [(k, [v])])) := Lib.hid (by
    intro i hi h1 h2
    have hl : (absE es).length = es.length := by simp [absE]
    have hg : ∀ q, (h : q < (absE es).length) → (absE es)[q] = ((es[q]'(by omega)).key, (es[q]'(by omega)).items) := fun q h => by simp [absE]
    have := hrAdd_split (absE es) k v i (by omega) (fun q h => by rw [hg]; exact h1 q h _) (fun h => by rw [hg]; exact h2 (by omega))
    rw [this]
    have ht : (absE es).take i = absE (es.take i) := by simp [absE]
    have hd : ∀ j, (absE es).drop j = absE (es.drop j) := fun j => by simp [absE]
    rw [ht, hd, hd]
    by_cases h : i < es.length
    · rw [dif_pos (hl ▸ h), dif_pos h, hg i (by omega)]
    · rw [dif_neg (fun h' => h (hl ▸ h')), dif_neg h])
  rw [hn'] at hc hn ⊢
  clear hL hR hil hn'
  go_enter Tryz.func36, Tryz.ntmps36
  go_wp2_with fail
  go_loopw [7] (fun s7 wx => ∃ i : Nat, i ≤ n ∧ s7 = .int .i64 (i : Int) ∧ wx = w ∧ (∀ q, (h : q < i) → (h2 : q < es.length) → es[q].key < k)) (fun s7 _ => n - (intOf s7).toNat)
  case atStart => exact ⟨0, by omega, rfl, rfl, fun q h => by omega⟩
  case round =>
    obtain ⟨i, hi, rfl, rfl, hlt⟩ := hrel
    have HLT := Lib.hid hlt
    clear hlt
    have hi2 : i ≤ es.length := by rw [HN.out]; exact hi
    have RT := HR.out.take i hi2
    have hmt : (es.take i).length = i := by rw [List.length_take]; omega
    have hvt : ∀ y ∈ es.take i, ItemsAt wr (Value.slice none 0 0).ownBlock y := fun y hy => (HLL.out.vals y (List.mem_of_mem_take hy)).move (Below.refl _ _) (fun g hg => by cases hg)
    have hot : ∀ y ∈ es.take i, 0 < y.items.length → ∀ g, y.val.ownBlock = some g → base ≤ g := fun y hy => HLL.out.lo y (List.mem_of_mem_take hy)
    have hbt : ([] : List Ent).length + i ≤ 4000000 := by simp; omega
    have hN0 : HL wr base (.slice none 0 0) [] := HL.nil _ _
    rcases Nat.lt_or_ge i n with hin | hin
    · have hie : i < es.length := by rw [HN.out]; exact hin
      have e0 := HR.out.key i hie
      have e1 := HR.out.val i hie
      obtain ⟨x, hx⟩ : ∃ x, es[i] = x := ⟨_, rfl⟩
      have hxm : x ∈ es := hx ▸ List.getElem_mem hie
      rw [hx] at e0 e1
      have HX := Lib.hid hx
      by_cases hk : x.key < k
      · have HK := Lib.hid hk
        have hkd : Op.bytesLess x.key k = true := by rw [bytesLess_eq]; exact decide_eq_true hk
        clear hk hx
        go_wp2_with fail
        exact ⟨⟨i + 1, hin, by go_num, trivial, fun q h h2 => by
          rcases Nat.lt_succ_iff_lt_or_eq.1 h with h | h
          · exact HLT.out q h h2
          · subst h; rw [HX.out]; exact HK.out⟩, by simp [intOf]; omega⟩
      · have HK := Lib.hid hk
        have hkd : Op.bytesLess x.key k = false := by rw [bytesLess_eq]; exact decide_eq_false hk
        clear hk hx
        by_cases hq : x.key = k
        · have hqd : (x.key == k) = true := beq_iff_eq.2 hq
          have HQ := Lib.hid hq
          clear hq
          obtain ⟨Ai, ci, hxv, hxr, hxc, hxo⟩ := (HLL.out.vals x hxm).ex
          rw [hxv] at e1
          have hil : x.items.length ≤ 900000 := HIL.out x hxm
          obtain ⟨li, hli⟩ : ∃ li, x.items.length = li := ⟨_, rfl⟩
          rw [hli] at hxr hil hxc e1
          have HLI := Lib.hid hli
          clear hxo hxv hli
          go_wp2_with (at_builtin; refine wpList_append_hl rfl (.tmp 24) (.tmp 27) rfl base _ [] rfl hN0 (some ⟨b, 0, none⟩) i c (es.take i) rfl RT hmt hvt hot hbase hbt ?_)
          intro v1 w1 hL1 hg1 hat1
          have O1 := Lib.hid ((⟨HL.nil _ _, Below.refl _ _, fun g hg => by cases hg⟩ : Out1 wr wr base (.slice none 0 0) []).app (es' := es.take i) hL1 hg1 hat1)
          obtain ⟨A1, c1, hv1⟩ := row_form O1.out.hl.row
          rw [hmt] at hv1
          subst hv1
          clear hL1 hg1 hat1
          have e5 := (HR.out.below hbw O1.out.bel).key i hie
          rw [HX.out] at e5
          have hb1w : b < w1.heap.size := Nat.lt_of_lt_of_le hbw O1.out.bel.size
          have e6 : (w1.alloc (.cells #[] 9)).cell? ⟨b, i * 2 + 1, none⟩ = some (.slice Ai li ci) := ((below_new w1 (.cells #[] 9)).cell (p := ⟨b, i * 2 + 1, none⟩) hb1w).trans ((O1.out.bel.cell (p := ⟨b, i * 2 + 1, none⟩) hbw).trans e1)
          obtain ⟨i9, hi9, hz0, hz1, hz2⟩ := info_parts info9
          have hrd := ((hxr.below O1.out.bel).more O1.out.bel.size).below (below_new w1 (.cells #[] 9))
          have hone := scells_one x.items
          have hs1 : (w1.alloc (.cells #[] 9)).heap.size = w1.heap.size + 1 := by simp
          go_wp2_with (at_builtin; refine wpList_append_any _ rfl (.tmp 44) (.tmp 49) 29 rfl w1.heap.size 9 i9 (.string ⟨#[]⟩) 1 16 Tryz.underlying29 hi9 hz0 hz1 hz2 rfl (by decide) (.slice (some ⟨w1.heap.size, 0, none⟩) 0 0) 0 [] rfl (row_zero w1) w1.heap.size Ai li ci (scells x.items) rfl hrd hone ?c1 ?c2 ?c3 ?_)
          case c1 => unfold maxLen; omega
          case c2 => omega
          case c3 => omega
          intro v5 w5 hrow5 hg5 hat5
          obtain ⟨A5, c5, rfl⟩ := row_form hrow5
          have hs5 := hg5.size
          have B5 := Lib.hid ((below_new w1 (.cells #[] 9)).grown hg5 (by simp) (fun g hg => by rcases hg with ⟨⟩; exact Nat.le_refl _) : Below w1.heap.size w1 w5)
          have hrow6 := hrow5.alloc (.cells #[str v] 9)
          clear hrow5 hg5 hat5 hrd hone e6
          go_wp2_with (at_builtin; refine wpList_append_own_at _ rfl (.tmp 50) (.tmp 52) 29 rfl w1.heap.size 9 i9 (.string ⟨#[]⟩) 1 16 Tryz.underlying29 hi9 hz0 hz1 hz2 rfl (by decide) (.slice A5 li c5) li (scells x.items) rfl hrow6 ⟨w5.heap.size, 0, none⟩ 1 1 [str v] rfl rfl ?d1 ?d2 ?d3 ?d4 ?d5 ?_)
          case d1 => exact cells_new w5 [str v] 9
          case d2 => intro u hu; rw [List.mem_singleton.1 hu]; rfl
          case d3 => unfold maxLen; omega
          case d4 => omega
          case d5 => simp; omega
          intro v6 w6 hrow6' hg6 _ hat6
          obtain ⟨A6, c6, rfl⟩ := row_form hrow6'
          have hs6 := hg6.size
          have hs61 : (w5.alloc (.cells #[str v] 9)).heap.size = w5.heap.size + 1 := by simp
          have B6 := Lib.hid ((Below.alloc B5.out (by omega) (.cells #[str v] 9)).grown hg6 (by omega) (fun g hg => (hrow6.lt g hg).1) : Below w1.heap.size w1 w6)
          obtain ⟨E, hE⟩ : ∃ E : Ent, E = ⟨k, .slice A6 (li + 1) c6, x.items ++ [v]⟩ := ⟨_, rfl⟩
          have B7 := Lib.hid (Below.alloc B6.out (by omega) (.cells #[str k, .slice A6 (li + 1) c6] 72) : Below w1.heap.size w1 (w6.alloc (.cells #[str k, .slice A6 (li + 1) c6] 72)))
          have hrow7 := hrow6'.alloc (.cells #[str k, .slice A6 (li + 1) c6] 72)
          have RE : Reads (w6.alloc (.cells #[str k, .slice A6 (li + 1) c6] 72)) (w6.alloc (.cells #[str k, .slice A6 (li + 1) c6] 72)).heap.size 2 (some ⟨w6.heap.size, 0, none⟩) 1 (hcells [E]) := by
            subst hE
            exact ⟨rfl, fun _ => ⟨_, rfl, by simp, cells_new w6 [str k, .slice A6 (li + 1) c6] 72⟩⟩
          have hEl : E.items.length = li + 1 := by subst hE; simp [HLI.out]
          have hEv : E.val = .slice A6 (li + 1) c6 := by subst hE; rfl
          have hEi : E.items = x.items ++ [v] := by subst hE; rfl
          have hEk : E.key = k := by subst hE; rfl
          have IE : ItemsAt (w6.alloc (.cells #[str k, .slice A6 (li + 1) c6] 72)) (Value.slice A1 i c1).ownBlock E := ⟨A6, c6, by rw [hEl, hEv], by
              rw [hEl, hEi]
              have := Reads.of_own hrow7
              rwa [show scells x.items ++ [str v] = scells (x.items ++ [v]) by simp [scells]] at this, by rw [hEl]; exact row_cap hrow7, fun _ ad ha e2 => by
              have h1 := (hrow6'.lt ad.block (by rw [ha]; rfl)).1
              have h2 := (O1.out.hl.row.lt _ e2).2
              omega⟩
          have LE : 0 < E.items.length → ∀ g, E.val.ownBlock = some g → base ≤ g := fun _ g hg => by
            rw [hEv] at hg
            have h1 := (hrow6'.lt g hg).1
            have := O1.out.bel.size
            omega
          have N1 := Lib.hid ((⟨O1.out.hl.below B7.out, Below.next O1.out.bel O1.out.bel.size B7.out, O1.out.own⟩ : Out1 wr (w6.alloc (.cells #[str k, .slice A6 (li + 1) c6] 72)) base (.slice A1 i c1) (es.take i)))
          have hb1 : base ≤ (w6.alloc (.cells #[str k, .slice A6 (li + 1) c6] 72)).heap.size := by have := N1.out.bel.size; omega
          have hbt1 : (es.take i).length + 1 ≤ 4000000 := by rw [hmt]; omega
          have HEP := Lib.hid (And.intro hEk hEi)
          clear hE hEl hEv hEi hEk hrow6 hrow6' hg6 hat6 hrow7 hs6 hs61 hs5 hs1 hi9 hz0 hz1 hz2
          go_wp2_with (at_builtin; refine wpList_append_hl rfl (.tmp 42) (.tmp 55) rfl base (.slice A1 i c1) (es.take i) rfl N1.out.hl (some ⟨w6.heap.size, 0, none⟩) 1 1 [E] rfl RE rfl (fun y hy => by rw [List.mem_singleton.1 hy]; exact IE) (fun y hy => by rw [List.mem_singleton.1 hy]; exact LE) hb1 hbt1 ?_)
          intro v2 w2 hL2 hg2 hat2
          have O2 := Lib.hid (N1.out.app hL2 hg2 (hat2.imp id (fun h => h.trans (by simp))))
          have hl2 : (es.take i ++ [E]).length = i + 1 := by rw [List.length_append, hmt]; rfl
          obtain ⟨A2, c2, hv2⟩ := row_form hL2.row
          rw [hl2] at hv2
          subst hv2
          have hb2 : base ≤ w2.heap.size := by have := O2.out.bel.size; omega
          clear hL2 hg2 hat2 RE IE LE hb1
          have hd0 : n = i + 1 → es.drop (i + 1) = [] := fun h => List.drop_eq_nil_of_le (by rw [HN.out]; omega)
          have HD0 := Lib.hid hd0
          have hb3 : (es.take i ++ [E]).length + 0 ≤ 4000000 := by rw [hl2]; omega
          have hfin : ∀ w3 v3, Out1 wr w3 base v3 (es.take i ++ E :: es.drop (i + 1)) → HAddPost wr base (hrAdd (absE es) k v) (.returned v3) w3 := by
            intro w3 v3 O3
            refine ⟨v3, _, rfl, O3.hl, ?_, O3.bel, O3.own⟩
            rw [HH.out i (by omega) HLT.out (fun _ => by rw [HX.out]; exact HK.out), dif_pos hie, HX.out, if_pos HQ.out]
            simp [absE, HEP.out.1, HEP.out.2]
          have HFIN := Lib.hid hfin
          clear hfin hd0
          by_cases hcn : c = i + 1
          · subst hcn
            have hni : n = i + 1 := by omega
            subst hni
            have h3 := HD0.out rfl
            rw [h3] at HFIN
            clear HD0 h3
            go_wp2_with (at_builtin; refine wpList_append_hl rfl (.tmp 57) (.tmp 61) rfl base (.slice A2 (i + 1) c2) (es.take i ++ [E]) rfl O2.out.hl _ 0 _ [] rfl Reads.none_ rfl (fun y hy => by cases hy) (fun y hy => by cases hy) hb2 hb3 ?_)
            intro v3 w3 hL3 hg3 hat3
            have O3 := Lib.hid (O2.out.app hL3 hg3 hat3)
            clear hL3 hg3 hat3
            go_wp2_with fail
            go_ret
            exact HFIN.out _ _ O3.out
          · have hci : ¬ c - (i + 1) = 0 := by omega
            have RD := (HR.out.below hbw O2.out.bel).drop (i + 1) (by rw [HN.out]; exact hin)
            rw [HN.out] at RD
            have hmd : (es.drop (i + 1)).length = n - (i + 1) := by rw [List.length_drop, HN.out]
            have hvd : ∀ y ∈ es.drop (i + 1), ItemsAt w2 (Value.slice A2 (i + 1) c2).ownBlock y := fun y hy => (HLL.out.vals y (List.mem_of_mem_drop hy)).move O2.out.bel O2.out.own
            have hod : ∀ y ∈ es.drop (i + 1), 0 < y.items.length → ∀ g, y.val.ownBlock = some g → base ≤ g := fun y hy => HLL.out.lo y (List.mem_of_mem_drop hy)
            have hbd : (es.take i ++ [E]).length + (n - (i + 1)) ≤ 4000000 := by rw [hl2]; omega
            go_wp2_with (at_builtin; refine wpList_append_hl rfl (.tmp 57) (.tmp 61) rfl base (.slice A2 (i + 1) c2) (es.take i ++ [E]) rfl O2.out.hl (some ⟨b, (i + 1) * 2, none⟩) (n - (i + 1)) (c - (i + 1)) (es.drop (i + 1)) rfl RD hmd hvd hod hb2 hbd ?_)
            intro v3 w3 hL3 hg3 hat3
            have O3 := Lib.hid (O2.out.app hL3 hg3 hat3)
            clear hL3 hg3 hat3
            go_wp2_with fail
            go_ret
            exact HFIN.out _ _ O3.out

        · have hqd : (x.key == k) = false := by rw [beq_eq_false_iff_ne]; exact hq
          have HQ := Lib.hid hq
          clear hq
          go_wp2_with (at_builtin; refine wpList_append_hl rfl (.tmp 24) (.tmp 27) rfl base _ [] rfl hN0 (some ⟨b, 0, none⟩) i c (es.take i) rfl RT hmt hvt hot hbase hbt ?_)
          intro v1 w1 hL1 hg1 hat1
          have O1 := Lib.hid ((⟨HL.nil _ _, Below.refl _ _, fun g hg => by cases hg⟩ : Out1 wr wr base (.slice none 0 0) []).app (es' := es.take i) hL1 hg1 hat1)
          obtain ⟨A1, c1, hv1⟩ := row_form O1.out.hl.row
          rw [hmt] at hv1
          subst hv1
          clear hL1 hg1 hat1
          have e5 := (HR.out.below hbw O1.out.bel).key i hie
          rw [HX.out] at e5
          have N1 := Lib.hid (O1.out.new k v)
          have hb1 : base ≤ (newW w1 k v).heap.size := by have := N1.out.bel.size; omega
          have E1 := newE_at w1 k v (Value.slice A1 i c1).ownBlock (fun g hg => (O1.out.hl.row.lt g hg).2)
          have R1 := newE_reads w1 k v
          have hbt1 : (es.take i).length + 1 ≤ 4000000 := by rw [hmt]; omega
          go_wp2_with (at_builtin; rw [newW_eq]; refine wpList_append_hl rfl (.tmp 63) (.tmp 68) rfl base (.slice A1 i c1) (es.take i) rfl N1.out.hl (some ⟨w1.heap.size + 1, 0, none⟩) 1 1 [newE w1 k v] rfl R1 rfl (fun y hy => by rw [List.mem_singleton.1 hy]; exact E1) (fun y hy hn g hg => by rw [List.mem_singleton.1 hy] at hg; injection hg with hg; have := O1.out.bel.size; simp at hg; omega) hb1 hbt1 ?_)
          intro v2 w2 hL2 hg2 hat2
          have O2 := Lib.hid (N1.out.app hL2 hg2 hat2)
          have hl2 : (es.take i ++ [newE w1 k v]).length = i + 1 := by rw [List.length_append, hmt]; rfl
          obtain ⟨A2, c2, hv2⟩ := row_form hL2.row
          rw [hl2] at hv2
          subst hv2
          have hb2 : base ≤ w2.heap.size := by have := O2.out.bel.size; omega
          clear hL2 hg2 hat2 E1 R1 hb1
          have RD := (HR.out.below hbw O2.out.bel).drop i hi2
          rw [HN.out] at RD
          have hmd : (es.drop i).length = n - i := by rw [List.length_drop, HN.out]
          have hvd : ∀ y ∈ es.drop i, ItemsAt w2 (Value.slice A2 (i + 1) c2).ownBlock y := fun y hy => (HLL.out.vals y (List.mem_of_mem_drop hy)).move O2.out.bel O2.out.own
          have hod : ∀ y ∈ es.drop i, 0 < y.items.length → ∀ g, y.val.ownBlock = some g → base ≤ g := fun y hy => HLL.out.lo y (List.mem_of_mem_drop hy)
          have hbd : (es.take i ++ [newE w1 k v]).length + (n - i) ≤ 4000000 := by rw [hl2]; omega
          have hci : ¬ c - i = 0 := by omega
          go_wp2_with (at_builtin; refine wpList_append_hl rfl (.tmp 70) (.tmp 73) rfl base (.slice A2 (i + 1) c2) (es.take i ++ [newE w1 k v]) rfl O2.out.hl (some ⟨b, i * 2, none⟩) (n - i) (c - i) (es.drop i) rfl RD hmd hvd hod hb2 hbd ?_)
          intro v3 w3 hL3 hg3 hat3
          have O3 := Lib.hid (O2.out.app hL3 hg3 hat3)
          clear hL3 hg3 hat3
          go_wp2_with fail
          go_ret
          refine ⟨v3, _, rfl, O3.out.hl, ?_, O3.out.bel, O3.out.own⟩
          rw [HH.out i (by omega) HLT.out (fun _ => by rw [HX.out]; exact HK.out), dif_pos hie, HX.out, if_neg HQ.out]
          simp [absE, newE]

    · have e : i = n := by omega
      subst e
      have h5 : Hid (es.drop i = []) := Lib.hid (List.drop_eq_nil_of_le (by rw [HN.out]; exact Nat.le_refl _))
      have HD0 := h5
      clear HIL
      go_wp2_with (at_builtin; refine wpList_append_hl rfl (.tmp 24) (.tmp 27) rfl base _ [] rfl hN0 (some ⟨b, 0, none⟩) i c (es.take i) rfl RT hmt hvt hot hbase hbt ?_)
      intro v1 w1 hL1 hg1 hat1
      have O1 := Lib.hid ((⟨HL.nil _ _, Below.refl _ _, fun g hg => by cases hg⟩ : Out1 wr wr base (.slice none 0 0) []).app (es' := es.take i) hL1 hg1 hat1)
      obtain ⟨A1, c1, hv1⟩ := row_form O1.out.hl.row
      rw [hmt] at hv1
      subst hv1
      clear hL1 hg1 hat1
      have N1 := Lib.hid (O1.out.new k v)
      have hb1 : base ≤ (newW w1 k v).heap.size := by have := N1.out.bel.size; omega
      have E1 := newE_at w1 k v (Value.slice A1 i c1).ownBlock (fun g hg => (O1.out.hl.row.lt g hg).2)
      have R1 := newE_reads w1 k v
      have hbt1 : (es.take i).length + 1 ≤ 4000000 := by rw [hmt]; omega
      go_wp2_with (at_builtin; rw [newW_eq]; refine wpList_append_hl rfl (.tmp 63) (.tmp 68) rfl base (.slice A1 i c1) (es.take i) rfl N1.out.hl (some ⟨w1.heap.size + 1, 0, none⟩) 1 1 [newE w1 k v] rfl R1 rfl (fun y hy => by rw [List.mem_singleton.1 hy]; exact E1) (fun y hy hn g hg => by rw [List.mem_singleton.1 hy] at hg; injection hg with hg; have := O1.out.bel.size; simp at hg; omega) hb1 hbt1 ?_)
      intro v2 w2 hL2 hg2 hat2
      have O2 := Lib.hid (N1.out.app hL2 hg2 hat2)
      have hl2 : (es.take i ++ [newE w1 k v]).length = i + 1 := by rw [List.length_append, hmt]; rfl
      obtain ⟨A2, c2, hv2⟩ := row_form hL2.row
      rw [hl2] at hv2
      subst hv2
      have hb2 : base ≤ w2.heap.size := by have := O2.out.bel.size; omega
      clear hL2 hg2 hat2 E1 R1 hb1
      have hb3 : (es.take i ++ [newE w1 k v]).length + 0 ≤ 4000000 := by rw [hl2]; omega
      by_cases hcn : c = i
      · subst hcn
        go_wp2_with (at_builtin; refine wpList_append_hl rfl (.tmp 70) (.tmp 73) rfl base (.slice A2 (c + 1) c2) (es.take c ++ [newE w1 k v]) rfl O2.out.hl _ 0 _ [] rfl Reads.none_ rfl (fun y hy => by cases hy) (fun y hy => by cases hy) hb2 hb3 ?_)
        intro v3 w3 hL3 hg3 hat3
        have O3 := Lib.hid (O2.out.app hL3 hg3 hat3)
        clear hL3 hg3 hat3
        go_wp2_with fail
        go_ret
        refine ⟨v3, _, rfl, O3.out.hl, ?_, O3.out.bel, O3.out.own⟩
        rw [HH.out c (by omega) HLT.out (fun h => absurd h (by rw [HN.out]; omega)), dif_neg (by rw [HN.out]; omega)]
        simp [absE, newE]
      · have hci : ¬ c - i = 0 := by omega
        go_wp2_with (at_builtin; refine wpList_append_hl rfl (.tmp 70) (.tmp 73) rfl base (.slice A2 (i + 1) c2) (es.take i ++ [newE w1 k v]) rfl O2.out.hl _ 0 _ [] rfl Reads.none_ rfl (fun y hy => by cases hy) (fun y hy => by cases hy) hb2 hb3 ?_)
        intro v3 w3 hL3 hg3 hat3
        have O3 := Lib.hid (O2.out.app hL3 hg3 hat3)
        clear hL3 hg3 hat3
        go_wp2_with fail
        go_ret
        refine ⟨v3, _, rfl, O3.out.hl, ?_, O3.out.bel, O3.out.own⟩
        rw [HH.out i (by omega) HLT.out (fun h => absurd h (by rw [HN.out]; omega)), dif_neg (by rw [HN.out]; omega)]
        simp [absE, newE]


theorem hradd_at (k v : BS) (base : Nat) (V : Value) (es : List Ent) (w : World) (hL : HL w base V es) (hb : base ≤ w.heap.size) (hn : es.length ≤ 900000) (hil : ∀ e ∈ es, e.items.length ≤ 900000) :
    Calls Tryz.prog 36 #[V, str k, str v] w (HAddPost w base (hrAdd (absE es) k v)) := by
  rcases hL.parts with ⟨rfl, rfl⟩ | ⟨b, c, rfl, h1, h2, h3, h4⟩
  · exact hradd_nil k v base w hb
  · exact hradd_some k v base b c es w hL h2 h1 h3 h4 hn hil

theorem rcanon_at' (l : BS) (w : World) (hs : l.length ≤ 2147483648) : Calls Tryz.prog 37 #[str l] w fun e w' => e = .returned (str (canonOut l)) ∧ Below w.heap.size w w' := by
  have := rcanon_at ⟨l.toArray⟩ w (by show l.toArray.size ≤ _; rw [List.size_toArray]; exact hs)
  simpa using this

def hrFold (l : List (BS × BS)) : List (BS × List BS) := l.foldl (fun H p => hrAdd H (canonOut p.1) p.2) []
def rtOk (p : BS × BS) : Bool := match p.1 with | [] => false | c :: _ => c.toNat != 58

theorem hrAdd_len (H : List (BS × List BS)) (k v : BS) : (hrAdd H k v).length ≤ H.length + 1 := by
  induction H with
  | nil => simp [hrAdd]
  | cons p t ih =>
    unfold hrAdd
    split
    · simpa using ih
    · split <;> simp
theorem hrAdd_items {H : List (BS × List BS)} {m : Nat} (h : ∀ q ∈ H, q.2.length ≤ m) (k v : BS) : ∀ q ∈ hrAdd H k v, q.2.length ≤ m + 1 := by
  induction H with
  | nil => intro q hq; simp [hrAdd] at hq; subst hq; simp
  | cons p t ih =>
    have ht : ∀ q ∈ t, q.2.length ≤ m := fun q hq => h q (List.mem_cons_of_mem _ hq)
    have hp := h p (List.mem_cons_self)
    intro q hq
    unfold hrAdd at hq
    split at hq
    · rcases List.mem_cons.1 hq with rfl | hq
      · exact Nat.le_succ_of_le hp
      · exact ih ht q hq
    · split at hq
      · rcases List.mem_cons.1 hq with rfl | hq
        · simpa using hp
        · exact Nat.le_succ_of_le (ht q hq)
      · rcases List.mem_cons.1 hq with rfl | hq
        · simp
        · rcases List.mem_cons.1 hq with rfl | hq
          · exact Nat.le_succ_of_le hp
          · exact Nat.le_succ_of_le (ht q hq)

def RTPost (w : World) (l : List (BS × BS)) (e : Ending) (w' : World) : Prop :=
  ∃ v es, e = .returned (.tuple #[v, .bool (l.all rtOk)]) ∧ HL w' w.heap.size v es ∧ absE es = (if l.all rtOk then hrFold l else []) ∧ Below w.heap.size w w'

/-- between the rounds -/
structure RTat (w wx : World) (l : List (BS × BS)) (k : Nat) (v : Value) (xs : List Ent) : Prop where
  hl : HL wx w.heap.size v xs
  ab : absE xs = hrFold (l.take k)
  len : xs.length ≤ k
  items : ∀ e ∈ xs, e.items.length ≤ k
  bel : Below w.heap.size w wx
  ok : (l.take k).all rtOk = true

theorem RTat.next {w wx w' : World} {l : List (BS × BS)} {k : Nat} {v v' : Value} {xs xs' : List Ent} {nm vl : BS} (h : RTat w wx l k v xs) (hk : k < l.length) (hp : l[k] = (nm, vl)) (hok : rtOk (nm, vl) = true)
    (h1 : HL w' w.heap.size v' xs') (h2 : absE xs' = hrAdd (absE xs) (canonOut nm) vl) (h3 : Below wx.heap.size wx w') : RTat w w' l (k + 1) v' xs' where
  hl := h1
  ab := by
    rw [h2, h.ab, List.take_succ_eq_append_getElem hk, hp]
    simp [hrFold]
  len := by
    have := absE_len h2
    have h4 := hrAdd_len (absE xs) (canonOut nm) vl
    have h5 : (absE xs).length = xs.length := by simp [absE]
    have := h.len
    omega
  items := fun e he => by
    have hm : (e.key, e.items) ∈ absE xs' := List.mem_map_of_mem (f := fun e : Ent => (e.key, e.items)) he
    rw [h2] at hm
    refine hrAdd_items (m := k) (fun q hq => ?_) _ _ _ hm
    obtain ⟨e2, he2, rfl⟩ := List.mem_map.1 hq
    exact h.items e2 he2
  bel := Below.next h.bel h.bel.size h3
  ok := by rw [List.take_succ_eq_append_getElem hk, hp, List.all_append, h.ok]; simp [hok]

set_option maxHeartbeats 4000000 in
theorem rt_at (A : Option Addr) (c : Nat) (l : List (BS × BS)) (w : World) (hR : Reads w w.heap.size 2 A l.length (fc l)) (hc : l.length ≤ c) (hln : l.length ≤ 900000) (hnm : ∀ p ∈ l, p.1.length ≤ 2147483648) :
    Calls Tryz.prog 17 #[.slice A l.length c] w (RTPost w l) := by
  have HR := Lib.hid hR
  have HNM := Lib.hid hnm
  clear hR hnm
  go_enter Tryz.func17, Tryz.ntmps17
  go_wp2_with fail
  go_loopw [4, 9] (fun s4 s9 wx => ∃ (k : Nat) (xs : List Ent), k ≤ l.length ∧ s9 = .int .i64 (k : Int) ∧ RTat w wx l k s4 xs) (fun _ s9 _ => l.length - (intOf s9).toNat)
  case atStart => exact ⟨0, [], by omega, rfl, HL.nil _ _, rfl, Nat.le_refl _, (fun e he => by cases he), Below.refl _ _, rfl⟩
  case round =>
    obtain ⟨k, xs, hk, rfl, hS⟩ := hrel
    obtain ⟨A4, c4, rfl⟩ := row_form hS.hl.row
    have HS := Lib.hid hS
    clear hS
    rcases Nat.lt_or_ge k l.length with hkl | hkl
    · obtain ⟨b, o, rfl, hb, hcl⟩ := reads_fields (HR.out.below HS.out.bel) (by omega)
      obtain ⟨e0, e1⟩ := hcl k hkl
      obtain ⟨⟨nm, vl⟩, hpq⟩ : ∃ pq, l[k] = pq := ⟨_, rfl⟩
      rw [hpq] at e0 e1
      simp only at e0 e1
      have hnl : nm.length ≤ 2147483648 := HNM.out (nm, vl) (hpq ▸ List.getElem_mem hkl)
      have HPQ := Lib.hid hpq
      clear hpq hcl
      have HNEXT : Hid (∀ (w' : World) (v' : Value) (xs' : List Ent), rtOk (nm, vl) = true → HL w' w.heap.size v' xs' → absE xs' = hrAdd (absE xs) (canonOut nm) vl → Below wr.heap.size wr w' → RTat w w' l (k + 1) v' xs') := Lib.hid (fun w' v' xs' h0 h1 h2 h3 => HS.out.next hkl HPQ.out h0 h1 h2 h3)
      have HBAD : Hid (rtOk (nm, vl) = false → RTPost w l (.returned (.tuple #[.slice none 0 0, .bool false])) (wr.alloc (.cells #[str nm, str vl] 42))) := Lib.hid (fun h => by
        have hall : l.all rtOk = false := by
          rw [List.all_eq_false]
          exact ⟨l[k], List.getElem_mem hkl, by rw [HPQ.out, h]; decide⟩
        exact ⟨_, [], by rw [hall], HL.nil _ _, by rw [hall]; rfl, Below.alloc HS.out.bel HS.out.bel.size _⟩)
      cases nm with
      | nil =>
        go_wp2_with fail
        go_ret2
        exact HBAD.out rfl
      | cons c0 t =>
        by_cases h58 : c0.toNat = 58
        · have hz0 : 0 < (⟨(c0 :: t).toArray⟩ : ByteArray).size := by show 0 < (c0 :: t).toArray.size; simp
          have f58 : ((((⟨(c0 :: t).toArray⟩ : ByteArray)[0]'hz0).toNat : Int) == 58) = true := by show ((c0.toNat : Int) == 58) = true; simp [h58]
          go_wp2_with fail
          go_ret2
          exact HBAD.out (by simp [rtOk, h58])
        · have hz0 : 0 < (⟨(c0 :: t).toArray⟩ : ByteArray).size := by show 0 < (c0 :: t).toArray.size; simp
          have f58 : ((((⟨(c0 :: t).toArray⟩ : ByteArray)[0]'hz0).toNat : Int) == 58) = false := by show ((c0.toNat : Int) == 58) = false; simp; omega
          clear HBAD
          have hok : rtOk (c0 :: t, vl) = true := by simp [rtOk, h58]
          have hxl : xs.length ≤ 900000 := by have := HS.out.len; omega
          have hxi : ∀ e ∈ xs, e.items.length ≤ 900000 := fun e he => by have := HS.out.items e he; omega
          have hwb : w.heap.size ≤ wr.heap.size := HS.out.bel.size
          have hlt : wr.heap.size < (wr.alloc (.cells #[str (c0 :: t), str vl] 42)).heap.size := by simp
          have q0 : (wr.alloc (.cells #[str (c0 :: t), str vl] 42)).cell? ⟨wr.heap.size, 0, none⟩ = some (str (c0 :: t)) := by simp
          have q1 : (wr.alloc (.cells #[str (c0 :: t), str vl] 42)).cell? ⟨wr.heap.size, 1, none⟩ = some (str vl) := by simp
          have hba := below_new wr (.cells #[str (c0 :: t), str vl] 42)
          have KC := fun W => rcanon_at' (c0 :: t) W hnl
          have KA := fun W (h : Below (wr.alloc (.cells #[str (c0 :: t), str vl] 42)).heap.size (wr.alloc (.cells #[str (c0 :: t), str vl] 42)) W) =>
            hradd_at (canonOut (c0 :: t)) vl w.heap.size (.slice A4 xs.length c4) xs W ((HS.out.hl.below hba).below h) (by have := h.size; omega) hxl hxi
          go_upto_region 7 with fail
          go_region_with (first
            | (go_at_call 37; refine (KC _).mono ?_; rintro e w2 ⟨rfl, hb2⟩; have hB : Below (wr.alloc (.cells #[str (c0 :: t), str vl] 42)).heap.size (wr.alloc (.cells #[str (c0 :: t), str vl] 42)) w2 := (by first | exact hb2 | exact Below.nextD (Below.refl _ _) (Nat.le_refl _) hb2); have z0 := (hB.cell (p := ⟨wr.heap.size, 0, none⟩) hlt).trans q0; have z1 := (hB.cell (p := ⟨wr.heap.size, 1, none⟩) hlt).trans q1)
            | (go_at_call 36; refine (KA _ (by assumption)).mono ?_; rintro e w3 ⟨v3, es3, rfl, hL3, hA3, hb3, hown3⟩))
          all_goals go_wp2_with fail
          all_goals exact ⟨⟨k + 1, es3, hkl, by go_num, HNEXT.out _ _ _ hok hL3 hA3 (by
            have h1 : Below wr.heap.size wr w2 := Below.next hba hba.size hB
            first | exact Below.next h1 h1.size hb3 | exact Below.nextD h1 h1.size hb3)⟩, by simp [intOf]; omega⟩
    · have e : k = l.length := by omega
      subst e
      have hall : l.all rtOk = true := by have := HS.out.ok; rwa [List.take_length] at this
      have hab : absE xs = hrFold l := by have := HS.out.ab; rwa [List.take_length] at this
      have HP : Hid (RTPost w l (.returned (.tuple #[.slice A4 xs.length c4, .bool true])) wr) := Lib.hid ⟨_, xs, by rw [hall], HS.out.hl, by rw [hall, hab]; rfl, HS.out.bel⟩
      clear hall hab
      have f1 : decide ((l.length : Int) < (l.length : Int)) = false := by simp
      go_wp2_with fail
      go_ret2
      exact HP.out
end Go.Proofs.YtgcfnhchmmkndaaGreatDoor
