/- spec.HRSorted: fields by their names; of one name as they stand. -/
import Derived.Test.YtgcfnhchmmkndaaGreatDoorY1
import Derived.Test.YtgcfnhchmmkndaaGreatDoorL10
import Derived.Sort.Walk0
import Derived.Laws.Cover1
import Derived.BigQuiet
namespace Go.Proofs.YtgcfnhchmmkndaaGreatDoor
open Go.RowKit Go.Maps Go.Sort
set_option linter.unusedVariables false
set_option maxRecDepth 100000

/-- an append of fields to a row of this call's own -/
theorem wpList_app_f {ops : Array Oper} {rest : List Oper} {o : Oper} {a : Act} {w : World} {Q : Exit → Act → World → Prop} (hgd : o.guard = none) (s x : Operand) (ho : o.op = .call { callee := .builtin .append, args := #[s, x], argTypes := #[26, 26] })
    {base B m n c : Nat} {v : Value} {l ys : List (BS × BS)} {A : Option Addr} (hs : a.eval s = v) (hown : w.ownsRow base 42 2 v n (fc l)) (hx : a.eval x = .slice A m c) (hr : Reads w B 2 A m (fc ys)) (hn : n + m ≤ 1000000) (hb : base ≤ w.heap.size)
    (h : ∀ A' c' w', w'.ownsRow base 42 2 (.slice A' (n + m) c') (n + m) (fc (l ++ ys)) → w.grownBy w' v.ownBlock → ((Value.slice A' (n + m) c').ownBlock = v.ownBlock ∨ (Value.slice A' (n + m) c').ownBlock = some w.heap.size) → wpList Tryz.prog ops Q rest (a.put o.dst (.slice A' (n + m) c')) w') : wpList Tryz.prog ops Q (o :: rest) a w := by
  obtain ⟨i9, hi9, hz0, hz1, hz2⟩ := info_parts info42
  refine wpList_append_any _ hgd s x 26 ho base 42 i9 (fldV [] []) 2 32 Tryz.underlying26 hi9 hz0 hz1 hz2 rfl (by decide) v n (fc l) hs hown B A m c (fc ys) hx hr (fc_one ys) (by unfold maxLen; omega) (by omega) hb ?_
  intro v' w' h1 h2 h3
  obtain ⟨A', c', rfl⟩ := row_form h1
  exact h A' c' w' (by rw [fc_append]; exact h1) h2 h3
theorem step_app_f {ops : Array Oper} {o : Oper} {a : Act} {w : World} {K : Act → World → Prop} {Q : Exit → Act → World → Prop} {E : Prop} (hgd : o.guard = none) (s x : Operand) (ho : o.op = .call { callee := .builtin .append, args := #[s, x], argTypes := #[26, 26] })
    {base B m n c : Nat} {v : Value} {l ys : List (BS × BS)} {A : Option Addr} (hs : a.eval s = v) (hown : w.ownsRow base 42 2 v n (fc l)) (hx : a.eval x = .slice A m c) (hr : Reads w B 2 A m (fc ys)) (hn : n + m ≤ 1000000) (hb : base ≤ w.heap.size)
    (h : ∀ A' c' w', w'.ownsRow base 42 2 (.slice A' (n + m) c') (n + m) (fc (l ++ ys)) → w.grownBy w' v.ownBlock → ((Value.slice A' (n + m) c').ownBlock = v.ownBlock ∨ (Value.slice A' (n + m) c').ownBlock = some w.heap.size) → K (a.put o.dst (.slice A' (n + m) c')) w') :
    if Region.wanted o (yielded ops a.tmps) = true then Oper.wp Tryz.prog o a w K Q else E := by
  obtain ⟨i9, hi9, hz0, hz1, hz2⟩ := info_parts info42
  have hw : Region.wanted o (yielded ops a.tmps) = true := by simp [Region.wanted, hgd]
  rw [if_pos hw]
  refine wp_append_any w s x 26 ho base 42 i9 (fldV [] []) 2 32 Tryz.underlying26 hi9 hz0 hz1 hz2 rfl (by decide) v n (fc l) hs hown B A m c (fc ys) hx hr (fc_one ys) (by unfold maxLen; omega) (by omega) hb ?_
  intro v' w' h1 h2 h3
  obtain ⟨A', c', rfl⟩ := row_form h1
  exact h A' c' w' (by rw [fc_append]; exact h1) h2 h3
/-- a row that is written, or another's -/
theorem own_far {w w' : World} {base n : Nat} {v v0 : Value} {xs : List Value} (h : w.ownsRow base 42 2 v n xs) (g : w.grownBy w' v0.ownBlock) (hne : ∀ k, v.ownBlock = some k → v0.ownBlock ≠ some k) : w'.ownsRow base 42 2 v n xs :=
  h.kept g (by
    cases hv : v.ownBlock with
    | none => exact .inl rfl
    | some k => exact .inr fun e => hne k hv e.symm)
/-- the row up to a place, and what stands behind it -/
theorem reads_from {w : World} {base g n c k : Nat} {l : List (BS × BS)} (h : w.ownsRow base 42 2 (.slice (some ⟨g, 0, none⟩) n c) n (fc l)) (hn : n = l.length) (hk : k ≤ n) : Reads w w.heap.size 2 (if c = k then some ⟨g, 0, none⟩ else some ⟨g, k * 2, none⟩) (n - k) (fc (l.drop k)) := by
  subst hn
  have hlt : g < w.heap.size := (h.lt g rfl).2
  have hc := row_cap h
  refine ⟨by rw [fc_len, List.length_drop], fun h0 => ?_⟩
  rw [if_neg (by omega)]
  refine ⟨_, rfl, hlt, fun j u hu => ?_⟩
  rw [← fc_drop, List.getElem?_drop] at hu
  have hj : k * 2 + j < (fc l).length := (List.getElem?_eq_some_iff.1 hu).1
  rw [fc_len] at hj
  rw [Addr.add_lit]
  exact (h.cellAt _ hj).trans hu
def SortPost (w : World) (l : List (BS × BS)) (e : Ending) (w' : World) : Prop :=
  ∃ A c o, e = .returned (.slice A (List.length o) c) ∧ SameBy l o ∧ o.length = l.length ∧ w'.ownsRow w.heap.size 42 2 (.slice A o.length c) o.length (fc o) ∧ Below w.heap.size w w'
/-- the sorted fields so far -/
structure SSt (w wx : World) (v : Value) (k : Nat) (l o : List (BS × BS)) : Prop where
  row : wx.ownsRow w.heap.size 42 2 v k (fc o)
  n : k = o.length
  same : SameBy (l.take k) o
  bel : Below w.heap.size w wx
theorem SSt.below {w wx w' : World} {v : Value} {k : Nat} {l o : List (BS × BS)} (h : SSt w wx v k l o) (b : Below wx.heap.size wx w') : SSt w w' v k l o :=
  ⟨h.row.kept ((grown_below b).but (some w'.heap.size)) (by
    cases hv : v.ownBlock with
    | none => exact .inl rfl
    | some g => exact .inr (by have := (h.row.lt g hv).2; have := b.size; intro e; injection e with e; omega)), h.n, h.same, Below.next h.bel h.bel.size b⟩
theorem SSt.drewN {w wx : World} {v : Value} {k : Nat} {l o : List (BS × BS)} (h : SSt w wx v k l o) (m : Nat) : SSt w (wx.drewN m) v k l o := ⟨h.row, h.n, h.same, ⟨h.bel.os, h.bel.tape, h.bel.output, h.bel.size, h.bel.block⟩⟩
theorem SSt.drew {w wx : World} {v : Value} {k : Nat} {l o : List (BS × BS)} (h : SSt w wx v k l o) : SSt w wx.drew v k l o := ⟨h.row, h.n, h.same, ⟨h.bel.os, h.bel.tape, h.bel.output, h.bel.size, h.bel.block⟩⟩
set_option maxHeartbeats 16000000 in
theorem sorted_at (l : List (BS × BS)) (A : Option Addr) (c : Nat) (w : World) (hR : Reads w w.heap.size 2 A l.length (fc l)) (hc : l.length ≤ c) (hl : l.length ≤ 1000) :
    Calls Tryz.prog 32 #[.slice A l.length c] w (SortPost w l) := by
  have HR := Lib.hid hR
  have S0 : Hid (SSt w w (.slice none 0 0) 0 l []) := Lib.hid ⟨World.ownsRow_nil _ _ _ _, rfl, by rw [List.take_zero]; exact SameBy.refl _, Below.refl _ _⟩
  clear hR
  go_enter Tryz.func32, Tryz.ntmps32
  go_wp2_with fail
  go_loopw [3, 9] (fun s3 s9 wx => ∃ (k : Nat) (o : List (BS × BS)) (A' : Option Addr) (c' : Nat), k ≤ l.length ∧ s3 = .slice A' k c' ∧ s9 = .int .i64 (k : Int) ∧ SSt w wx (.slice A' k c') k l o) (fun _ s9 _ => l.length - (intOf s9).toNat)
  case atStart => exact ⟨0, [], none, 0, by omega, rfl, rfl, S0.out⟩
  case round =>
    obtain ⟨k, o, A', c', hk, rfl, rfl, hS⟩ := hrel
    have HS := Lib.hid hS
    clear hS
    rcases Nat.lt_or_ge k l.length with hkl | hkl
    · obtain ⟨b, q, rfl, hb, hcl⟩ := reads_fields (HR.out.below HS.out.bel) (by omega)
      obtain ⟨e0, e1⟩ := hcl k hkl
      obtain ⟨⟨nm, vl⟩, hpq⟩ : ∃ pq, l[k] = pq := ⟨_, rfl⟩
      rw [hpq] at e0 e1
      simp only at e0 e1
      have HTK : Hid (l.take (k + 1) = l.take k ++ [(nm, vl)]) := Lib.hid (by rw [List.take_succ_eq_append_getElem hkl, hpq])
      have bn := below_new wr (.cells #[str nm, str vl] 42)
      have HS1 := Lib.hid (HS.out.below bn)
      have f0 : (wr.alloc (.cells #[str nm, str vl] 42)).cell? ⟨wr.heap.size, 0, none⟩ = some (str nm) := by simp
      have f1 : (wr.alloc (.cells #[str nm, str vl] 42)).cell? ⟨wr.heap.size, 1, none⟩ = some (str vl) := by simp
      have HF0 := Lib.hid f0
      have HF1 := Lib.hid f1
      clear hcl hpq bn f0 f1
      go_upto_block 2 with fail
      rename_i K0 hK0
      go_cut [6] (fun s6 wx => ∃ j : Nat, j ≤ k ∧ s6 = .int .i64 (j : Int) ∧ (∀ i, (h : i < o.length) → j ≤ i → (o[i]).1 ≠ nm) ∧ SSt w wx (.slice A' k c') k l o ∧ wx.cell? ⟨wr.heap.size, 0, none⟩ = some (str nm) ∧ wx.cell? ⟨wr.heap.size, 1, none⟩ = some (str vl))
      case first =>
        go_wp2_with fail
        go_loopw [6] (fun s6 wx => ∃ j : Nat, j ≤ k ∧ s6 = .int .i64 (j : Int) ∧ (∀ i, (h : i < o.length) → j ≤ i → (o[i]).1 ≠ nm) ∧ SSt w wx (.slice A' k c') k l o ∧ wx.cell? ⟨wr.heap.size, 0, none⟩ = some (str nm) ∧ wx.cell? ⟨wr.heap.size, 1, none⟩ = some (str vl)) (fun s6 _ => (intOf s6).toNat)
        case atStart => exact ⟨k, Nat.le_refl _, rfl, fun i h hj => absurd h (by have := HS.out.n; omega), HS1.out, HF0.out, HF1.out⟩
        case round =>
          obtain ⟨j, hjk, rfl, hne, hS2, g0, g1⟩ := hrel
          have HNE := Lib.hid hne
          have HS2 := Lib.hid hS2
          have G0 := Lib.hid g0
          have G1 := Lib.hid g1
          clear hne g1
          cases j with
          | zero =>
            clear hS2 g0
            go_upto_region 6 with fail
            go_quiet (fail)
            go_wp2_with fail
            go_meet
            exact ⟨0, by omega, rfl, HNE.out, HS2.out.drewN _, G0.out, G1.out⟩
          | succ j =>
            obtain ⟨gb, rfl, hgb0, hgb1, hgc⟩ := row_block hS2.row (by omega)
            have hjo : j < o.length := by have := hS2.n; omega
            have x0 : wr.cell? ⟨gb, j * 2, none⟩ = some (str (o[j]).1) := (hS2.row.cellAt _ (by omega)).trans (fc_at o j hjo).1
            obtain ⟨on, hon⟩ : ∃ x, (o[j]).1 = x := ⟨_, rfl⟩
            rw [hon] at x0
            have HON := Lib.hid hon
            have hj1 : ((j : Int)) < (k : Int) := by omega
            clear hS2 hon
            cases hbl : Op.bytesLess on nm
            · cases heq : (on == nm)
              · have hlt : on ≠ nm := by simpa using heq
                have HN2 : Hid (∀ i, (h : i < o.length) → j ≤ i → (o[i]).1 ≠ nm) := Lib.hid fun i h hi => by
                  rcases Nat.lt_or_ge j i with h2 | h2
                  · exact HNE.out i h (by omega)
                  · obtain rfl : i = j := by omega
                    rw [HON.out]
                    exact hlt
                clear hlt
                go_upto_region 6 with fail
                have hwj : IntKind.i64.wrap ((j : Nat) : Int) = (j : Int) := IntWalk.i64_in _ (by omega)
                go_quiet (fail)
                go_wp2_with fail
                exact ⟨⟨j, by omega, by go_num, HN2.out, HS2.out.drewN _, G0.out, G1.out⟩, by simp [intOf] <;> omega⟩
              · skip
                go_upto_region 6 with fail
                have hwj : IntKind.i64.wrap ((j : Nat) : Int) = (j : Int) := IntWalk.i64_in _ (by omega)
                go_quiet (fail)
                go_wp2_with fail
                go_meet
                exact ⟨j + 1, hjk, rfl, HNE.out, HS2.out.drewN _, G0.out, G1.out⟩
            · skip
              go_upto_region 6 with fail
              have hwj : IntKind.i64.wrap ((j : Nat) : Int) = (j : Int) := IntWalk.i64_in _ (by omega)
              go_quiet (fail)
              go_wp2_with fail
              go_meet
              exact ⟨j + 1, hjk, rfl, HNE.out, HS2.out.drewN _, G0.out, G1.out⟩
      case rest =>
        obtain ⟨j, hjk, rfl, hne, hS2, g0, g1⟩ := hcut
        have hsame : SameBy (l.take (k + 1)) (o.take j ++ ([(nm, vl)] ++ o.drop j)) := by
          rw [HTK.out]
          have h1 : SameBy (l.take k ++ [(nm, vl)]) (o ++ [(nm, vl)]) := hS2.same.app (SameBy.refl _)
          have h2 := SameBy.ins (o.take j) (o.drop j) (nm, vl) (fun q hq => by
            obtain ⟨i, hi, rfl⟩ := List.getElem_of_mem hq
            rw [List.getElem_drop]
            rw [List.length_drop] at hi
            exact hne _ (by omega) (by omega))
          rw [List.take_append_drop] at h2
          exact h1.trans h2
        have hlen : (o.take j ++ ([(nm, vl)] ++ o.drop j)).length = k + 1 := by
          have := hS2.n
          rw [List.length_append, List.length_append, List.length_take, List.length_drop]
          simp
          omega
        have HSM := Lib.hid hsame
        have HLN := Lib.hid hlen
        have HS2 := Lib.hid hS2
        have hwb : w.heap.size ≤ wc.heap.size := hS2.bel.size
        have hl38 : (wc.alloc (.cells #[str nm, str vl] 42)).ownsRow wc.heap.size 42 2 (.slice (some ⟨wc.heap.size, 0, none⟩) 1 1) 1 (fc [(nm, vl)]) := row_lit wc (Nat.le_refl _) [(nm, vl)] (by simp)
        have H38 := Lib.hid hl38
        have HR38 : Hid (Reads (wc.alloc (.cells #[str nm, str vl] 42)) (wc.heap.size + 1) 2 (some ⟨wc.heap.size, 0, none⟩) 1 (fc [(nm, vl)])) := Lib.hid (by have := Reads.of_own hl38; rwa [al_size] at this)
        clear hsame hlen hne hl38
        rcases hS2.row.2 with ⟨hv, h0⟩ | ⟨g, cap, cur, hv, hgb, _, hkc, _⟩
        · simp only [Value.slice.injEq] at hv
          obtain ⟨rfl, -, rfl⟩ := hv
          subst h0
          obtain rfl : j = 0 := by omega
          have ho : o = [] := List.eq_nil_of_length_eq_zero hS2.n.symm
          subst ho
          clear hS2
          go_wp2_with fail
          go_region_law (refine step_app_f rfl (.tmp 32) (.tmp 38) rfl (l := []) (ys := [(nm, vl)]) (n := 0) (m := 1) (c := 1) (v := .slice none 0 0) (base := w.heap.size) (B := wc.heap.size + 1) (A := some ⟨wc.heap.size, 0, none⟩) (by simp [Act.eval]) (World.ownsRow_nil _ _ _ _) (by simp [Act.eval]) HR38.out (by omega) (by simp; omega) ?_
                         intro A9 c9 w9 h9 g9 _
                         have HR9 := Lib.hid h9
                         have HB9 := Lib.hid g9
                         clear h9 g9)
          all_goals go_simp
          all_goals go_wp2_with fail
          all_goals (
            have HB2 := HS2.out.bel
            have hbf : Below w.heap.size w w9 := by
              first
                | exact (HB2.alloc HB2.size _).grown HB9.out (HB2.alloc HB2.size _).size (fun k hk => by cases hk)
                | exact (HB2.alloc HB2.size _).drew.grown HB9.out (HB2.alloc HB2.size _).drew.size (fun k hk => by cases hk)
            exact ⟨⟨1, [(nm, vl)], A9, c9, hkl, rfl, by go_num, ⟨HR9.out, rfl, HSM.out, hbf⟩⟩, by simp [intOf] <;> omega⟩)
        · simp only [Value.slice.injEq, true_and] at hv
          obtain ⟨rfl, rfl⟩ := hv
          have hjc : j ≤ c' := by omega
          have hrt := row_shrink (m := j) hS2.row hjk
          rw [fc_take] at hrt
          have HRT := Lib.hid hrt
          have hrd := reads_from hS2.row hS2.n hjk
          obtain ⟨A, hA⟩ : ∃ A, (if c' = j then some (⟨g, 0, none⟩ : Addr) else some ⟨g, j * 2, none⟩) = A := ⟨_, rfl⟩
          rw [hA] at hrd
          have HRD := Lib.hid hrd
          have HNEQ : Hid ((Value.slice (some ⟨g, 0, none⟩) j c').ownBlock ≠ (Value.slice (some ⟨wc.heap.size, 0, none⟩) 1 1).ownBlock) := Lib.hid (by
            have := (hrt.lt g rfl).2
            intro e
            have e : some g = some wc.heap.size := e
            injection e with e
            omega)
          have hjk2 : j + (1 + (k - j)) = k + 1 := by omega
          have HJK := Lib.hid hjk2
          clear hS2 hrt hrd hjk2
          go_wp2_with fail
          go_region_law (first
            | (refine step_app_f rfl (.tmp 34) (.tmp 37) rfl (l := [(nm, vl)]) (ys := o.drop j) (A := A) (m := k - j) (n := 1) (c := c' - j) (v := .slice (some ⟨wc.heap.size, 0, none⟩) 1 1) (base := wc.heap.size) (B := wc.heap.size) (by simp [Act.eval]) H38.out (by simp [Act.eval]) (HRD.out.alloc (Nat.le_refl _) _) (by omega) (by simp) ?_
               intro A8 c8 w8 h8 g8 _
               have HR8 := Lib.hid h8
               have HB8 := Lib.hid g8
               have HRT8 : Hid (w8.ownsRow w.heap.size 42 2 (.slice (some ⟨g, 0, none⟩) j c') j (fc (o.take j))) := Lib.hid (by first | exact (HRT.out.alloc _).kept g8 (.inr HNEQ.out) | exact (HRT.out.alloc _).drew.kept g8 (.inr HNEQ.out))
               have HBW8 : Hid (Below wc.heap.size wc w8) := Lib.hid (by first | exact (below_new wc _).grown g8 (below_new wc _).size (fun k hk => by have e : some wc.heap.size = some k := hk; injection e with e; omega) | exact (below_new wc _).drew.grown g8 (below_new wc _).size (fun k hk => by have e : some wc.heap.size = some k := hk; injection e with e; omega))
               clear h8 g8)
            | (refine step_app_f rfl (.tmp 32) (.tmp 38) rfl (l := o.take j) (ys := [(nm, vl)] ++ o.drop j) (base := w.heap.size) (n := j) (m := 1 + (k - j)) (c := c8) (A := A8) (v := .slice (some ⟨g, 0, none⟩) j c') (B := w8.heap.size) (by simp [Act.eval]) HRT8.out (by simp [Act.eval]) (Reads.of_own HR8.out) (by omega) (by have := HB8.out.size; simp at this; omega) ?_
               intro A9 c9 w9 h9 g9 _
               have HR9 := Lib.hid h9
               have HB9 := Lib.hid g9
               clear h9 g9))
          all_goals go_simp
          all_goals go_wp2_with fail
          all_goals (
            have HB2 := HS2.out.bel
            have hbf := (Below.next HB2 HB2.size HBW8.out).grown HB9.out (Below.next HB2 HB2.size HBW8.out).size (fun k hk => by have e : some g = some k := hk; injection e with e; omega)
            refine ⟨⟨k + 1, o.take j ++ ([(nm, vl)] ++ o.drop j), A9, c9, hkl, ?_, ?_, ⟨?_, HLN.out.symm, HSM.out, hbf⟩⟩, ?_⟩
            · rw [HJK.out]
            · go_num
            · have h := HR9.out
              rw [HJK.out] at h
              exact h
            · simp [intOf] <;> omega)
    · obtain rfl : k = l.length := by omega
      go_wp2_with fail
      go_ret
      have h := HS.out
      exact ⟨A', c', o, by rw [← h.n]; rfl, by have := h.same; rwa [List.take_length] at this, h.n.symm, by rw [← h.n]; exact h.row, h.bel⟩
end Go.Proofs.YtgcfnhchmmkndaaGreatDoor
