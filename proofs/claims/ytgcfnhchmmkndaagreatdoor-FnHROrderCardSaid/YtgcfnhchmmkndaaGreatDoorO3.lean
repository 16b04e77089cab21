/- slices.Grow of no fields, slices.Concat of slices of fields. -/
import Derived.Test.YtgcfnhchmmkndaaGreatDoorO1
namespace Go.Proofs.YtgcfnhchmmkndaaGreatDoor
open Go.RowKit Go.Maps
set_option linter.unusedVariables false
set_option maxRecDepth 100000

/-- what a slice of n fields without values is made of -/
noncomputable def grownW (W : World) (n : Nat) : World := W.drew.alloc (.cells (Builtin.zeroCells #[str [], str []] n ++ Builtin.zeroCells #[str [], str []] (grownCap W n 0 42 - n)) 42)
theorem append_make (W : World) (ty : TypeId) (n : Nat) (h0 : 0 < n) (h1 : n ≤ 1000) :
    (Builtin.append_ #[26, 3] ty #[.slice none 0 0, .int .i64 (n : Int)]).run Tryz.prog W = .ok (.slice (some ⟨W.heap.size, 0, none⟩) n (grownCap W n 0 42)) (grownW W n) := by
  obtain ⟨i9, hi9, hz0, hz1, hz2⟩ := info_parts info42
  have hn : n ≠ 0 := by omega
  have hw : IntKind.i64.wrap (n : Int) = (n : Int) := IntWalk.i64_in _ (by omega)
  have hneg : ¬ (n : Int) < 0 := by omega
  have hbig : ¬ (281474976710656 : Int) < (n : Int) * 32 := by omega
  have h63' : ¬ (9223372036854775807 < (n : Int)) := by omega
  have h48' : ¬ (281474976710656 < Builtin.nextslicecap n 0 * 32) := by rw [nextslicecap_zero h0]; omega
  have hn2 : n * 2 ≠ 0 := by omega
  have hzc : (fldV [] []).cells = #[str [], str []] := rfl
  unfold grownW
  simp [Builtin.append_, run_underlying Tryz.underlying26, run_underlying Tryz.underlying3, sizeOf, typeInfo, zeroValue, hi9, hz0, hz1, hz2, hn, hw, hneg, hbig, h63', h48', Question.forced, run_firstCells_none, newRow, grownCap, asInt, asIntOf, hzc]
  exact fun h => absurd h hn2
theorem grownW_row (W : World) (n base : Nat) (hb : base ≤ W.heap.size) (h1 : n ≤ 1000) : (grownW W n).ownsRow base 42 2 (.slice (some ⟨W.heap.size, 0, none⟩) 0 (grownCap W n 0 42)) 0 [] := by
  have hge := grownCap_ge W n 0 42
  have hm := grownCap_le_maxLen W n 0 42 (by unfold maxLen; omega)
  exact World.ownsRow_made (e := 42) (size := 2) W.drew _ (grownCap W n 0 42) hb hm (by rw [Array.size_append, size_zeroCells, size_zeroCells]; show n * 2 + (grownCap W n 0 42 - n) * 2 = _; omega)
theorem grownW_below (W : World) (n : Nat) : Below W.heap.size W (grownW W n) := by
  have h := below_new W.drew (.cells (Builtin.zeroCells #[str [], str []] n ++ Builtin.zeroCells #[str [], str []] (grownCap W n 0 42 - n)) 42)
  exact ⟨h.os, h.tape, h.output, h.size, h.block⟩
theorem wp_grow {o : Oper} {a : Act} {w : World} {K : Act → World → Prop} {Q : Exit → Act → World → Prop} (s x : Operand) (ho : o.op = .call { callee := .builtin .append, args := #[s, x], argTypes := #[26, 3] })
    (n : Nat) (h0 : 0 < n) (h1 : n ≤ 1000) (hs : a.eval s = .slice none 0 0) (hx : a.eval x = .int .i64 (n : Int)) (h : K (a.put o.dst (.slice (some ⟨w.heap.size, 0, none⟩) n (grownCap w n 0 42))) (grownW w n)) : o.wp Tryz.prog a w K Q := by
  have hrun := append_make w o.type n h0 h1
  unfold Oper.wp execOp
  simp only [ho, resolve, invoke, builtin, Sem.run_bind, Sem.run_pure, Result.andThen_ok, List.map_toArray, List.map_cons, List.map_nil, hs, hx, hrun]
  exact h
theorem wpList_grow {ops : Array Oper} {rest : List Oper} {o : Oper} {a : Act} {w : World} {Q : Exit → Act → World → Prop} (hgd : o.guard = none) (s x : Operand) (ho : o.op = .call { callee := .builtin .append, args := #[s, x], argTypes := #[26, 3] })
    (n : Nat) (h0 : 0 < n) (h1 : n ≤ 1000) (hs : a.eval s = .slice none 0 0) (hx : a.eval x = .int .i64 (n : Int)) (h : wpList Tryz.prog ops Q rest (a.put o.dst (.slice (some ⟨w.heap.size, 0, none⟩) n (grownCap w n 0 42))) (grownW w n)) : wpList Tryz.prog ops Q (o :: rest) a w :=
  wpList_plain hgd fun _ hK => wp_grow s x ho n h0 h1 hs hx (hK _ _ h)
def GrowPost (w : World) (e : Ending) (w' : World) : Prop := ∃ g cap, e = .returned (.slice (some ⟨g, 0, none⟩) 0 cap) ∧ w'.ownsRow w.heap.size 42 2 (.slice (some ⟨g, 0, none⟩) 0 cap) 0 [] ∧ Below w.heap.size w w'
set_option maxHeartbeats 4000000 in
theorem grow_at (n : Nat) (h0 : 0 < n) (h1 : n ≤ 1000) (w : World) : Calls Tryz.prog 33 #[.slice none 0 0, .int .i64 (n : Int)] w (GrowPost w) := by
  have HP := Lib.hid (⟨w.heap.size, grownCap w n 0 42, rfl, grownW_row w n _ (Nat.le_refl _) h1, grownW_below w n⟩ : GrowPost w (.returned (.slice (some ⟨w.heap.size, 0, none⟩) 0 (grownCap w n 0 42))) (grownW w n))
  have i0 : (0 : Int) < (n : Int) := by omega
  have i1 : (n : Int) ≤ 1000 := by omega
  go_enter Tryz.func33, Tryz.ntmps33
  go_wp2_with (at_builtin; refine wpList_grow rfl (.tmp 20) (.tmp 21) rfl n h0 h1 rfl rfl ?_)
  obtain ⟨W1, hW1⟩ : ∃ W1, grownW w n = W1 := ⟨_, rfl⟩
  obtain ⟨cp, hcp⟩ : ∃ cp, grownCap w n 0 42 = cp := ⟨_, rfl⟩
  rw [hW1, hcp] at HP
  rw [hW1, hcp]
  clear hW1 hcp
  go_wp2_with fail
  go_ret
  exact HP.out
structure Part where
  A : Option Addr
  c : Nat
  l : List (BS × BS)
def flatP (P : List Part) : List (BS × BS) := P.flatMap fun p => p.l
theorem flatP_take (P : List Part) (k : Nat) (hk : k < P.length) : flatP (P.take (k + 1)) = flatP (P.take k) ++ P[k].l := by unfold flatP; rw [List.take_succ_eq_append_getElem hk, List.flatMap_append]; exact congrArg _ (List.append_nil _)
theorem flatP_le (P : List Part) (k : Nat) : (flatP (P.take k)).length ≤ (flatP P).length := by
  have h : flatP P = flatP (P.take k) ++ flatP (P.drop k) := by unfold flatP; rw [← List.flatMap_append, List.take_append_drop]
  rw [h, List.length_append]
  omega
def ConcatPost (w : World) (P : List Part) (e : Ending) (w' : World) : Prop := ∃ A c, e = .returned (.slice A (flatP P).length c) ∧ w'.ownsRow w.heap.size 42 2 (.slice A (flatP P).length c) (flatP P).length (fc (flatP P)) ∧ Below w.heap.size w w'
set_option maxHeartbeats 8000000 in
theorem concat_at (P : List Part) (B cB : Nat) (w : World) (hB : B < w.heap.size) (hc : ∀ k, (h : k < P.length) → w.cell? ⟨B, k, none⟩ = some (.slice P[k].A P[k].l.length P[k].c)) (hr : ∀ p ∈ P, Reads w w.heap.size 2 p.A p.l.length (fc p.l))
    (hN : P.length ≤ 10) (h0 : 0 < (flatP P).length) (h1 : (flatP P).length ≤ 100) : Calls Tryz.prog 14 #[.slice (some ⟨B, 0, none⟩) P.length cB] w (ConcatPost w P) := by
  have HC := Lib.hid hc
  have HR := Lib.hid hr
  have hle := fun k => flatP_le P k
  have HLE := Lib.hid hle
  clear hc hr hle
  go_enter Tryz.func14, Tryz.ntmps14
  go_upto_block 0 with fail
  rename_i K0 hK0
  go_cut [3] (fun s3 wx => s3 = .int .i64 ((flatP P).length : Int) ∧ wx = w)
  case first =>
    go_wp2_with fail
    go_loopw [3, 11] (fun s3 s11 wx => ∃ k : Nat, k ≤ P.length ∧ s3 = .int .i64 ((flatP (P.take k)).length : Int) ∧ s11 = .int .i64 (k : Int) ∧ wx = w) (fun _ s11 _ => P.length - (intOf s11).toNat)
    case atStart => exact ⟨0, by omega, by first | rfl | trivial, by first | rfl | trivial, by first | rfl | trivial⟩
    case round =>
      obtain ⟨k, hk, rfl, rfl, rfl⟩ := hrel
      rcases Nat.lt_or_ge k P.length with hkl | hkl
      · have e0 := HC.out k hkl
        have HT : Hid ((flatP (P.take (k + 1))).length = (flatP (P.take k)).length + P[k].l.length) := Lib.hid (by rw [flatP_take P k hkl, List.length_append])
        have hle := HLE.out (k + 1)
        have ht := HT.out
        obtain ⟨m, hm⟩ : ∃ m, (flatP (P.take k)).length = m := ⟨_, rfl⟩
        obtain ⟨q, hq⟩ : ∃ q, P[k] = q := ⟨_, rfl⟩
        rw [hq] at e0
        rw [hm, hq] at HT ht
        obtain ⟨nq, hnq⟩ : ∃ x, q.l.length = x := ⟨_, rfl⟩
        rw [hnq] at e0 HT ht
        rw [hm]
        have b1 : (m : Int) + (nq : Int) ≤ 100 := by omega
        have b0 : (0 : Int) ≤ (m : Int) + (nq : Int) := by omega
        clear hle ht hm hq hnq
        go_wp2_with fail
        exact ⟨⟨k + 1, hkl, by first | trivial | (rw [HT.out]; go_num), by go_num, by first | rfl | trivial⟩, by simp [intOf]; omega⟩
      · obtain rfl : k = P.length := by omega
        rw [List.take_length]
        go_wp2_with fail
        go_meet
        exact ⟨rfl, rfl⟩
  case rest =>
    obtain ⟨rfl, hw⟩ := hcut
    rw [hw]
    clear hw
    have KG := grow_at (flatP P).length h0 (by omega) w
    go_wp2_with fail
    refine KG.mono ?_
    rintro e w1 ⟨g, cap, rfl, hrow, hb⟩
    have HROW := Lib.hid hrow
    have HB1 := Lib.hid hb
    clear hrow hb KG
    go_wp2_with fail
    go_loopw [6, 27] (fun s6 s27 wx => ∃ (k : Nat) (m : Nat) (A' : Option Addr) (c' : Nat), k ≤ P.length ∧ m = (flatP (P.take k)).length ∧ s6 = .slice A' m c' ∧ s27 = .int .i64 (k : Int) ∧ wx.ownsRow w.heap.size 42 2 (.slice A' m c') m (fc (flatP (P.take k))) ∧ Below w.heap.size w wx) (fun _ s27 _ => P.length - (intOf s27).toNat)
    case atStart => exact ⟨0, 0, some ⟨g, 0, none⟩, cap, by omega, rfl, rfl, rfl, HROW.out, HB1.out⟩
    case round =>
      obtain ⟨k, m, A', c', hk, hm, rfl, rfl, hrow, hbel⟩ := hrel
      have HM := Lib.hid hm
      have HB := Lib.hid hbel
      rcases Nat.lt_or_ge k P.length with hkl | hkl
      · have e0 := (hbel.cell (p := ⟨B, k, none⟩) hB).trans (HC.out k hkl)
        have hT : (flatP (P.take (k + 1))).length = (flatP (P.take k)).length + P[k].l.length := by rw [flatP_take P k hkl, List.length_append]
        have hle := HLE.out (k + 1)
        have hmem : P[k] ∈ P := List.getElem_mem hkl
        have hrd := (HR.out _ hmem).below hbel
        have HFT : Hid (flatP (P.take (k + 1)) = flatP (P.take k) ++ P[k].l) := Lib.hid (flatP_take P k hkl)
        obtain ⟨q, hq⟩ : ∃ q, P[k] = q := ⟨_, rfl⟩
        rw [hq] at e0 hrd HFT hT
        have HRD := Lib.hid hrd
        have HRW := Lib.hid hrow
        have hmq : m + q.l.length ≤ 1000000 := by omega
        have HT : Hid (m + q.l.length = (flatP (P.take (k + 1))).length) := Lib.hid (by omega)
        have hwb := hbel.size
        clear hle hmem hrd hq hrow hbel hm hT
        go_wp2_with (at_builtin; refine wpList_app_f rfl (.tmp 31) (.tmp 32) rfl (l := flatP (P.take k)) (ys := q.l) (base := w.heap.size) rfl HRW.out rfl HRD.out hmq hwb ?_)
        intro A9 c9 w9 h9 g9 _
        have HB9 := Lib.hid (HB.out.grown g9 HB.out.size (fun k hk => (HRW.out.lt k hk).1))
        have HR9 : Hid (w9.ownsRow w.heap.size 42 2 (.slice A9 (m + q.l.length) c9) (m + q.l.length) (fc (flatP (P.take (k + 1))))) := Lib.hid (by rw [HFT.out]; exact h9)
        clear h9 g9
        go_wp2_with fail
        exact ⟨⟨k + 1, m + q.l.length, A9, c9, hkl, HT.out, rfl, by go_num, HR9.out, HB9.out⟩, by simp [intOf]; omega⟩
      · obtain rfl : k = P.length := by omega
        rw [List.take_length] at hrow hm
        have HRW := Lib.hid hrow
        have HMM := Lib.hid hm
        clear hrow hbel hm
        go_wp2_with fail
        go_ret
        exact ⟨A', c', by rw [← HMM.out]; rfl, by rw [← HMM.out]; exact HRW.out, HB.out⟩
end Go.Proofs.YtgcfnhchmmkndaaGreatDoor
