/- httpguts.badTrailer, ValidTrailerHeader; http3.validateTrailerHeaderField. -/
import Derived.Test.YtgcfnhchmmkndaaGreatDoorA4
namespace Go.Proofs.YtgcfnhchmmkndaaGreatDoor
open Go.RowKit Go.Maps
set_option linter.unusedVariables false
set_option maxRecDepth 100000

/-- an insertion at the operation (a map's literal) -/
theorem wpList_insert_own {H : Type} {P : Program} (w : World) {ops : Array Oper} {rest : List Oper} {o : Oper} {a : Act} {Q : Exit → Act → World → Prop}
    (hg : o.guard = none) (m x v : Operand) (t : TypeId) (hop : o.op = Op.insert t m x v)
    (k e : TypeId) (K : Keyed P k) (ht : P.underlying t = some (.map k e)) (R : Value → Option (DataW H × List MemPlace)) (b n : Nat) (D : DataW H)
    (hm : a.eval m = .map (some b)) (hown : w.ownsMap P k R b n D) (hn : n < maxLen) (key val : Value) (kl : Lit) (hx : a.eval x = key) (hv : a.eval v = val) (hkey : keyOf P k key = some kl)
    (d : DataW H) (ps : List MemPlace) (hval : R val = some (d, ps))
    (hK : ∀ w', w'.ownsMap P k R b (n + 1) (D.put kl d) → w.grownBy w' (some b) → wpList P ops Q rest (a.put o.dst undef) w') :
    wpList P ops Q (o :: rest) a w := by
  refine wpList_plain hg fun K' hK' => ?_
  obtain ⟨w', hrun, r1, r2⟩ := hown.update K ht hn hkey hval
  unfold Oper.wp
  simp [execOp, hop, hm, hx, hv, hrun, Result.andThen]
  exact hK' _ _ (hK w' r1 r2)

def badNames : List BS := [[65, 117, 116, 104, 111, 114, 105, 122, 97, 116, 105, 111, 110],
  [67, 97, 99, 104, 101, 45, 67, 111, 110, 116, 114, 111, 108],
  [67, 111, 110, 110, 101, 99, 116, 105, 111, 110],
  [67, 111, 110, 116, 101, 110, 116, 45, 69, 110, 99, 111, 100, 105, 110, 103],
  [67, 111, 110, 116, 101, 110, 116, 45, 76, 101, 110, 103, 116, 104],
  [67, 111, 110, 116, 101, 110, 116, 45, 82, 97, 110, 103, 101],
  [67, 111, 110, 116, 101, 110, 116, 45, 84, 121, 112, 101],
  [69, 120, 112, 101, 99, 116],
  [72, 111, 115, 116],
  [75, 101, 101, 112, 45, 65, 108, 105, 118, 101],
  [77, 97, 120, 45, 70, 111, 114, 119, 97, 114, 100, 115],
  [80, 114, 97, 103, 109, 97],
  [80, 114, 111, 120, 121, 45, 65, 117, 116, 104, 101, 110, 116, 105, 99, 97, 116, 101],
  [80, 114, 111, 120, 121, 45, 65, 117, 116, 104, 111, 114, 105, 122, 97, 116, 105, 111, 110],
  [80, 114, 111, 120, 121, 45, 67, 111, 110, 110, 101, 99, 116, 105, 111, 110],
  [82, 97, 110, 103, 101],
  [82, 101, 97, 108, 109],
  [84, 101],
  [84, 114, 97, 105, 108, 101, 114],
  [84, 114, 97, 110, 115, 102, 101, 114, 45, 69, 110, 99, 111, 100, 105, 110, 103],
  [87, 119, 119, 45, 65, 117, 116, 104, 101, 110, 116, 105, 99, 97, 116, 101]]
def putAll (D : DataW Unit) (ns : List BS) : DataW Unit := ns.foldl (fun D x => D.put (.string x) (.lit (.bool true))) D
theorem putAll_isMap (ns : List BS) : ∀ D, IsMap D → IsMap (putAll D ns) := by
  induction ns with
  | nil => intro D h; exact h
  | cons x ns ih => intro D h; exact ih _ (h.put _ _)
theorem putAll_at (k : BS) (z : DataW Unit) (ns : List BS) : ∀ D, IsMap D → (putAll D ns).atKey (.string k) z = if ns.contains k then .lit (.bool true) else D.atKey (.string k) z := by
  induction ns with
  | nil => intro D h; simp [putAll]
  | cons x ns ih =>
    intro D h
    show (putAll (D.put (.string x) (.lit (.bool true))) ns).atKey (.string k) z = _
    rw [ih _ (h.put _ _), List.contains_cons]
    by_cases e : k = x
    · subst e
      rw [atKey_put_same h (strKey _)]
      simp
    · rw [atKey_put_other (by intro e2; injection e2 with e2; exact e e2)]
      have : (k == x) = false := by simpa using e
      rw [this, Bool.false_or]
def badD : DataW Unit := putAll (.map []) badNames
theorem badD_at (k : BS) : badD.atKey (.string k) (.lit (.bool false)) = .lit (.bool (badNames.contains k)) := by
  unfold badD
  rw [putAll_at _ _ _ _ isMap_empty]
  cases h : badNames.contains k
  · rw [if_neg (by simp)]; rfl
  · rw [if_pos rfl]

def BadPost (w : World) (e : Ending) (w' : World) : Prop := e = .returned (.map (some w.heap.size)) ∧ w'.ownsMap Tryz.prog 9 (plainElem Tryz.prog 4) w.heap.size 21 badD ∧ Below w.heap.size w w'

theorem pe_true : plainElem (H := Unit) Tryz.prog 4 (.bool true) = some (.lit (.bool true), []) := plainElem_bool Tryz.underlying4 true

set_option maxHeartbeats 4000000 in
theorem bad_at (w : World) : Calls Tryz.prog 104 #[] w (BadPost w) := by
  have hmm := @run_makeMap Tryz.prog
  have h0 := World.ownsMap_made (H := Unit) w Tryz.prog 9 (plainElem Tryz.prog 4)
  have b0 := Lib.hid (below_new w (.map #[] 0))
  go_enter Tryz.func104, Tryz.ntmps104
  go_wp2_with (refine wpList_insert_own _ rfl (.tmp 1) (.const (.string ⟨#[65, 117, 116, 104, 111, 114, 105, 122, 97, 116, 105, 111, 110]⟩)) (.const (.bool true)) 154 rfl 9 4 law9 Tryz.underlying154 (plainElem Tryz.prog 4) w.heap.size 0 _ rfl h0 (by decide) _ _ (.string [65, 117, 116, 104, 111, 114, 105, 122, 97, 116, 105, 111, 110]) rfl rfl (key9 [65, 117, 116, 104, 111, 114, 105, 122, 97, 116, 105, 111, 110] (by decide)) (.lit (.bool true)) [] pe_true ?_)
  intro w1 h1 g1
  have b1 := Lib.hid (b0.out.grown g1 b0.out.size (fun k hk => by injection hk with hk; omega))
  clear h0 b0 g1
  go_wp2_with (refine wpList_insert_own _ rfl (.tmp 1) (.const (.string ⟨#[67, 97, 99, 104, 101, 45, 67, 111, 110, 116, 114, 111, 108]⟩)) (.const (.bool true)) 154 rfl 9 4 law9 Tryz.underlying154 (plainElem Tryz.prog 4) w.heap.size 1 _ rfl h1 (by decide) _ _ (.string [67, 97, 99, 104, 101, 45, 67, 111, 110, 116, 114, 111, 108]) rfl rfl (key9 [67, 97, 99, 104, 101, 45, 67, 111, 110, 116, 114, 111, 108] (by decide)) (.lit (.bool true)) [] pe_true ?_)
  intro w2 h2 g2
  have b2 := Lib.hid (b1.out.grown g2 b1.out.size (fun k hk => by injection hk with hk; omega))
  clear h1 b1 g2
  go_wp2_with (refine wpList_insert_own _ rfl (.tmp 1) (.const (.string ⟨#[67, 111, 110, 110, 101, 99, 116, 105, 111, 110]⟩)) (.const (.bool true)) 154 rfl 9 4 law9 Tryz.underlying154 (plainElem Tryz.prog 4) w.heap.size 2 _ rfl h2 (by decide) _ _ (.string [67, 111, 110, 110, 101, 99, 116, 105, 111, 110]) rfl rfl (key9 [67, 111, 110, 110, 101, 99, 116, 105, 111, 110] (by decide)) (.lit (.bool true)) [] pe_true ?_)
  intro w3 h3 g3
  have b3 := Lib.hid (b2.out.grown g3 b2.out.size (fun k hk => by injection hk with hk; omega))
  clear h2 b2 g3
  go_wp2_with (refine wpList_insert_own _ rfl (.tmp 1) (.const (.string ⟨#[67, 111, 110, 116, 101, 110, 116, 45, 69, 110, 99, 111, 100, 105, 110, 103]⟩)) (.const (.bool true)) 154 rfl 9 4 law9 Tryz.underlying154 (plainElem Tryz.prog 4) w.heap.size 3 _ rfl h3 (by decide) _ _ (.string [67, 111, 110, 116, 101, 110, 116, 45, 69, 110, 99, 111, 100, 105, 110, 103]) rfl rfl (key9 [67, 111, 110, 116, 101, 110, 116, 45, 69, 110, 99, 111, 100, 105, 110, 103] (by decide)) (.lit (.bool true)) [] pe_true ?_)
  intro w4 h4 g4
  have b4 := Lib.hid (b3.out.grown g4 b3.out.size (fun k hk => by injection hk with hk; omega))
  clear h3 b3 g4
  go_wp2_with (refine wpList_insert_own _ rfl (.tmp 1) (.const (.string ⟨#[67, 111, 110, 116, 101, 110, 116, 45, 76, 101, 110, 103, 116, 104]⟩)) (.const (.bool true)) 154 rfl 9 4 law9 Tryz.underlying154 (plainElem Tryz.prog 4) w.heap.size 4 _ rfl h4 (by decide) _ _ (.string [67, 111, 110, 116, 101, 110, 116, 45, 76, 101, 110, 103, 116, 104]) rfl rfl (key9 [67, 111, 110, 116, 101, 110, 116, 45, 76, 101, 110, 103, 116, 104] (by decide)) (.lit (.bool true)) [] pe_true ?_)
  intro w5 h5 g5
  have b5 := Lib.hid (b4.out.grown g5 b4.out.size (fun k hk => by injection hk with hk; omega))
  clear h4 b4 g5
  go_wp2_with (refine wpList_insert_own _ rfl (.tmp 1) (.const (.string ⟨#[67, 111, 110, 116, 101, 110, 116, 45, 82, 97, 110, 103, 101]⟩)) (.const (.bool true)) 154 rfl 9 4 law9 Tryz.underlying154 (plainElem Tryz.prog 4) w.heap.size 5 _ rfl h5 (by decide) _ _ (.string [67, 111, 110, 116, 101, 110, 116, 45, 82, 97, 110, 103, 101]) rfl rfl (key9 [67, 111, 110, 116, 101, 110, 116, 45, 82, 97, 110, 103, 101] (by decide)) (.lit (.bool true)) [] pe_true ?_)
  intro w6 h6 g6
  have b6 := Lib.hid (b5.out.grown g6 b5.out.size (fun k hk => by injection hk with hk; omega))
  clear h5 b5 g6
  go_wp2_with (refine wpList_insert_own _ rfl (.tmp 1) (.const (.string ⟨#[67, 111, 110, 116, 101, 110, 116, 45, 84, 121, 112, 101]⟩)) (.const (.bool true)) 154 rfl 9 4 law9 Tryz.underlying154 (plainElem Tryz.prog 4) w.heap.size 6 _ rfl h6 (by decide) _ _ (.string [67, 111, 110, 116, 101, 110, 116, 45, 84, 121, 112, 101]) rfl rfl (key9 [67, 111, 110, 116, 101, 110, 116, 45, 84, 121, 112, 101] (by decide)) (.lit (.bool true)) [] pe_true ?_)
  intro w7 h7 g7
  have b7 := Lib.hid (b6.out.grown g7 b6.out.size (fun k hk => by injection hk with hk; omega))
  clear h6 b6 g7
  go_wp2_with (refine wpList_insert_own _ rfl (.tmp 1) (.const (.string ⟨#[69, 120, 112, 101, 99, 116]⟩)) (.const (.bool true)) 154 rfl 9 4 law9 Tryz.underlying154 (plainElem Tryz.prog 4) w.heap.size 7 _ rfl h7 (by decide) _ _ (.string [69, 120, 112, 101, 99, 116]) rfl rfl (key9 [69, 120, 112, 101, 99, 116] (by decide)) (.lit (.bool true)) [] pe_true ?_)
  intro w8 h8 g8
  have b8 := Lib.hid (b7.out.grown g8 b7.out.size (fun k hk => by injection hk with hk; omega))
  clear h7 b7 g8
  go_wp2_with (refine wpList_insert_own _ rfl (.tmp 1) (.const (.string ⟨#[72, 111, 115, 116]⟩)) (.const (.bool true)) 154 rfl 9 4 law9 Tryz.underlying154 (plainElem Tryz.prog 4) w.heap.size 8 _ rfl h8 (by decide) _ _ (.string [72, 111, 115, 116]) rfl rfl (key9 [72, 111, 115, 116] (by decide)) (.lit (.bool true)) [] pe_true ?_)
  intro w9 h9 g9
  have b9 := Lib.hid (b8.out.grown g9 b8.out.size (fun k hk => by injection hk with hk; omega))
  clear h8 b8 g9
  go_wp2_with (refine wpList_insert_own _ rfl (.tmp 1) (.const (.string ⟨#[75, 101, 101, 112, 45, 65, 108, 105, 118, 101]⟩)) (.const (.bool true)) 154 rfl 9 4 law9 Tryz.underlying154 (plainElem Tryz.prog 4) w.heap.size 9 _ rfl h9 (by decide) _ _ (.string [75, 101, 101, 112, 45, 65, 108, 105, 118, 101]) rfl rfl (key9 [75, 101, 101, 112, 45, 65, 108, 105, 118, 101] (by decide)) (.lit (.bool true)) [] pe_true ?_)
  intro w10 h10 g10
  have b10 := Lib.hid (b9.out.grown g10 b9.out.size (fun k hk => by injection hk with hk; omega))
  clear h9 b9 g10
  go_wp2_with (refine wpList_insert_own _ rfl (.tmp 1) (.const (.string ⟨#[77, 97, 120, 45, 70, 111, 114, 119, 97, 114, 100, 115]⟩)) (.const (.bool true)) 154 rfl 9 4 law9 Tryz.underlying154 (plainElem Tryz.prog 4) w.heap.size 10 _ rfl h10 (by decide) _ _ (.string [77, 97, 120, 45, 70, 111, 114, 119, 97, 114, 100, 115]) rfl rfl (key9 [77, 97, 120, 45, 70, 111, 114, 119, 97, 114, 100, 115] (by decide)) (.lit (.bool true)) [] pe_true ?_)
  intro w11 h11 g11
  have b11 := Lib.hid (b10.out.grown g11 b10.out.size (fun k hk => by injection hk with hk; omega))
  clear h10 b10 g11
  go_wp2_with (refine wpList_insert_own _ rfl (.tmp 1) (.const (.string ⟨#[80, 114, 97, 103, 109, 97]⟩)) (.const (.bool true)) 154 rfl 9 4 law9 Tryz.underlying154 (plainElem Tryz.prog 4) w.heap.size 11 _ rfl h11 (by decide) _ _ (.string [80, 114, 97, 103, 109, 97]) rfl rfl (key9 [80, 114, 97, 103, 109, 97] (by decide)) (.lit (.bool true)) [] pe_true ?_)
  intro w12 h12 g12
  have b12 := Lib.hid (b11.out.grown g12 b11.out.size (fun k hk => by injection hk with hk; omega))
  clear h11 b11 g12
  go_wp2_with (refine wpList_insert_own _ rfl (.tmp 1) (.const (.string ⟨#[80, 114, 111, 120, 121, 45, 65, 117, 116, 104, 101, 110, 116, 105, 99, 97, 116, 101]⟩)) (.const (.bool true)) 154 rfl 9 4 law9 Tryz.underlying154 (plainElem Tryz.prog 4) w.heap.size 12 _ rfl h12 (by decide) _ _ (.string [80, 114, 111, 120, 121, 45, 65, 117, 116, 104, 101, 110, 116, 105, 99, 97, 116, 101]) rfl rfl (key9 [80, 114, 111, 120, 121, 45, 65, 117, 116, 104, 101, 110, 116, 105, 99, 97, 116, 101] (by decide)) (.lit (.bool true)) [] pe_true ?_)
  intro w13 h13 g13
  have b13 := Lib.hid (b12.out.grown g13 b12.out.size (fun k hk => by injection hk with hk; omega))
  clear h12 b12 g13
  go_wp2_with (refine wpList_insert_own _ rfl (.tmp 1) (.const (.string ⟨#[80, 114, 111, 120, 121, 45, 65, 117, 116, 104, 111, 114, 105, 122, 97, 116, 105, 111, 110]⟩)) (.const (.bool true)) 154 rfl 9 4 law9 Tryz.underlying154 (plainElem Tryz.prog 4) w.heap.size 13 _ rfl h13 (by decide) _ _ (.string [80, 114, 111, 120, 121, 45, 65, 117, 116, 104, 111, 114, 105, 122, 97, 116, 105, 111, 110]) rfl rfl (key9 [80, 114, 111, 120, 121, 45, 65, 117, 116, 104, 111, 114, 105, 122, 97, 116, 105, 111, 110] (by decide)) (.lit (.bool true)) [] pe_true ?_)
  intro w14 h14 g14
  have b14 := Lib.hid (b13.out.grown g14 b13.out.size (fun k hk => by injection hk with hk; omega))
  clear h13 b13 g14
  go_wp2_with (refine wpList_insert_own _ rfl (.tmp 1) (.const (.string ⟨#[80, 114, 111, 120, 121, 45, 67, 111, 110, 110, 101, 99, 116, 105, 111, 110]⟩)) (.const (.bool true)) 154 rfl 9 4 law9 Tryz.underlying154 (plainElem Tryz.prog 4) w.heap.size 14 _ rfl h14 (by decide) _ _ (.string [80, 114, 111, 120, 121, 45, 67, 111, 110, 110, 101, 99, 116, 105, 111, 110]) rfl rfl (key9 [80, 114, 111, 120, 121, 45, 67, 111, 110, 110, 101, 99, 116, 105, 111, 110] (by decide)) (.lit (.bool true)) [] pe_true ?_)
  intro w15 h15 g15
  have b15 := Lib.hid (b14.out.grown g15 b14.out.size (fun k hk => by injection hk with hk; omega))
  clear h14 b14 g15
  go_wp2_with (refine wpList_insert_own _ rfl (.tmp 1) (.const (.string ⟨#[82, 97, 110, 103, 101]⟩)) (.const (.bool true)) 154 rfl 9 4 law9 Tryz.underlying154 (plainElem Tryz.prog 4) w.heap.size 15 _ rfl h15 (by decide) _ _ (.string [82, 97, 110, 103, 101]) rfl rfl (key9 [82, 97, 110, 103, 101] (by decide)) (.lit (.bool true)) [] pe_true ?_)
  intro w16 h16 g16
  have b16 := Lib.hid (b15.out.grown g16 b15.out.size (fun k hk => by injection hk with hk; omega))
  clear h15 b15 g16
  go_wp2_with (refine wpList_insert_own _ rfl (.tmp 1) (.const (.string ⟨#[82, 101, 97, 108, 109]⟩)) (.const (.bool true)) 154 rfl 9 4 law9 Tryz.underlying154 (plainElem Tryz.prog 4) w.heap.size 16 _ rfl h16 (by decide) _ _ (.string [82, 101, 97, 108, 109]) rfl rfl (key9 [82, 101, 97, 108, 109] (by decide)) (.lit (.bool true)) [] pe_true ?_)
  intro w17 h17 g17
  have b17 := Lib.hid (b16.out.grown g17 b16.out.size (fun k hk => by injection hk with hk; omega))
  clear h16 b16 g17
  go_wp2_with (refine wpList_insert_own _ rfl (.tmp 1) (.const (.string ⟨#[84, 101]⟩)) (.const (.bool true)) 154 rfl 9 4 law9 Tryz.underlying154 (plainElem Tryz.prog 4) w.heap.size 17 _ rfl h17 (by decide) _ _ (.string [84, 101]) rfl rfl (key9 [84, 101] (by decide)) (.lit (.bool true)) [] pe_true ?_)
  intro w18 h18 g18
  have b18 := Lib.hid (b17.out.grown g18 b17.out.size (fun k hk => by injection hk with hk; omega))
  clear h17 b17 g18
  go_wp2_with (refine wpList_insert_own _ rfl (.tmp 1) (.const (.string ⟨#[84, 114, 97, 105, 108, 101, 114]⟩)) (.const (.bool true)) 154 rfl 9 4 law9 Tryz.underlying154 (plainElem Tryz.prog 4) w.heap.size 18 _ rfl h18 (by decide) _ _ (.string [84, 114, 97, 105, 108, 101, 114]) rfl rfl (key9 [84, 114, 97, 105, 108, 101, 114] (by decide)) (.lit (.bool true)) [] pe_true ?_)
  intro w19 h19 g19
  have b19 := Lib.hid (b18.out.grown g19 b18.out.size (fun k hk => by injection hk with hk; omega))
  clear h18 b18 g19
  go_wp2_with (refine wpList_insert_own _ rfl (.tmp 1) (.const (.string ⟨#[84, 114, 97, 110, 115, 102, 101, 114, 45, 69, 110, 99, 111, 100, 105, 110, 103]⟩)) (.const (.bool true)) 154 rfl 9 4 law9 Tryz.underlying154 (plainElem Tryz.prog 4) w.heap.size 19 _ rfl h19 (by decide) _ _ (.string [84, 114, 97, 110, 115, 102, 101, 114, 45, 69, 110, 99, 111, 100, 105, 110, 103]) rfl rfl (key9 [84, 114, 97, 110, 115, 102, 101, 114, 45, 69, 110, 99, 111, 100, 105, 110, 103] (by decide)) (.lit (.bool true)) [] pe_true ?_)
  intro w20 h20 g20
  have b20 := Lib.hid (b19.out.grown g20 b19.out.size (fun k hk => by injection hk with hk; omega))
  clear h19 b19 g20
  go_wp2_with (refine wpList_insert_own _ rfl (.tmp 1) (.const (.string ⟨#[87, 119, 119, 45, 65, 117, 116, 104, 101, 110, 116, 105, 99, 97, 116, 101]⟩)) (.const (.bool true)) 154 rfl 9 4 law9 Tryz.underlying154 (plainElem Tryz.prog 4) w.heap.size 20 _ rfl h20 (by decide) _ _ (.string [87, 119, 119, 45, 65, 117, 116, 104, 101, 110, 116, 105, 99, 97, 116, 101]) rfl rfl (key9 [87, 119, 119, 45, 65, 117, 116, 104, 101, 110, 116, 105, 99, 97, 116, 101] (by decide)) (.lit (.bool true)) [] pe_true ?_)
  intro w21 h21 g21
  have b21 := Lib.hid (b20.out.grown g21 b20.out.size (fun k hk => by injection hk with hk; omega))
  clear h20 b20 g21
  go_wp2_with fail
  go_ret
  exact ⟨rfl, h21, b21.out⟩
end Go.Proofs.YtgcfnhchmmkndaaGreatDoor
