/- errors.New; http3.invalidField, validateHeaderFieldNameAndValue, validateRegularHeaderField. -/
import Derived.Test.YtgcfnhchmmkndaaGreatDoorB1
import Derived.Test.YtgcfnhchmmkndaaGreatDoorSh1
import Derived.BigQuiet
import Derived.Deep.CutBlock
import Derived.Deep.DeepCutAuto
import Derived.Deep.QuietTactic
namespace Go.Proofs.YtgcfnhchmmkndaaGreatDoor
open Go.RowKit Go.Maps
set_option linter.unusedVariables false
set_option maxRecDepth 100000

theorem new_at (s : ByteArray) (w : World) : Calls Tryz.prog 57 #[.string s] w fun e w' => e = .returned (.iface 136 (.pointer (some ⟨w.heap.size, 0, none⟩))) ∧ Below w.heap.size w w' := by
  go_enter Tryz.func57, Tryz.ntmps57
  go_wp2_with fail
  go_ret
  exact ⟨rfl, below_new _ _⟩

def barredNames : List BS := [[99, 111, 110, 110, 101, 99, 116, 105, 111, 110], [107, 101, 101, 112, 45, 97, 108, 105, 118, 101], [112, 114, 111, 120, 121, 45, 99, 111, 110, 110, 101, 99, 116, 105, 111, 110], [116, 114, 97, 110, 115, 102, 101, 114, 45, 101, 110, 99, 111, 100, 105, 110, 103], [117, 112, 103, 114, 97, 100, 101]]

set_option maxHeartbeats 2000000 in
theorem invalid_at (l : BS) (w : World) : Calls Tryz.prog 96 #[str l] w fun e w' => e = .returned (.bool (barredNames.contains l)) ∧ w' = w := by
  go_enter Tryz.func96, Tryz.ntmps96
  go_wp2_with fail
  all_goals first
    | (exfalso; simp_all; done)
    | (go_ret
       refine ⟨ret_bool ?_, rfl⟩
       simp only [barredNames, List.contains_cons, List.contains_nil]
       simp_all)

/-- a function that hands back an error or none -/
def ErrV (ok : Bool) (v : Value) : Prop := match ok with | true => v = .nilIface | false => ∃ p, v = .iface 136 (.pointer (some p))
def ErrPost (w : World) (ok : Bool) (e : Ending) (w' : World) : Prop := ∃ v, e = .returned v ∧ ErrV ok v ∧ Below w.heap.size w w'

theorem ErrPost.yes {w w' : World} (h : Below w.heap.size w w') : ErrPost w true (.returned .nilIface) w' := ⟨_, rfl, rfl, h⟩
theorem ErrPost.no {w w' : World} {p : Addr} (h : Below w.heap.size w w') : ErrPost w false (.returned (.iface 136 (.pointer (some p)))) w' := ⟨_, rfl, ⟨_, rfl⟩, h⟩

theorem Below.nextD {b : Nat} {w W w5 : World} (h : Below b w W) (hb : b ≤ W.heap.size) (h2 : Below W.drew.heap.size W.drew w5) : Below b w w5 :=
  h.trans ⟨h2.os, h2.tape, h2.output, h2.size, fun j hj => h2.block j (Nat.lt_of_lt_of_le hj hb)⟩
theorem Below.next {b : Nat} {w W w5 : World} (h : Below b w W) (hb : b ≤ W.heap.size) (h2 : Below W.heap.size W w5) : Below b w w5 := h.trans (h2.mono hb)

abbrev fldV (name value : BS) : Value := .agg #[str name, str value]

/-- letters of ASCII alone -/
def ascii (l : BS) : Bool := l.all fun c => decide (c.toNat < 128)
def fieldOk (name value : BS) : Bool := (Lib.toLowerA name == name) && valOk value

theorem lower_at (l : BS) (w : World) (hs : l.length ≤ 2147483648) (ha : ascii l = true) : Calls Tryz.prog 74 #[str l] w fun e w' => e = .returned (str (Lib.toLowerA l)) ∧ Below w.heap.size w w' := by
  have := Tryz.strings_ToLower_ascii ⟨l.toArray⟩ w (by show l.toArray.size ≤ _; simp; omega) (fun j b hj => by
    have hm : b ∈ l := List.mem_of_getElem? (by simpa using hj)
    have := List.all_eq_true.1 ha b hm
    simpa using this)
  simpa using this

theorem value_at' (l : BS) (w : World) (hs : l.length ≤ 2147483648) : Calls Tryz.prog 87 #[str l] w fun e w' => e = .returned (.bool (valOk l)) ∧ w' = w := by
  have := value_at ⟨l.toArray⟩ w (by show l.toArray.size ≤ _; simpa using hs)
  simpa using this
theorem name_at' (l : BS) (w : World) (hs : l.length ≤ 2147483648) (ht : TokTab w) : Calls Tryz.prog 77 #[str l] w fun e w' => e = .returned (.bool (nameOk l)) ∧ w' = w := by
  have := name_at ⟨l.toArray⟩ w (by show l.toArray.size ≤ _; simpa using hs) ht
  simpa using this
theorem canon_at' (l : BS) (w : World) (hs : l.length ≤ 2147483648) : Calls Tryz.prog 78 #[str l] w fun e w' => e = .returned (str (canonL l)) ∧ Below w.heap.size w w' := by
  have := canon_at ⟨l.toArray⟩ w (by show l.toArray.size ≤ _; simpa using hs)
  simpa using this

set_option maxHeartbeats 4000000 in
theorem validate_at (name value : BS) (w : World) (hn : name.length ≤ 2147483648) (hv : value.length ≤ 2147483648) (ha : ascii name = true) :
    Calls Tryz.prog 68 #[fldV name value] w (ErrPost w (fieldOk name value)) := by
  have KL := fun w => lower_at name w hn ha
  have KV := fun w => value_at' value w hv
  obtain ⟨low, hlow⟩ : ∃ low, Lib.toLowerA name = low := ⟨_, rfl⟩
  rw [hlow] at KL
  obtain ⟨vo, hvo⟩ : ∃ vo, valOk value = vo := ⟨_, rfl⟩
  rw [hvo] at KV
  obtain ⟨ne, hne⟩ : ∃ ne, (low == name) = ne := ⟨_, rfl⟩
  have hf : fieldOk name value = (ne && vo) := by unfold fieldOk; rw [hlow, hvo, hne]
  rw [hf]
  clear hf hlow hvo ha
  have x0 : (w.alloc (.cells #[str name, str value] 103)).cell? ⟨w.heap.size, 0, none⟩ = some (str name) := by simp
  have x1 : (w.alloc (.cells #[str name, str value] 103)).cell? ⟨w.heap.size, 1, none⟩ = some (str value) := by simp
  have X0 := Lib.hid x0
  have X1 := Lib.hid x1
  have hlt : w.heap.size < (w.alloc (.cells #[str name, str value] 103)).heap.size := by simp
  have HB := Lib.hid (below_new w (.cells #[str name, str value] 103))
  have HNE := Lib.hid hne
  clear x0 x1
  go_enter Tryz.func68, Tryz.ntmps68
  go_upto_region 1 with fail
  go_cut [8] (fun s8 wx => s8 = .bool (!ne) ∧ wx.cell? ⟨w.heap.size, 1, none⟩ = some (str value) ∧ Below w.heap.size w wx)
  case first =>
    go_wp2_with fail
    go_region_with (go_at_call 74; refine (KL _).mono ?_; rintro e w5 ⟨rfl, hb5⟩; have c0 := (hb5.cell (p := ⟨w.heap.size, 0, none⟩) hlt).trans X0.out; have c1 := (hb5.cell (p := ⟨w.heap.size, 1, none⟩) hlt).trans X1.out)
    all_goals go_wp2_with fail
    all_goals go_meet
    all_goals first
      | exact ⟨rfl, c1, Below.nextD HB.out (Nat.le_of_lt hlt) hb5⟩
      | exact ⟨rfl, c1, Below.next HB.out (Nat.le_of_lt hlt) hb5⟩
  case rest =>
    obtain ⟨rfl, hc1, hb⟩ := hcut
    have HB2 := Lib.hid hb
    clear hb hne hlt
    cases ne
    · go_wp2_with fail
      refine (new_at _ _).mono ?_
      rintro e w6 ⟨rfl, hb6⟩
      go_wp2_with fail
      go_ret
      exact ErrPost.no (Below.next HB2.out HB2.out.size hb6)
    · cases vo
      · go_wp2_with ((with_reducible refine (KV _).mono ?_); rintro e w6 ⟨rfl, rfl⟩)
        refine (new_at _ _).mono ?_
        rintro e w6 ⟨rfl, hb6⟩
        go_wp2_with fail
        go_ret
        exact ErrPost.no (Below.next HB2.out HB2.out.size hb6)
      · go_wp2_with ((with_reducible refine (KV _).mono ?_); rintro e w6 ⟨rfl, rfl⟩)
        go_ret
        exact ErrPost.yes HB2.out

def teName : BS := [116, 101]
def trailersVal : BS := [116, 114, 97, 105, 108, 101, 114, 115]
def regularOk (name value : BS) : Bool := nameOk name && !barredNames.contains name && !(name == teName && value != trailersVal)

set_option maxHeartbeats 4000000 in
theorem regular_at (name value : BS) (w : World) (hn : name.length ≤ 2147483648) (ht : TokTab w) (h3 : 3 ≤ w.heap.size) :
    Calls Tryz.prog 75 #[fldV name value] w (ErrPost w (regularOk name value)) := by
  have ht' : TokTab (w.alloc (.cells #[str name, str value] 103)) := fun c hc => ((below_new w _).cell (p := ⟨2, c, none⟩) (by show 2 < w.heap.size; omega)).trans (ht c hc)
  have KN := name_at' name _ hn ht'
  have KI := fun w => invalid_at name w
  have HB := Lib.hid (below_new w (.cells #[str name, str value] 103))
  obtain ⟨a, ha⟩ : ∃ a, nameOk name = a := ⟨_, rfl⟩
  obtain ⟨b, hb⟩ : ∃ b, barredNames.contains name = b := ⟨_, rfl⟩
  obtain ⟨c, hc⟩ : ∃ c, (name == teName) = c := ⟨_, rfl⟩
  obtain ⟨d, hd⟩ : ∃ d, (value == trailersVal) = d := ⟨_, rfl⟩
  have hf : regularOk name value = (a && !b && !(c && !d)) := by unfold regularOk; rw [ha, hb, hc]; simp [bne, hd]
  rw [hf]
  rw [ha] at KN
  rw [hb] at KI
  unfold teName at hc
  unfold trailersVal at hd
  clear hf ha hb ht ht'
  cases a <;> cases b <;> cases c <;> cases d
  all_goals
    go_enter Tryz.func75, Tryz.ntmps75
    go_wp2_with (first
      | ((with_reducible refine KN.mono ?_); rintro e w6 ⟨rfl, rfl⟩)
      | ((with_reducible refine (KI _).mono ?_); rintro e w6 ⟨rfl, rfl⟩)
      | (go_at_call 57; refine (new_at _ _).mono ?_; rintro e w7 ⟨rfl, hb7⟩))
  all_goals go_ret
  all_goals first
    | exact ErrPost.no (Below.next HB.out HB.out.size hb7)
    | exact ErrPost.yes HB.out

/-- an insertion at the operation (a map's literal) -/
theorem wpList_insert_own {H : Type} {P : Program} (w : World) {ops : Array Oper} {rest : List Oper} {o : Oper} {a : Act} {Q : Exit → Act → World → Prop}
    (hg : o.guard = none) (m x v : Operand) (t : TypeId) (hop : o.op = Op.insert t m x v)
    (k e : TypeId) (K : Keyed P k) (ht : P.underlying t = some (.map k e)) (R : Value → Option (DataW H × List MemPlace)) (b n : Nat) (D : DataW H)
    (hm : a.eval m = .map (some b)) (hown : w.ownsMap P k R b n D) (hn : n < maxLen) (key val : Value) (kl : Lit) (hx : a.eval x = key) (hv : a.eval v = val) (hkey : keyOf P k key = some kl)
    (d : DataW H) (ps : List MemPlace) (hval : R val = some (d, ps))
    (hK : ∀ w', w'.ownsMap P k R b (n + 1) (D.put kl d) → w.grownBy w' (some b) → wpList P ops Q rest (a.put o.dst undef) w') :
    wpList P ops Q (o :: rest) a w := by
  refine wpList_plain hg fun K' hK' => ?_
  obtain ⟨w', hrun, r1, r2⟩ := hown.update K ht hn hkey hval
  unfold Oper.wp
  simp [execOp, hop, hm, hx, hv, hrun, Result.andThen]
  exact hK' _ _ (hK w' r1 r2)

def badNames : List BS := [[65, 117, 116, 104, 111, 114, 105, 122, 97, 116, 105, 111, 110],
  [67, 97, 99, 104, 101, 45, 67, 111, 110, 116, 114, 111, 108],
  [67, 111, 110, 110, 101, 99, 116, 105, 111, 110],
  [67, 111, 110, 116, 101, 110, 116, 45, 69, 110, 99, 111, 100, 105, 110, 103],
  [67, 111, 110, 116, 101, 110, 116, 45, 76, 101, 110, 103, 116, 104],
  [67, 111, 110, 116, 101, 110, 116, 45, 82, 97, 110, 103, 101],
  [67, 111, 110, 116, 101, 110, 116, 45, 84, 121, 112, 101],
  [69, 120, 112, 101, 99, 116],
  [72, 111, 115, 116],
  [75, 101, 101, 112, 45, 65, 108, 105, 118, 101],
  [77, 97, 120, 45, 70, 111, 114, 119, 97, 114, 100, 115],
  [80, 114, 97, 103, 109, 97],
  [80, 114, 111, 120, 121, 45, 65, 117, 116, 104, 101, 110, 116, 105, 99, 97, 116, 101],
  [80, 114, 111, 120, 121, 45, 65, 117, 116, 104, 111, 114, 105, 122, 97, 116, 105, 111, 110],
  [80, 114, 111, 120, 121, 45, 67, 111, 110, 110, 101, 99, 116, 105, 111, 110],
  [82, 97, 110, 103, 101],
  [82, 101, 97, 108, 109],
  [84, 101],
  [84, 114, 97, 105, 108, 101, 114],
  [84, 114, 97, 110, 115, 102, 101, 114, 45, 69, 110, 99, 111, 100, 105, 110, 103],
  [87, 119, 119, 45, 65, 117, 116, 104, 101, 110, 116, 105, 99, 97, 116, 101]]
def putAll (D : DataW Unit) (ns : List BS) : DataW Unit := ns.foldl (fun D x => D.put (.string x) (.lit (.bool true))) D
theorem putAll_isMap (ns : List BS) : ∀ D, IsMap D → IsMap (putAll D ns) := by
  induction ns with
  | nil => intro D h; exact h
  | cons x ns ih => intro D h; exact ih _ (h.put _ _)
theorem putAll_at (k : BS) (z : DataW Unit) (ns : List BS) : ∀ D, IsMap D → (putAll D ns).atKey (.string k) z = if ns.contains k then .lit (.bool true) else D.atKey (.string k) z := by
  induction ns with
  | nil => intro D h; simp [putAll]
  | cons x ns ih =>
    intro D h
    show (putAll (D.put (.string x) (.lit (.bool true))) ns).atKey (.string k) z = _
    rw [ih _ (h.put _ _), List.contains_cons]
    by_cases e : k = x
    · subst e
      rw [atKey_put_same h (strKey _)]
      simp
    · rw [atKey_put_other (by intro e2; injection e2 with e2; exact e e2)]
      have : (k == x) = false := by simpa using e
      rw [this, Bool.false_or]
def badD : DataW Unit := putAll (.map []) badNames
theorem badD_at (k : BS) : badD.atKey (.string k) (.lit (.bool false)) = .lit (.bool (badNames.contains k)) := by
  unfold badD
  rw [putAll_at _ _ _ _ isMap_empty]
  cases h : badNames.contains k
  · rw [if_neg (by simp)]; rfl
  · rw [if_pos rfl]

def BadPost (w : World) (e : Ending) (w' : World) : Prop := e = .returned (.map (some w.heap.size)) ∧ w'.ownsMap Tryz.prog 9 (plainElem Tryz.prog 4) w.heap.size 21 badD ∧ Below w.heap.size w w'

theorem pe_true : plainElem (H := Unit) Tryz.prog 4 (.bool true) = some (.lit (.bool true), []) := plainElem_bool Tryz.underlying4 true

set_option maxHeartbeats 4000000 in
theorem bad_at (w : World) : Calls Tryz.prog 104 #[] w (BadPost w) := by
  have hmm := @run_makeMap Tryz.prog
  have h0 := World.ownsMap_made (H := Unit) w Tryz.prog 9 (plainElem Tryz.prog 4)
  have b0 := Lib.hid (below_new w (.map #[] 0))
  go_enter Tryz.func104, Tryz.ntmps104
  go_wp2_with (refine wpList_insert_own _ rfl (.tmp 1) (.const (.string ⟨#[65, 117, 116, 104, 111, 114, 105, 122, 97, 116, 105, 111, 110]⟩)) (.const (.bool true)) 154 rfl 9 4 law9 Tryz.underlying154 (plainElem Tryz.prog 4) w.heap.size 0 _ rfl h0 (by decide) _ _ (.string [65, 117, 116, 104, 111, 114, 105, 122, 97, 116, 105, 111, 110]) rfl rfl (key9 [65, 117, 116, 104, 111, 114, 105, 122, 97, 116, 105, 111, 110] (by decide)) (.lit (.bool true)) [] pe_true ?_)
  intro w1 h1 g1
  have b1 := Lib.hid (b0.out.grown g1 b0.out.size (fun k hk => by injection hk with hk; omega))
  clear h0 b0 g1
  go_wp2_with (refine wpList_insert_own _ rfl (.tmp 1) (.const (.string ⟨#[67, 97, 99, 104, 101, 45, 67, 111, 110, 116, 114, 111, 108]⟩)) (.const (.bool true)) 154 rfl 9 4 law9 Tryz.underlying154 (plainElem Tryz.prog 4) w.heap.size 1 _ rfl h1 (by decide) _ _ (.string [67, 97, 99, 104, 101, 45, 67, 111, 110, 116, 114, 111, 108]) rfl rfl (key9 [67, 97, 99, 104, 101, 45, 67, 111, 110, 116, 114, 111, 108] (by decide)) (.lit (.bool true)) [] pe_true ?_)
  intro w2 h2 g2
  have b2 := Lib.hid (b1.out.grown g2 b1.out.size (fun k hk => by injection hk with hk; omega))
  clear h1 b1 g2
  go_wp2_with (refine wpList_insert_own _ rfl (.tmp 1) (.const (.string ⟨#[67, 111, 110, 110, 101, 99, 116, 105, 111, 110]⟩)) (.const (.bool true)) 154 rfl 9 4 law9 Tryz.underlying154 (plainElem Tryz.prog 4) w.heap.size 2 _ rfl h2 (by decide) _ _ (.string [67, 111, 110, 110, 101, 99, 116, 105, 111, 110]) rfl rfl (key9 [67, 111, 110, 110, 101, 99, 116, 105, 111, 110] (by decide)) (.lit (.bool true)) [] pe_true ?_)
  intro w3 h3 g3
  have b3 := Lib.hid (b2.out.grown g3 b2.out.size (fun k hk => by injection hk with hk; omega))
  clear h2 b2 g3
  go_wp2_with (refine wpList_insert_own _ rfl (.tmp 1) (.const (.string ⟨#[67, 111, 110, 116, 101, 110, 116, 45, 69, 110, 99, 111, 100, 105, 110, 103]⟩)) (.const (.bool true)) 154 rfl 9 4 law9 Tryz.underlying154 (plainElem Tryz.prog 4) w.heap.size 3 _ rfl h3 (by decide) _ _ (.string [67, 111, 110, 116, 101, 110, 116, 45, 69, 110, 99, 111, 100, 105, 110, 103]) rfl rfl (key9 [67, 111, 110, 116, 101, 110, 116, 45, 69, 110, 99, 111, 100, 105, 110, 103] (by decide)) (.lit (.bool true)) [] pe_true ?_)
  intro w4 h4 g4
  have b4 := Lib.hid (b3.out.grown g4 b3.out.size (fun k hk => by injection hk with hk; omega))
  clear h3 b3 g4
  go_wp2_with (refine wpList_insert_own _ rfl (.tmp 1) (.const (.string ⟨#[67, 111, 110, 116, 101, 110, 116, 45, 76, 101, 110, 103, 116, 104]⟩)) (.const (.bool true)) 154 rfl 9 4 law9 Tryz.underlying154 (plainElem Tryz.prog 4) w.heap.size 4 _ rfl h4 (by decide) _ _ (.string [67, 111, 110, 116, 101, 110, 116, 45, 76, 101, 110, 103, 116, 104]) rfl rfl (key9 [67, 111, 110, 116, 101, 110, 116, 45, 76, 101, 110, 103, 116, 104] (by decide)) (.lit (.bool true)) [] pe_true ?_)
  intro w5 h5 g5
  have b5 := Lib.hid (b4.out.grown g5 b4.out.size (fun k hk => by injection hk with hk; omega))
  clear h4 b4 g5
  go_wp2_with (refine wpList_insert_own _ rfl (.tmp 1) (.const (.string ⟨#[67, 111, 110, 116, 101, 110, 116, 45, 82, 97, 110, 103, 101]⟩)) (.const (.bool true)) 154 rfl 9 4 law9 Tryz.underlying154 (plainElem Tryz.prog 4) w.heap.size 5 _ rfl h5 (by decide) _ _ (.string [67, 111, 110, 116, 101, 110, 116, 45, 82, 97, 110, 103, 101]) rfl rfl (key9 [67, 111, 110, 116, 101, 110, 116, 45, 82, 97, 110, 103, 101] (by decide)) (.lit (.bool true)) [] pe_true ?_)
  intro w6 h6 g6
  have b6 := Lib.hid (b5.out.grown g6 b5.out.size (fun k hk => by injection hk with hk; omega))
  clear h5 b5 g6
  go_wp2_with (refine wpList_insert_own _ rfl (.tmp 1) (.const (.string ⟨#[67, 111, 110, 116, 101, 110, 116, 45, 84, 121, 112, 101]⟩)) (.const (.bool true)) 154 rfl 9 4 law9 Tryz.underlying154 (plainElem Tryz.prog 4) w.heap.size 6 _ rfl h6 (by decide) _ _ (.string [67, 111, 110, 116, 101, 110, 116, 45, 84, 121, 112, 101]) rfl rfl (key9 [67, 111, 110, 116, 101, 110, 116, 45, 84, 121, 112, 101] (by decide)) (.lit (.bool true)) [] pe_true ?_)
  intro w7 h7 g7
  have b7 := Lib.hid (b6.out.grown g7 b6.out.size (fun k hk => by injection hk with hk; omega))
  clear h6 b6 g7
  go_wp2_with (refine wpList_insert_own _ rfl (.tmp 1) (.const (.string ⟨#[69, 120, 112, 101, 99, 116]⟩)) (.const (.bool true)) 154 rfl 9 4 law9 Tryz.underlying154 (plainElem Tryz.prog 4) w.heap.size 7 _ rfl h7 (by decide) _ _ (.string [69, 120, 112, 101, 99, 116]) rfl rfl (key9 [69, 120, 112, 101, 99, 116] (by decide)) (.lit (.bool true)) [] pe_true ?_)
  intro w8 h8 g8
  have b8 := Lib.hid (b7.out.grown g8 b7.out.size (fun k hk => by injection hk with hk; omega))
  clear h7 b7 g8
  go_wp2_with (refine wpList_insert_own _ rfl (.tmp 1) (.const (.string ⟨#[72, 111, 115, 116]⟩)) (.const (.bool true)) 154 rfl 9 4 law9 Tryz.underlying154 (plainElem Tryz.prog 4) w.heap.size 8 _ rfl h8 (by decide) _ _ (.string [72, 111, 115, 116]) rfl rfl (key9 [72, 111, 115, 116] (by decide)) (.lit (.bool true)) [] pe_true ?_)
  intro w9 h9 g9
  have b9 := Lib.hid (b8.out.grown g9 b8.out.size (fun k hk => by injection hk with hk; omega))
  clear h8 b8 g9
  go_wp2_with (refine wpList_insert_own _ rfl (.tmp 1) (.const (.string ⟨#[75, 101, 101, 112, 45, 65, 108, 105, 118, 101]⟩)) (.const (.bool true)) 154 rfl 9 4 law9 Tryz.underlying154 (plainElem Tryz.prog 4) w.heap.size 9 _ rfl h9 (by decide) _ _ (.string [75, 101, 101, 112, 45, 65, 108, 105, 118, 101]) rfl rfl (key9 [75, 101, 101, 112, 45, 65, 108, 105, 118, 101] (by decide)) (.lit (.bool true)) [] pe_true ?_)
  intro w10 h10 g10
  have b10 := Lib.hid (b9.out.grown g10 b9.out.size (fun k hk => by injection hk with hk; omega))
  clear h9 b9 g10
  go_wp2_with (refine wpList_insert_own _ rfl (.tmp 1) (.const (.string ⟨#[77, 97, 120, 45, 70, 111, 114, 119, 97, 114, 100, 115]⟩)) (.const (.bool true)) 154 rfl 9 4 law9 Tryz.underlying154 (plainElem Tryz.prog 4) w.heap.size 10 _ rfl h10 (by decide) _ _ (.string [77, 97, 120, 45, 70, 111, 114, 119, 97, 114, 100, 115]) rfl rfl (key9 [77, 97, 120, 45, 70, 111, 114, 119, 97, 114, 100, 115] (by decide)) (.lit (.bool true)) [] pe_true ?_)
  intro w11 h11 g11
  have b11 := Lib.hid (b10.out.grown g11 b10.out.size (fun k hk => by injection hk with hk; omega))
  clear h10 b10 g11
  go_wp2_with (refine wpList_insert_own _ rfl (.tmp 1) (.const (.string ⟨#[80, 114, 97, 103, 109, 97]⟩)) (.const (.bool true)) 154 rfl 9 4 law9 Tryz.underlying154 (plainElem Tryz.prog 4) w.heap.size 11 _ rfl h11 (by decide) _ _ (.string [80, 114, 97, 103, 109, 97]) rfl rfl (key9 [80, 114, 97, 103, 109, 97] (by decide)) (.lit (.bool true)) [] pe_true ?_)
  intro w12 h12 g12
  have b12 := Lib.hid (b11.out.grown g12 b11.out.size (fun k hk => by injection hk with hk; omega))
  clear h11 b11 g12
  go_wp2_with (refine wpList_insert_own _ rfl (.tmp 1) (.const (.string ⟨#[80, 114, 111, 120, 121, 45, 65, 117, 116, 104, 101, 110, 116, 105, 99, 97, 116, 101]⟩)) (.const (.bool true)) 154 rfl 9 4 law9 Tryz.underlying154 (plainElem Tryz.prog 4) w.heap.size 12 _ rfl h12 (by decide) _ _ (.string [80, 114, 111, 120, 121, 45, 65, 117, 116, 104, 101, 110, 116, 105, 99, 97, 116, 101]) rfl rfl (key9 [80, 114, 111, 120, 121, 45, 65, 117, 116, 104, 101, 110, 116, 105, 99, 97, 116, 101] (by decide)) (.lit (.bool true)) [] pe_true ?_)
  intro w13 h13 g13
  have b13 := Lib.hid (b12.out.grown g13 b12.out.size (fun k hk => by injection hk with hk; omega))
  clear h12 b12 g13
  go_wp2_with (refine wpList_insert_own _ rfl (.tmp 1) (.const (.string ⟨#[80, 114, 111, 120, 121, 45, 65, 117, 116, 104, 111, 114, 105, 122, 97, 116, 105, 111, 110]⟩)) (.const (.bool true)) 154 rfl 9 4 law9 Tryz.underlying154 (plainElem Tryz.prog 4) w.heap.size 13 _ rfl h13 (by decide) _ _ (.string [80, 114, 111, 120, 121, 45, 65, 117, 116, 104, 111, 114, 105, 122, 97, 116, 105, 111, 110]) rfl rfl (key9 [80, 114, 111, 120, 121, 45, 65, 117, 116, 104, 111, 114, 105, 122, 97, 116, 105, 111, 110] (by decide)) (.lit (.bool true)) [] pe_true ?_)
  intro w14 h14 g14
  have b14 := Lib.hid (b13.out.grown g14 b13.out.size (fun k hk => by injection hk with hk; omega))
  clear h13 b13 g14
  go_wp2_with (refine wpList_insert_own _ rfl (.tmp 1) (.const (.string ⟨#[80, 114, 111, 120, 121, 45, 67, 111, 110, 110, 101, 99, 116, 105, 111, 110]⟩)) (.const (.bool true)) 154 rfl 9 4 law9 Tryz.underlying154 (plainElem Tryz.prog 4) w.heap.size 14 _ rfl h14 (by decide) _ _ (.string [80, 114, 111, 120, 121, 45, 67, 111, 110, 110, 101, 99, 116, 105, 111, 110]) rfl rfl (key9 [80, 114, 111, 120, 121, 45, 67, 111, 110, 110, 101, 99, 116, 105, 111, 110] (by decide)) (.lit (.bool true)) [] pe_true ?_)
  intro w15 h15 g15
  have b15 := Lib.hid (b14.out.grown g15 b14.out.size (fun k hk => by injection hk with hk; omega))
  clear h14 b14 g15
  go_wp2_with (refine wpList_insert_own _ rfl (.tmp 1) (.const (.string ⟨#[82, 97, 110, 103, 101]⟩)) (.const (.bool true)) 154 rfl 9 4 law9 Tryz.underlying154 (plainElem Tryz.prog 4) w.heap.size 15 _ rfl h15 (by decide) _ _ (.string [82, 97, 110, 103, 101]) rfl rfl (key9 [82, 97, 110, 103, 101] (by decide)) (.lit (.bool true)) [] pe_true ?_)
  intro w16 h16 g16
  have b16 := Lib.hid (b15.out.grown g16 b15.out.size (fun k hk => by injection hk with hk; omega))
  clear h15 b15 g16
  go_wp2_with (refine wpList_insert_own _ rfl (.tmp 1) (.const (.string ⟨#[82, 101, 97, 108, 109]⟩)) (.const (.bool true)) 154 rfl 9 4 law9 Tryz.underlying154 (plainElem Tryz.prog 4) w.heap.size 16 _ rfl h16 (by decide) _ _ (.string [82, 101, 97, 108, 109]) rfl rfl (key9 [82, 101, 97, 108, 109] (by decide)) (.lit (.bool true)) [] pe_true ?_)
  intro w17 h17 g17
  have b17 := Lib.hid (b16.out.grown g17 b16.out.size (fun k hk => by injection hk with hk; omega))
  clear h16 b16 g17
  go_wp2_with (refine wpList_insert_own _ rfl (.tmp 1) (.const (.string ⟨#[84, 101]⟩)) (.const (.bool true)) 154 rfl 9 4 law9 Tryz.underlying154 (plainElem Tryz.prog 4) w.heap.size 17 _ rfl h17 (by decide) _ _ (.string [84, 101]) rfl rfl (key9 [84, 101] (by decide)) (.lit (.bool true)) [] pe_true ?_)
  intro w18 h18 g18
  have b18 := Lib.hid (b17.out.grown g18 b17.out.size (fun k hk => by injection hk with hk; omega))
  clear h17 b17 g18
  go_wp2_with (refine wpList_insert_own _ rfl (.tmp 1) (.const (.string ⟨#[84, 114, 97, 105, 108, 101, 114]⟩)) (.const (.bool true)) 154 rfl 9 4 law9 Tryz.underlying154 (plainElem Tryz.prog 4) w.heap.size 18 _ rfl h18 (by decide) _ _ (.string [84, 114, 97, 105, 108, 101, 114]) rfl rfl (key9 [84, 114, 97, 105, 108, 101, 114] (by decide)) (.lit (.bool true)) [] pe_true ?_)
  intro w19 h19 g19
  have b19 := Lib.hid (b18.out.grown g19 b18.out.size (fun k hk => by injection hk with hk; omega))
  clear h18 b18 g19
  go_wp2_with (refine wpList_insert_own _ rfl (.tmp 1) (.const (.string ⟨#[84, 114, 97, 110, 115, 102, 101, 114, 45, 69, 110, 99, 111, 100, 105, 110, 103]⟩)) (.const (.bool true)) 154 rfl 9 4 law9 Tryz.underlying154 (plainElem Tryz.prog 4) w.heap.size 19 _ rfl h19 (by decide) _ _ (.string [84, 114, 97, 110, 115, 102, 101, 114, 45, 69, 110, 99, 111, 100, 105, 110, 103]) rfl rfl (key9 [84, 114, 97, 110, 115, 102, 101, 114, 45, 69, 110, 99, 111, 100, 105, 110, 103] (by decide)) (.lit (.bool true)) [] pe_true ?_)
  intro w20 h20 g20
  have b20 := Lib.hid (b19.out.grown g20 b19.out.size (fun k hk => by injection hk with hk; omega))
  clear h19 b19 g20
  go_wp2_with (refine wpList_insert_own _ rfl (.tmp 1) (.const (.string ⟨#[87, 119, 119, 45, 65, 117, 116, 104, 101, 110, 116, 105, 99, 97, 116, 101]⟩)) (.const (.bool true)) 154 rfl 9 4 law9 Tryz.underlying154 (plainElem Tryz.prog 4) w.heap.size 20 _ rfl h20 (by decide) _ _ (.string [87, 119, 119, 45, 65, 117, 116, 104, 101, 110, 116, 105, 99, 97, 116, 101]) rfl rfl (key9 [87, 119, 119, 45, 65, 117, 116, 104, 101, 110, 116, 105, 99, 97, 116, 101] (by decide)) (.lit (.bool true)) [] pe_true ?_)
  intro w21 h21 g21
  have b21 := Lib.hid (b20.out.grown g21 b20.out.size (fun k hk => by injection hk with hk; omega))
  clear h20 b20 g21
  go_wp2_with fail
  go_ret
  exact ⟨rfl, h21, b21.out⟩

theorem pe_bool_inv {v : Value} {c : Bool} {ps : List MemPlace} (h : plainElem (H := Unit) Tryz.prog 4 v = some (.lit (.bool c), ps)) : v = .bool c := by
  unfold plainElem at h
  rw [Tryz.underlying4] at h
  cases v <;> simp at h
  rw [h.1]
theorem zero4 (w : World) : (zeroValue 4).run Tryz.prog w = .ok (.bool false) w := by kernel_rfl
theorem bad_look {w : World} {b n : Nat} (h : w.ownsMap Tryz.prog 9 (plainElem Tryz.prog 4) b n badD) (k : BS) (hk : k.length ≤ 2147483648) :
    (Instr.lookup 154 (.map (some b)) (str k) false).run Tryz.prog w = .ok (.bool (badNames.contains k)) w := by
  obtain ⟨v, ps, hrun, hv⟩ := h.lookup law9 Tryz.underlying154 (zero4 w) (zd := .lit (.bool false)) (zp := []) (plainElem_bool Tryz.underlying4 false) (key9 k hk)
  rw [badD_at] at hv
  rw [hrun, pe_bool_inv hv]

def ifDash : BS := [73, 102, 45]
def trailerOk (name : BS) : Bool := !(Lib.hasPrefix (canonL name) ifDash || badNames.contains (canonL name))

set_option maxHeartbeats 4000000 in
theorem vtrailer_at (name : BS) (w : World) (hn : name.length ≤ 2147483648) : Calls Tryz.prog 88 #[str name] w fun e w' => e = .returned (.bool (trailerOk name)) ∧ Below w.heap.size w w' := by
  have KC := canon_at' name w hn
  have KP := fun w => Tryz.strings_HasPrefix ⟨(canonL name).toArray⟩ ⟨#[73, 102, 45]⟩ w
  have hcl : (canonL name).length ≤ 2147483648 := by rw [canonL_len]; exact hn
  have hf : trailerOk name = !(Lib.hasPrefix (canonL name) [73, 102, 45] || badNames.contains (canonL name)) := rfl
  rw [hf]
  obtain ⟨c, hc⟩ : ∃ c, canonL name = c := ⟨_, rfl⟩
  rw [hc] at KC KP hcl ⊢
  simp only at KP
  obtain ⟨p, hp⟩ : ∃ p, Lib.hasPrefix c [73, 102, 45] = p := ⟨_, rfl⟩
  rw [hp] at KP ⊢
  obtain ⟨q, hq⟩ : ∃ q, badNames.contains c = q := ⟨_, rfl⟩
  rw [hq]
  have HQ := Lib.hid hq
  clear hf hc hp hq
  cases p
  · go_enter Tryz.func88, Tryz.ntmps88
    go_wp2_with fail
    refine KC.mono ?_
    rintro e w1 ⟨rfl, hb1⟩
    go_wp2_with ((with_reducible refine (KP _).mono ?_); rintro e w2 ⟨rfl, rfl⟩)
    refine (bad_at _).mono ?_
    rintro e w3 ⟨rfl, hm, hb3⟩
    have hl := bad_look hm c hcl
    rw [HQ.out] at hl
    clear hm KC KP
    cases q
    all_goals
      go_wp2_with fail
      go_ret
      exact ⟨rfl, Below.next hb1 hb1.size hb3⟩
  · go_enter Tryz.func88, Tryz.ntmps88
    go_wp2_with fail
    refine KC.mono ?_
    rintro e w1 ⟨rfl, hb1⟩
    go_wp2_with ((with_reducible refine (KP _).mono ?_); rintro e w2 ⟨rfl, rfl⟩)
    go_ret
    exact ⟨rfl, hb1⟩

def trailerFieldOk (name value : BS) : Bool := regularOk name value && trailerOk name

set_option maxHeartbeats 4000000 in
theorem trailerField_at (name value : BS) (w : World) (hn : name.length ≤ 2147483648) (ht : TokTab w) (h3 : 3 ≤ w.heap.size) :
    Calls Tryz.prog 70 #[fldV name value] w (ErrPost w (trailerFieldOk name value)) := by
  have ht' : TokTab (w.alloc (.cells #[str name, str value] 103)) := fun c hc => ((below_new w _).cell (p := ⟨2, c, none⟩) (by show 2 < w.heap.size; omega)).trans (ht c hc)
  have KR := regular_at name value _ hn ht' (by simp; omega)
  have KT := fun w => vtrailer_at name w hn
  have HB := Lib.hid (below_new w (.cells #[str name, str value] 103))
  have x0 : (w.alloc (.cells #[str name, str value] 103)).cell? ⟨w.heap.size, 0, none⟩ = some (str name) := by simp
  have X0 := Lib.hid x0
  obtain ⟨a, ha⟩ : ∃ a, regularOk name value = a := ⟨_, rfl⟩
  obtain ⟨b, hb⟩ : ∃ b, trailerOk name = b := ⟨_, rfl⟩
  have hf : trailerFieldOk name value = (a && b) := by unfold trailerFieldOk; rw [ha, hb]
  rw [hf]
  rw [ha] at KR
  rw [hb] at KT
  clear hf ha hb ht ht' x0
  unfold fldV at KR ⊢
  cases a <;> cases b
  all_goals
    go_enter Tryz.func70, Tryz.ntmps70
    go_wp2_with fail
    refine KR.mono ?_
    rintro e w1 ⟨v, rfl, hv, hb1⟩
    have c0 := (hb1.cell (p := ⟨w.heap.size, 0, none⟩) (by simp)).trans X0.out
  · obtain ⟨p, rfl⟩ := hv
    go_wp2_with fail
    go_ret
    exact ErrPost.no (Below.next HB.out HB.out.size hb1)
  · obtain ⟨p, rfl⟩ := hv
    go_wp2_with fail
    go_ret
    exact ErrPost.no (Below.next HB.out HB.out.size hb1)
  · obtain rfl : v = .nilIface := hv
    go_wp2_with ((with_reducible refine (KT _).mono ?_); rintro e w2 ⟨rfl, hb2⟩)
    refine (new_at _ _).mono ?_
    rintro e w3 ⟨rfl, hb3⟩
    go_wp2_with fail
    go_ret
    have k1 := Below.next HB.out HB.out.size hb1
    have k2 := Below.next k1 k1.size hb2
    exact ErrPost.no (Below.next k2 k2.size hb3)
  · obtain rfl : v = .nilIface := hv
    go_wp2_with ((with_reducible refine (KT _).mono ?_); rintro e w2 ⟨rfl, hb2⟩)
    go_ret
    have k1 := Below.next HB.out HB.out.size hb1
    exact ErrPost.yes (Below.next k1 k1.size hb2)

def pseudoB (name : BS) : Bool := match name with | [] => false | c :: _ => decide (c.toNat = 58)

set_option maxHeartbeats 2000000 in
theorem pseudo_at (name value : BS) (w : World) : Calls Tryz.prog 69 #[fldV name value] w fun e w' => e = .returned (.bool (pseudoB name)) ∧ Below w.heap.size w w' := by
  have HB := Lib.hid (below_new w (.cells #[str name, str value] 103))
  cases name with
  | nil =>
    go_enter Tryz.func69, Tryz.ntmps69
    go_wp2_with fail
    go_ret
    exact ⟨rfl, HB.out⟩
  | cons c r =>
    go_enter Tryz.func69, Tryz.ntmps69
    go_wp2_with fail
    go_ret
    refine ⟨ret_bool ?_, HB.out⟩
    have h1 : (((r.length : Int) + 1) != 0) = true := by simp; omega
    rw [h1, Bool.true_and]
    show (((c.toNat : Nat) : Int) == 58) = decide (c.toNat = 58)
    rw [Bool.eq_iff_iff]
    simp
    omega
end Go.Proofs.YtgcfnhchmmkndaaGreatDoor
