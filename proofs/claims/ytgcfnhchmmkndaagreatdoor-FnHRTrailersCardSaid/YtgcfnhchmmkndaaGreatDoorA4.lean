/- errors.New; http3.invalidField, validateHeaderFieldNameAndValue, validateRegularHeaderField. -/
import Derived.Test.YtgcfnhchmmkndaaGreatDoorB2
import Derived.Test.YtgcfnhchmmkndaaGreatDoorSh1
import Derived.BigQuiet
import Derived.Deep.CutBlock
import Derived.Deep.DeepCutAuto
import Derived.Deep.QuietTactic
namespace Go.Proofs.YtgcfnhchmmkndaaGreatDoor
open Go.RowKit Go.Maps
set_option linter.unusedVariables false
set_option maxRecDepth 100000

theorem new_at (s : ByteArray) (w : World) : Calls Tryz.prog 57 #[.string s] w fun e w' => e = .returned (.iface 136 (.pointer (some ⟨w.heap.size, 0, none⟩))) ∧ Below w.heap.size w w' := by
  go_enter Tryz.func57, Tryz.ntmps57
  go_wp2_with fail
  go_ret
  exact ⟨rfl, below_new _ _⟩

def barredNames : List BS := [[99, 111, 110, 110, 101, 99, 116, 105, 111, 110], [107, 101, 101, 112, 45, 97, 108, 105, 118, 101], [112, 114, 111, 120, 121, 45, 99, 111, 110, 110, 101, 99, 116, 105, 111, 110], [116, 114, 97, 110, 115, 102, 101, 114, 45, 101, 110, 99, 111, 100, 105, 110, 103], [117, 112, 103, 114, 97, 100, 101]]

set_option maxHeartbeats 2000000 in
theorem invalid_at (l : BS) (w : World) : Calls Tryz.prog 96 #[str l] w fun e w' => e = .returned (.bool (barredNames.contains l)) ∧ w' = w := by
  go_enter Tryz.func96, Tryz.ntmps96
  go_wp2_with fail
  all_goals first
    | (exfalso; simp_all; done)
    | (go_ret
       refine ⟨ret_bool ?_, rfl⟩
       simp only [barredNames, List.contains_cons, List.contains_nil]
       simp_all)

/-- a function that hands back an error or none -/
def ErrV (ok : Bool) (v : Value) : Prop := match ok with | true => v = .nilIface | false => ∃ p, v = .iface 136 (.pointer (some p))
def ErrPost (w : World) (ok : Bool) (e : Ending) (w' : World) : Prop := ∃ v, e = .returned v ∧ ErrV ok v ∧ Below w.heap.size w w'

theorem ErrPost.yes {w w' : World} (h : Below w.heap.size w w') : ErrPost w true (.returned .nilIface) w' := ⟨_, rfl, rfl, h⟩
theorem ErrPost.no {w w' : World} {p : Addr} (h : Below w.heap.size w w') : ErrPost w false (.returned (.iface 136 (.pointer (some p)))) w' := ⟨_, rfl, ⟨_, rfl⟩, h⟩

theorem Below.nextD {b : Nat} {w W w5 : World} (h : Below b w W) (hb : b ≤ W.heap.size) (h2 : Below W.drew.heap.size W.drew w5) : Below b w w5 :=
  h.trans ⟨h2.os, h2.tape, h2.output, h2.size, fun j hj => h2.block j (Nat.lt_of_lt_of_le hj hb)⟩
theorem Below.next {b : Nat} {w W w5 : World} (h : Below b w W) (hb : b ≤ W.heap.size) (h2 : Below W.heap.size W w5) : Below b w w5 := h.trans (h2.mono hb)

abbrev fldV (name value : BS) : Value := .agg #[str name, str value]

/-- letters of ASCII alone -/
def ascii (l : BS) : Bool := l.all fun c => decide (c.toNat < 128)
def fieldOk (name value : BS) : Bool := (Lib.toLowerA name == name) && valOk value

theorem lower_at (l : BS) (w : World) (hs : l.length ≤ 2147483648) (ha : ascii l = true) : Calls Tryz.prog 74 #[str l] w fun e w' => e = .returned (str (Lib.toLowerA l)) ∧ Below w.heap.size w w' := by
  have := Tryz.strings_ToLower_ascii ⟨l.toArray⟩ w (by show l.toArray.size ≤ _; simp; omega) (fun j b hj => by
    have hm : b ∈ l := List.mem_of_getElem? (by simpa using hj)
    have := List.all_eq_true.1 ha b hm
    simpa using this)
  simpa using this

theorem value_at' (l : BS) (w : World) (hs : l.length ≤ 2147483648) : Calls Tryz.prog 87 #[str l] w fun e w' => e = .returned (.bool (valOk l)) ∧ w' = w := by
  have := value_at ⟨l.toArray⟩ w (by show l.toArray.size ≤ _; simpa using hs)
  simpa using this
theorem name_at' (l : BS) (w : World) (hs : l.length ≤ 2147483648) (ht : TokTab w) : Calls Tryz.prog 77 #[str l] w fun e w' => e = .returned (.bool (nameOk l)) ∧ w' = w := by
  have := name_at ⟨l.toArray⟩ w (by show l.toArray.size ≤ _; simpa using hs) ht
  simpa using this
theorem canon_at' (l : BS) (w : World) (hs : l.length ≤ 2147483648) : Calls Tryz.prog 78 #[str l] w fun e w' => e = .returned (str (canonL l)) ∧ Below w.heap.size w w' := by
  have := canon_at ⟨l.toArray⟩ w (by show l.toArray.size ≤ _; simpa using hs)
  simpa using this

set_option maxHeartbeats 4000000 in
theorem validate_at (name value : BS) (w : World) (hn : name.length ≤ 2147483648) (hv : value.length ≤ 2147483648) (ha : ascii name = true) :
    Calls Tryz.prog 68 #[fldV name value] w (ErrPost w (fieldOk name value)) := by
  have KL := fun w => lower_at name w hn ha
  have KV := fun w => value_at' value w hv
  obtain ⟨low, hlow⟩ : ∃ low, Lib.toLowerA name = low := ⟨_, rfl⟩
  rw [hlow] at KL
  obtain ⟨vo, hvo⟩ : ∃ vo, valOk value = vo := ⟨_, rfl⟩
  rw [hvo] at KV
  obtain ⟨ne, hne⟩ : ∃ ne, (low == name) = ne := ⟨_, rfl⟩
  have hf : fieldOk name value = (ne && vo) := by unfold fieldOk; rw [hlow, hvo, hne]
  rw [hf]
  clear hf hlow hvo ha
  have x0 : (w.alloc (.cells #[str name, str value] 103)).cell? ⟨w.heap.size, 0, none⟩ = some (str name) := by simp
  have x1 : (w.alloc (.cells #[str name, str value] 103)).cell? ⟨w.heap.size, 1, none⟩ = some (str value) := by simp
  have X0 := Lib.hid x0
  have X1 := Lib.hid x1
  have hlt : w.heap.size < (w.alloc (.cells #[str name, str value] 103)).heap.size := by simp
  have HB := Lib.hid (below_new w (.cells #[str name, str value] 103))
  have HNE := Lib.hid hne
  clear x0 x1
  go_enter Tryz.func68, Tryz.ntmps68
  go_upto_region 1 with fail
  go_cut [8] (fun s8 wx => s8 = .bool (!ne) ∧ wx.cell? ⟨w.heap.size, 1, none⟩ = some (str value) ∧ Below w.heap.size w wx)
  case first =>
    go_wp2_with fail
    go_region_with (go_at_call 74; refine (KL _).mono ?_; rintro e w5 ⟨rfl, hb5⟩; have c0 := (hb5.cell (p := ⟨w.heap.size, 0, none⟩) hlt).trans X0.out; have c1 := (hb5.cell (p := ⟨w.heap.size, 1, none⟩) hlt).trans X1.out)
    all_goals go_wp2_with fail
    all_goals go_meet
    all_goals first
      | exact ⟨rfl, c1, Below.nextD HB.out (Nat.le_of_lt hlt) hb5⟩
      | exact ⟨rfl, c1, Below.next HB.out (Nat.le_of_lt hlt) hb5⟩
  case rest =>
    obtain ⟨rfl, hc1, hb⟩ := hcut
    have HB2 := Lib.hid hb
    clear hb hne hlt
    cases ne
    · go_wp2_with fail
      refine (new_at _ _).mono ?_
      rintro e w6 ⟨rfl, hb6⟩
      go_wp2_with fail
      go_ret
      exact ErrPost.no (Below.next HB2.out HB2.out.size hb6)
    · cases vo
      · go_wp2_with ((with_reducible refine (KV _).mono ?_); rintro e w6 ⟨rfl, rfl⟩)
        refine (new_at _ _).mono ?_
        rintro e w6 ⟨rfl, hb6⟩
        go_wp2_with fail
        go_ret
        exact ErrPost.no (Below.next HB2.out HB2.out.size hb6)
      · go_wp2_with ((with_reducible refine (KV _).mono ?_); rintro e w6 ⟨rfl, rfl⟩)
        go_ret
        exact ErrPost.yes HB2.out

def teName : BS := [116, 101]
def trailersVal : BS := [116, 114, 97, 105, 108, 101, 114, 115]
def regularOk (name value : BS) : Bool := nameOk name && !barredNames.contains name && !(name == teName && value != trailersVal)

set_option maxHeartbeats 4000000 in
theorem regular_at (name value : BS) (w : World) (hn : name.length ≤ 2147483648) (ht : TokTab w) (h3 : 3 ≤ w.heap.size) :
    Calls Tryz.prog 75 #[fldV name value] w (ErrPost w (regularOk name value)) := by
  have ht' : TokTab (w.alloc (.cells #[str name, str value] 103)) := fun c hc => ((below_new w _).cell (p := ⟨2, c, none⟩) (by show 2 < w.heap.size; omega)).trans (ht c hc)
  have KN := name_at' name _ hn ht'
  have KI := fun w => invalid_at name w
  have HB := Lib.hid (below_new w (.cells #[str name, str value] 103))
  obtain ⟨a, ha⟩ : ∃ a, nameOk name = a := ⟨_, rfl⟩
  obtain ⟨b, hb⟩ : ∃ b, barredNames.contains name = b := ⟨_, rfl⟩
  obtain ⟨c, hc⟩ : ∃ c, (name == teName) = c := ⟨_, rfl⟩
  obtain ⟨d, hd⟩ : ∃ d, (value == trailersVal) = d := ⟨_, rfl⟩
  have hf : regularOk name value = (a && !b && !(c && !d)) := by unfold regularOk; rw [ha, hb, hc]; simp [bne, hd]
  rw [hf]
  rw [ha] at KN
  rw [hb] at KI
  unfold teName at hc
  unfold trailersVal at hd
  clear hf ha hb ht ht'
  cases a <;> cases b <;> cases c <;> cases d
  all_goals
    go_enter Tryz.func75, Tryz.ntmps75
    go_wp2_with (first
      | ((with_reducible refine KN.mono ?_); rintro e w6 ⟨rfl, rfl⟩)
      | ((with_reducible refine (KI _).mono ?_); rintro e w6 ⟨rfl, rfl⟩)
      | (go_at_call 57; refine (new_at _ _).mono ?_; rintro e w7 ⟨rfl, hb7⟩))
  all_goals go_ret
  all_goals first
    | exact ErrPost.no (Below.next HB.out HB.out.size hb7)
    | exact ErrPost.yes HB.out
end Go.Proofs.YtgcfnhchmmkndaaGreatDoor
