/- httpguts.ValidTrailerHeader; http3.validateTrailerHeaderField; (qpack.HeaderField).IsPseudo. -/
import Derived.Test.YtgcfnhchmmkndaaGreatDoorA5
namespace Go.Proofs.YtgcfnhchmmkndaaGreatDoor
open Go.RowKit Go.Maps
set_option linter.unusedVariables false
set_option maxRecDepth 100000

theorem pe_bool_inv {v : Value} {c : Bool} {ps : List MemPlace} (h : plainElem (H := Unit) Tryz.prog 4 v = some (.lit (.bool c), ps)) : v = .bool c := by
  unfold plainElem at h
  rw [Tryz.underlying4] at h
  cases v <;> simp at h
  rw [h.1]
theorem zero4 (w : World) : (zeroValue 4).run Tryz.prog w = .ok (.bool false) w := by kernel_rfl
theorem bad_look {w : World} {b n : Nat} (h : w.ownsMap Tryz.prog 9 (plainElem Tryz.prog 4) b n badD) (k : BS) (hk : k.length ≤ 2147483648) :
    (Instr.lookup 154 (.map (some b)) (str k) false).run Tryz.prog w = .ok (.bool (badNames.contains k)) w := by
  obtain ⟨v, ps, hrun, hv⟩ := h.lookup law9 Tryz.underlying154 (zero4 w) (zd := .lit (.bool false)) (zp := []) (plainElem_bool Tryz.underlying4 false) (key9 k hk)
  rw [badD_at] at hv
  rw [hrun, pe_bool_inv hv]

def ifDash : BS := [73, 102, 45]
def trailerOk (name : BS) : Bool := !(Lib.hasPrefix (canonL name) ifDash || badNames.contains (canonL name))

set_option maxHeartbeats 4000000 in
theorem vtrailer_at (name : BS) (w : World) (hn : name.length ≤ 2147483648) : Calls Tryz.prog 88 #[str name] w fun e w' => e = .returned (.bool (trailerOk name)) ∧ Below w.heap.size w w' := by
  have KC := canon_at' name w hn
  have KP := fun w => Tryz.strings_HasPrefix ⟨(canonL name).toArray⟩ ⟨#[73, 102, 45]⟩ w
  have hcl : (canonL name).length ≤ 2147483648 := by rw [canonL_len]; exact hn
  have hf : trailerOk name = !(Lib.hasPrefix (canonL name) [73, 102, 45] || badNames.contains (canonL name)) := rfl
  rw [hf]
  obtain ⟨c, hc⟩ : ∃ c, canonL name = c := ⟨_, rfl⟩
  rw [hc] at KC KP hcl ⊢
  simp only at KP
  obtain ⟨p, hp⟩ : ∃ p, Lib.hasPrefix c [73, 102, 45] = p := ⟨_, rfl⟩
  rw [hp] at KP ⊢
  obtain ⟨q, hq⟩ : ∃ q, badNames.contains c = q := ⟨_, rfl⟩
  rw [hq]
  have HQ := Lib.hid hq
  clear hf hc hp hq
  cases p
  · go_enter Tryz.func88, Tryz.ntmps88
    go_wp2_with fail
    refine KC.mono ?_
    rintro e w1 ⟨rfl, hb1⟩
    go_wp2_with ((with_reducible refine (KP _).mono ?_); rintro e w2 ⟨rfl, rfl⟩)
    refine (bad_at _).mono ?_
    rintro e w3 ⟨rfl, hm, hb3⟩
    have hl := bad_look hm c hcl
    rw [HQ.out] at hl
    clear hm KC KP
    cases q
    all_goals
      go_wp2_with fail
      go_ret
      exact ⟨rfl, Below.next hb1 hb1.size hb3⟩
  · go_enter Tryz.func88, Tryz.ntmps88
    go_wp2_with fail
    refine KC.mono ?_
    rintro e w1 ⟨rfl, hb1⟩
    go_wp2_with ((with_reducible refine (KP _).mono ?_); rintro e w2 ⟨rfl, rfl⟩)
    go_ret
    exact ⟨rfl, hb1⟩

def trailerFieldOk (name value : BS) : Bool := regularOk name value && trailerOk name

set_option maxHeartbeats 4000000 in
theorem trailerField_at (name value : BS) (w : World) (hn : name.length ≤ 2147483648) (ht : TokTab w) (h3 : 3 ≤ w.heap.size) :
    Calls Tryz.prog 70 #[fldV name value] w (ErrPost w (trailerFieldOk name value)) := by
  have ht' : TokTab (w.alloc (.cells #[str name, str value] 103)) := fun c hc => ((below_new w _).cell (p := ⟨2, c, none⟩) (by show 2 < w.heap.size; omega)).trans (ht c hc)
  have KR := regular_at name value _ hn ht' (by simp; omega)
  have KT := fun w => vtrailer_at name w hn
  have HB := Lib.hid (below_new w (.cells #[str name, str value] 103))
  have x0 : (w.alloc (.cells #[str name, str value] 103)).cell? ⟨w.heap.size, 0, none⟩ = some (str name) := by simp
  have X0 := Lib.hid x0
  obtain ⟨a, ha⟩ : ∃ a, regularOk name value = a := ⟨_, rfl⟩
  obtain ⟨b, hb⟩ : ∃ b, trailerOk name = b := ⟨_, rfl⟩
  have hf : trailerFieldOk name value = (a && b) := by unfold trailerFieldOk; rw [ha, hb]
  rw [hf]
  rw [ha] at KR
  rw [hb] at KT
  clear hf ha hb ht ht' x0
  unfold fldV at KR ⊢
  cases a <;> cases b
  all_goals
    go_enter Tryz.func70, Tryz.ntmps70
    go_wp2_with fail
    refine KR.mono ?_
    rintro e w1 ⟨v, rfl, hv, hb1⟩
    have c0 := (hb1.cell (p := ⟨w.heap.size, 0, none⟩) (by simp)).trans X0.out
  · obtain ⟨p, rfl⟩ := hv
    go_wp2_with fail
    go_ret
    exact ErrPost.no (Below.next HB.out HB.out.size hb1)
  · obtain ⟨p, rfl⟩ := hv
    go_wp2_with fail
    go_ret
    exact ErrPost.no (Below.next HB.out HB.out.size hb1)
  · obtain rfl : v = .nilIface := hv
    go_wp2_with ((with_reducible refine (KT _).mono ?_); rintro e w2 ⟨rfl, hb2⟩)
    refine (new_at _ _).mono ?_
    rintro e w3 ⟨rfl, hb3⟩
    go_wp2_with fail
    go_ret
    have k1 := Below.next HB.out HB.out.size hb1
    have k2 := Below.next k1 k1.size hb2
    exact ErrPost.no (Below.next k2 k2.size hb3)
  · obtain rfl : v = .nilIface := hv
    go_wp2_with ((with_reducible refine (KT _).mono ?_); rintro e w2 ⟨rfl, hb2⟩)
    go_ret
    have k1 := Below.next HB.out HB.out.size hb1
    exact ErrPost.yes (Below.next k1 k1.size hb2)

def pseudoB (name : BS) : Bool := match name with | [] => false | c :: _ => decide (c.toNat = 58)

set_option maxHeartbeats 2000000 in
theorem pseudo_at (name value : BS) (w : World) : Calls Tryz.prog 69 #[fldV name value] w fun e w' => e = .returned (.bool (pseudoB name)) ∧ Below w.heap.size w w' := by
  have HB := Lib.hid (below_new w (.cells #[str name, str value] 103))
  cases name with
  | nil =>
    go_enter Tryz.func69, Tryz.ntmps69
    go_wp2_with fail
    go_ret
    exact ⟨rfl, HB.out⟩
  | cons c r =>
    go_enter Tryz.func69, Tryz.ntmps69
    go_wp2_with fail
    go_ret
    refine ⟨ret_bool ?_, HB.out⟩
    have h1 : (((r.length : Int) + 1) != 0) = true := by simp; omega
    rw [h1, Bool.true_and]
    show (((c.toNat : Nat) : Int) == 58) = decide (c.toNat = 58)
    rw [Bool.eq_iff_iff]
    simp
    omega
end Go.Proofs.YtgcfnhchmmkndaaGreatDoor
