/- http3.TrailersOf, impl.HTrailersOf. -/
import Derived.Test.YtgcfnhchmmkndaaGreatDoorB6
import Derived.Handy
import Derived.Deep.RegionLaw
namespace Go.Proofs.YtgcfnhchmmkndaaGreatDoor
open Go.RowKit Go.Maps
set_option linter.unusedVariables false
set_option maxRecDepth 100000

theorem sortK_nil : sortK [] = [] := by simp [sortK]
set_option maxHeartbeats 2000000 in
theorem heads_nil (w : World) : Calls Tryz.prog 35 #[.map none] w (HeadsPost w []) := by
  have KN := names_nil w
  unfold NamesPost at KN
  rw [sortK_nil] at KN
  go_enter Tryz.func35, Tryz.ntmps35
  go_wp2_with fail
  refine KN.mono ?_
  rintro e w1 ⟨A, c, rfl, hR, hc, hb1⟩
  have HB1 := Lib.hid hb1
  clear KN hR hb1
  go_wp2_with fail
  refine wp_loop_rounds 1 ?_
  rw [rounds_succ]
  go_wp2_with fail
  go_ret
  exact ⟨_, [], rfl, HL.nil _ _, rfl, HB1.out⟩

theorem caught_idle (p : Addr) (w : World) :
    CallsD Tryz.prog 25 #[.pointer (some p)] .returning w fun e u' w' => e = .returned (.tuple #[]) ∧ u' = .returning ∧ w' = w := by
  refine callsD_of_wpS Tryz.func25 rfl fun c₀ cs hu => ?_
  apply wpS_seq
  apply wpS_region
  simp [wpOpsS, go_sem, recoverD, hu, Tryz.ntmps25, Exit.thenS]
  refine wpS_cond (t := false) (by simp [Act.eval, Array.replicate]) ?_
  simp only [Bool.false_eq_true, if_false]
  refine wpS_of_wp (wp_skip ?_)
  cases c₀
  simp_all [bodyPostS, results, Tryz.results25]

theorem funcOf_at (A : Option Addr) (n c : Nat) (w : World) : Calls Tryz.prog 50 #[.slice A n c] w fun e w' => e = .returned (.func (.func 67) #[] #[.pointer (some ⟨w.heap.size, 0, none⟩)]) ∧ w' = w.alloc (.cells #[.slice A n c] 66) := by
  go_enter Tryz.func50, Tryz.ntmps50
  go_wp2_with fail
  go_ret
  exact ⟨rfl, rfl⟩

def TOfPost (w : World) (l : List (BS × BS)) (e : Ending) (w' : World) : Prop :=
  ∃ v ev, e = .returned (.tuple #[v, ev]) ∧ ErrV (l.all trFieldOk) ev ∧ Below w.heap.size w w' ∧
    (l.all trFieldOk = true → ∃ b n es, v = .map (some b) ∧ Hdr w' (b + 1) b n es ∧ absE es = trFold l ∧ n ≤ l.length) ∧ (l.all trFieldOk = false → v = .map none)

theorem Feed.made (w : World) (A : Option Addr) (c : Nat) (l : List (BS × BS)) (h : Reads w w.heap.size 2 A l.length (fc l)) (hc : l.length ≤ c) : Feed (w.alloc (.cells #[.slice A l.length c] 66)) w.heap.size l :=
  ⟨⟨A, c, by simp, h.alloc (Nat.le_refl _) _, hc⟩, by simp, by simp⟩

set_option maxHeartbeats 2000000 in
theorem tof_at (A : Option Addr) (c : Nat) (l : List (BS × BS)) (p : Addr) (w : World) (hR : Reads w w.heap.size 2 A l.length (fc l)) (hc : l.length ≤ c) (hi : TrIn l) (hE : Env w p) :
    Calls Tryz.prog 34 #[.slice A l.length c, .int .i64 1048576] w (TOfPost w l) := by
  have hb := below_new w (.cells #[.slice A l.length c] 66)
  have KP := parse_at l w.heap.size p _ hi (Feed.made w A c l hR hc) (hE.cut hb hE.ge) hE.ge
  have HB := Lib.hid hb
  clear hb hR hi hE
  go_enter Tryz.func34, Tryz.ntmps34
  go_wp2_with fail
  refine (funcOf_at A l.length c _).mono ?_
  rintro e w1 ⟨rfl, rfl⟩
  go_wp2_with fail
  refine KP.mono ?_
  rintro e w2 ⟨v, ev, rfl, hev, hg, h1, h2⟩
  have H1 := Lib.hid h1
  have H2 := Lib.hid h2
  have HEV := Lib.hid hev
  have HBL := Lib.hid (HB.out.grown hg HB.out.size (fun k hk => by injection hk with hk; omega))
  clear hev hg h1 h2 KP
  go_wp2_with fail
  go_ret2
  refine ⟨v, ev, rfl, HEV.out, HBL.out, fun ht => ?_, H2.out⟩
  obtain ⟨b, n, es, k1, k2, k3, k4, k5⟩ := H1.out ht
  exact ⟨b, n, es, k1, k3, k4, k5⟩

/-- a piece that ends in its normal exit alone (in a function that defers: the ways of a panic read the frame) -/
def OnlyNormal (Q : Exit → Act → World → Prop) : Exit → Act → World → Prop := fun e a w => match e with | .normal => Q .normal a w | _ => False
theorem wp_normal {P : Program} {c : Code} {Q : Exit → Act → World → Prop} {a : Act} {w : World} (h : c.wp P (OnlyNormal Q) a w) : c.wp P Q a w :=
  Code.wp_mono (fun e a w h => by cases e <;> first | exact h | exact h.elim) h

def HTPost (w : World) (l : List (BS × BS)) (e : Ending) (w' : World) : Prop :=
  ∃ v es, e = .returned (.tuple #[v, .bool (l.all trFieldOk)]) ∧ HL w' w.heap.size v es ∧ absE es = (if l.all trFieldOk then headsOf (trFold l) else []) ∧ Below w.heap.size w w'

theorem absE_len {es : List Ent} {H : List (BS × List BS)} (h : absE es = H) : es.length = H.length := by rw [← h]; simp [absE]
theorem addH_len (H : List (BS × List BS)) (k v : BS) : (addH H k v).length ≤ H.length + 1 := by
  unfold addH putH
  split <;> simp
theorem trFold_len (l : List (BS × BS)) : (trFold l).length ≤ l.length := by
  have h : ∀ (l : List (BS × BS)) (H : List (BS × List BS)), (l.foldl (fun H p => addH H (canonL p.1) p.2) H).length ≤ H.length + l.length := by
    intro l
    induction l with
    | nil => intro H; simp
    | cons p l ih =>
      intro H
      have := ih (addH H (canonL p.1) p.2)
      have h2 := addH_len H (canonL p.1) p.2
      simp only [List.foldl_cons, List.length_cons]
      omega
  have := h l []
  rw [List.length_nil, Nat.zero_add] at this
  exact this
theorem putH_items {H : List (BS × List BS)} {k : BS} {vs : List BS} {m : Nat} (h : ∀ q ∈ H, q.2.length ≤ m) (hv : vs.length ≤ m) : ∀ q ∈ putH H k vs, q.2.length ≤ m := by
  intro q hq
  unfold putH at hq
  split at hq
  · obtain ⟨a, ha, rfl⟩ := List.mem_map.1 hq
    split
    · exact hv
    · exact h a ha
  · rcases List.mem_append.1 hq with hq | hq
    · exact h q hq
    · rw [List.mem_singleton] at hq
      subst hq
      exact hv
theorem getH_items {H : List (BS × List BS)} {m : Nat} (h : ∀ q ∈ H, q.2.length ≤ m) (k : BS) : (getH H k).length ≤ m := by
  unfold getH
  cases hf : H.find? fun p => p.1 == k with
  | none => simp
  | some q => simpa using h q (List.mem_of_find?_eq_some hf)
theorem trFold_items (l : List (BS × BS)) : ∀ q ∈ trFold l, q.2.length ≤ l.length := by
  have h : ∀ (l : List (BS × BS)) (H : List (BS × List BS)) (m : Nat), (∀ q ∈ H, q.2.length ≤ m) → ∀ q ∈ l.foldl (fun H p => addH H (canonL p.1) p.2) H, q.2.length ≤ m + l.length := by
    intro l
    induction l with
    | nil => intro H m hm q hq; exact hm q hq
    | cons p l ih =>
      intro H m hm q hq
      have := ih (addH H (canonL p.1) p.2) (m + 1) (putH_items (fun q hq => Nat.le_succ_of_le (hm q hq)) (by have := getH_items hm (canonL p.1); simp; omega)) q hq
      simp only [List.length_cons]
      omega
  intro q hq
  have := h l [] 0 (fun q hq => by simp at hq) q hq
  rw [Nat.zero_add] at this
  exact this

set_option maxHeartbeats 4000000 in
theorem ht_at (A : Option Addr) (c : Nat) (l : List (BS × BS)) (p : Addr) (w : World) (hR : Reads w w.heap.size 2 A l.length (fc l)) (hc : l.length ≤ c) (hi : TrIn l) (hE : Env w p) :
    Calls Tryz.prog 16 #[.slice A l.length c] w (HTPost w l) := by
  have hlen : l.length ≤ 32768 := by have := trSize_len l; have := hi.size; omega
  have hb := below_new w (.cells #[.bool false] 4)
  have KF := fields_at A c l (w.alloc (.cells #[.bool false] 4)) ((hR.alloc (Nat.le_refl _) _).more hb.size) (by omega)
  have HB := Lib.hid hb
  have HI := Lib.hid hi
  have HE := Lib.hid (hE.cut hb hE.ge)
  clear hb hR hi hE
  go_enter_defers Tryz.func16, Tryz.ntmps16
  go_wp2_with fail
  refine KF.mono ?_
  rintro e w1 ⟨A1, c1, rfl, hrow1, hb1⟩
  have HB1 := Lib.hid (Below.next HB.out HB.out.size hb1)
  have R0 : Hid (w1.cell? ⟨w.heap.size, 0, none⟩ = some (.bool false)) := Lib.hid ((hb1.cell (p := ⟨w.heap.size, 0, none⟩) (by simp)).trans (by simp))
  have Z0 : Hid (w1.frozen? ⟨w.heap.size, 0, none⟩ = false) := Lib.hid ((hb1.frozen (p := ⟨w.heap.size, 0, none⟩) (by simp)).trans (by simp))
  have hlt1 : w.heap.size < w1.heap.size := by have := hb1.size; simp at this; omega
  have KT := tof_at A1 c1 l p w1 (Reads.of_own hrow1) (row_cap hrow1) HI.out (HE.out.cut hb1 HE.out.ge)
  clear hrow1 hb1 KF
  go_wp2_with fail
  refine KT.mono ?_
  rintro e w2 ⟨v, ev, rfl, hev, hb2, h1, h2⟩
  have HB2 := Lib.hid (Below.next HB1.out HB1.out.size hb2)
  have x0 := (hb2.cell (p := ⟨w.heap.size, 0, none⟩) hlt1).trans R0.out
  have z0 := (hb2.frozen (p := ⟨w.heap.size, 0, none⟩) hlt1).trans Z0.out
  have hlt2 : w.heap.size < w2.heap.size := Nat.lt_of_lt_of_le hlt1 hb2.size
  have H1 := Lib.hid h1
  have H2 := Lib.hid h2
  obtain ⟨r, hr⟩ : ∃ r, l.all trFieldOk = r := ⟨_, rfl⟩
  rw [hr] at hev H1 H2
  have HRR := Lib.hid hr
  clear hb2 h1 h2 KT hr
  have X0 := Lib.hid x0
  have Zz := Lib.hid z0
  have finish : ∀ (w3 : World) (v3 : Value) (es3 : List Ent), HL w3 w2.heap.size v3 es3 → absE es3 = (if r then headsOf (trFold l) else []) → Below w.heap.size w w3 → HTPost w l (.returned (.tuple #[v3, .bool r])) (w3.setCell ⟨w.heap.size, 0, none⟩ (.bool r)) := by
    intro w3 v3 es3 hL hA hBB
    exact ⟨v3, es3, by rw [HRR.out], (hL.grown (grown_set w3 w.heap.size 0 (.bool r)) hlt2).base (Nat.le_of_lt hlt2), by rw [hA, HRR.out], hBB.grown (grown_set w3 w.heap.size 0 (.bool r)) hBB.size (fun k hk => by injection hk with hk; omega)⟩
  have HFin := Lib.hid finish
  clear finish x0 z0
  cases r
  · obtain ⟨p3, rfl⟩ := hev
    obtain rfl := H2.out rfl
    go_upto_region 3 with fail
    go_cut [2] from 12 to 15 (fun s2 wx => ∃ A3 n3 c3, s2 = .slice A3 n3 c3 ∧ wx.cell? ⟨w.heap.size, 0, none⟩ = some (.bool false) ∧ HTPost w l (.returned (.tuple #[.slice A3 n3 c3, .bool false])) wx)
    case first =>
      go_wp2_with fail
      refine wp_normal ?_
      go_region_with (go_at_call 35; refine (heads_nil _).mono ?_; rintro e w3 ⟨v3, es3, rfl, hL3, hA3, hb3⟩; obtain ⟨A3, c3, rfl⟩ := row_form hL3.row; have y0 := (hb3.cell (p := ⟨w.heap.size, 0, none⟩) hlt2).trans X0.out; have q0 := (hb3.frozen (p := ⟨w.heap.size, 0, none⟩) hlt2).trans Zz.out)
      all_goals unfold OnlyNormal
      all_goals go_wp2_with fail
      all_goals go_meet
      all_goals exact ⟨_, _, _, rfl, World.cell?_setCell_same _ _ _ y0, HFin.out w3 _ es3 hL3 hA3 (by first | exact Below.nextD HB2.out HB2.out.size hb3 | exact Below.next HB2.out HB2.out.size hb3)⟩
    case rest =>
      obtain ⟨A3, n3, c3, rfl, y0, hP⟩ := hcut
      have HP := Lib.hid hP
      clear hP
      go_wp2_with fail
      refine leaves_cons (f := 25) (args := #[.pointer (some ⟨w.heap.size, 0, none⟩)]) (by simp) (by simp [go_sem]) ?_
      refine (caught_idle ⟨w.heap.size, 0, none⟩ _).mono ?_
      rintro e u' w'' ⟨rfl, rfl, rfl⟩
      refine ⟨_, (show _ = Result.ok (Value.tuple #[.slice A3 n3 c3, .bool false]) _ by simp [results, Tryz.results16, go_sem, y0]), HP.out⟩
  · obtain rfl : ev = .nilIface := hev
    obtain ⟨b, n, es, rfl, hH, hab, hnl⟩ := H1.out rfl
    have hel : es.length ≤ 900000 := by have := absE_len hab; have := trFold_len l; omega
    have hei : ∀ e ∈ es, e.items.length ≤ 900000 := fun e he => by
      have hm : (e.key, e.items) ∈ absE es := List.mem_map_of_mem (f := fun e : Ent => (e.key, e.items)) he
      rw [hab] at hm
      have := trFold_items l _ hm
      simp only at this
      omega
    have KH : ∀ W, Hdr W (b + 1) b (max n es.length) es → Calls Tryz.prog 35 #[.map (some b)] W (HeadsPost W (headsOf (absE es))) := fun W h => heads_at (b + 1) b (max n es.length) es W h (by omega) (Nat.le_max_right _ _) hei
    have hH2 : Hdr w2 (b + 1) b (max n es.length) es := ⟨by obtain ⟨D, k1, k2⟩ := hH.own; exact ⟨D, k1.mono (Nat.le_max_left _ _), k2⟩, hH.nd, hH.rows, hH.apart, hH.lb, hH.klen⟩
    have K0 := KH w2 hH2
    have K1 := KH w2.drew hH2.drew
    rw [hab] at K0 K1
    clear KH hH hab hnl hel hei hH2
    go_upto_region 3 with fail
    go_cut [2] from 12 to 15 (fun s2 wx => ∃ A3 n3 c3, s2 = .slice A3 n3 c3 ∧ wx.cell? ⟨w.heap.size, 0, none⟩ = some (.bool true) ∧ HTPost w l (.returned (.tuple #[.slice A3 n3 c3, .bool true])) wx)
    case first =>
      go_wp2_with fail
      refine wp_normal ?_
      go_region_with (go_at_call 35; (first | (with_reducible refine K0.mono ?_) | (with_reducible refine K1.mono ?_)); rintro e w3 ⟨v3, es3, rfl, hL3, hA3, hb3⟩; obtain ⟨A3, c3, rfl⟩ := row_form hL3.row; have y0 := (hb3.cell (p := ⟨w.heap.size, 0, none⟩) hlt2).trans X0.out; have q0 := (hb3.frozen (p := ⟨w.heap.size, 0, none⟩) hlt2).trans Zz.out)
      all_goals unfold OnlyNormal
      all_goals go_wp2_with fail
      all_goals go_meet
      all_goals exact ⟨_, _, _, rfl, World.cell?_setCell_same _ _ _ y0, HFin.out w3 _ es3 hL3 hA3 (by first | exact Below.nextD HB2.out HB2.out.size hb3 | exact Below.next HB2.out HB2.out.size hb3)⟩
    case rest =>
      obtain ⟨A3, n3, c3, rfl, y0, hP⟩ := hcut
      have HP := Lib.hid hP
      clear hP
      go_wp2_with fail
      refine leaves_cons (f := 25) (args := #[.pointer (some ⟨w.heap.size, 0, none⟩)]) (by simp) (by simp [go_sem]) ?_
      refine (caught_idle ⟨w.heap.size, 0, none⟩ _).mono ?_
      rintro e u' w'' ⟨rfl, rfl, rfl⟩
      refine ⟨_, (show _ = Result.ok (Value.tuple #[.slice A3 n3 c3, .bool true]) _ by simp [results, Tryz.results16, go_sem, y0]), HP.out⟩
end Go.Proofs.YtgcfnhchmmkndaaGreatDoor
