/- spec.HRSplit: pseudo fields, as they stand, and the others by their names. -/
import Derived.Test.YtgcfnhchmmkndaaGreatDoorO1
import Derived.OwnWalk
namespace Go.Proofs.YtgcfnhchmmkndaaGreatDoor
open Go.RowKit Go.Maps Go.Sort
set_option linter.unusedVariables false
set_option maxRecDepth 100000

def splitF : List (BS × BS) → List (BS × BS) → List (BS × BS) → Option (List (BS × BS) × List (BS × BS))
  | a, b, [] => some (a, b)
  | a, b, p :: t => if pseudoB p.1 then (if b == [] then splitF (a ++ [p]) b t else none) else splitF a (b ++ [p]) t
theorem splitF_cons (a b t : List (BS × BS)) (p : BS × BS) : splitF a b (p :: t) = if pseudoB p.1 then (if b == [] then splitF (a ++ [p]) b t else none) else splitF a (b ++ [p]) t := rfl
theorem splitF_ok (l : List (BS × BS)) : ∀ a b a' b', (∀ q ∈ a, pseudoB q.1 = true) → (∀ q ∈ b, pseudoB q.1 = false) → splitF a b l = some (a', b') → a ++ b ++ l = a' ++ b' ∧ (∀ q ∈ a', pseudoB q.1 = true) ∧ (∀ q ∈ b', pseudoB q.1 = false) := by
  induction l with
  | nil =>
    intro a b a' b' ha hb e
    injection e with e
    injection e with e1 e2
    subst e1 e2
    exact ⟨List.append_nil _, ha, hb⟩
  | cons p t ih =>
    intro a b a' b' ha hb e
    rw [splitF_cons] at e
    split at e
    · next hp =>
      split at e
      · next hb0 =>
        have hb0 : b = [] := by simpa using hb0
        subst hb0
        obtain ⟨h1, h2, h3⟩ := ih (a ++ [p]) [] a' b' (fun q hq => by
          rcases List.mem_append.1 hq with hq | hq
          · exact ha q hq
          · rw [List.mem_singleton] at hq; subst hq; exact hp) hb e
        exact ⟨by rw [← h1]; simp, h2, h3⟩
      · cases e
    · next hp =>
      obtain ⟨h1, h2, h3⟩ := ih a (b ++ [p]) a' b' ha (fun q hq => by
        rcases List.mem_append.1 hq with hq | hq
        · exact hb q hq
        · rw [List.mem_singleton] at hq; subst hq; simpa using hp) e
      exact ⟨by rw [← h1]; simp, h2, h3⟩
/-- the two lists in memory -/
structure Sp (w wx : World) (A1 A2 : Option Addr) (c1 c2 : Nat) (a b : List (BS × BS)) : Prop where
  r1 : wx.ownsRow w.heap.size 42 2 (.slice A1 a.length c1) a.length (fc a)
  r2 : wx.ownsRow w.heap.size 42 2 (.slice A2 b.length c2) b.length (fc b)
  ne : ∀ g, (Value.slice A1 a.length c1).ownBlock = some g → (Value.slice A2 b.length c2).ownBlock ≠ some g
  bel : Below w.heap.size w wx
section
variable {w wx w' : World} {A1 A2 : Option Addr} {c1 c2 : Nat} {a b : List (BS × BS)}
theorem own_below {n base : Nat} {v : Value} {xs : List Value} (h : wx.ownsRow base 42 2 v n xs) (k : Below wx.heap.size wx w') : w'.ownsRow base 42 2 v n xs :=
  h.kept ((grown_below k).but (some w'.heap.size)) (by
    cases hv : v.ownBlock with
    | none => exact .inl rfl
    | some g => exact .inr (by have := (h.lt g hv).2; have := k.size; intro e; injection e with e; omega))
theorem Sp.al (h : Sp w wx A1 A2 c1 c2 a b) (o : Obj) : Sp w (wx.alloc o) A1 A2 c1 c2 a b := ⟨h.r1.alloc o, h.r2.alloc o, h.ne, h.bel.alloc h.bel.size o⟩
theorem Sp.one {A1' : Option Addr} {c1' : Nat} {p : BS × BS} (h : Sp w wx A1 A2 c1 c2 a b) (hr : w'.ownsRow w.heap.size 42 2 (.slice A1' (a.length + 1) c1') (a.length + 1) (fc (a ++ [p]))) (g : wx.grownBy w' (Value.slice A1 a.length c1).ownBlock)
    (ho : (Value.slice A1' (a.length + 1) c1').ownBlock = (Value.slice A1 a.length c1).ownBlock ∨ (Value.slice A1' (a.length + 1) c1').ownBlock = some wx.heap.size) : Sp w w' A1' A2 c1' c2 (a ++ [p]) b where
  r1 := by rw [List.length_append]; exact hr
  r2 := own_far h.r2 g (fun k hk e => h.ne k e hk)
  ne := fun k hk e => by
    rw [List.length_append] at hk
    have hk : (Value.slice A1' (a.length + 1) c1').ownBlock = some k := hk
    rcases ho with ho | ho
    · exact h.ne k (ho.symm.trans hk) e
    · have := (h.r2.lt k e).2
      rw [ho] at hk
      injection hk with hk
      omega
  bel := h.bel.grown g h.bel.size (fun k hk => (h.r1.lt k hk).1)
theorem Sp.two {A2' : Option Addr} {c2' : Nat} {p : BS × BS} (h : Sp w wx A1 A2 c1 c2 a b) (hr : w'.ownsRow w.heap.size 42 2 (.slice A2' (b.length + 1) c2') (b.length + 1) (fc (b ++ [p]))) (g : wx.grownBy w' (Value.slice A2 b.length c2).ownBlock)
    (ho : (Value.slice A2' (b.length + 1) c2').ownBlock = (Value.slice A2 b.length c2).ownBlock ∨ (Value.slice A2' (b.length + 1) c2').ownBlock = some wx.heap.size) : Sp w w' A1 A2' c1 c2' a (b ++ [p]) where
  r2 := by rw [List.length_append]; exact hr
  r1 := own_far h.r1 g (fun k hk e => h.ne k hk e)
  ne := fun k hk e => by
    rw [List.length_append] at e
    have e : (Value.slice A2' (b.length + 1) c2').ownBlock = some k := e
    rcases ho with ho | ho
    · exact h.ne k hk (ho.symm.trans e)
    · have := (h.r1.lt k hk).2
      rw [ho] at e
      injection e with e
      omega
  bel := h.bel.grown g h.bel.size (fun k hk => (h.r2.lt k hk).1)
end
def SplitPost (w : World) (l : List (BS × BS)) (e : Ending) (w' : World) : Prop :=
  Below w.heap.size w w' ∧ ((splitF [] [] l = none ∧ e = .returned (.tuple #[.slice none 0 0, .slice none 0 0, .bool false])) ∨
    ∃ a b b' A1 c1 A2 c2, splitF [] [] l = some (a, b) ∧ SameBy b b' ∧ b'.length = b.length ∧ e = .returned (.tuple #[.slice A1 (List.length a) c1, .slice A2 (List.length b') c2, .bool true]) ∧
      w'.ownsRow w.heap.size 42 2 (.slice A1 a.length c1) a.length (fc a) ∧ w'.ownsRow w.heap.size 42 2 (.slice A2 b'.length c2) b'.length (fc b'))
set_option maxHeartbeats 16000000 in
theorem split_at (l : List (BS × BS)) (A : Option Addr) (c : Nat) (w : World) (hR : Reads w w.heap.size 2 A l.length (fc l)) (hc : l.length ≤ c) (hl : l.length ≤ 1000) :
    Calls Tryz.prog 13 #[.slice A l.length c] w (SplitPost w l) := by
  have HR := Lib.hid hR
  clear hR
  go_enter Tryz.func13, Tryz.ntmps13
  go_wp2_with fail
  go_loopw [5, 6, 11] (fun s5 s6 s11 wx => ∃ (k : Nat) (a b : List (BS × BS)) (A1 A2 : Option Addr) (c1 c2 : Nat), k ≤ l.length ∧ s5 = .slice A1 a.length c1 ∧ s6 = .slice A2 b.length c2 ∧ s11 = .int .i64 (k : Int) ∧ Sp w wx A1 A2 c1 c2 a b ∧ splitF [] [] l = splitF a b (l.drop k) ∧ a.length + b.length = k) (fun _ _ s11 _ => l.length - (intOf s11).toNat)
  case atStart => exact ⟨0, [], [], none, none, 0, 0, by omega, rfl, rfl, rfl, ⟨World.ownsRow_nil _ _ _ _, World.ownsRow_nil _ _ _ _, fun g h => (by cases h), Below.refl _ _⟩, rfl, rfl⟩
  case round =>
    obtain ⟨k, a, b, A1, A2, c1, c2, hk, rfl, rfl, rfl, hS, hF, hab⟩ := hrel
    have HS := Lib.hid hS
    have HF := Lib.hid hF
    clear hS hF
    rcases Nat.lt_or_ge k l.length with hkl | hkl
    · obtain ⟨gb, q, rfl, hb, hcl⟩ := reads_fields (HR.out.below HS.out.bel) (by omega)
      obtain ⟨e0, e1⟩ := hcl k hkl
      obtain ⟨⟨nm, vl⟩, hpq⟩ : ∃ pq, l[k] = pq := ⟨_, rfl⟩
      rw [hpq] at e0 e1
      simp only at e0 e1
      have HD : Hid (l.drop k = (nm, vl) :: l.drop (k + 1)) := Lib.hid (by rw [List.drop_eq_getElem_cons hkl, hpq])
      have HS2 := Lib.hid ((HS.out.al (.cells #[str nm, str vl] 42)).al (.cells #[str nm, str vl] 42))
      have HRL := Lib.hid (Reads.of_own (row_lit (wr.alloc (.cells #[str nm, str vl] 42)) (Nat.le_refl _) [(nm, vl)] (by simp)))
      have hws := HS.out.bel.size
      clear hcl hpq
      have go1 : pseudoB nm = false → splitF [] [] l = splitF a (b ++ [(nm, vl)]) (l.drop (k + 1)) := fun h => by rw [HF.out, HD.out, splitF_cons]; simp only [h, Bool.false_eq_true, if_false]
      have go2 : pseudoB nm = true → b = [] → splitF [] [] l = splitF (a ++ [(nm, vl)]) b (l.drop (k + 1)) := fun h h2 => by rw [HF.out, HD.out, splitF_cons, h2]; simp only [h, if_true, beq_self_eq_true]
      have go3 : pseudoB nm = true → b ≠ [] → splitF [] [] l = none := fun h h2 => by
        have h3 : (b == []) = false := by simpa using h2
        rw [HF.out, HD.out, splitF_cons]
        simp only [h, h3, if_true, Bool.false_eq_true, if_false]
      have GO1 := Lib.hid go1
      have GO2 := Lib.hid go2
      have GO3 := Lib.hid go3
      clear go1 go2 go3
      simp only [al_size] at HRL
      have hsz2 : w.heap.size ≤ ((wr.alloc (.cells #[str nm, str vl] 42)).alloc (.cells #[str nm, str vl] 42)).heap.size := HS2.out.bel.size
      cases nm with
      | nil =>
        have HG1 := Lib.hid (GO1.out rfl)
        go_wp2_with (at_builtin; refine wpList_app_f rfl (.tmp 31) (.tmp 33) rfl (l := b) (ys := [([], vl)]) rfl HS2.out.r2 rfl HRL.out (by omega) hsz2 ?_)
        intro A9 c9 w9 h9 g9 o9
        have HS9 := Lib.hid (HS2.out.two h9 g9 (by simp only [al_size]; exact o9))
        clear h9 g9 o9
        go_wp2_with fail
        exact ⟨⟨k + 1, a, b ++ [([], vl)], A1, A9, c1, c9, hkl, rfl, by rw [List.length_append]; rfl, by go_num, HS9.out, HG1.out, by rw [List.length_append, List.length_singleton]; omega⟩, by simp [intOf]; omega⟩
      | cons c0 t =>
        have hz0 : 0 < (⟨(c0 :: t).toArray⟩ : ByteArray).size := by show 0 < (c0 :: t).toArray.size; simp
        by_cases h58 : c0.toNat = 58
        · have f58 : ((((⟨(c0 :: t).toArray⟩ : ByteArray)[0]'hz0).toNat : Int) == 58) = true := by show ((c0.toNat : Int) == 58) = true; simp [h58]
          have hps : pseudoB (c0 :: t) = true := by simp [pseudoB, h58]
          by_cases hb0 : b = []
          · have HG1 := Lib.hid (GO2.out hps hb0)
            have hbl : b.length = 0 := by rw [hb0]; rfl
            have hbl2 : ¬ (0 : Int) < (b.length : Int) := by omega
            go_wp2_with (at_builtin; refine wpList_app_f rfl (.tmp 27) (.tmp 29) rfl (l := a) (ys := [(c0 :: t, vl)]) rfl HS2.out.r1 rfl HRL.out (by omega) hsz2 ?_)
            intro A9 c9 w9 h9 g9 o9
            have HS9 := Lib.hid (HS2.out.one h9 g9 (by simp only [al_size]; exact o9))
            clear h9 g9 o9
            go_wp2_with fail
            exact ⟨⟨k + 1, a ++ [(c0 :: t, vl)], b, A9, A2, c9, c2, hkl, by rw [List.length_append]; rfl, by rw [hbl], by go_num, HS9.out, HG1.out, by rw [List.length_append, List.length_singleton]; omega⟩, by simp [intOf]; omega⟩
          · have HG1 := Lib.hid (GO3.out hps hb0)
            have hbl : 0 < b.length := List.length_pos_iff.2 hb0
            have hbl2 : (0 : Int) < (b.length : Int) := by omega
            have HB1 := Lib.hid (HS.out.al (.cells #[str (c0 :: t), str vl] 42)).bel
            go_wp2_with fail
            go_ret3
            exact ⟨HB1.out, .inl ⟨HG1.out, rfl⟩⟩
        · have f58 : ((((⟨(c0 :: t).toArray⟩ : ByteArray)[0]'hz0).toNat : Int) == 58) = false := by show ((c0.toNat : Int) == 58) = false; simp; omega
          have hps : pseudoB (c0 :: t) = false := by simp [pseudoB, h58]
          have HG1 := Lib.hid (GO1.out hps)
          go_wp2_with (at_builtin; refine wpList_app_f rfl (.tmp 31) (.tmp 33) rfl (l := b) (ys := [(c0 :: t, vl)]) rfl HS2.out.r2 rfl HRL.out (by omega) hsz2 ?_)
          intro A9 c9 w9 h9 g9 o9
          have HS9 := Lib.hid (HS2.out.two h9 g9 (by simp only [al_size]; exact o9))
          clear h9 g9 o9
          go_wp2_with fail
          exact ⟨⟨k + 1, a, b ++ [(c0 :: t, vl)], A1, A9, c1, c9, hkl, rfl, by rw [List.length_append]; rfl, by go_num, HS9.out, HG1.out, by rw [List.length_append, List.length_singleton]; omega⟩, by simp [intOf]; omega⟩
    · obtain rfl : k = l.length := by omega
      have hF := HF.out
      rw [List.drop_length] at hF
      have HF2 : Hid (splitF [] [] l = some (a, b)) := Lib.hid hF
      clear hF
      have KS := sorted_at b A2 c2 wr (Reads.of_own HS.out.r2) (row_cap HS.out.r2) (by omega)
      go_wp2_with fail
      refine KS.mono ?_
      rintro e w2 ⟨A3, c3, b', rfl, hsm, hln, hr3, hb3⟩
      have HR3 := Lib.hid (own_base hr3 HS.out.bel.size)
      have HR1 := Lib.hid (own_below HS.out.r1 hb3)
      have HB3 := Lib.hid (Below.next HS.out.bel HS.out.bel.size hb3)
      have HSM := Lib.hid hsm
      have HLN := Lib.hid hln
      clear hr3 hb3 hsm hln KS
      go_wp2_with fail
      go_ret3
      exact ⟨HB3.out, .inr ⟨a, b, b', A1, c1, A3, c3, HF2.out, HSM.out, HLN.out, rfl, HR1.out, HR3.out⟩⟩
end Go.Proofs.YtgcfnhchmmkndaaGreatDoor
