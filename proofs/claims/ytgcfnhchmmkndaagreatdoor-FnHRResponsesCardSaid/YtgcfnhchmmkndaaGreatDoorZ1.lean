/- Responses: bounds of the reading's state, the statuses, and that the two readings say the same. -/
import Derived.Test.YtgcfnhchmmkndaaGreatDoorL11
namespace Go.Proofs.YtgcfnhchmmkndaaGreatDoor
open Go.RowKit Go.Maps
set_option linter.unusedVariables false
set_option maxRecDepth 100000

def stR : List BS := [[50, 48, 48], [52, 48, 52], [49, 48, 51], [53, 57, 57], [50, 48, 52], [97, 98, 99], []]
/-- the lists of the maker of responses -/
structure MkS (l : List (BS × BS)) : Prop where
  fld : ∀ q ∈ l, fldQ q
  st : ∀ v, (kStatus, v) ∈ l → v ∈ stR
theorem MkS.same {l l' : List (BS × BS)} (h : MkS l) (e : ∀ q, q ∈ l' → q ∈ l) : MkS l' := ⟨fun q hq => h.fld q (e q hq), fun v hv => h.st v (e _ hv)⟩
theorem MkS.snoc {l : List (BS × BS)} (h : MkS l) {q : BS × BS} (hq : fldQ q) (hs : q.1 ≠ kStatus) : MkS (l ++ [q]) where
  fld := fun x hx => by
    rcases List.mem_append.1 hx with hx | hx
    · exact h.fld x hx
    · rw [List.mem_singleton] at hx; subst hx; exact hq
  st := fun v hv => by
    rcases List.mem_append.1 hv with hv | hv
    · exact h.st v hv
    · rw [List.mem_singleton] at hv; exact absurd (by rw [← hv]) hs
theorem nmR_notPs : nmR.all (fun nm => canonL nm != kPath && canonL nm != kAuth && canonL nm != kScheme && canonL nm != kProto) = true := by decide
theorem fldQ.notPs {q : BS × BS} (h : fldQ q) (hp : pseudoB q.1 = false) : notPs (canonL q.1) := by
  rcases h with h | h
  · have h1 := List.all_eq_true.1 nmR_notPs _ h.1
    simp only [Bool.and_eq_true, bne_iff_ne] at h1
    exact ⟨h1.1.1.1, h1.1.1.2, h1.1.2, h1.2⟩
  · rw [(psR_at h.1).2.1] at hp; cases hp
theorem putH_keys {H : AL} {k : BS} {vs : List BS} (h : ∀ q ∈ H, notPs q.1) (hk : notPs k) : ∀ q ∈ putH H k vs, notPs q.1 := by
  intro q hq
  unfold putH at hq
  split at hq
  · obtain ⟨a, ha, rfl⟩ := List.mem_map.1 hq
    split
    · exact hk
    · exact h a ha
  · rcases List.mem_append.1 hq with hq | hq
    · exact h q hq
    · rw [List.mem_singleton] at hq
      subst hq
      exact hk
/-- bounds of the reading's state -/
def PC (n : Nat) (s : PS) : Prop := PB n s ∧ ∀ q ∈ s.H, notPs q.1
theorem pc_step {n : Nat} {s s' : PS} {vOk : BS × BS → Bool} {p : BS × BS} (hc : PC n s) (hf : fldQ p) (e : psStep false vOk s p = some s') : PC (n + 1) s' := by
  obtain ⟨h, hk⟩ := hc
  have hl := hf.len
  have hit : ∀ q ∈ s.H, SmallV (n + 1) q.2 := fun q hq => (h.items q hq).more (Nat.le_succ n)
  have hln : s.H.length ≤ n + 1 := by have := h.hl; omega
  unfold psStep at e
  split at e
  · cases e
  · split at e
    · unfold psPseudo at e
      simp only [Bool.false_and, Bool.not_false, Bool.true_and, Bool.false_eq_true, if_false] at e
      repeat' (split at e)
      all_goals first
        | (cases e; done)
        | (injection e with e
           subst e
           exact ⟨⟨h.host, h.trailer, h.meth, h.auth, h.path, h.proto, h.cls, hln, hit⟩, hk⟩)
    · next hp =>
      have hp2 : pseudoB p.1 = false := by simpa using hp
      unfold psRegular at e
      split at e
      · cases e
      · split at e
        · split at e
          · injection e with e
            subst e
            exact ⟨⟨h.host, h.trailer, h.meth, h.auth, h.path, h.proto, hl.2, hln, hit⟩, hk⟩
          · split at e
            · injection e with e
              subst e
              exact ⟨⟨h.host, h.trailer, h.meth, h.auth, h.path, h.proto, h.cls, hln, hit⟩, hk⟩
            · cases e
        · injection e with e
          subst e
          have hc := hf.canon hp2
          have hg : SmallV n (getH s.H (canonL p.1)) := getH_all h.items ⟨by simp, fun v hv => by cases hv⟩ _
          have hv : SmallV (n + 1) (getH s.H (canonL p.1) ++ [p.2]) := ⟨by rw [List.length_append]; have := hg.1; simp; omega, fun v hv => by
            rcases List.mem_append.1 hv with hv | hv
            · exact hg.2 v hv
            · rw [List.mem_singleton] at hv; subst hv; exact hl.2⟩
          have hm := pb_mark h hc.1 hc.2 hv
          exact ⟨⟨hm.1, hm.2.1, h.meth, h.auth, h.path, h.proto, h.cls, hm.2.2.1, hm.2.2.2⟩, putH_keys hk (hf.notPs hp2)⟩
theorem pc_fold {vOk : BS × BS → Bool} (l : List (BS × BS)) (hf : ∀ p ∈ l, fldQ p) : ∀ n s s', PC n s → psFold false vOk s l = some s' → PC (n + l.length) s' := by
  induction l with
  | nil =>
    intro n s s' h e
    injection e with e
    subst e
    exact h
  | cons p t ih =>
    intro n s s' h e
    have e1 : psFold false vOk s (p :: t) = (psStep false vOk s p).bind fun s1 => psFold false vOk s1 t := rfl
    rw [e1] at e
    cases hs : psStep false vOk s p with
    | none => rw [hs] at e; cases e
    | some s1 =>
      rw [hs] at e
      have h2 := ih (fun q hq => hf q (List.mem_cons_of_mem _ hq)) (n + 1) s1 s' (pc_step h (hf p List.mem_cons_self) hs) e
      rw [List.length_cons, show n + (t.length + 1) = n + 1 + t.length by omega]
      exact h2
theorem pc_start : PC 0 {} := ⟨pb_start, fun q hq => by cases hq⟩
theorem pc_all {vOk : BS × BS → Bool} {l : List (BS × BS)} (hf : ∀ p ∈ l, fldQ p) {s : PS} {cl : Int} (e : psAll false vOk l = some (s, cl)) : PC (l.length + 1) s := by
  unfold psAll at e
  cases hs : psFold false vOk {} l with
  | none => rw [hs] at e; cases e
  | some s1 =>
    rw [hs] at e
    obtain ⟨h, hk⟩ := pc_fold l hf 0 {} s1 pc_start hs
    rw [Nat.zero_add] at h
    have e : psEnd s1 = some (s, cl) := e
    unfold psEnd at e
    split at e
    · injection e with e
      injection e with e _
      subst e
      exact ⟨⟨h.host, h.trailer, h.meth, h.auth, h.path, h.proto, h.cls, by have := h.hl; omega, fun q hq => (h.items q hq).more (Nat.le_succ _)⟩, hk⟩
    · obtain ⟨n, _, e⟩ := Option.map_eq_some_iff.1 e
      injection e with e _
      subst e
      have hm := pb_mark (k := kCLength) h (by decide) (by decide) (vs := [s1.cls]) ⟨by simp, fun v hv => by rw [List.mem_singleton] at hv; subst hv; exact h.cls⟩
      exact ⟨⟨hm.1, hm.2.1, h.meth, h.auth, h.path, h.proto, h.cls, hm.2.2.1, hm.2.2.2⟩, putH_keys hk ⟨by decide, by decide, by decide, by decide⟩⟩
theorem cls_of2 {vOk : BS × BS → Bool} {l : List (BS × BS)} (hf : ∀ p ∈ l, fldQ p) {s : PS} (e : psFold false vOk {} l = some s) : s.cls.length ≤ 30 := (pc_fold l hf 0 {} s pc_start e).1.cls
theorem drop_id {H : AL} (h : ∀ q ∈ H, notPs q.1) : dropPs H = H := by
  have k : ∀ q ∈ H, q ∈ dropPs H := fun q hq => (mem_dropPs q).2 ⟨hq, h q hq⟩
  have hl : (dropPs H).Sublist H := by
    unfold dropPs delH
    exact List.filter_sublist.trans (List.filter_sublist.trans (List.filter_sublist.trans List.filter_sublist))
  unfold dropPs delH
  rw [List.filter_filter, List.filter_filter, List.filter_filter]
  refine List.filter_eq_self.2 fun q hq => ?_
  obtain ⟨h1, h2, h3, h4⟩ := h q hq
  simp [h1, h2, h3, h4]

/-- a status that both take -/
def stOk (v : BS) : Bool := v.length == 3 && decide (48 ≤ (v.getD 0 0).toNat) && decide ((v.getD 0 0).toNat ≤ 57)
/-- a response in plain words -/
structure RS where
  st : BS
  len : Int
  H : AL
def rsOf (s : PS) (cl : Int) : Option RS := if stOk s.status then some ⟨s.status, cl, s.H⟩ else none
def rsL (l : List (BS × BS)) : Option RS := (psAll false vOkQ l).bind fun x => rsOf x.1 x.2
theorem hrEnd_pm (h : HRS) : (hsEnd h).pm = h.pm := by unfold hsEnd; split <;> rfl
theorem st_of {l : List (BS × BS)} (hm : MkS l) {h : HRS} (e : hrRead false l = some h) : getP h.pm kStatus ∈ stR := by
  unfold hrRead at e
  cases h2 : hsFold false {} l with
  | none => rw [h2] at e; cases e
  | some h' =>
    rw [h2] at e
    have e : some (hsEnd h') = some h := e
    injection e with e
    subst e
    obtain ⟨_, h3, _, _⟩ := pm_fold l {} h' h2 (by unfold KeysOnce; simp)
    rw [hrEnd_pm]
    cases hk : hasP h'.pm kStatus with
    | false => rw [getP_no hk]; decide
    | true =>
      rcases h3 _ (getP_mem hk) with h4 | h4
      · cases h4
      · exact hm.st _ h4
/-- THE PLAIN LAW -/
theorem same_s {l : List (BS × BS)} (hm : MkS l) :
    (psAll false vOkQ l = none ∧ hrRead false l = none ∧ rsL l = none) ∨ ∃ s cl h, psAll false vOkQ l = some (s, cl) ∧ hrRead false l = some h ∧ s.status = getP h.pm kStatus ∧ s.status ∈ stR ∧ cl = h.len ∧ headsOf s.H = h.hd ∧ rsL l = rsOf s cl := by
  unfold rsL
  rcases both_read (req := false) (vOk := vOkQ) l (fun p hp => rfl) with ⟨h1, h2⟩ | ⟨s, cl, x, h1, h2, r⟩
  · rw [h1, h2]
    exact .inl ⟨rfl, rfl, rfl⟩
  · refine .inr ⟨s, cl, x, h1, h2, r.status, ?_, r.len, ?_, by rw [h1]; rfl⟩
    · rw [r.status]; exact st_of hm h2
    · rw [← r.hd, drop_id (pc_all hm.fld h1).2]
theorem stR_at {v : BS} (h : v ∈ stR) : v = [50, 48, 48] ∨ v = [52, 48, 52] ∨ v = [49, 48, 51] ∨ v = [53, 57, 57] ∨ v = [50, 48, 52] ∨ v = [97, 98, 99] ∨ v = [] := by
  simpa [stR] using h
end Go.Proofs.YtgcfnhchmmkndaaGreatDoor
