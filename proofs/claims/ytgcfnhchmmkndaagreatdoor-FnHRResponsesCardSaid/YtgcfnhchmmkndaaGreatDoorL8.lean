/- The lists that the makers make: bounds, names, and what the readings ask of them. -/
import Derived.Test.YtgcfnhchmmkndaaGreatDoorL1
import Derived.Test.YtgcfnhchmmkndaaGreatDoorV1
import Derived.Test.YtgcfnhchmmkndaaGreatDoorE1
namespace Go.Proofs.YtgcfnhchmmkndaaGreatDoor
open Go.RowKit Go.Maps
set_option linter.unusedVariables false
set_option maxRecDepth 100000

/-- the names of pseudo fields that the makers use -/
def psR : List BS := [kMethod, kScheme, kAuth, kPath, kProto, kStatus, [58, 111, 116, 104, 101, 114], [58, 77, 101, 116, 104, 111, 100], [58]]
def fldQ (q : BS × BS) : Prop := regF q ∨ (q.1 ∈ psR ∧ q.2.length ≤ 30 ∧ ascii q.2 = true)
theorem nmR_ok : nmR.all (fun nm => decide (nm.length ≤ 20) && !pseudoB nm && nm != kScheme && canonL nm != kHost && canonL nm != kTrailer && (nm == [120, 195, 169] || ascii nm)) = true := by decide
theorem psR_ok : psR.all (fun nm => decide (nm.length ≤ 20) && pseudoB nm && ascii nm) = true := by decide
theorem nmR_at {nm : BS} (h : nm ∈ nmR) : nm.length ≤ 20 ∧ pseudoB nm = false ∧ nm ≠ kScheme ∧ canonL nm ≠ kHost ∧ canonL nm ≠ kTrailer ∧ (nm = [120, 195, 169] ∨ ascii nm = true) := by
  have h1 := List.all_eq_true.1 nmR_ok nm h
  simp only [Bool.and_eq_true, decide_eq_true_eq, Bool.not_eq_true', bne_iff_ne, Bool.or_eq_true, beq_iff_eq] at h1
  obtain ⟨⟨⟨⟨⟨a, b⟩, c⟩, d⟩, e⟩, f⟩ := h1
  exact ⟨a, b, c, d, e, f⟩
theorem psR_at {nm : BS} (h : nm ∈ psR) : nm.length ≤ 20 ∧ pseudoB nm = true ∧ ascii nm = true := by
  have h1 := List.all_eq_true.1 psR_ok nm h
  simp only [Bool.and_eq_true, decide_eq_true_eq] at h1
  exact ⟨h1.1.1, h1.1.2, h1.2⟩
theorem fldQ.len {q : BS × BS} (h : fldQ q) : q.1.length ≤ 20 ∧ q.2.length ≤ 30 := by
  rcases h with h | h
  · exact ⟨(nmR_at h.1).1, h.2.1⟩
  · exact ⟨(psR_at h.1).1, h.2.1⟩
theorem fldQ.scheme {q : BS × BS} (h : fldQ q) (e : q.1 = kScheme) : ascii q.2 = true := by
  rcases h with h | h
  · exact absurd e (nmR_at h.1).2.2.1
  · exact h.2.2
theorem fldQ.name {q : BS × BS} (h : fldQ q) : q.1 = [120, 195, 169] ∨ ascii q.1 = true := by
  rcases h with h | h
  · exact (nmR_at h.1).2.2.2.2.2
  · exact .inr (psR_at h.1).2.2
theorem fldQ.canon {q : BS × BS} (h : fldQ q) (hp : pseudoB q.1 = false) : canonL q.1 ≠ kHost ∧ canonL q.1 ≠ kTrailer := by
  rcases h with h | h
  · exact ⟨(nmR_at h.1).2.2.2.1, (nmR_at h.1).2.2.2.2.1⟩
  · rw [(psR_at h.1).2.1] at hp; cases hp

theorem putH_all {Q : List BS → Prop} {H : AL} {k : BS} {vs : List BS} (h : ∀ q ∈ H, Q q.2) (hv : Q vs) : ∀ q ∈ putH H k vs, Q q.2 := by
  intro q hq
  unfold putH at hq
  split at hq
  · obtain ⟨a, ha, rfl⟩ := List.mem_map.1 hq
    split
    · exact hv
    · exact h a ha
  · rcases List.mem_append.1 hq with hq | hq
    · exact h q hq
    · rw [List.mem_singleton] at hq
      subst hq
      exact hv
theorem getH_all {Q : List BS → Prop} {H : AL} (h : ∀ q ∈ H, Q q.2) (h0 : Q []) (k : BS) : Q (getH H k) := by
  unfold getH
  cases hf : H.find? fun p => p.1 == k with
  | none => exact h0
  | some q => exact h q (List.mem_of_find?_eq_some hf)
theorem putH_len (H : AL) (k : BS) (vs : List BS) : (putH H k vs).length ≤ H.length + 1 := by
  unfold putH
  split
  · simp
  · simp
def SmallV (n : Nat) (vs : List BS) : Prop := vs.length ≤ n ∧ ∀ v ∈ vs, v.length ≤ 30
theorem SmallV.more {n m : Nat} {vs : List BS} (h : SmallV n vs) (hm : n ≤ m) : SmallV m vs := ⟨Nat.le_trans h.1 hm, h.2⟩
/-- bounds of the reading's state -/
structure PB (n : Nat) (s : PS) : Prop where
  host : hasKey s.H kHost = false
  trailer : hasKey s.H kTrailer = false
  meth : s.meth.length ≤ 30
  auth : s.auth.length ≤ 30
  path : s.path.length ≤ 30
  proto : s.proto.length ≤ 30
  cls : s.cls.length ≤ 30
  hl : s.H.length ≤ n
  items : ∀ q ∈ s.H, SmallV n q.2
theorem pb_mark {n : Nat} {s : PS} {k : BS} (h : PB n s) (h1 : k ≠ kHost) (h2 : k ≠ kTrailer) {vs : List BS} (hv : SmallV (n + 1) vs) : hasKey (putH s.H k vs) kHost = false ∧ hasKey (putH s.H k vs) kTrailer = false ∧ (putH s.H k vs).length ≤ n + 1 ∧ ∀ q ∈ putH s.H k vs, SmallV (n + 1) q.2 :=
  ⟨keys_put h.host h1, keys_put h.trailer h2, by have := putH_len s.H k vs; have := h.hl; omega, putH_all (fun q hq => (h.items q hq).more (Nat.le_succ n)) hv⟩
theorem pb_step {n : Nat} {s s' : PS} {vOk : BS × BS → Bool} {p : BS × BS} (h : PB n s) (hf : fldQ p) (e : psStep true vOk s p = some s') : PB (n + 1) s' := by
  have h0 : SmallV (n + 1) [] := ⟨by simp, fun v hv => by cases hv⟩
  have hl := hf.len
  have hit : ∀ q ∈ s.H, SmallV (n + 1) q.2 := fun q hq => (h.items q hq).more (Nat.le_succ n)
  have hln : s.H.length ≤ n + 1 := by have := h.hl; omega
  unfold psStep at e
  split at e
  · cases e
  · split at e
    · unfold psPseudo at e
      repeat' (split at e)
      all_goals first
        | (cases e; done)
        | (injection e with e
           subst e
           first
             | (have hm := pb_mark (k := kPath) h (by decide) (by decide) h0
                exact ⟨hm.1, hm.2.1, h.meth, h.auth, hl.2, h.proto, h.cls, hm.2.2.1, hm.2.2.2⟩)
             | exact ⟨h.host, h.trailer, hl.2, h.auth, h.path, h.proto, h.cls, hln, hit⟩
             | (have hm := pb_mark (k := kAuth) h (by decide) (by decide) h0
                exact ⟨hm.1, hm.2.1, h.meth, hl.2, h.path, h.proto, h.cls, hm.2.2.1, hm.2.2.2⟩)
             | (have hm := pb_mark (k := kProto) h (by decide) (by decide) h0
                exact ⟨hm.1, hm.2.1, h.meth, h.auth, h.path, hl.2, h.cls, hm.2.2.1, hm.2.2.2⟩)
             | (have hm := pb_mark (k := kScheme) h (by decide) (by decide) h0
                exact ⟨hm.1, hm.2.1, h.meth, h.auth, h.path, h.proto, h.cls, hm.2.2.1, hm.2.2.2⟩)
             | exact ⟨h.host, h.trailer, h.meth, h.auth, h.path, h.proto, h.cls, hln, hit⟩)
    · next hp =>
      have hp2 : pseudoB p.1 = false := by simpa using hp
      unfold psRegular at e
      split at e
      · cases e
      · split at e
        · split at e
          · injection e with e
            subst e
            exact ⟨h.host, h.trailer, h.meth, h.auth, h.path, h.proto, hl.2, hln, hit⟩
          · split at e
            · injection e with e
              subst e
              exact ⟨h.host, h.trailer, h.meth, h.auth, h.path, h.proto, h.cls, hln, hit⟩
            · cases e
        · injection e with e
          subst e
          have hc := hf.canon hp2
          have hg : SmallV n (getH s.H (canonL p.1)) := getH_all h.items ⟨by simp, fun v hv => by cases hv⟩ _
          have hv : SmallV (n + 1) (getH s.H (canonL p.1) ++ [p.2]) := ⟨by rw [List.length_append]; have := hg.1; simp; omega, fun v hv => by
            rcases List.mem_append.1 hv with hv | hv
            · exact hg.2 v hv
            · rw [List.mem_singleton] at hv; subst hv; exact hl.2⟩
          have hm := pb_mark h hc.1 hc.2 hv
          exact ⟨hm.1, hm.2.1, h.meth, h.auth, h.path, h.proto, h.cls, hm.2.2.1, hm.2.2.2⟩
theorem pb_fold {vOk : BS × BS → Bool} (l : List (BS × BS)) (hf : ∀ p ∈ l, fldQ p) : ∀ n s s', PB n s → psFold true vOk s l = some s' → PB (n + l.length) s' := by
  induction l with
  | nil =>
    intro n s s' h e
    injection e with e
    subst e
    exact h
  | cons p t ih =>
    intro n s s' h e
    have e1 : psFold true vOk s (p :: t) = (psStep true vOk s p).bind fun s1 => psFold true vOk s1 t := rfl
    rw [e1] at e
    cases hs : psStep true vOk s p with
    | none => rw [hs] at e; cases e
    | some s1 =>
      rw [hs] at e
      have h2 := ih (fun q hq => hf q (List.mem_cons_of_mem _ hq)) (n + 1) s1 s' (pb_step h (hf p List.mem_cons_self) hs) e
      rw [List.length_cons, show n + (t.length + 1) = n + 1 + t.length by omega]
      exact h2
theorem pb_start : PB 0 {} := ⟨rfl, rfl, by decide, by decide, by decide, by decide, by decide, by decide, fun q hq => by cases hq⟩
theorem pb_all {vOk : BS × BS → Bool} {l : List (BS × BS)} (hf : ∀ p ∈ l, fldQ p) {s : PS} {cl : Int} (e : psAll true vOk l = some (s, cl)) : PB (l.length + 1) s := by
  unfold psAll at e
  cases hs : psFold true vOk {} l with
  | none => rw [hs] at e; cases e
  | some s1 =>
    rw [hs] at e
    have h := pb_fold l hf 0 {} s1 pb_start hs
    rw [Nat.zero_add] at h
    have e : psEnd s1 = some (s, cl) := e
    unfold psEnd at e
    split at e
    · injection e with e
      injection e with e _
      subst e
      exact ⟨h.host, h.trailer, h.meth, h.auth, h.path, h.proto, h.cls, by have := h.hl; omega, fun q hq => (h.items q hq).more (Nat.le_succ _)⟩
    · obtain ⟨n, _, e⟩ := Option.map_eq_some_iff.1 e
      injection e with e _
      subst e
      have hm := pb_mark (k := kCLength) h (by decide) (by decide) (vs := [s1.cls]) ⟨by simp, fun v hv => by rw [List.mem_singleton] at hv; subst hv; exact h.cls⟩
      exact ⟨hm.1, hm.2.1, h.meth, h.auth, h.path, h.proto, h.cls, hm.2.2.1, hm.2.2.2⟩
theorem lens_le (vs : List BS) (h : ∀ v ∈ vs, v.length ≤ 30) : Lib.lens vs ≤ vs.length * 30 := by
  induction vs with
  | nil => simp [Lib.lens]
  | cons a t ih =>
    have h1 := h a List.mem_cons_self
    have h2 := ih (fun v hv => h v (List.mem_cons_of_mem _ hv))
    unfold Lib.lens at h2 ⊢
    simp only [List.map_cons, List.sum_cons, List.length_cons]
    omega
theorem join_len (vs : List BS) (h : ∀ v ∈ vs, v.length ≤ 30) : (Lib.join vs [59, 32]).length ≤ vs.length * 32 := by
  cases vs with
  | nil => simp [Lib.join]
  | cons a t =>
    have h1 := lens_le (a :: t) h
    rw [Lib.join_length]
    simp only [List.length_cons, List.length_nil] at h1 ⊢
    omega
theorem rin_of {vOk : BS × BS → Bool} {l : List (BS × BS)} (hf : ∀ p ∈ l, fldQ p) (hn : l.length ≤ 100) {s : PS} {cl : Int} (e : psAll true vOk l = some (s, cl)) : RIn (l.length + 1) s := by
  have h := pb_all hf e
  have hg : SmallV (l.length + 1) (getH s.H kCookie) := getH_all h.items ⟨by simp, fun v hv => by cases hv⟩ _
  have hj := join_len _ hg.2
  have := hg.1
  exact ⟨h.host, h.trailer, by have := h.meth; omega, by have := h.auth; omega, by have := h.path; omega, by have := h.proto; omega, by omega, by omega⟩
theorem rqb_of {vOk : BS × BS → Bool} {l : List (BS × BS)} (hf : ∀ p ∈ l, fldQ p) (hn : l.length ≤ 100) {q : RQ} (e : ((psAll true vOk l).bind fun x => rqOf x.1 x.2) = some q) : RQB q ∧ q.H.length ≤ 200 := by
  cases hs : psAll true vOk l with
  | none => rw [hs] at e; cases e
  | some x =>
    obtain ⟨s, cl⟩ := x
    rw [hs] at e
    have h := pb_all hf hs
    have e : rqOf s cl = some q := e
    have hau : (authOf s).length ≤ 30 := by
      unfold authOf
      split
      · simp
      · exact h.auth
    have hH : (cookH (dropPs s.H)).length ≤ l.length + 2 := by
      have h1 : (dropPs s.H).length ≤ s.H.length := by
        unfold dropPs delH
        exact Nat.le_trans (List.length_filter_le _ _) (Nat.le_trans (List.length_filter_le _ _) (Nat.le_trans (List.length_filter_le _ _) (List.length_filter_le _ _)))
      have h2 := h.hl
      unfold cookH
      split
      · omega
      · have := putH_len (dropPs s.H) kCookie [Lib.join (getH (dropPs s.H) kCookie) [59, 32]]
        omega
    have hp := h.path
    unfold rqOf at e
    simp only at e
    repeat' (split at e)
    all_goals first
      | (cases e; done)
      | (injection e with e
         subst e
         exact ⟨⟨by show (cookH (dropPs s.H)).length ≤ 900000; omega, by first | exact Nat.zero_le _ | exact Nat.le_trans hau (by decide) | exact Nat.le_trans hp (by decide), by first | exact Nat.zero_le _ | exact Nat.le_trans hau (by decide) | exact Nat.le_trans hp (by decide)⟩, by show (cookH (dropPs s.H)).length ≤ 200; omega⟩)
theorem trsize_of {l : List (BS × BS)} (hf : ∀ p ∈ l, fldQ p) : trSize l ≤ l.length * 82 := by
  induction l with
  | nil => simp [trSize]
  | cons q t ih =>
    have h1 := (hf q List.mem_cons_self).len
    have h2 := ih (fun x hx => hf x (List.mem_cons_of_mem _ hx))
    unfold trSize at h2 ⊢
    simp only [List.map_cons, List.sum_cons, List.length_cons]
    omega
theorem cls_of {vOk : BS × BS → Bool} {l : List (BS × BS)} (hf : ∀ p ∈ l, fldQ p) {s : PS} (e : psFold true vOk {} l = some s) : s.cls.length ≤ 30 := (pb_fold l hf 0 {} s pb_start e).cls

def mR : List BS := [[71, 69, 84], [80, 79, 83, 84], [67, 79, 78, 78, 69, 67, 84], [79, 80, 84, 73, 79, 78, 83], [72, 69, 65, 68], [67, 79, 78, 78, 69, 67, 84], [112, 117, 116]]
def paR : List BS := [[47], [47, 97], [47, 97, 47, 98, 63, 99, 61, 100], [47, 120, 37, 50, 48, 121], [47, 63]]
def scR : List BS := [[104, 116, 116, 112, 115], [104, 116, 116, 112]]
def auR : List BS := [[101, 120, 97, 109, 112, 108, 101, 46, 99, 111, 109], [104, 58, 52, 52, 51]]
def otR : List BS := [[58, 115, 116, 97, 116, 117, 115], [58, 111, 116, 104, 101, 114], [58, 112, 114, 111, 116, 111, 99, 111, 108], [58, 77, 101, 116, 104, 111, 100], [58]]
def kUdp : BS := [99, 111, 110, 110, 101, 99, 116, 45, 117, 100, 112]

/-- what a pseudo field of the maker has as its value, if it has one -/
def valPs (q : BS × BS) : Bool :=
  decide (q.2.length ≤ 30) && ascii q.2 && psR.contains q.1 && (q.2 == [] || (
    (q.1 != kMethod || nameOk q.2) && (q.1 != kAuth || !hasAt q.2) && (q.1 != kPath || (Lib.hasPrefix q.2 [47] && uriOk q.2)) && (q.1 != kProto || nameOk q.2)))
theorem valPs_fld {q : BS × BS} (h : valPs q = true) : fldQ q := by
  unfold valPs at h
  simp only [Bool.and_eq_true, decide_eq_true_eq] at h
  exact .inr ⟨by simpa using h.1.2, h.1.1.1, h.1.1.2⟩
theorem valPs_ok {k v : BS} (h : valPs (k, v) = true) : v = [] ∨ ((k = kMethod → nameOk v = true) ∧ (k = kAuth → hasAt v = false) ∧ (k = kPath → Lib.hasPrefix v [47] = true ∧ uriOk v = true) ∧ (k = kProto → nameOk v = true)) := by
  unfold valPs at h
  simp only [Bool.and_eq_true, Bool.or_eq_true, beq_iff_eq, bne_iff_ne, Bool.not_eq_true'] at h
  rcases h.2 with h | ⟨⟨⟨h1, h2⟩, h3⟩, h4⟩
  · exact .inl h
  · exact .inr ⟨fun e => h1.resolve_left (fun n => n e), fun e => h2.resolve_left (fun n => n e), fun e => h3.resolve_left (fun n => n e), fun e => h4.resolve_left (fun n => n e)⟩
/-- a list of pseudo fields that the maker makes ahead of the others -/
structure PsL (l : List (BS × BS)) : Prop where
  val : ∀ q ∈ l, valPs q = true
  f1 : (kScheme, []) ∈ l → ∃ v, v ≠ [] ∧ (kPath, v) ∈ l
  f2 : (kPath, []) ∈ l → ∃ v, v ≠ [] ∧ (kScheme, v) ∈ l
  f3 : (kProto, []) ∈ l → (kMethod, kConnect) ∈ l ∧ ∃ v, v ≠ [] ∧ (kScheme, v) ∈ l
theorem PsL.of_full {l : List (BS × BS)} (h : ∀ q ∈ l, valPs q = true) (h0 : ∀ q ∈ l, q.2 ≠ []) : PsL l := ⟨h, fun hm => absurd rfl (h0 _ hm), fun hm => absurd rfl (h0 _ hm), fun hm => absurd rfl (h0 _ hm)⟩
/-- the lists of the maker of requests -/
structure MkL (l : List (BS × BS)) : Prop where
  fld : ∀ q ∈ l, fldQ q
  made : MadeQ l
theorem PsL.mkl {l : List (BS × BS)} (h : PsL l) : MkL l where
  fld := fun q hq => valPs_fld (h.val q hq)
  made :=
    { m_ok := fun v hv => (valPs_ok (h.val _ hv)).imp id (fun x => x.1 rfl)
      a_ok := fun v hv => by
        rcases valPs_ok (h.val _ hv) with e | x
        · subst e; rfl
        · exact x.2.1 rfl
      p_ok := fun v hv => (valPs_ok (h.val _ hv)).imp id (fun x => x.2.2.1 rfl)
      r_ok := fun v hv => (valPs_ok (h.val _ hv)).imp id (fun x => x.2.2.2 rfl)
      f1 := h.f1
      f2 := h.f2
      f3 := h.f3 }
theorem MkL.same {l l' : List (BS × BS)} (h : MkL l) (e : ∀ q, q ∈ l' ↔ q ∈ l) : MkL l' where
  fld := fun q hq => h.fld q ((e q).1 hq)
  made :=
    { m_ok := fun v hv => h.made.m_ok v ((e _).1 hv)
      a_ok := fun v hv => h.made.a_ok v ((e _).1 hv)
      p_ok := fun v hv => h.made.p_ok v ((e _).1 hv)
      r_ok := fun v hv => h.made.r_ok v ((e _).1 hv)
      f1 := fun hm => by obtain ⟨v, h1, h2⟩ := h.made.f1 ((e _).1 hm); exact ⟨v, h1, (e _).2 h2⟩
      f2 := fun hm => by obtain ⟨v, h1, h2⟩ := h.made.f2 ((e _).1 hm); exact ⟨v, h1, (e _).2 h2⟩
      f3 := fun hm => by obtain ⟨h0, v, h1, h2⟩ := h.made.f3 ((e _).1 hm); exact ⟨(e _).2 h0, v, h1, (e _).2 h2⟩ }
theorem MkL.snoc {l : List (BS × BS)} (h : MkL l) {q : BS × BS} (hq : regF q) : MkL (l ++ [q]) := by
  have hp := (nmR_at hq.1).2.1
  have back : ∀ (k v : BS), pseudoB k = true → (k, v) ∈ l ++ [q] → (k, v) ∈ l := fun k v hk hm => by
    rcases List.mem_append.1 hm with hm | hm
    · exact hm
    · rw [List.mem_singleton] at hm
      subst hm
      rw [hk] at hp
      cases hp
  have fwd : ∀ x, x ∈ l → x ∈ l ++ [q] := fun x hx => List.mem_append_left _ hx
  exact {
    fld := fun x hx => by
      rcases List.mem_append.1 hx with hx | hx
      · exact h.fld x hx
      · rw [List.mem_singleton] at hx; subst hx; exact .inl hq
    made :=
      { m_ok := fun v hv => h.made.m_ok v (back _ _ (by decide) hv)
        a_ok := fun v hv => h.made.a_ok v (back _ _ (by decide) hv)
        p_ok := fun v hv => h.made.p_ok v (back _ _ (by decide) hv)
        r_ok := fun v hv => h.made.r_ok v (back _ _ (by decide) hv)
        f1 := fun hm => by obtain ⟨v, h1, h2⟩ := h.made.f1 (back _ _ (by decide) hm); exact ⟨v, h1, fwd _ h2⟩
        f2 := fun hm => by obtain ⟨v, h1, h2⟩ := h.made.f2 (back _ _ (by decide) hm); exact ⟨v, h1, fwd _ h2⟩
        f3 := fun hm => by obtain ⟨h0, v, h1, h2⟩ := h.made.f3 (back _ _ (by decide) hm); exact ⟨fwd _ h0, v, h1, fwd _ h2⟩ } }

def baseL (m sc a pa : BS) : List (BS × BS) := [(kMethod, m), (kScheme, sc), (kAuth, a), (kPath, pa)]
def connL (m a : BS) : List (BS × BS) := [(kMethod, m), (kAuth, a)]
def extL (m a pa : BS) : List (BS × BS) := [(kMethod, m), (kAuth, a), (kProto, kUdp), (kScheme, [104, 116, 116, 112, 115]), (kPath, pa)]
theorem valM : mR.all (fun m => valPs (kMethod, m) && m != []) = true := by decide
theorem valPa : paR.all (fun m => valPs (kPath, m) && m != []) = true := by decide
theorem valSc : scR.all (fun m => valPs (kScheme, m) && m != []) = true := by decide
theorem valAu : auR.all (fun m => valPs (kAuth, m) && m != []) = true := by decide
theorem valOt : otR.all (fun m => valPs (m, [120])) = true := by decide
theorem val0 : psR.all (fun m => valPs (m, [])) = true := by decide
theorem val_in {R : List BS} {f : BS → BS × BS} (h : R.all (fun m => valPs (f m) && m != []) = true) {m : BS} (hm : m ∈ R) : valPs (f m) = true ∧ m ≠ [] := by
  have := List.all_eq_true.1 h m hm
  simpa using this
/-- the lists at the start -/
def StartL (l : List (BS × BS)) : Prop :=
  (∃ m sc a pa, m ∈ mR ∧ sc ∈ scR ∧ a ∈ auR ∧ pa ∈ paR ∧ l = baseL m sc a pa) ∨ (∃ a, a ∈ auR ∧ l = connL kConnect a) ∨ ∃ a pa, a ∈ auR ∧ pa ∈ paR ∧ l = extL kConnect a pa
theorem StartL.full {l : List (BS × BS)} (h : StartL l) : ∀ q ∈ l, valPs q = true ∧ q.2 ≠ [] := by
  rcases h with ⟨m, sc, a, pa, h1, h2, h3, h4, rfl⟩ | ⟨a, h1, rfl⟩ | ⟨a, pa, h1, h2, rfl⟩
  · obtain ⟨a1, b1⟩ := val_in (f := fun m => (kMethod, m)) valM h1
    obtain ⟨a2, b2⟩ := val_in (f := fun m => (kScheme, m)) valSc h2
    obtain ⟨a3, b3⟩ := val_in (f := fun m => (kAuth, m)) valAu h3
    obtain ⟨a4, b4⟩ := val_in (f := fun m => (kPath, m)) valPa h4
    intro q hq
    simp only [baseL, List.mem_cons, List.not_mem_nil, or_false] at hq
    rcases hq with rfl | rfl | rfl | rfl
    · exact ⟨a1, b1⟩
    · exact ⟨a2, b2⟩
    · exact ⟨a3, b3⟩
    · exact ⟨a4, b4⟩
  · obtain ⟨a3, b3⟩ := val_in (f := fun m => (kAuth, m)) valAu h1
    intro q hq
    simp only [connL, List.mem_cons, List.not_mem_nil, or_false] at hq
    rcases hq with rfl | rfl
    · exact ⟨by decide, by decide⟩
    · exact ⟨a3, b3⟩
  · obtain ⟨a3, b3⟩ := val_in (f := fun m => (kAuth, m)) valAu h1
    obtain ⟨a4, b4⟩ := val_in (f := fun m => (kPath, m)) valPa h2
    intro q hq
    simp only [extL, List.mem_cons, List.not_mem_nil, or_false] at hq
    rcases hq with rfl | rfl | rfl | rfl | rfl
    · exact ⟨by decide, by decide⟩
    · exact ⟨a3, b3⟩
    · exact ⟨by decide, by decide⟩
    · exact ⟨by decide, by decide⟩
    · exact ⟨a4, b4⟩
theorem StartL.ps {l : List (BS × BS)} (h : StartL l) : PsL l := .of_full (fun q hq => (h.full q hq).1) (fun q hq => (h.full q hq).2)
theorem StartL.len {l : List (BS × BS)} (h : StartL l) : 2 ≤ l.length ∧ l.length ≤ 5 := by
  rcases h with ⟨m, sc, a, pa, h1, h2, h3, h4, rfl⟩ | ⟨a, h1, rfl⟩ | ⟨a, pa, h1, h2, rfl⟩ <;> simp [baseL, connL, extL]
theorem StartL.sub {l l' : List (BS × BS)} (h : StartL l) (hs : ∀ q ∈ l', q ∈ l) : PsL l' := .of_full (fun q hq => (h.full q (hs q hq)).1) (fun q hq => (h.full q (hs q hq)).2)
theorem StartL.other {l : List (BS × BS)} (h : StartL l) {k : BS} (hk : k ∈ otR) : PsL (l ++ [(k, [120])]) := by
  refine .of_full (fun q hq => ?_) (fun q hq => ?_)
  · rcases List.mem_append.1 hq with hq | hq
    · exact (h.full q hq).1
    · rw [List.mem_singleton] at hq; subst hq; exact List.all_eq_true.1 valOt k hk
  · rcases List.mem_append.1 hq with hq | hq
    · exact (h.full q hq).2
    · rw [List.mem_singleton] at hq; subst hq; exact fun e => by cases e
/-- one value is struck -/
def strike (l : List (BS × BS)) (i : Nat) : List (BS × BS) := l.set i ((l.getD i ([], [])).1, [])
theorem StartL.struck {l : List (BS × BS)} (h : StartL l) {i : Nat} (hi : i < l.length) : PsL (strike l i) := by
  have hv : ∀ q ∈ strike l i, valPs q = true := fun q hq => by
    unfold strike at hq
    rcases List.mem_or_eq_of_mem_set hq with hq | rfl
    · exact (h.full q hq).1
    · have hm : l.getD i ([], []) ∈ l := by rw [List.getD_eq_getElem?_getD, List.getElem?_eq_getElem hi]; exact List.getElem_mem hi
      have h1 := (h.full _ hm).1
      have h2 : (l.getD i ([], [])).1 ∈ psR := by
        unfold valPs at h1
        simp only [Bool.and_eq_true] at h1
        simpa using h1.1.2
      exact List.all_eq_true.1 val0 _ h2
  refine ⟨hv, ?_, ?_, ?_⟩
  all_goals (
    rcases h with ⟨m, sc, a, pa, h1, h2, h3, h4, rfl⟩ | ⟨a, h1, rfl⟩ | ⟨a, pa, h1, h2, rfl⟩
    · have b1 := (val_in (f := fun m => (kMethod, m)) valM h1).2
      have b2 := (val_in (f := fun m => (kScheme, m)) valSc h2).2
      have b3 := (val_in (f := fun m => (kAuth, m)) valAu h3).2
      have b4 := (val_in (f := fun m => (kPath, m)) valPa h4).2
      have hi2 : i < 4 := hi
      match i, hi2 with
      | 0, _ => simp [strike, baseL, b2, b3, b4]
      | 1, _ => simp [strike, baseL, b1, b3, b4]
      | 2, _ => simp [strike, baseL, b1, b2, b4]
      | 3, _ => simp [strike, baseL, b1, b2, b3]
    · have hi2 : i < 2 := hi
      match i, hi2 with
      | 0, _ => simp [strike, connL]
      | 1, _ => simp [strike, connL]
    · have b3 := (val_in (f := fun m => (kAuth, m)) valAu h1).2
      have b4 := (val_in (f := fun m => (kPath, m)) valPa h2).2
      have hi2 : i < 5 := hi
      match i, hi2 with
      | 0, _ => simp [strike, extL, kUdp, b3, b4]
      | 1, _ => simp [strike, extL, kUdp, b4]
      | 2, _ => simp [strike, extL, kUdp, b3, b4]
      | 3, _ => simp [strike, extL, kUdp, b3, b4]
      | 4, _ => simp [strike, extL, kUdp, b3])
/-- two fields change places -/
def swapL (l : List (BS × BS)) (i j : Nat) : List (BS × BS) := (l.set i (l.getD j ([], []))).set j (l.getD i ([], []))
end Go.Proofs.YtgcfnhchmmkndaaGreatDoor
