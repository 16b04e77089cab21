/- Fields in another order are read as the same. -/
import Derived.Test.YtgcfnhchmmkndaaGreatDoorL8
namespace Go.Proofs.YtgcfnhchmmkndaaGreatDoor
open Go.RowKit Go.Maps
set_option linter.unusedVariables false
set_option maxRecDepth 100000

/-- of each name the same fields in the same order -/
def SameBy (l l' : List (BS × BS)) : Prop := ∀ nm, l'.filter (fun q => q.1 == nm) = l.filter (fun q => q.1 == nm)
theorem SameBy.refl (l : List (BS × BS)) : SameBy l l := fun _ => rfl
theorem SameBy.trans {a b c : List (BS × BS)} (h : SameBy a b) (k : SameBy b c) : SameBy a c := fun nm => (k nm).trans (h nm)
theorem SameBy.mem {l l' : List (BS × BS)} (h : SameBy l l') (q : BS × BS) : q ∈ l' ↔ q ∈ l := by
  have e : ∀ m : List (BS × BS), q ∈ m ↔ q ∈ m.filter (fun x => x.1 == q.1) := fun m => by rw [List.mem_filter]; simp
  rw [e l', e l, h]
theorem SameBy.app {a a' b b' : List (BS × BS)} (h : SameBy a a') (k : SameBy b b') : SameBy (a ++ b) (a' ++ b') := fun nm => by rw [List.filter_append, List.filter_append, h, k]
/-- a field stands ahead of others of other names -/
theorem SameBy.ins (a b : List (BS × BS)) (f : BS × BS) (h : ∀ q ∈ b, q.1 ≠ f.1) : SameBy (a ++ b ++ [f]) (a ++ f :: b) := fun nm => by
  simp only [List.filter_append, List.filter_cons, List.filter_nil, List.append_assoc]
  by_cases hn : f.1 = nm
  · have hb : b.filter (fun q => q.1 == nm) = [] := List.filter_eq_nil_iff.2 fun q hq => by have := h q hq; rw [hn] at this; simpa using this
    rw [hb]
    simp
  · have h2 : (f.1 == nm) = false := by simpa using hn
    simp [h2]

/-- a field that is no pseudo one is right by itself -/
def rgOk (p : BS × BS) : Bool := !(!lowOk p.1 || !valOk p.2 || p.1 == []) && !(!nameOk p.1 || barredNames.contains p.1 || (p.1 == [116, 101] && p.2 != [116, 114, 97, 105, 108, 101, 114, 115]))
def lenStep (t : Bool × BS × Int) (v : BS) : Option (Bool × BS × Int) :=
  if t.1 && t.2.1 != v then none else if v == [] then some (true, v, t.2.2) else (parseCL v).map fun n => (true, v, (n : Int))
def lenFold : Bool × BS × Int → List BS → Option (Bool × BS × Int)
  | t, [] => some t
  | t, v :: r => (lenStep t v).bind fun t' => lenFold t' r
def hdF (S : AL) (l : List (BS × BS)) : AL := l.foldl (fun S q => hrAdd S (canonOut q.1) q.2) S
def lensOf (l : List (BS × BS)) : List BS := (l.filter fun q => q.1 == kLength).map Prod.snd
def othersOf (l : List (BS × BS)) : List (BS × BS) := l.filter fun q => q.1 != kLength
def rgEnd (s : HRS) (l : List (BS × BS)) (t : Bool × BS × Int) : HRS := { pm := s.pm, hd := hdF s.hd (othersOf l), len := t.2.2, beh := s.beh || !l.isEmpty, ls := t.2.1, told := t.1 }
theorem rg_fold {req : Bool} (l : List (BS × BS)) (hp : ∀ q ∈ l, pseudoB q.1 = false) : ∀ s, hsFold req s l = if l.all rgOk then (lenFold (s.told, s.ls, s.len) (lensOf l)).map (rgEnd s l) else none := by
  induction l with
  | nil =>
    intro s
    show some s = some (rgEnd s [] (s.told, s.ls, s.len))
    unfold rgEnd
    simp [othersOf, hdF]
  | cons p t ih =>
    intro s
    have e : hsFold req s (p :: t) = (hsStep req s p).bind fun s' => hsFold req s' t := rfl
    have hp0 := hp p List.mem_cons_self
    have ih' := ih (fun q hq => hp q (List.mem_cons_of_mem _ hq))
    rw [e]
    unfold hsStep
    rw [hp0, List.all_cons, show rgOk p = (!(!lowOk p.1 || !valOk p.2 || p.1 == []) && !(!nameOk p.1 || barredNames.contains p.1 || (p.1 == [116, 101] && p.2 != [116, 114, 97, 105, 108, 101, 114, 115]))) from rfl]
    cases h1 : (!lowOk p.1 || !valOk p.2 || p.1 == [])
    · simp only [Bool.false_eq_true, if_false, Bool.not_false, Bool.true_and]
      unfold hsRg
      cases h2 : (!nameOk p.1 || barredNames.contains p.1 || (p.1 == [116, 101] && p.2 != [116, 114, 97, 105, 108, 101, 114, 115]))
      · simp only [Bool.false_eq_true, if_false, Bool.not_false, Bool.true_and]
        cases h3 : (p.1 == kLength)
        · have h3' : (p.1 != kLength) = true := by unfold bne; rw [h3]; rfl
          have e1 : lensOf (p :: t) = lensOf t := by unfold lensOf; rw [List.filter_cons, h3]; rfl
          have e2 : othersOf (p :: t) = p :: othersOf t := by unfold othersOf; rw [List.filter_cons, h3']; rfl
          rw [h3', e1]
          simp only [if_true, Option.bind_some]
          rw [ih']
          have e3 : ∀ x, rgEnd { s with beh := true, hd := hrAdd s.hd (canonOut p.1) p.2 } t x = rgEnd s (p :: t) x := fun x => by
            unfold rgEnd
            rw [e2]
            simp [hdF]
          have e4 : rgEnd { s with beh := true, hd := hrAdd s.hd (canonOut p.1) p.2 } t = rgEnd s (p :: t) := funext e3
          rw [e4]
        · have h3' : (p.1 != kLength) = false := by unfold bne; rw [h3]; rfl
          have e1 : lensOf (p :: t) = p.2 :: lensOf t := by unfold lensOf; rw [List.filter_cons, h3]; rfl
          have e2 : othersOf (p :: t) = othersOf t := by unfold othersOf; rw [List.filter_cons, h3']; rfl
          have e4 : ∀ (b : Bool) (v : BS) (n : Int), rgEnd { s with beh := true, ls := v, told := b, len := n } t = rgEnd s (p :: t) := fun b v n => funext fun x => by
            unfold rgEnd
            rw [e2]
            simp
          rw [h3', e1]
          simp only [Bool.false_eq_true, if_false]
          have e5 : lenFold (s.told, s.ls, s.len) (p.2 :: lensOf t) = (lenStep (s.told, s.ls, s.len) p.2).bind fun t' => lenFold t' (lensOf t) := rfl
          rw [e5]
          unfold lenStep
          simp only
          cases h5 : (s.told && s.ls != p.2)
          · simp only [Bool.false_eq_true, if_false]
            cases h6 : (p.2 == [])
            · simp only [Bool.false_eq_true, if_false]
              cases h7 : parseCL p.2 with
              | none =>
                show none = if t.all rgOk = true then none else none
                split <;> rfl
              | some n =>
                show hsFold req { s with beh := true, ls := p.2, told := true, len := (n : Int) } t = _
                rw [ih', e4]
                rfl
            · simp only [if_true, Option.bind_some]
              rw [ih']
              rw [e4 true p.2 s.len]
          · simp
      · simp
    · simp
theorem rgOk_low {p : BS × BS} (h : rgOk p = true) : lowOk p.1 = true := by
  unfold rgOk at h
  simp only [Bool.and_eq_true, Bool.not_eq_true', Bool.or_eq_false_iff] at h
  simpa using h.1.1.1

theorem small_low {c : UInt8} (h : lowC c.toNat = true) (up : Bool) : smallC (canonC up c) = c := by
  unfold lowC at h
  simp only [Bool.not_eq_true', Bool.and_eq_false_iff, decide_eq_false_iff_not] at h
  unfold canonC
  split
  · next hh =>
    have h1 : (c - 32).toNat = c.toNat - 32 := by
      rw [UInt8.toNat_sub_of_le]
      · rfl
      · exact UInt8.le_iff_toNat_le.2 (by show 32 ≤ c.toNat; omega)
    unfold smallC
    rw [if_pos (by omega)]
    exact UInt8.toNat_inj.1 (by rw [UInt8.toNat_add, h1]; show (c.toNat - 32 + 32) % 256 = c.toNat; have := c.toNat_lt; omega)
  · split
    · next hh => omega
    · unfold smallC
      rw [if_neg (by omega)]
theorem canon_back {l : BS} (h : lowOk l = true) : smallL (canonOut l) = l := by
  refine List.ext_getElem (by unfold smallL canonOut; simp) fun j h1 h2 => ?_
  have e : (smallL (canonOut l))[j] = smallC (canonAt l j) := by simp [smallL, canonOut]
  rw [e]
  unfold canonAt
  rw [List.getD_eq_getElem?_getD, List.getElem?_eq_getElem h2, Option.getD_some]
  exact small_low (List.all_eq_true.1 h _ (List.getElem_mem h2)) _
theorem canon_inj {a b : BS} (ha : lowOk a = true) (hb : lowOk b = true) (h : canonOut a = canonOut b) : a = b := by rw [← canon_back ha, ← canon_back hb, h]

def valsOf (l : List (BS × BS)) (k : BS) : List BS := (l.filter fun q => canonOut q.1 == k).map Prod.snd
theorem sorted_nodup {S : AL} (h : SortedA S) : (S.map Prod.fst).Nodup := by
  unfold List.Nodup
  rw [List.pairwise_map]
  exact List.Pairwise.imp (fun hab e => by rw [e] at hab; exact bs_lt_irrefl _ hab) h
theorem hdF_snoc (S : AL) (l : List (BS × BS)) (q : BS × BS) : hdF S (l ++ [q]) = hrAdd (hdF S l) (canonOut q.1) q.2 := by unfold hdF; rw [List.foldl_append]; rfl
theorem hdF_spec (l : List (BS × BS)) : SortedA (hdF [] l) ∧ ∀ p, p ∈ hdF [] l ↔ p.2 = valsOf l p.1 ∧ p.2 ≠ [] := by
  have main : ∀ n (l : List (BS × BS)), l.length = n → SortedA (hdF [] l) ∧ ∀ p, p ∈ hdF [] l ↔ p.2 = valsOf l p.1 ∧ p.2 ≠ [] := by
    intro n
    induction n with
    | zero =>
      intro l hl
      have : l = [] := List.eq_nil_of_length_eq_zero hl
      subst this
      exact ⟨List.Pairwise.nil, fun p => ⟨fun h => (by cases h), fun h => absurd h.1 h.2⟩⟩
    | succ n ih =>
      intro l hl
      have hne : l ≠ [] := fun e => by rw [e] at hl; cases hl
      obtain ⟨t, q, rfl⟩ : ∃ t q, l = t ++ [q] := ⟨l.dropLast, l.getLast hne, (List.dropLast_concat_getLast hne).symm⟩
      have ht : t.length = n := by rw [List.length_append] at hl; simpa using hl
      obtain ⟨h1, h2⟩ := ih t ht
      rw [hdF_snoc]
      refine ⟨hrAdd_sorted h1 _ _, fun p => ?_⟩
      have hg : getH (hdF [] t) (canonOut q.1) = valsOf t (canonOut q.1) := by
        by_cases hv : valsOf t (canonOut q.1) = []
        · rw [hv]
          refine getH_no fun hm => ?_
          obtain ⟨x, hx, hx2⟩ := List.mem_map.1 hm
          have := (h2 x).1 hx
          rw [hx2, hv] at this
          exact this.2 this.1
        · exact getH_of_mem (sorted_nodup h1) ((h2 (canonOut q.1, valsOf t (canonOut q.1))).2 ⟨rfl, hv⟩)
      have hs : valsOf (t ++ [q]) p.1 = if canonOut q.1 = p.1 then valsOf t p.1 ++ [q.2] else valsOf t p.1 := by
        unfold valsOf
        rw [List.filter_append, List.map_append]
        by_cases e : canonOut q.1 = p.1
        · rw [if_pos e]
          have : (canonOut q.1 == p.1) = true := by simpa using e
          simp [this]
        · rw [if_neg e]
          have : (canonOut q.1 == p.1) = false := by simpa using e
          simp [this]
      rw [mem_hrAdd h1, hg, hs, h2]
      by_cases e : canonOut q.1 = p.1
      · rw [if_pos e, e]
        constructor
        · rintro (h | ⟨h, _⟩)
          · have : p.2 = valsOf t p.1 ++ [q.2] := congrArg Prod.snd h
            exact ⟨this, by rw [this]; simp⟩
          · exact absurd rfl h
        · rintro ⟨h, _⟩
          exact .inl (Prod.ext rfl h)
      · rw [if_neg e]
        constructor
        · rintro (h | ⟨_, h⟩)
          · exact absurd (congrArg Prod.fst h).symm e
          · exact h
        · exact fun h => .inr ⟨fun e2 => e e2.symm, h⟩
  exact main _ l rfl
theorem hdF_same {l l' : List (BS × BS)} (h : SameBy l l') (hl : ∀ q ∈ l, lowOk q.1 = true) : hdF [] l' = hdF [] l := by
  refine sorted_ext (hdF_spec l').1 (hdF_spec l).1 fun p => ?_
  rw [(hdF_spec l').2, (hdF_spec l).2]
  have e : valsOf l' p.1 = valsOf l p.1 := by
    unfold valsOf
    congr 1
    by_cases hx : ∃ q ∈ l, canonOut q.1 = p.1
    · obtain ⟨q, hq, hqp⟩ := hx
      have f : ∀ m : List (BS × BS), (∀ x ∈ m, x ∈ l) → m.filter (fun x => canonOut x.1 == p.1) = m.filter (fun x => x.1 == q.1) := fun m hm => by
        refine List.filter_congr fun x hx => ?_
        by_cases e : x.1 = q.1
        · rw [e, hqp]; simp
        · have h1 : (x.1 == q.1) = false := by simpa using e
          have h2 : (canonOut x.1 == p.1) = false := by
            rw [beq_eq_false_iff_ne, ← hqp]
            exact fun e2 => e (canon_inj (hl x (hm x hx)) (hl q hq) e2)
          rw [h1, h2]
      rw [f l' (fun x hx => (h.mem x).1 hx), f l (fun x hx => hx), h]
    · have f : ∀ m : List (BS × BS), (∀ x ∈ m, x ∈ l) → m.filter (fun x => canonOut x.1 == p.1) = [] := fun m hm => List.filter_eq_nil_iff.2 fun x hx2 => by
        rw [beq_iff_eq]
        exact fun e => hx ⟨x, hm x hx2, e⟩
      rw [f l' (fun x hx => (h.mem x).1 hx), f l (fun x hx => hx)]
  rw [e]
theorem SameBy.others {l l' : List (BS × BS)} (h : SameBy l l') : SameBy (othersOf l) (othersOf l') := fun nm => by
  unfold othersOf
  rw [List.filter_filter, List.filter_filter]
  have e : ∀ m : List (BS × BS), m.filter (fun a => a.1 == nm && a.1 != kLength) = (m.filter fun a => a.1 == nm).filter fun a => a.1 != kLength := fun m => by
    rw [List.filter_filter]
    exact List.filter_congr fun x _ => by rw [Bool.and_comm]
  rw [e l', e l, h]
/-- regular fields in another order -/
theorem rg_same {req : Bool} {l l' : List (BS × BS)} (h : SameBy l l') (hp : ∀ q ∈ l, pseudoB q.1 = false) (s s' : HRS) (h0 : s.hd = []) (e1 : s'.hd = []) (e2 : s'.told = s.told) (e3 : s'.ls = s.ls) (e4 : s'.len = s.len) (e5 : s'.beh = s.beh) {r : HRS} (hr : hsFold req s l = some r) :
    ∃ r', hsFold req s' l' = some r' ∧ r'.hd = r.hd ∧ r'.len = r.len ∧ r'.ls = r.ls ∧ r'.pm = s'.pm ∧ r.pm = s.pm := by
  have hp' : ∀ q ∈ l', pseudoB q.1 = false := fun q hq => hp q ((h.mem q).1 hq)
  rw [rg_fold l hp] at hr
  rw [rg_fold l' hp', e2, e3, e4]
  split at hr
  · next ha =>
    have hall := List.all_eq_true.1 ha
    have ha' : l'.all rgOk = true := List.all_eq_true.2 fun q hq => hall q ((h.mem q).1 hq)
    rw [ha']
    have hlen : lensOf l' = lensOf l := by unfold lensOf; rw [h]
    rw [hlen]
    obtain ⟨t, ht, rfl⟩ := Option.map_eq_some_iff.1 hr
    refine ⟨rgEnd s' l' t, by rw [ht]; rfl, ?_, rfl, rfl, rfl, rfl⟩
    show hdF s'.hd (othersOf l') = hdF s.hd (othersOf l)
    rw [h0, e1]
    exact hdF_same h.others fun q hq => rgOk_low (hall q (List.mem_filter.1 hq).1)
  · cases hr
theorem hsFold_app {req : Bool} (a b : List (BS × BS)) : ∀ s, hsFold req s (a ++ b) = (hsFold req s a).bind fun s' => hsFold req s' b := by
  induction a with
  | nil => exact fun s => rfl
  | cons p t ih =>
    intro s
    show ((hsStep req s p).bind fun s' => hsFold req s' (t ++ b)) = ((hsStep req s p).bind fun s' => hsFold req s' t).bind fun s' => hsFold req s' b
    cases hsStep req s p with
    | none => rfl
    | some s1 => exact ih s1
def psOk (req : Bool) (p : BS × BS) : Bool := !(!lowOk p.1 || !valOk p.2 || p.1 == []) && pseOk req p.1
/-- pseudo fields alone -/
theorem ps_step {req : Bool} {P : List (BS × BS)} {p : BS × BS} (hp : pseudoB p.1 = true) : hsStep req { pm := P } p = if psOk req p && !hasP P p.1 then some { pm := P ++ [p] } else none := by
  unfold hsStep psOk
  rw [hp]
  cases h1 : (!lowOk p.1 || !valOk p.2 || p.1 == [])
  · simp only [Bool.false_eq_true, if_false, if_true, Bool.not_false, Bool.true_and]
    unfold hsPs
    cases hasP P p.1 <;> cases pseOk req p.1 <;> simp
  · simp
theorem ps_fold {req : Bool} (l : List (BS × BS)) (hp : ∀ q ∈ l, pseudoB q.1 = true) : ∀ (P : List (BS × BS)) r, KeysOnce P → (hsFold req { pm := P } l = some r ↔ r = { pm := P ++ l } ∧ (∀ q ∈ l, psOk req q = true) ∧ KeysOnce (P ++ l)) := by
  induction l with
  | nil =>
    intro P r hk
    show some _ = some r ↔ _
    rw [List.append_nil]
    constructor
    · intro e; injection e with e; exact ⟨e.symm, fun q hq => (by cases hq), hk⟩
    · rintro ⟨rfl, _⟩; rfl
  | cons p t ih =>
    intro P r hk
    have e : hsFold req { pm := P } (p :: t) = (hsStep req { pm := P } p).bind fun s' => hsFold req s' t := rfl
    rw [e, ps_step (hp p List.mem_cons_self)]
    have hsplit : P ++ p :: t = (P ++ [p]) ++ t := by simp
    cases h1 : psOk req p
    · simp only [Bool.false_and, Bool.false_eq_true, if_false, Option.bind_none]
      constructor
      · intro h; cases h
      · rintro ⟨_, h, _⟩; rw [h p List.mem_cons_self] at h1; cases h1
    · cases h2 : hasP P p.1
      · simp only [Bool.not_false, Bool.and_self, if_true, Option.bind_some]
        have hk2 : KeysOnce (P ++ [p]) := by
          unfold KeysOnce
          rw [List.map_append, List.nodup_append]
          refine ⟨hk, by simp, fun a ha b hb => ?_⟩
          simp only [List.map_cons, List.map_nil, List.mem_singleton] at hb
          subst hb
          rintro rfl
          rw [← hasP_mem, h2] at ha
          cases ha
        rw [ih (fun q hq => hp q (List.mem_cons_of_mem _ hq)) (P ++ [p]) r hk2, hsplit]
        constructor
        · rintro ⟨a, b, c⟩
          exact ⟨a, fun q hq => (List.mem_cons.1 hq).elim (fun e => e ▸ h1) (b q), c⟩
        · rintro ⟨a, b, c⟩
          exact ⟨a, fun q hq => b q (List.mem_cons_of_mem _ hq), c⟩
      · simp only [Bool.not_true, Bool.and_false, Bool.false_eq_true, if_false, Option.bind_none]
        constructor
        · intro h; cases h
        · rintro ⟨_, _, hk3⟩
          unfold KeysOnce at hk3
          rw [List.map_append, List.nodup_append] at hk3
          exact absurd rfl (hk3.2.2 p.1 (hasP_mem.1 h2) p.1 (by simp))
theorem getP_perm {a b : List (BS × BS)} (ha : KeysOnce a) (hb : KeysOnce b) (h : ∀ q, q ∈ b ↔ q ∈ a) (k : BS) : getP b k = getP a k := by
  cases hx : hasP a k
  · have hy : hasP b k = false := by
      cases hy : hasP b k
      · rfl
      · have := (h _).1 (getP_mem hy)
        rw [(getP_of ha this).2] at hx
        cases hx
    rw [getP_no hx, getP_no hy]
  · exact (getP_of hb ((h _).2 (getP_mem hx))).1
/-- THE LAW OF ORDER -/
theorem order_law {one two one' two' : List (BS × BS)} (h1 : ∀ q ∈ one, pseudoB q.1 = true) (h2 : ∀ q ∈ two, pseudoB q.1 = false) (hp : one'.Perm one) (hs : SameBy two two') {h : HRS} (e : hrRead true (one ++ two) = some h) :
    ∃ h', hrRead true (one' ++ two') = some h' ∧ hqOf h' = hqOf h := by
  unfold hrRead at e ⊢
  obtain ⟨r, hr, rfl⟩ := Option.map_eq_some_iff.1 e
  rw [hsFold_app] at hr ⊢
  cases ho : hsFold true {} one with
  | none => rw [ho] at hr; cases hr
  | some s =>
    rw [ho] at hr
    have hr : hsFold true s two = some r := hr
    obtain ⟨hs1, hs2, hs3⟩ := (ps_fold one h1 [] s (by unfold KeysOnce; simp)).1 ho
    rw [List.nil_append] at hs1 hs3
    have hk' : KeysOnce one' := by
      unfold KeysOnce at hs3 ⊢
      exact (hp.map Prod.fst).nodup_iff.2 hs3
    have ho' : hsFold true {} one' = some { pm := one' } := (ps_fold one' (fun q hq => h1 q (hp.mem_iff.1 hq)) [] _ (by unfold KeysOnce; simp)).2 ⟨by rw [List.nil_append], fun q hq => hs2 q (hp.mem_iff.1 hq), by rw [List.nil_append]; exact hk'⟩
    obtain ⟨r', g1, g2, g3, g4, g5, g6⟩ := rg_same (s' := { pm := one' }) hs h2 s (by rw [hs1]) rfl (by rw [hs1]) (by rw [hs1]) (by rw [hs1]) (by rw [hs1]) hr
    refine ⟨hsEnd r', by rw [ho']; show (hsFold true { pm := one' } two').map hsEnd = _; rw [g1]; rfl, ?_⟩
    have hpm : ∀ k, getP r'.pm k = getP r.pm k := fun k => by
      rw [g5, g6, hs1]
      exact getP_perm hs3 hk' (fun q => hp.mem_iff) k
    have hend : ∀ x : HRS, (hsEnd x).pm = x.pm ∧ (hsEnd x).len = x.len := fun x => by unfold hsEnd; split <;> exact ⟨rfl, rfl⟩
    have hhd : (hsEnd r').hd = (hsEnd r).hd := by
      unfold hsEnd
      rw [g4]
      split
      · exact g2
      · show hrAdd (setOff r'.hd kCLength) kCLength r.ls = hrAdd (setOff r.hd kCLength) kCLength r.ls
        rw [g2]
    unfold hqOf
    rw [(hend r').1, (hend r).1, (hend r').2, (hend r).2, hhd, g3, hpm, hpm, hpm, hpm, hpm]
end Go.Proofs.YtgcfnhchmmkndaaGreatDoor
