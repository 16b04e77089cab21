/- The plain law of the field Priority: what the grammar of the specification passes through the package's scan. -/
import Derived.Test.YtdgpfgbocacgeaaDoorP11
import Derived.Test.YtdgpfgbocacgeaaDoorL0
namespace Go.Proofs.YtdgpfgbocacgeaaDoor
set_option linter.unusedVariables false
def lastB : UInt8 → List UInt8 → UInt8
  | p, [] => p
  | _, x :: r => lastB x r
theorem lastB_append (a b : List UInt8) : ∀ p, lastB p (a ++ b) = lastB (lastB p a) b := by
  induction a with
  | nil => intro p; rfl
  | cons x a ih => intro p; exact ih x

/-- the scan passes over c, outside of quotes before it and behind it -/
def Passes (p : UInt8) (c : List UInt8) : Prop := ∀ rest seg u inc, pp (c ++ rest) seg false false false p u inc = pp rest (seg ++ c) false false false (lastB p c) u inc

theorem Passes.nil (p : UInt8) : Passes p [] := fun rest seg u inc => by simp [lastB]
theorem Passes.append {p : UInt8} {a b : List UInt8} (h : Passes p a) (k : Passes (lastB p a) b) : Passes p (a ++ b) := by
  intro rest seg u inc
  rw [List.append_assoc, h, k, List.append_assoc, lastB_append]
theorem Passes.one {p x : UInt8} (h1 : x ≠ 44) (h2 : x ≠ 34) : Passes p [x] := by
  intro rest seg u inc
  have e1 : (x == 44) = false := by simpa using h1
  have e2 : (x == 34) = false := by simpa using h2
  simp [pp, e1, e2, lastB]
theorem Passes.cons {p x : UInt8} {c : List UInt8} (h1 : x ≠ 44) (h2 : x ≠ 34) (k : Passes x c) : Passes p (x :: c) :=
  Passes.append (a := [x]) (Passes.one h1 h2) k
theorem Passes.plain (c : List UInt8) : ∀ p, (∀ x ∈ c, x ≠ 44 ∧ x ≠ 34) → Passes p c := by
  induction c with
  | nil => intro p _; exact .nil p
  | cons x c ih =>
    intro p h
    exact .cons (h x (by simp)).1 (h x (by simp)).2 (ih x fun y hy => h y (by simp [hy]))

theorem in_str {b : List UInt8} (h : StrBody b) : ∀ rest seg q u inc, ∃ q', pp (b ++ rest) seg true true false q u inc = pp rest (seg ++ b) true true false q' u inc := by
  induction h with
  | nil => intro rest seg q u inc; exact ⟨q, by simp⟩
  | esc x r hx _ ih =>
    intro rest seg q u inc
    obtain ⟨q', e⟩ := ih rest (seg ++ [92, x]) x u inc
    refine ⟨q', ?_⟩
    rw [← (show seg ++ [92, x] ++ r = seg ++ (92 :: x :: r) by simp), ← e]
    simp [pp]
  | plain x r h1 h2 h3 h4 _ ih =>
    intro rest seg q u inc
    obtain ⟨q', e⟩ := ih rest (seg ++ [x]) x u inc
    refine ⟨q', ?_⟩
    have e3 : (x == 34) = false := by simpa using h3
    have e4 : (x == 92) = false := by simpa using h4
    simp only [List.cons_append]
    rw [pp]
    simpa [e3, e4] using e

theorem Passes.str {p : UInt8} {b : List UInt8} (hp : p ≠ 37) (h : StrBody b) : Passes p (34 :: (b ++ [34])) := by
  intro rest seg u inc
  have ep : (p == 37) = false := by simpa using hp
  obtain ⟨q, e⟩ := in_str h (34 :: rest) (seg ++ [34]) 34 u inc
  have el : lastB p (34 :: (b ++ [34])) = 34 := by
    show lastB 34 (b ++ [34]) = 34
    rw [lastB_append]
    rfl
  rw [el]
  simp only [List.cons_append, List.append_assoc, List.nil_append]
  rw [pp]
  simp [ep, bne]
  rw [e]
  simp [pp]

/-! ### signs -/
def Asc (c : List UInt8) : Prop := ∀ x ∈ c, x.toNat < 128
def Ends (c : List UInt8) : Prop := ∃ b x, c = b ++ [x] ∧ Lib.isSp x = false
theorem Asc.append {a b : List UInt8} (h : Asc a) (k : Asc b) : Asc (a ++ b) := fun x hx => (List.mem_append.1 hx).elim (h x) (k x)
theorem Asc.cons {x : UInt8} {b : List UInt8} (h : x.toNat < 128) (k : Asc b) : Asc (x :: b) := fun y hy => by
  rcases List.mem_cons.1 hy with rfl | hy
  · exact h
  · exact k y hy
theorem Asc.nil : Asc [] := fun x hx => by cases hx
theorem Ends.append (a : List UInt8) {b : List UInt8} (h : Ends b) : Ends (a ++ b) := by
  obtain ⟨c, x, rfl, hx⟩ := h
  exact ⟨a ++ c, x, by simp, hx⟩
theorem Ends.cons (a : UInt8) {b : List UInt8} (h : Ends b) : Ends (a :: b) := Ends.append [a] h
theorem Ends.all {c : List UInt8} (h : c ≠ []) (hs : ∀ x ∈ c, Lib.isSp x = false) : Ends c :=
  ⟨c.dropLast, c.getLast h, (List.dropLast_concat_getLast h).symm, hs _ (List.getLast_mem h)⟩

set_option maxRecDepth 100000
theorem of_all {P : UInt8 → Bool} (h : ∀ n : Fin 256, P (UInt8.ofNat n.1) = true) (x : UInt8) : P x = true := by
  have := h ⟨x.toNat, x.toNat_lt⟩
  simpa using this
theorem key_ok (x : UInt8) (h : keyCh x = true) : x.toNat < 128 ∧ Lib.isSp x = false ∧ x ≠ 44 ∧ x ≠ 34 ∧ x ≠ 59 ∧ x ≠ 61 := by
  have := of_all (P := fun x => !keyCh x || (decide (x.toNat < 128) && !Lib.isSp x && x != 44 && x != 34 && x != 59 && x != 61)) (by decide) x
  simp [h] at this
  simpa [and_assoc] using this
theorem num_ok (x : UInt8) (h : numCh x = true) : x.toNat < 128 ∧ Lib.isSp x = false ∧ x ≠ 44 ∧ x ≠ 34 ∧ x ≠ 59 ∧ x ≠ 61 ∧ x ≠ 63 := by
  have := of_all (P := fun x => !numCh x || (decide (x.toNat < 128) && !Lib.isSp x && x != 44 && x != 34 && x != 59 && x != 61 && x != 63)) (by decide) x
  simp [h] at this
  simpa [and_assoc] using this
theorem tok_ok (x : UInt8) (h : tokCh x = true) : x.toNat < 128 ∧ Lib.isSp x = false ∧ x ≠ 44 ∧ x ≠ 34 ∧ x ≠ 59 ∧ x ≠ 61 := by
  have := of_all (P := fun x => !tokCh x || (decide (x.toNat < 128) && !Lib.isSp x && x != 44 && x != 34 && x != 59 && x != 61)) (by decide) x
  simp [h] at this
  simpa [and_assoc] using this
theorem alpha_ok (x : UInt8) (h : x = 42 ∨ isAlpha x = true) : x ≠ 63 ∧ isDigit x = false := by
  have := of_all (P := fun x => !(x == 42 || isAlpha x) || (x != 63 && !isDigit x)) (by decide) x
  have hh : (x == 42 || isAlpha x) = true := by simpa using h
  simp [hh] at this
  simpa using this

/-! ### the grammar's pieces -/
theorem StrBody.asc {b : List UInt8} (h : StrBody b) : Asc b := by
  induction h with
  | nil => exact .nil
  | esc x r hx _ ih =>
    refine .cons (by decide) (.cons ?_ ih)
    rcases hx with rfl | rfl <;> decide
  | plain x r h1 h2 _ _ _ ih => exact .cons (by omega) ih

structure Piece (c : List UInt8) : Prop where
  asc : Asc c
  ends : Ends c

theorem ItemIs.piece {c : List UInt8} {k n : Int} (h : ItemIs c k n) : Piece c := by
  rcases h with ⟨h1, h2, _⟩ | ⟨_, b, rfl, hb⟩ | ⟨_, ⟨x, r, rfl, _⟩, ht⟩ | ⟨_, ⟨_, rfl⟩ | ⟨_, rfl⟩⟩
  · exact ⟨fun x hx => (num_ok x (h1 x hx)).1, .all h2 fun x hx => (num_ok x (h1 x hx)).2.1⟩
  · exact ⟨.cons (by decide) (hb.asc.append (.cons (by decide) .nil)), .cons _ (.append _ ⟨[], 34, rfl, by decide⟩)⟩
  · exact ⟨fun y hy => (tok_ok y (ht y hy)).1, .all (by simp) fun y hy => (tok_ok y (ht y hy)).2.1⟩
  · exact ⟨.cons (by decide) (.cons (by decide) .nil), ⟨[63], 48, rfl, by decide⟩⟩
  · exact ⟨.cons (by decide) (.cons (by decide) .nil), ⟨[63], 49, rfl, by decide⟩⟩

theorem ItemIs.passes {c : List UInt8} {k n : Int} (h : ItemIs c k n) (p : UInt8) (hp : p ≠ 37) : Passes p c := by
  rcases h with ⟨h1, h2, _⟩ | ⟨_, b, rfl, hb⟩ | ⟨_, ⟨x, r, rfl, _⟩, ht⟩ | ⟨_, ⟨_, rfl⟩ | ⟨_, rfl⟩⟩
  · exact .plain c p fun x hx => ⟨(num_ok x (h1 x hx)).2.2.1, (num_ok x (h1 x hx)).2.2.2.1⟩
  · exact .str hp hb
  · exact .plain _ p fun y hy => ⟨(tok_ok y (ht y hy)).2.2.1, (tok_ok y (ht y hy)).2.2.2.1⟩
  · exact .plain _ p (by decide)
  · exact .plain _ p (by decide)

theorem ItemIs.head {c : List UInt8} {k n : Int} (h : ItemIs c k n) : ∃ x r, c = x :: r ∧ x ≠ 59 ∧ Lib.isSp x = false := by
  rcases h with ⟨h1, h2, _⟩ | ⟨_, b, rfl, hb⟩ | ⟨_, ⟨x, r, rfl, _⟩, ht⟩ | ⟨_, ⟨_, rfl⟩ | ⟨_, rfl⟩⟩
  · rcases c with _ | ⟨x, r⟩
    · exact absurd rfl h2
    · exact ⟨x, r, rfl, (num_ok x (h1 x (by simp))).2.2.2.2.1, (num_ok x (h1 x (by simp))).2.1⟩
  · exact ⟨34, _, rfl, by decide, by decide⟩
  · exact ⟨x, r, rfl, (tok_ok x (ht x (by simp))).2.2.2.2.1, (tok_ok x (ht x (by simp))).2.1⟩
  · exact ⟨63, _, rfl, by decide, by decide⟩
  · exact ⟨63, _, rfl, by decide, by decide⟩

theorem key_asc {k : List UInt8} (h : ∀ x ∈ k, keyCh x = true) : Asc k := fun x hx => (key_ok x (h x hx)).1
theorem key_ends {k : List UInt8} (hk : k ≠ []) (h : ∀ x ∈ k, keyCh x = true) : Ends k := .all hk fun x hx => (key_ok x (h x hx)).2.1
theorem key_passes {k : List UInt8} (h : ∀ x ∈ k, keyCh x = true) (p : UInt8) : Passes p k := .plain k p fun x hx => ⟨(key_ok x (h x hx)).2.2.1, (key_ok x (h x hx)).2.2.2.1⟩
theorem sp_asc {k : List UInt8} (h : ∀ x ∈ k, x = 32) : Asc k := fun x hx => by rw [h x hx]; decide
theorem sp_passes {k : List UInt8} (h : ∀ x ∈ k, x = 32) (p : UInt8) : Passes p k := .plain k p fun x hx => by rw [h x hx]; decide

theorem Params.asc {c : List UInt8} (h : Params c) : Asc c := by
  induction h with
  | nil => exact .nil
  | key sp k r h1 h2 _ _ ih => exact .cons (by decide) (((sp_asc h1).append (key_asc h2)).append ih)
  | item sp k c n m r h1 h2 _ h4 _ ih => exact .cons (by decide) (((sp_asc h1).append (key_asc h2)).append (.cons (by decide) (h4.piece.asc.append ih)))

theorem Params.ends {c : List UInt8} (h : Params c) : c = [] ∨ Ends c := by
  induction h with
  | nil => exact .inl rfl
  | key sp k r h1 h2 h3 _ ih =>
    rcases ih with rfl | ih
    · exact .inr (.cons _ (by rw [List.append_nil]; exact .append _ (key_ends h3 h2)))
    · exact .inr (.cons _ (.append _ ih))
  | item sp k c n m r h1 h2 _ h4 _ ih =>
    rcases ih with rfl | ih
    · exact .inr (.cons _ (.append _ (.cons _ (by rw [List.append_nil]; exact h4.piece.ends))))
    · exact .inr (.cons _ (.append _ (.cons _ (.append _ ih))))

theorem Params.head {c : List UInt8} (h : Params c) : c = [] ∨ ∃ r, c = 59 :: r := by
  cases h with
  | nil => exact .inl rfl
  | key sp k r _ _ _ _ => exact .inr ⟨_, rfl⟩
  | item sp k c n m r _ _ _ _ _ => exact .inr ⟨_, rfl⟩

theorem Params.passes {c : List UInt8} (h : Params c) : ∀ p, Passes p c := by
  induction h with
  | nil => exact .nil
  | key sp k r h1 h2 _ _ ih => exact fun p => .cons (by decide) (by decide) (((sp_passes h1 _).append (key_passes h2 _)).append (ih _))
  | item sp k c n m r h1 h2 _ h4 _ ih =>
    exact fun p => .cons (by decide) (by decide) (((sp_passes h1 _).append (key_passes h2 _)).append (.cons (by decide) (by decide) ((h4.passes _ (by decide)).append (ih _))))

theorem Inner.asc {c : List UInt8} (h : Inner c) : Asc c := by
  induction h with
  | nil => exact .nil
  | sp r _ ih => exact ih.append (.cons (by decide) .nil)
  | item r c p k n _ _ h2 h3 ih => exact ih.append (h2.piece.asc.append h3.asc)

theorem Inner.passes {c : List UInt8} (h : Inner c) : Passes 40 c := by
  induction h with
  | nil => exact .nil _
  | sp r _ ih => exact ih.append (.one (by decide) (by decide))
  | item r c p k n _ h1 h2 h3 ih =>
    refine ih.append ((h2.passes _ ?_).append (h3.passes _))
    rcases h1 with rfl | ⟨r', rfl⟩
    · decide
    · rw [lastB_append]; show (32 : UInt8) ≠ 37; decide

theorem params_ends {a b : List UInt8} (h : Ends a) (hb : Params b) : Ends (a ++ b) := by
  rcases hb.ends with rfl | h'
  · simpa using h
  · exact .append _ h'

theorem MemberIs.piece {c : List UInt8} {k n : Int} (h : MemberIs c k n) : Piece c := by
  rcases h with ⟨a, b, rfl, ha, hb⟩ | ⟨_, a, b, rfl, ha, hb⟩
  · exact ⟨ha.piece.asc.append hb.asc, params_ends ha.piece.ends hb⟩
  · exact ⟨.cons (by decide) (ha.asc.append (.cons (by decide) hb.asc)), .cons _ (.append _ (params_ends (a := [41]) ⟨[], 41, rfl, by decide⟩ hb))⟩
theorem MemberIs.passes {c : List UInt8} {k n : Int} (h : MemberIs c k n) (p : UInt8) (hp : p ≠ 37) : Passes p c := by
  rcases h with ⟨a, b, rfl, ha, hb⟩ | ⟨_, a, b, rfl, ha, hb⟩
  · exact (ha.passes p hp).append (hb.passes _)
  · exact .cons (by decide) (by decide) (ha.passes.append (.cons (by decide) (by decide) (hb.passes _)))
theorem MemberIs.head {c : List UInt8} {k n : Int} (h : MemberIs c k n) : ∃ x r, c = x :: r ∧ x ≠ 59 := by
  rcases h with ⟨a, b, rfl, ha, hb⟩ | ⟨_, a, b, rfl, ha, hb⟩
  · obtain ⟨x, r, rfl, hx, _⟩ := ha.head
    exact ⟨x, r ++ b, rfl, hx⟩
  · exact ⟨40, _, rfl, by decide⟩

/-! ### a member of the dictionary -/
/-- c is a member of name k: without a value (a truth value, true), or with one (raw) -/
inductive Mem : List UInt8 → List UInt8 → List UInt8 → Int → Int → Prop
  | bare (k p : List UInt8) : Params p → Mem (k ++ p) k [] 2 1
  | full (k raw : List UInt8) (kd n : Int) : MemberIs raw kd n → Mem (k ++ 61 :: raw) k raw kd n

def urgOf (kd n : Int) : Int := if kd = 1 ∧ 0 ≤ n ∧ n ≤ 7 then n else 3
def incOf (kd n : Int) : Bool := decide (kd = 2 ∧ n = 1)

theorem takeWhile_at {k r : List UInt8} {s : UInt8} (h : ∀ x ∈ k, x ≠ s) : (k ++ s :: r).takeWhile (· != s) = k := by
  induction k with
  | nil => simp
  | cons x k ih =>
    have := h x (by simp)
    simp [this, ih fun y hy => h y (by simp [hy])]
theorem dropWhile_at {k r : List UInt8} {s : UInt8} (h : ∀ x ∈ k, x ≠ s) : (k ++ s :: r).dropWhile (· != s) = s :: r := by
  induction k with
  | nil => simp
  | cons x k ih =>
    have := h x (by simp)
    simp [this, ih fun y hy => h y (by simp [hy])]
theorem takeWhile_none {k : List UInt8} {s : UInt8} (h : ∀ x ∈ k, x ≠ s) : k.takeWhile (· != s) = k := by
  induction k with
  | nil => simp
  | cons x k ih =>
    have := h x (by simp)
    simp [this, ih fun y hy => h y (by simp [hy])]

theorem dropWhile_all {l r : List UInt8} (h : ∀ x ∈ l, Lib.isSp x = true) : (l ++ r).dropWhile Lib.isSp = r.dropWhile Lib.isSp := by
  induction l with
  | nil => rfl
  | cons x l ih => simp [h x (by simp), ih fun y hy => h y (by simp [hy])]
theorem trim_eq {a c b : List UInt8} (ha : ∀ x ∈ a, Lib.isSp x = true) (hb : ∀ x ∈ b, Lib.isSp x = true) {y : UInt8} {r : List UInt8} (hc : c = y :: r) (hy : Lib.isSp y = false) (he : Ends c) : Lib.trimSpace (a ++ c ++ b) = c := by
  unfold Lib.trimSpace
  have e1 : (a ++ c ++ b).dropWhile Lib.isSp = c ++ b := by
    rw [List.append_assoc, dropWhile_all ha, hc]
    simp [hy]
  obtain ⟨d, z, e, hz⟩ := he
  rw [e1, List.reverse_append, dropWhile_all (l := b.reverse) (by simpa using hb), e]
  simp [hz]

theorem memStep_eq {a c b k raw : List UInt8} {kd n : Int} (ha : ∀ x ∈ a, Lib.isSp x = true) (hb : ∀ x ∈ b, Lib.isSp x = true) (hk : k ≠ []) (hkc : ∀ x ∈ k, keyCh x = true) (hm : Mem c k raw kd n) (u : Int) (inc : Bool)
    (hraw : k = [117] → kd = 1 → 0 ≤ n → n ≤ 7 → raw.length ≤ 1 ∨ raw[1]? = some 59) (hu : k = [117] → u = 3) (hi : k = [105] → inc = false) :
    memStep (a ++ c ++ b) u inc = some (if k = [117] then urgOf kd n else u, if k = [105] then incOf kd n else inc) := by
  have h59 : ∀ x ∈ k, x ≠ 59 := fun x hx => (key_ok x (hkc x hx)).2.2.2.2.1
  have h61 : ∀ x ∈ k, x ≠ 61 := fun x hx => (key_ok x (hkc x hx)).2.2.2.2.2
  obtain ⟨y, r, rfl⟩ : ∃ y r, k = y :: r := by
    rcases k with _ | ⟨y, r⟩
    · exact absurd rfl hk
    · exact ⟨y, r, rfl⟩
  have hy : Lib.isSp y = false := (key_ok y (hkc y (by simp))).2.1
  cases hm with
  | bare _ p hp =>
    have ht : Lib.trimSpace (a ++ (y :: r ++ p) ++ b) = y :: r ++ p := trim_eq ha hb rfl hy (params_ends (key_ends hk hkc) hp)
    have hm : (y :: r ++ p).takeWhile (· != 59) = y :: r := by
      rcases hp.head with rfl | ⟨q, rfl⟩
      · rw [List.append_nil]; exact takeWhile_none h59
      · exact takeWhile_at h59
    have hkey : (y :: r).takeWhile (· != 61) = y :: r := takeWhile_none h61
    have hhas : (y :: r).any (· == 61) = false := by
      simp only [List.any_eq_false]
      intro x hx
      simpa using h61 x hx
    unfold memStep
    simp only [ht, hm, hkey, hhas]
    by_cases k1 : y :: r = [117]
    · have k2 : ¬ y :: r = [105] := by rw [k1]; decide
      simp [k1, urgOf, hu k1]
    · by_cases k2 : y :: r = [105]
      · simp [k2, incOf]
      · simp [k1, k2]
  | full _ _ _ _ hmem =>
    have ht : Lib.trimSpace (a ++ (y :: r ++ 61 :: raw) ++ b) = y :: r ++ 61 :: raw := trim_eq ha hb rfl hy (.append _ (.cons _ hmem.piece.ends))
    have hm : (y :: r ++ 61 :: raw).takeWhile (· != 59) = y :: r ++ 61 :: raw.takeWhile (· != 59) := by
      rw [List.takeWhile_append_of_pos (fun x hx => by simpa using h59 x hx)]
      simp
    have hkey : (y :: r ++ 61 :: raw.takeWhile (· != 59)).takeWhile (· != 61) = y :: r := takeWhile_at h61
    have hitem : ((y :: r ++ 61 :: raw.takeWhile (· != 59)).dropWhile (· != 61)).tail = raw.takeWhile (· != 59) := by rw [dropWhile_at h61]; rfl
    have hhas : (y :: r ++ 61 :: raw.takeWhile (· != 59)).any (· == 61) = true := by simp
    have hne : raw.takeWhile (· != 59) ≠ [] := by
      obtain ⟨x, q, rfl, hx⟩ := hmem.head
      simp [hx]
    unfold memStep
    simp only [ht, hm, hkey, hitem, hhas]
    by_cases k1 : y :: r = [117]
    · have k2 : ¬ y :: r = [105] := by rw [k1]; decide
      have e : memU (raw.takeWhile (· != 59)) u inc = some (urgOf kd n, inc) := by
        unfold memU
        have hu3 := hu k1
        subst hu3
        have hraw := hraw k1
        rcases hmem with ⟨x, p, rfl, hx, hp⟩ | ⟨rfl, x, p, rfl, hx, hp⟩
        · have tw : ∀ q : List UInt8, (∀ z ∈ q, z ≠ 59) → (q ++ p).takeWhile (· != 59) = q := by
            intro q hq
            rcases hp.head with rfl | ⟨s, rfl⟩
            · rw [List.append_nil]; exact takeWhile_none hq
            · exact takeWhile_at hq
          rcases hx with ⟨h1, h2, h3, h4⟩ | ⟨rfl, s, rfl, hs⟩ | ⟨rfl, ⟨z, q, rfl, hz⟩, hq⟩ | ⟨rfl, hq⟩
          · have hx59 : ∀ z ∈ x, z ≠ 59 := fun z hz => (num_ok z (h1 z hz)).2.2.2.2.1
            rw [tw x hx59]
            rcases x with _ | ⟨d, _ | ⟨d2, x2⟩⟩
            · exact absurd rfl h2
            · obtain ⟨g1, rfl, rfl⟩ := h4 d rfl
              simp only [isDigit, Bool.and_eq_true, decide_eq_true_eq] at g1
              by_cases hd : 48 ≤ d.toNat ∧ d.toNat ≤ 55
              · simp only [hd, and_self, if_true, urgOf]
                rw [if_pos ⟨trivial, by omega, by omega⟩]
              · simp only [hd, if_false, urgOf]
                rw [if_neg (by omega)]
            · simp only [urgOf]
              rw [if_neg]
              rintro ⟨rfl, g1, g2⟩
              rcases hraw rfl g1 g2 with g | g
              · simp at g
              · simp at g
                exact hx59 d2 (by simp) g
          · have hz : ((34 :: (s ++ [34])) ++ p).takeWhile (· != 59) = 34 :: ((s ++ [34]) ++ p).takeWhile (· != 59) := by simp
            rw [hz]
            have h34 : ¬ (48 ≤ (34 : UInt8).toNat ∧ (34 : UInt8).toNat ≤ 55) := by decide
            generalize ((s ++ [34]) ++ p).takeWhile (· != 59) = ww
            rcases ww with _ | ⟨z, q⟩
            · simp [urgOf]
            · simp [urgOf]
          · rw [tw _ fun w hw => (tok_ok w (hq w hw)).2.2.2.2.1]
            have hz2 := (alpha_ok z hz).2
            have hz3 : ¬ (48 ≤ z.toNat ∧ z.toNat ≤ 55) := by
              intro hh
              simp [isDigit] at hz2
              omega
            rcases q with _ | ⟨z2, q⟩
            · simp only [hz3, if_false]; simp [urgOf]
            · simp [urgOf]
          · rcases hq with ⟨rfl, rfl⟩ | ⟨rfl, rfl⟩
            · rw [tw _ (by decide)]; simp [urgOf]
            · rw [tw _ (by decide)]; simp [urgOf]
        · have hz : (40 :: (x ++ 41 :: p)).takeWhile (· != 59) = 40 :: (x ++ 41 :: p).takeWhile (· != 59) := by simp
          rw [hz]
          generalize (x ++ 41 :: p).takeWhile (· != 59) = ww
          rcases ww with _ | ⟨z, q⟩
          · simp [urgOf]
          · simp [urgOf]
      simp only [k1, hne, e]
      simp
    · by_cases k2 : y :: r = [105]
      · have hi' := hi k2
        subst hi'
        have e : (if true = false ∨ raw.takeWhile (· != 59) = [63, 49] then some (u, true) else if raw.takeWhile (· != 59) = [63, 48] then some (u, false) else some (u, false)) = some (u, incOf kd n) := by
          have other : ∀ z q, raw = z :: q → z ≠ 59 → z ≠ 63 → kd ≠ 2 → (if true = false ∨ raw.takeWhile (· != 59) = [63, 49] then some (u, true) else if raw.takeWhile (· != 59) = [63, 48] then some (u, false) else some (u, false)) = some (u, incOf kd n) := by
            intro z q hz h59' h63 hkd
            have hz' : raw.takeWhile (· != 59) = z :: q.takeWhile (· != 59) := by rw [hz]; simp [h59']
            rw [hz']
            simp [h63, incOf, hkd]
          rcases hmem with ⟨x, p, rfl, hx, hp⟩ | ⟨rfl, x, p, rfl, hx, hp⟩
          · rcases hx with ⟨h1, h2, h3, h4⟩ | ⟨rfl, s, rfl, hs⟩ | ⟨rfl, ⟨z, q, rfl, hz⟩, hq⟩ | ⟨rfl, hq⟩
            · rcases x with _ | ⟨d, x⟩
              · exact absurd rfl h2
              · have hd := num_ok d (h1 d (by simp))
                exact other d _ rfl hd.2.2.2.2.1 hd.2.2.2.2.2.2 (by omega)
            · exact other 34 _ rfl (by decide) (by decide) (by decide)
            · have hd := tok_ok z (hq z (by simp))
              exact other z _ rfl hd.2.2.2.2.1 (alpha_ok z hz).1 (by decide)
            · have tw : ∀ q : List UInt8, (∀ z ∈ q, z ≠ 59) → (q ++ p).takeWhile (· != 59) = q := by
                intro q hq
                rcases hp.head with rfl | ⟨s, rfl⟩
                · rw [List.append_nil]; exact takeWhile_none hq
                · exact takeWhile_at hq
              rcases hq with ⟨rfl, rfl⟩ | ⟨rfl, rfl⟩
              · rw [tw _ (by decide)]; simp [incOf]
              · rw [tw _ (by decide)]; simp [incOf]
          · exact other 40 _ rfl (by decide) (by decide) (by decide)
        simp only [k2, hne, e]
        simp
      · simp [k1, k2, hne]

theorem Mem.piece {c k raw : List UInt8} {kd n : Int} (h : Mem c k raw kd n) (hk : k ≠ []) (hkc : ∀ x ∈ k, keyCh x = true) : Asc c ∧ ∀ p, Passes p c := by
  cases h with
  | bare _ p hp => exact ⟨(key_asc hkc).append hp.asc, fun q => (key_passes hkc q).append (hp.passes _)⟩
  | full _ _ _ _ hm => exact ⟨(key_asc hkc).append (.cons (by decide) hm.piece.asc), fun q => (key_passes hkc q).append (.cons (by decide) (by decide) (hm.passes _ (by decide)))⟩

/-! ### the dictionary as it is read -/
def isWs (x : UInt8) : Prop := x = 32 ∨ x = 9
/-- pre is read up to a comma and ws behind it (or blanks at the begin), with these names and these values of u and i -/
inductive Read : List UInt8 → List UInt8 → List (List UInt8) → Int × Int → Int × Int → Prop
  | start (ws : List UInt8) : (∀ x ∈ ws, isWs x) → Read [] ws [] (0, 0) (0, 0)
  | step (pre ws c k raw ws1 ws2 : List UInt8) (kd n : Int) (names : List (List UInt8)) (u i : Int × Int) : Read pre ws names u i → k ≠ [] → (∀ x ∈ k, keyCh x = true) → Mem c k raw kd n → k ∉ names →
      (k = [117] → kd = 1 → 0 ≤ n → n ≤ 7 → raw.length ≤ 1 ∨ raw[1]? = some 59) → (∀ x ∈ ws1, isWs x) → (∀ x ∈ ws2, isWs x) →
      Read (pre ++ ws ++ c ++ ws1 ++ [44]) ws2 (names ++ [k]) (if k = [117] then (kd, n) else u) (if k = [105] then (kd, n) else i)

/-- a whole field: nothing but blanks, or with a last member -/
inductive Whole : List UInt8 → Int × Int → Int × Int → Prop
  | none (ws : List UInt8) : (∀ x ∈ ws, isWs x) → Whole ws (0, 0) (0, 0)
  | last (pre ws c k raw ws1 : List UInt8) (kd n : Int) (names : List (List UInt8)) (u i : Int × Int) : Read pre ws names u i → k ≠ [] → (∀ x ∈ k, keyCh x = true) → Mem c k raw kd n → k ∉ names →
      (k = [117] → kd = 1 → 0 ≤ n → n ≤ 7 → raw.length ≤ 1 ∨ raw[1]? = some 59) → (∀ x ∈ ws1, isWs x) →
      Whole (pre ++ ws ++ c ++ ws1) (if k = [117] then (kd, n) else u) (if k = [105] then (kd, n) else i)

theorem isWs.sp {x : UInt8} (h : isWs x) : Lib.isSp x = true := by rcases h with rfl | rfl <;> decide
theorem ws_passes {l : List UInt8} (h : ∀ x ∈ l, isWs x) (p : UInt8) : Passes p l := .plain l p fun x hx => by rcases h x hx with rfl | rfl <;> decide
theorem ws_asc {l : List UInt8} (h : ∀ x ∈ l, isWs x) : Asc l := fun x hx => by rcases h x hx with rfl | rfl <;> decide

theorem step_u {k : List UInt8} {kd n : Int} {u : Int × Int} : (if k = [117] then urgOf kd n else urgOf u.1 u.2) = urgOf (if k = [117] then (kd, n) else u).1 (if k = [117] then (kd, n) else u).2 := by split <;> rfl
theorem step_i {k : List UInt8} {kd n : Int} {u : Int × Int} : (if k = [105] then incOf kd n else incOf u.1 u.2) = incOf (if k = [105] then (kd, n) else u).1 (if k = [105] then (kd, n) else u).2 := by split <;> rfl
theorem Read.pp {pre ws : List UInt8} {names : List (List UInt8)} {u i : Int × Int} (h : Read pre ws names u i) :
    Asc pre ∧ (∀ x ∈ ws, isWs x) ∧ ([117] ∉ names → u = (0, 0)) ∧ ([105] ∉ names → i = (0, 0)) ∧ ∀ rest, ∃ q, pp (pre ++ rest) [] false false false 0 3 false = pp rest [] false false false q (urgOf u.1 u.2) (incOf i.1 i.2) := by
  induction h with
  | start ws h => exact ⟨.nil, h, fun _ => rfl, fun _ => rfl, fun rest => ⟨0, rfl⟩⟩
  | step pre ws c k raw ws1 ws2 kd n names u i _ hk hkc hm hnew hraw h1 h2 ih =>
    obtain ⟨ha, hw, hu, hi, hp⟩ := ih
    obtain ⟨hc, hpc⟩ := hm.piece hk hkc
    refine ⟨(((ha.append (ws_asc hw)).append hc).append (ws_asc h1)).append (.cons (by decide) .nil), h2, ?_, ?_, ?_⟩
    · intro hn
      have hne : ¬ k = [117] := fun e => hn (by simp [e])
      rw [if_neg hne]
      exact hu fun hx => hn (by simp [hx])
    · intro hn
      have hne : ¬ k = [105] := fun e => hn (by simp [e])
      rw [if_neg hne]
      exact hi fun hx => hn (by simp [hx])
    · intro rest
      obtain ⟨q, e⟩ := hp (ws ++ c ++ ws1 ++ 44 :: rest)
      refine ⟨44, ?_⟩
      have hpas := ((ws_passes hw q).append (hpc _)).append (ws_passes h1 _)
      have e1 : pre ++ ws ++ c ++ ws1 ++ [44] ++ rest = pre ++ (ws ++ c ++ ws1 ++ 44 :: rest) := by simp
      rw [e1, e, hpas]
      have hms := memStep_eq (a := ws) (b := ws1) (fun x hx => (hw x hx).sp) (fun x hx => (h1 x hx).sp) hk hkc hm (urgOf u.1 u.2) (incOf i.1 i.2) hraw (fun e => by rw [hu (by rw [← e]; exact hnew)]; rfl) (fun e => by rw [hi (by rw [← e]; exact hnew)]; rfl)
      rw [Go.Proofs.YtdgpfgbocacgeaaDoor.pp]
      rw [step_u, step_i] at hms
      simp only [Bool.not_false, Bool.true_and, beq_self_eq_true, if_true, List.nil_append, hms, Bool.false_eq_true, if_false]

theorem Whole.pp {v : List UInt8} {u i : Int × Int} (h : Whole v u i) : Asc v ∧ pp v [] false false false 0 3 false = (urgOf u.1 u.2, incOf i.1 i.2) := by
  cases h with
  | none _ hw =>
    refine ⟨ws_asc hw, ?_⟩
    have h1 := ws_passes hw 0 [] [] 3 false
    rw [List.append_nil] at h1
    rw [h1]
    have ht : Lib.trimSpace v = [] := Lib.trimSpace_all v fun j b hb => (hw b (List.mem_of_getElem? hb)).sp
    simp [Go.Proofs.YtdgpfgbocacgeaaDoor.pp, memStep, ht, urgOf, incOf]
  | last pre ws c k raw ws1 kd n names u i hr hk hkc hm hnew hraw hw1 =>
    obtain ⟨ha, hw, hu, hi, hp⟩ := hr.pp
    obtain ⟨hc, hpc⟩ := hm.piece hk hkc
    refine ⟨((ha.append (ws_asc hw)).append hc).append (ws_asc hw1), ?_⟩
    obtain ⟨q, e⟩ := hp (ws ++ c ++ ws1)
    have hpas := ((ws_passes hw q).append (hpc _)).append (ws_passes hw1 _) [] [] (urgOf u.1 u.2) (incOf i.1 i.2)
    have e1 : pre ++ ws ++ c ++ ws1 = pre ++ (ws ++ c ++ ws1) := by simp
    rw [List.append_nil] at hpas
    rw [e1, e, hpas]
    have hms := memStep_eq (a := ws) (b := ws1) (fun x hx => (hw x hx).sp) (fun x hx => (hw1 x hx).sp) hk hkc hm (urgOf u.1 u.2) (incOf i.1 i.2) hraw (fun e => by rw [hu (by rw [← e]; exact hnew)]; rfl) (fun e => by rw [hi (by rw [← e]; exact hnew)]; rfl)
    rw [Go.Proofs.YtdgpfgbocacgeaaDoor.pp]
    rw [step_u, step_i] at hms
    simp only [List.nil_append, hms, Bool.false_eq_true, if_false]
end Go.Proofs.YtdgpfgbocacgeaaDoor
