/- The package's scan of the field Priority as a function on lists. -/
import Derived.Lib.Space
namespace Go.Proofs.YtdgpfgbocacgeaaDoor
set_option linter.unusedVariables false

/-! ### the package's scan, as a function on lists -/
def memU (item : List UInt8) (u : Int) (inc : Bool) : Option (Int × Bool) :=
  match item with
  | [d] => if 48 ≤ d.toNat ∧ d.toNat ≤ 55 then some ((d.toNat : Int) - 48, inc) else some (u, inc)
  | _ => some (u, inc)
def memStep (seg : List UInt8) (u : Int) (inc : Bool) : Option (Int × Bool) :=
  let m := (Lib.trimSpace seg).takeWhile (· != 59)
  let key := m.takeWhile (· != 61)
  let item := (m.dropWhile (· != 61)).tail
  let has := m.any (· == 61)
  if key = [] ∨ (has = true ∧ item = []) then none
  else if key = [117] then (if has then memU item u inc else some (u, inc))
  else if key = [105] then (if has = false ∨ item = [63, 49] then some (u, true) else if item = [63, 48] then some (u, false) else some (u, inc))
  else some (u, inc)

def pp : List UInt8 → List UInt8 → Bool → Bool → Bool → UInt8 → Int → Bool → Int × Bool
  | [], seg, inS, _, skip, _, u, inc => if skip then (if inS then (3, false) else (u, inc)) else (match memStep seg u inc with | none => (3, false) | some (v, i) => if inS then (3, false) else (v, i))
  | c :: r, seg, inS, esc, skip, p, u, inc =>
    if skip then pp r (seg ++ [c]) inS esc false c u inc
    else if !inS && c == 44 then (match memStep seg u inc with | none => (3, false) | some (v, i) => pp r [] inS esc false c v i)
    else if esc && c == 92 then pp r (seg ++ [c]) inS esc true c u inc
    else if c == 34 then pp r (seg ++ [c]) (!inS) (!inS && p != 37) false c u inc
    else pp r (seg ++ [c]) inS esc false c u inc
/-! ### the scan, place by place -/
def seg (l : List UInt8) (st k : Nat) : List UInt8 := (l.take k).drop st
def prevAt (l : List UInt8) : Nat → UInt8
  | 0 => 0
  | k + 1 => l.getD k 0
def ppAll (l : List UInt8) : Int × Bool := pp l [] false false false 0 3 false

inductive PSt (l : List UInt8) (u : Int) (inc inS esc : Bool) (k st : Nat) : Prop
  | on : k ≤ l.length → st ≤ k → pp (l.drop k) (seg l st k) inS esc false (prevAt l k) u inc = ppAll l → PSt l u inc inS esc k st
  | off : k = l.length + 1 → (if inS then (3, false) else (u, inc)) = ppAll l → PSt l u inc inS esc k st

section
variable {l : List UInt8} {u u' : Int} {inc inc' inS esc : Bool} {k st : Nat}
theorem PSt.start (l : List UInt8) : PSt l 3 false false false 0 0 := .on (by omega) (by omega) (by simp [seg, prevAt, ppAll])
theorem PSt.eqn (h : PSt l u inc inS esc k st) (hk : k ≤ l.length) : st ≤ k ∧ pp (l.drop k) (seg l st k) inS esc false (prevAt l k) u inc = ppAll l := by
  rcases h with ⟨_, h1, h2⟩ | ⟨h1, _⟩
  · exact ⟨h1, h2⟩
  · omega
theorem seg_snoc (hk : k < l.length) (hst : st ≤ k) : seg l st k ++ [l[k]] = seg l st (k + 1) := by
  unfold seg
  rw [List.take_succ_eq_append_getElem hk, List.drop_append_of_le_length (by simp; omega)]
theorem prev_succ (hk : k < l.length) : prevAt l (k + 1) = l[k] := by
  show l.getD k 0 = _
  simp [hk]
theorem seg_self : seg l k k = [] := by simp [seg]

theorem PSt.comma (h : PSt l u inc false esc k st) (hk : k < l.length) (hc : l[k] = 44) (hm : memStep (seg l st k) u inc = some (u', inc')) : PSt l u' inc' false esc (k + 1) (k + 1) := by
  obtain ⟨h1, h2⟩ := h.eqn (by omega)
  refine .on hk (Nat.le_refl _) ?_
  rw [List.drop_eq_getElem_cons hk, hc, pp] at h2
  simp only [hm, Bool.not_false, Bool.true_and, beq_self_eq_true, if_true, Bool.false_eq_true, if_false] at h2
  rw [prev_succ hk, hc, seg_self]
  exact h2
theorem PSt.comma_none (h : PSt l u inc false esc k st) (hk : k < l.length) (hc : l[k] = 44) (hm : memStep (seg l st k) u inc = none) : ppAll l = (3, false) := by
  obtain ⟨h1, h2⟩ := h.eqn (by omega)
  rw [List.drop_eq_getElem_cons hk, hc, pp] at h2
  simp only [hm, Bool.not_false, Bool.true_and, beq_self_eq_true, if_true, Bool.false_eq_true, if_false] at h2
  exact h2.symm
theorem PSt.end_some (h : PSt l u inc inS esc k st) (hk : k = l.length) (hm : memStep (seg l st k) u inc = some (u', inc')) : PSt l u' inc' inS esc (k + 1) (k + 1) := by
  obtain ⟨h1, h2⟩ := h.eqn (by omega)
  refine .off (by omega) ?_
  rw [List.drop_eq_nil_of_le (by omega), pp] at h2
  simpa [hm] using h2
theorem PSt.end_none (h : PSt l u inc inS esc k st) (hk : k = l.length) (hm : memStep (seg l st k) u inc = none) : ppAll l = (3, false) := by
  obtain ⟨h1, h2⟩ := h.eqn (by omega)
  rw [List.drop_eq_nil_of_le (by omega), pp] at h2
  simpa [hm] using h2.symm
theorem PSt.esc_ (h : PSt l u inc inS true k st) (hk : k < l.length) (hc : l[k] = 92) : PSt l u inc inS true (k + 1 + 1) st := by
  obtain ⟨h1, h2⟩ := h.eqn (by omega)
  rw [List.drop_eq_getElem_cons hk, hc, pp] at h2
  have e0 : ((92 : UInt8) == 44) = false := by decide
  simp only [e0, Bool.and_false, Bool.false_eq_true, if_false, beq_self_eq_true, Bool.and_true, if_true] at h2
  rw [← hc, seg_snoc hk h1] at h2
  rcases Nat.lt_or_ge (k + 1) l.length with h3 | h3
  · refine .on h3 (by omega) ?_
    rw [List.drop_eq_getElem_cons h3, pp] at h2
    simp only [if_true] at h2
    rw [seg_snoc h3 (by omega)] at h2
    rw [prev_succ h3]
    exact h2
  · refine .off (by omega) ?_
    rw [List.drop_eq_nil_of_le h3, pp] at h2
    simpa using h2
theorem PSt.quote (h : PSt l u inc inS esc k st) (hk : k < l.length) (hc : l[k] = 34) : PSt l u inc (!inS) (!inS && prevAt l k != 37) (k + 1) st := by
  obtain ⟨h1, h2⟩ := h.eqn (by omega)
  refine .on hk (by omega) ?_
  rw [List.drop_eq_getElem_cons hk, hc, pp] at h2
  have e0 : ((34 : UInt8) == 44) = false := by decide
  have e1 : ((34 : UInt8) == 92) = false := by decide
  simp only [e0, e1, Bool.and_false, Bool.false_eq_true, if_false, beq_self_eq_true, if_true] at h2
  rw [← hc, seg_snoc hk h1] at h2
  rw [prev_succ hk]
  exact h2
theorem PSt.plain (h : PSt l u inc inS esc k st) (hk : k < l.length) (hc : (!inS && l[k] == 44) = false) (he : (esc && l[k] == 92) = false) (hq : l[k] ≠ 34) : PSt l u inc inS esc (k + 1) st := by
  obtain ⟨h1, h2⟩ := h.eqn (by omega)
  refine .on hk (by omega) ?_
  have hq' : (l[k] == 34) = false := by simpa using hq
  rw [List.drop_eq_getElem_cons hk, pp] at h2
  simp only [hc, he, hq', Bool.false_eq_true, if_false] at h2
  rw [seg_snoc hk h1] at h2
  rw [prev_succ hk]
  exact h2
theorem PSt.done (h : PSt l u inc inS esc k st) (hk : l.length < k) : k = l.length + 1 ∧ (if inS then (3, false) else (u, inc)) = ppAll l := by
  rcases h with ⟨h0, _, _⟩ | ⟨h0, h1⟩
  · omega
  · exact ⟨h0, h1⟩
end

/-- what a member does, by its name, its value and whether there is one -/
def stepOf (key item : List UInt8) (has : Bool) (u : Int) (inc : Bool) : Option (Int × Bool) :=
  if key = [] ∨ (has = true ∧ item = []) then none
  else if key = [117] then (if has then memU item u inc else some (u, inc))
  else if key = [105] then (if has = false ∨ item = [63, 49] then some (u, true) else if item = [63, 48] then some (u, false) else some (u, inc))
  else some (u, inc)
theorem memStep_of {s m key item : List UInt8} (h1 : m = (Lib.trimSpace s).takeWhile (· != 59)) (h2 : key = m.takeWhile (· != 61)) (h3 : item = (m.dropWhile (· != 61)).tail) (u : Int) (inc : Bool) :
    memStep s u inc = stepOf key item (m.any (· == 61)) u inc := by
  subst h1 h2 h3
  rfl
end Go.Proofs.YtdgpfgbocacgeaaDoor
