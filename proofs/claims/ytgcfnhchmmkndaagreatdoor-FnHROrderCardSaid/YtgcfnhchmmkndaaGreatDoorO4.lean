/- laws.FnHROrder: its walk. -/
import Derived.Test.YtgcfnhchmmkndaaGreatDoorO2
import Derived.Test.YtgcfnhchmmkndaaGreatDoorO3
import Derived.Test.YtgcfnhchmmkndaaGreatDoorL11
import Derived.Test.YtgcfnhchmmkndaaGreatDoorT1
namespace Go.Proofs.YtgcfnhchmmkndaaGreatDoor
open Go.RowKit Go.Maps
set_option linter.unusedVariables false
set_option maxRecDepth 100000

/-- the other order of a list that was split -/
def turnL (a b : List (BS × BS)) (k : Nat) : List (BS × BS) := a.drop k ++ (a.take k ++ b)
theorem turn_mem {a b b' : List (BS × BS)} (h : SameBy b b') (k : Nat) (q : BS × BS) : q ∈ turnL a b' k ↔ q ∈ a ++ b := by
  unfold turnL
  have e : q ∈ a ↔ q ∈ a.take k ∨ q ∈ a.drop k := by rw [← List.mem_append, List.take_append_drop]
  rw [List.mem_append, List.mem_append, List.mem_append, h.mem, e]
  constructor
  · rintro (h | h | h)
    · exact .inl (.inr h)
    · exact .inl (.inl h)
    · exact .inr h
  · rintro ((h | h) | h)
    · exact .inr (.inl h)
    · exact .inl h
    · exact .inr (.inr h)
theorem turn_len {a b b' : List (BS × BS)} (h : b'.length = b.length) (k : Nat) : (turnL a b' k).length = a.length + b.length := by
  unfold turnL
  rw [List.length_append, List.length_append, List.length_drop, List.length_take]
  omega
/-- THE LAW: the other order is read as the same request -/
theorem turn_same {l a b b' : List (BS × BS)} (hm : MkL l) (hs : splitF [] [] l = some (a, b)) (hb : SameBy b b') (k : Nat) {q : RQ} (hq : rqL l = some q) :
    MkL (turnL a b' k) ∧ ∃ q', rqL (turnL a b' k) = some q' ∧ q.meth = q'.meth ∧ urlOf q = urlOf q' ∧ q.proto = q'.proto ∧ q.host = q'.host ∧ q.uri = q'.uri ∧ q.len = q'.len ∧ headsOf q.H = headsOf q'.H := by
  obtain ⟨h1, h2, h3⟩ := splitF_ok l [] [] a b (fun q hq => by cases hq) (fun q hq => by cases hq) hs
  have h1 : l = a ++ b := h1
  have hm' : MkL (turnL a b' k) := hm.same fun x => by rw [turn_mem hb, h1]
  refine ⟨hm', ?_⟩
  rcases same_l hm with ⟨e1, _⟩ | ⟨q0, r, e1, e2, f1, f2, f3, f4, f5, f6, f7⟩
  · rw [e1] at hq; cases hq
  · rw [e1] at hq
    injection hq with hq
    subst hq
    have hr : hqLs (turnL a b' k) = some r := by
      unfold hqLs at e2 ⊢
      obtain ⟨x, hx1, hx2⟩ := Option.bind_eq_some_iff.1 e2
      rw [h1] at hx1
      obtain ⟨y, hy1, hy2⟩ := order_law (one' := a.drop k ++ a.take k) h2 h3 (List.perm_append_comm.trans (by rw [List.take_append_drop])) hb hx1
      have e : turnL a b' k = a.drop k ++ a.take k ++ b' := by unfold turnL; rw [List.append_assoc]
      rw [e, hy1]
      show hqOf y = some r
      rw [hy2]
      exact hx2
    rcases same_l hm' with ⟨_, e4⟩ | ⟨q', r', e3, e4, g1, g2, g3, g4, g5, g6, g7⟩
    · rw [hr] at e4; cases e4
    · rw [hr] at e4
      injection e4 with e4
      subst e4
      exact ⟨q', e3, f1.trans g1.symm, f2.trans g2.symm, f3.trans g3.symm, f4.trans g4.symm, f5.trans g5.symm, f6.trans g6.symm, f7.trans g7.symm⟩
theorem rqi_of {l : List (BS × BS)} (hf : ∀ p ∈ l, fldQ p) (hn : l.length ≤ 100) {q : RQ} (e : rqL l = some q) : ∀ x ∈ q.H, x.2.length ≤ 200 := by
  unfold rqL at e
  cases hs : psAll true vOkQ l with
  | none => rw [hs] at e; cases e
  | some x =>
    obtain ⟨s, cl⟩ := x
    rw [hs] at e
    have h := pb_all hf hs
    have e : rqOf s cl = some q := e
    have hd : ∀ x ∈ dropPs s.H, x.2.length ≤ 200 := fun x hx => by
      have hm : x ∈ s.H := by
        unfold dropPs delH at hx
        exact (List.mem_filter.1 (List.mem_filter.1 (List.mem_filter.1 (List.mem_filter.1 hx).1).1).1).1
      have := (h.items x hm).1
      omega
    have hH : ∀ x ∈ cookH (dropPs s.H), x.2.length ≤ 200 := by
      unfold cookH
      split
      · exact hd
      · exact putH_items hd (by simp)
    unfold rqOf at e
    simp only at e
    repeat' (split at e)
    all_goals first
      | (cases e; done)
      | (injection e with e
         subst e
         exact hH)
theorem heads_items2 {H : AL} {m : Nat} (h : ∀ q ∈ H, q.2.length ≤ m) : ∀ q ∈ headsOf H, q.2.length ≤ m := fun q hq => by
  unfold headsOf at hq
  obtain ⟨k, _, rfl⟩ := List.mem_map.1 hq
  exact getH_items h k
theorem heads_len2 (H : AL) : (headsOf H).length = H.length := by unfold headsOf; rw [List.length_map, sortK_len, List.length_map]
/-- three slices in a block of their own, in a world that has grown -/
def CW (X Y : World) (B : Nat) (s0 s1 s2 : Value) : Prop := Below X.heap.size X Y ∧ B < Y.heap.size ∧ Y.cell? ⟨B, 0, none⟩ = some s0 ∧ Y.cell? ⟨B, 1, none⟩ = some s1 ∧ Y.cell? ⟨B, 2, none⟩ = some s2
section
variable {X Y : World} {B : Nat} {s0 s1 s2 : Value}
theorem CW.made (hb : Below X.heap.size X Y) (s0 s1 s2 : Value) : CW X (Y.alloc (.cells #[s0, s1, s2] 26)) Y.heap.size s0 s1 s2 := by
  have hc := cells_new Y [s0, s1, s2] 26
  refine ⟨hb.alloc hb.size _, by simp, ?_, ?_, ?_⟩
  · have := hc 0 _ rfl; rwa [Addr.add_lit] at this
  · have := hc 1 _ rfl; rwa [Addr.add_lit] at this
  · have := hc 2 _ rfl; rwa [Addr.add_lit] at this
theorem CW.al (h : CW X Y B s0 s1 s2) (o : Obj) : CW X (Y.alloc o) B s0 s1 s2 := ⟨h.1.alloc h.1.size o, by have := h.2.1; simp; omega, bka h.2.2.1, bka h.2.2.2.1, bka h.2.2.2.2⟩
theorem CW.drew (h : CW X Y B s0 s1 s2) : CW X Y.drew B s0 s1 s2 := ⟨h.1.drew, h.2.1, h.2.2.1, h.2.2.2.1, h.2.2.2.2⟩
end
abbrev zc31 : Array Value := #[str [], str [], str [], str [], str [], .int .i64 0, .slice none 0 0, .slice none 0 0]
/-- the turned list, made -/
theorem turn_at (X : World) (A5 A6 : Option Addr) (c5 c6 k : Nat) (a b : List (BS × BS)) {base1 base2 : Nat} (h1 : X.ownsRow base1 42 2 (.slice A5 a.length c5) a.length (fc a)) (h2 : X.ownsRow base2 42 2 (.slice A6 b.length c6) b.length (fc b))
    (ha : 0 < a.length) (hk : k < a.length) (hn : a.length + b.length ≤ 100) {g : Nat} (hg : A5 = some ⟨g, 0, none⟩) {A : Option Addr} (hA : (if c5 = k then some (⟨g, 0, none⟩ : Addr) else some ⟨g, k * 2, none⟩) = A) (Y : World) (B : Nat)
    (hW : CW X Y B (.slice A (a.length - k) (c5 - k)) (.slice (some ⟨g, 0, none⟩) k c5) (.slice A6 b.length c6)) :
    Calls Tryz.prog 14 #[.slice (some ⟨B, 0, none⟩) 3 3] Y (fun e w' => ∃ A' c', e = .returned (.slice A' (turnL a b k).length c') ∧ w'.ownsRow Y.heap.size 42 2 (.slice A' (turnL a b k).length c') (turnL a b k).length (fc (turnL a b k)) ∧ Below Y.heap.size Y w' ∧ Below X.heap.size X w') := by
  subst hg
  obtain ⟨hb, hB, e0, e1, e2⟩ := hW
  have r1 := (reads_from h1 rfl (Nat.le_of_lt hk)).below hb |>.more hb.size
  rw [hA] at r1
  have r2 := (Reads.of_own (row_shrink (m := k) h1 (Nat.le_of_lt hk))).below hb |>.more hb.size
  rw [fc_take] at r2
  have r3 := (Reads.of_own h2).below hb |>.more hb.size
  have hfl : flatP [⟨A, c5 - k, a.drop k⟩, ⟨some ⟨g, 0, none⟩, c5, a.take k⟩, ⟨A6, c6, b⟩] = turnL a b k := by simp [flatP, turnL]
  have hln : (turnL a b k).length = a.length + b.length := turn_len (b := b) rfl k
  have ld : (a.drop k).length = a.length - k := List.length_drop
  have lt : (a.take k).length = k := by rw [List.length_take]; omega
  have K := concat_at [⟨A, c5 - k, a.drop k⟩, ⟨some ⟨g, 0, none⟩, c5, a.take k⟩, ⟨A6, c6, b⟩] B 3 Y hB (fun j hj => by
    match j, hj with
    | 0, _ => show Y.cell? ⟨B, 0, none⟩ = some (.slice A (a.drop k).length (c5 - k)); rw [ld]; exact e0
    | 1, _ => show Y.cell? ⟨B, 1, none⟩ = some (.slice (some ⟨g, 0, none⟩) (a.take k).length c5); rw [lt]; exact e1
    | 2, _ => exact e2) (fun q hq => by
    simp only [List.mem_cons, List.not_mem_nil, or_false] at hq
    rcases hq with rfl | rfl | rfl
    · show Reads Y Y.heap.size 2 A (a.drop k).length (fc (a.drop k)); rw [ld]; exact r1
    · show Reads Y Y.heap.size 2 (some ⟨g, 0, none⟩) (a.take k).length (fc (a.take k)); rw [lt]; exact r2
    · exact r3) (by simp) (by rw [hfl, hln]; omega) (by rw [hfl, hln]; omega)
  rw [show List.length [(⟨A, c5 - k, a.drop k⟩ : Part), ⟨some ⟨g, 0, none⟩, c5, a.take k⟩, ⟨A6, c6, b⟩] = 3 from rfl] at K
  refine K.mono ?_
  rintro e w' ⟨A', c', he, hr, hb2⟩
  rw [hfl] at he hr
  exact ⟨A', c', he, hr, hb2, Below.next hb hb.size hb2⟩
end Go.Proofs.YtgcfnhchmmkndaaGreatDoor
