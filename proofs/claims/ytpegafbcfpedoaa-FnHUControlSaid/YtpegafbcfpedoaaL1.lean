/- The plain law of FnHUControl: settings that are written as they were told are told alike. -/
import Derived.Test.YtpegafbcfpedoaaH13
namespace Go.Proofs.Ytpegafbcfpedoaa
open Go.RowKit
set_option linter.unusedVariables false

structure Qok (qs : List (Nat × Nat)) : Prop where
  nd : (qs.map Prod.fst).Nodup
  ok : ∀ p ∈ qs, p.1 < 4611686018427387904 ∧ p.2 < 4611686018427387904 ∧ ((p.1 = 8 ∨ p.1 = 51) → p.2 < 2) ∧ (p.1 < 2 ∨ 5 < p.1)
  len : qs.length ≤ 100

def setPairs (mx : Int) (dat ext : Bool) (ps : List (Nat × Nat)) : List (Nat × Nat) :=
  (if 0 ≤ mx then [(6, mx.toNat)] else []) ++ (if dat then [(51, 1)] else []) ++ (if ext then [(8, 1)] else []) ++ ps

theorem setBody_pairs (mx : Int) (dat ext : Bool) (ps : List (Nat × Nat)) : setBody mx dat ext ps = (setPairs mx dat ext ps).flatMap pairEnc := by
  unfold setBody setPairs
  by_cases h : 0 ≤ mx <;> cases dat <;> cases ext <;> simp [h]

theorem mem_setPairs {mx : Int} {dat ext : Bool} {ps : List (Nat × Nat)} {p : Nat × Nat} : p ∈ setPairs mx dat ext ps ↔ (0 ≤ mx ∧ p = (6, mx.toNat)) ∨ (dat = true ∧ p = (51, 1)) ∨ (ext = true ∧ p = (8, 1)) ∨ p ∈ ps := by
  unfold setPairs
  by_cases h : 0 ≤ mx <;> cases dat <;> cases ext <;> simp [h]

section
variable {l : List (Nat × Nat)} {mx : Int} {dat ext : Bool} {ps : List (Nat × Nat)}
theorem Told.mx_of (h : Told l mx dat ext ps) (hG : Good l) : mx = -1 ∨ (0 ≤ mx ∧ mx < 4611686018427387904) := by
  by_cases h6 : ∃ p ∈ l, p.1 = 6
  · obtain ⟨p, hp, h6⟩ := h6
    right
    have := h.m1 p hp h6
    have := (hG.ok p hp).2.1
    omega
  · left
    exact h.m0 fun p hp e => h6 ⟨p, hp, e⟩
theorem Told.ps_ok (h : Told l mx dat ext ps) (hG : Good l) : ∀ p ∈ ps, p.1 < 4611686018427387904 ∧ p.2 < 4611686018427387904 := fun p hp => by
  have := (h.mem p).1 hp
  have h2 := hG.ok p this.1
  refine ⟨?_, h2.2.1⟩
  have := h2.1
  unfold IdOk at this
  omega
theorem asc_nodup (ha : Asc ps) : (ps.map Prod.fst).Nodup := by
  refine List.Pairwise.imp (R := (· < ·)) (fun h => Nat.ne_of_lt h) ?_
  rw [List.pairwise_map]
  exact ha
theorem asc_nodup' (ha : Asc ps) : ps.Nodup := by
  refine List.Pairwise.imp (R := fun (a b : Nat × Nat) => a.1 < b.1) (fun h e => by rw [e] at h; exact Nat.lt_irrefl _ h) ha
theorem nodup_len' {ks l : List (Nat × Nat)} (hn : ks.Nodup) (hs : ∀ k ∈ ks, k ∈ l) : ks.length ≤ l.length := by
  induction ks generalizing l with
  | nil => simp
  | cons k ks ih =>
    have h1 := List.nodup_cons.1 hn
    have hk := hs k (by simp)
    have := ih (l := l.erase k) h1.2 (fun x hx => (List.mem_erase_of_ne (fun (e : x = k) => h1.1 (by rw [← e]; exact hx))).2 (hs x (by simp [hx])))
    rw [List.length_erase_of_mem hk] at this
    have : 0 < l.length := List.length_pos_of_mem hk
    simp only [List.length_cons]
    omega
theorem Told.ps_len (h : Told l mx dat ext ps) (hG : Good l) : ps.length ≤ 5 :=
  Nat.le_trans (nodup_len' (asc_nodup' h.asc) fun k hk => ((h.mem k).1 hk).1) hG.len
theorem Told.qok (h : Told l mx dat ext ps) (hG : Good l) : Qok (setPairs mx dat ext ps) where
  nd := by
    have hs := asc_nodup h.asc
    have ho : ∀ i ∈ ps.map Prod.fst, Oth i := by
      intro i hi
      obtain ⟨p, hp, rfl⟩ := List.mem_map.1 hi
      exact ((h.mem p).1 hp).2
    have h6 : 6 ∉ ps.map Prod.fst := fun hh => (ho 6 hh).1 rfl
    have h8 : 8 ∉ ps.map Prod.fst := fun hh => (ho 8 hh).2.1 rfl
    have h51 : 51 ∉ ps.map Prod.fst := fun hh => (ho 51 hh).2.2 rfl
    unfold setPairs
    simp only [List.mem_map, not_exists] at h6 h8 h51
    by_cases h0 : 0 ≤ mx <;> cases dat <;> cases ext <;> simp [h0, hs] <;> (try (refine ⟨?_, ?_⟩)) <;> (try (refine ⟨?_, ?_⟩)) <;> (intro x hx; first | exact h6 _ ⟨hx, rfl⟩ | exact h8 _ ⟨hx, rfl⟩ | exact h51 _ ⟨hx, rfl⟩)
  ok := by
    intro p hp
    rcases mem_setPairs.1 hp with ⟨h0, rfl⟩ | ⟨_, rfl⟩ | ⟨_, rfl⟩ | hp
    · have := h.mx_of hG
      simp only
      refine ⟨by omega, by omega, by omega, by omega⟩
    · simp
    · simp
    · have h1 := h.ps_ok hG p hp
      have h2 := (h.mem p).1 hp
      have h3 := (hG.ok p h2.1)
      refine ⟨h1.1, h1.2, h3.2.2, ?_⟩
      have := h3.1
      unfold IdOk at this
      omega
  len := by
    have := h.ps_len hG
    unfold setPairs
    by_cases h0 : 0 ≤ mx <;> cases dat <;> cases ext <;> simp [h0] <;> omega

theorem asc_ext {ps ps' : List (Nat × Nat)} (h : Asc ps) (h' : Asc ps') (hm : ∀ p, p ∈ ps ↔ p ∈ ps') : ps = ps' := by
  have hp : ps.Perm ps' := (List.perm_ext_iff_of_nodup (asc_nodup' h) (asc_nodup' h')).2 hm
  refine List.Perm.eq_of_pairwise (le := fun a b : Nat × Nat => a.1 < b.1) (fun a b _ _ h1 h2 => ?_) h h' hp
  omega

theorem Told.same (h : Told l mx dat ext ps) (hG : Good l) {mx' : Int} {dat' ext' : Bool} {ps' : List (Nat × Nat)} (h' : Told (setPairs mx dat ext ps) mx' dat' ext' ps') : mx' = mx ∧ dat' = dat ∧ ext' = ext ∧ ps' = ps := by
  have ho : ∀ p ∈ ps, Oth p.1 := fun p hp => ((h.mem p).1 hp).2
  refine ⟨?_, ?_, ?_, ?_⟩
  · rcases h.mx_of hG with e | e
    · rw [e]
      refine h'.m0 fun p hp h6 => ?_
      rcases mem_setPairs.1 hp with ⟨h0, _⟩ | ⟨_, rfl⟩ | ⟨_, rfl⟩ | hp
      · omega
      · simp at h6
      · simp at h6
      · exact (ho p hp).1 h6
    · have := h'.m1 (6, mx.toNat) (mem_setPairs.2 (.inl ⟨e.1, rfl⟩)) rfl
      simp only at this
      omega
  · rw [h'.d, Bool.eq_iff_iff, decide_eq_true_eq, mem_setPairs]
    constructor
    · rintro (⟨_, hh⟩ | ⟨hh, _⟩ | ⟨_, hh⟩ | hh)
      · simp at hh
      · exact hh
      · simp at hh
      · exact absurd rfl (ho _ hh).2.2
    · intro hh
      exact .inr (.inl ⟨hh, rfl⟩)
  · rw [h'.e, Bool.eq_iff_iff, decide_eq_true_eq, mem_setPairs]
    constructor
    · rintro (⟨_, hh⟩ | ⟨_, hh⟩ | ⟨hh, _⟩ | hh)
      · simp at hh
      · simp at hh
      · exact hh
      · exact absurd rfl (ho _ hh).2.1
    · intro hh
      exact .inr (.inr (.inl ⟨hh, rfl⟩))
  · refine asc_ext h'.asc h.asc fun p => ?_
    rw [h'.mem, mem_setPairs]
    constructor
    · rintro ⟨⟨_, rfl⟩ | ⟨_, rfl⟩ | ⟨_, rfl⟩ | hp, h1⟩
      · exact absurd rfl h1.1
      · exact absurd rfl h1.2.2
      · exact absurd rfl h1.2.1
      · exact hp
    · intro hp
      exact ⟨.inr (.inr (.inr hp)), ho p hp⟩
end
end Go.Proofs.Ytpegafbcfpedoaa
