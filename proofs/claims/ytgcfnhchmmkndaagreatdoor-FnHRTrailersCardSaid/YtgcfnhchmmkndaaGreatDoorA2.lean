/- http.CanonicalHeaderKey. -/
import Derived.Test.YtgcfnhchmmkndaaGreatDoorA1
import Derived.Laws.IdiomStrings
import Derived.IntWalk
namespace Go.Proofs.YtgcfnhchmmkndaaGreatDoor
open Go.RowKit
set_option linter.unusedVariables false
set_option maxRecDepth 100000

abbrev str (l : List UInt8) : Value := .string ⟨l.toArray⟩
theorem str_of (s : ByteArray) : Value.string s = str s.data.toList := by simp [str]

/-- a capital at the beginning and behind hyphens -/
def canonC (up : Bool) (c : UInt8) : UInt8 := if up = true ∧ 97 ≤ c.toNat ∧ c.toNat ≤ 122 then c - 32 else if up = false ∧ 65 ≤ c.toNat ∧ c.toNat ≤ 90 then c + 32 else c
def upAt (l : List UInt8) (j : Nat) : Bool := if j = 0 then true else decide ((l.getD (j - 1) 0).toNat = 45)
def canonAt (l : List UInt8) (j : Nat) : UInt8 := canonC (upAt l j) (l.getD j 0)
def canonOut (l : List UInt8) : List UInt8 := (List.range l.length).map (canonAt l)
def tokAll (l : List UInt8) : Bool := l.all fun c => tokN c.toNat
def canonL (l : List UInt8) : List UInt8 := if tokAll l then canonOut l else l

theorem canonOut_len (l : List UInt8) : (canonOut l).length = l.length := by simp [canonOut]
theorem canonOut_at (l : List UInt8) (j : Nat) (h : j < (canonOut l).length) : (canonOut l)[j] = canonAt l j := by simp [canonOut]
theorem canonL_len (l : List UInt8) : (canonL l).length = l.length := by unfold canonL; split <;> simp [canonOut_len]

def mixAt (l : List UInt8) (k j : Nat) : UInt8 := if j < k then canonAt l j else l.getD j 0

theorem conv_ex (s : ByteArray) (w : World) : ∃ cap w1, (convert 9 22 (.string s)).run Tryz.prog w = .ok (.slice (some ⟨w.heap.size, 0, none⟩) s.size cap) w1 ∧ s.size ≤ cap ∧ w1.heap.size = w.heap.size + 1 ∧
    (∀ j, j < s.size → w1.cell? ⟨w.heap.size, j, none⟩ = some (.int .u8 ((s.data.toList.getD j 0).toNat : Int))) ∧ (∀ j, j < s.size → w1.frozen? ⟨w.heap.size, j, none⟩ = false) ∧ Below w.heap.size w w1 := by
  refine ⟨_, _, run_bytes_of_string w 9 22 5 s Tryz.underlying9 Tryz.underlying22 Tryz.underlying5, grownCap_ge _ _ _ _, by simp, fun j hj => ?_, fun j hj => ?_, ?_⟩
  · have h := World.cell?_alloc_mark w.drew (bytesRow s (grownCap w s.size 0 5)) 5 ((bytesRow s (grownCap w s.size 0 5)).size, (bytesRow s (grownCap w s.size 0 5)).size + 1) j
    have hj' : j < s.data.size := hj
    rw [bytesRow_at s _ j hj'] at h
    rw [show w.drew.heap.size = w.heap.size from rfl] at h
    rw [h]
    simp [List.getD, List.getElem?_eq_getElem (show j < s.data.toList.length by simpa using hj')]
  · have h := World.frozen?_alloc_mark w.drew (bytesRow s (grownCap w s.size 0 5)) 5 (bytesRow s (grownCap w s.size 0 5)).size ((bytesRow s (grownCap w s.size 0 5)).size + 1) j
    rw [show w.drew.heap.size = w.heap.size from rfl] at h
    rw [h]
    have hj' : j < s.data.size := hj
    simp [bytesRow]
    omega
  · exact ((Below.refl w.heap.size w).drew).alloc (Nat.le_refl _) _

structure Cst (w wx : World) (l : List UInt8) (n k : Nat) : Prop where
  cells : ∀ j, j < n → wx.cell? ⟨w.heap.size, j, none⟩ = some (.int .u8 ((mixAt l k j).toNat : Int))
  fz : ∀ j, j < n → wx.frozen? ⟨w.heap.size, j, none⟩ = false
  bel : Below w.heap.size w wx
  tok : ∀ j, j < k → tokN (l.getD j 0).toNat = true

theorem Cst.start {w w1 : World} {l : List UInt8} {n : Nat} (h1 : ∀ j, j < n → w1.cell? ⟨w.heap.size, j, none⟩ = some (.int .u8 ((l.getD j 0).toNat : Int))) (h2 : ∀ j, j < n → w1.frozen? ⟨w.heap.size, j, none⟩ = false) (h3 : Below w.heap.size w w1) : Cst w w1 l n 0 :=
  ⟨fun j hj => by rw [h1 j hj]; simp [mixAt], h2, h3, fun j hj => by omega⟩

/-- a byte that stays -/
theorem Cst.stay {w wx : World} {l : List UInt8} {n k : Nat} (h : Cst w wx l n k) (he : canonAt l k = l.getD k 0) (ht : tokN (l.getD k 0).toNat = true) : Cst w wx l n (k + 1) where
  cells := fun j hj => by
    rw [h.cells j hj]
    unfold mixAt
    rcases Nat.lt_trichotomy j k with h1 | h1 | h1
    · rw [if_pos h1, if_pos (by omega)]
    · subst h1; rw [if_neg (by omega), if_pos (by omega), he]
    · rw [if_neg (by omega), if_neg (by omega)]
  fz := h.fz
  bel := h.bel
  tok := fun j hj => by
    rcases Nat.lt_succ_iff_lt_or_eq.1 hj with h1 | h1
    · exact h.tok j h1
    · rw [h1]; exact ht
theorem Cst.put {w wx : World} {l : List UInt8} {n k : Nat} {x : Int} (h : Cst w wx l n k) (hk : k < n) (he : ((canonAt l k).toNat : Int) = x) (ht : tokN (l.getD k 0).toNat = true) : Cst w (wx.setCell ⟨w.heap.size, k, none⟩ (.int .u8 x)) l n (k + 1) where
  cells := fun j hj => by
    by_cases e : j = k
    · subst e
      rw [World.cell?_setCell_same _ _ _ (h.cells j hj), ← he]
      simp [mixAt]
    · rw [World.cell?_setCell_other _ _ _ _ (by simp), h.cells j hj]
      unfold mixAt
      rcases Nat.lt_or_gt_of_ne e with h1 | h1
      · rw [if_pos h1, if_pos (by omega)]
      · rw [if_neg (by omega), if_neg (by omega)]
  fz := fun j hj => by have := h.fz j hj; simpa using this
  bel := h.bel.setCell (Nat.le_refl _) _
  tok := fun j hj => by
    rcases Nat.lt_succ_iff_lt_or_eq.1 hj with h1 | h1
    · exact h.tok j h1
    · rw [h1]; exact ht

set_option maxHeartbeats 4000000 in
theorem canon_at (s : ByteArray) (w : World) (hs : s.size ≤ 2147483648) : Calls Tryz.prog 78 #[.string s] w fun e w' => e = .returned (str (canonL s.data.toList)) ∧ Below w.heap.size w w' := by
  obtain ⟨cap, w1, hconv, hcap, hz1, hc1, hf1, hb1⟩ := conv_ex s w
  obtain ⟨l, hl⟩ : ∃ l, s.data.toList = l := ⟨_, rfl⟩
  rw [hl] at hc1 ⊢
  have hC := Cst.start hc1 hf1 hb1
  have HC := Lib.hid hC
  have HL := Lib.hid hl
  have hln : l.length = s.size := by rw [← hl]; simp
  have HLN := Lib.hid hln
  clear hC hc1 hf1 hb1 hl hln hz1
  obtain ⟨n, hn⟩ : ∃ n, s.size = n := ⟨_, rfl⟩
  rw [hn] at hconv hcap hs HC HLN
  have HN := Lib.hid hn
  clear hn
  go_enter Tryz.func78, Tryz.ntmps78
  go_wp2_with fail
  go_loopw [4, 11] (fun u i wx => ∃ k : Nat, k ≤ n ∧ i = .int .i64 (k : Int) ∧ u = .bool (upAt l k) ∧ Cst w wx l n k) (fun _ i _ => n - (intOf i).toNat)
  case atStart => exact ⟨0, by omega, rfl, rfl, HC.out⟩
  case round =>
    clear HC hconv
    obtain ⟨k, hk, rfl, rfl, hS⟩ := hrel
    have HS := Lib.hid hS
    clear hS
    rcases Nat.lt_or_ge k n with hkl | hkl
    · have e0 := HS.out.cells k hkl
      have z0 := HS.out.fz k hkl
      have em : mixAt l k k = l.getD k 0 := by simp [mixAt]
      rw [em] at e0
      have hua : upAt l (k + 1) = decide ((l.getD k 0).toNat = 45) := by simp [upAt]
      have hca : canonAt l k = canonC (upAt l k) (l.getD k 0) := rfl
      have HNT : Hid (tokN (l.getD k 0).toNat = false → tokAll l = false) := Lib.hid (by
        intro hf
        unfold tokAll
        rw [List.all_eq_false]
        have hk2 : k < l.length := by rw [HLN.out]; exact hkl
        have hg : l.getD k 0 = l[k] := by simp [List.getD, List.getElem?_eq_getElem hk2]
        refine ⟨l.getD k 0, ?_, by rw [hf]; decide⟩
        rw [hg]
        exact List.getElem_mem hk2)
      obtain ⟨x, hx⟩ : ∃ x, l.getD k 0 = x := ⟨_, rfl⟩
      rw [hx] at e0 hua hca HNT
      have HX := Lib.hid hx
      obtain ⟨c, hc⟩ : ∃ c, x.toNat = c := ⟨_, rfl⟩
      have hc256 : c < 256 := hc ▸ x.toNat_lt
      rw [hc] at e0 hua HNT
      have HCx := Lib.hid hc
      obtain ⟨t, ht⟩ : ∃ t, tokN c = t := ⟨_, rfl⟩
      have KT := fun w => token_at c hc256 w
      rw [ht] at KT HNT
      have HT := Lib.hid ht
      have HUA := Lib.hid hua
      have HCA := Lib.hid hca
      obtain ⟨u, hu⟩ : ∃ u, upAt l k = u := ⟨_, rfl⟩
      rw [hu] at HCA ⊢
      clear hx hc ht hua hca em
      cases t
      · go_wp2_with ((with_reducible refine (KT _).mono ?_); rintro e w2 ⟨rfl, rfl⟩)
        go_ret
        refine ⟨?_, HS.out.bel⟩
        unfold canonL
        rw [HNT.out trivial, str_of, HL.out]
        rfl
      · have hcase : (u = true ∧ 97 ≤ c ∧ c ≤ 122) ∨ (u = false ∧ 65 ≤ c ∧ c ≤ 90) ∨ (¬ (u = true ∧ 97 ≤ c ∧ c ≤ 122) ∧ ¬ (u = false ∧ 65 ≤ c ∧ c ≤ 90)) := by
          cases u <;> simp <;> omega
        have f45 : ((c : Int) == 45) = decide (c = 45) := by rw [Bool.eq_iff_iff]; simp; omega
        rcases hcase with ⟨rfl, h1, h2⟩ | ⟨rfl, h1, h2⟩ | ⟨h1, h2⟩
        · have hv : (((canonAt l k).toNat : Nat) : Int) = (c : Int) - 32 := by
            rw [HCA.out]
            unfold canonC
            rw [HCx.out, if_pos ⟨rfl, h1, h2⟩]
            have : (x - 32).toNat = c - 32 := by rw [UInt8.toNat_sub_of_le _ _ (by rw [UInt8.le_iff_toNat_le, HCx.out]; exact Nat.le_trans (by decide) h1), HCx.out]; rfl
            rw [this]; omega
          have HV := Lib.hid hv
          clear hv
          go_wp2_with ((with_reducible refine (KT _).mono ?_); rintro e w2 ⟨rfl, rfl⟩)
          exact ⟨⟨k + 1, hkl, by go_num, by rw [HUA.out], HS.out.put hkl HV.out (by rw [HX.out, HCx.out]; exact HT.out)⟩, by simp [intOf]; omega⟩
        · have hv : (((canonAt l k).toNat : Nat) : Int) = (c : Int) + 32 := by
            rw [HCA.out]
            unfold canonC
            rw [HCx.out, if_neg (by simp), if_pos ⟨rfl, h1, h2⟩]
            have : (x + 32).toNat = c + 32 := by rw [UInt8.toNat_add, HCx.out]; show (c + 32) % 256 = _; omega
            rw [this]; omega
          have HV := Lib.hid hv
          clear hv
          go_wp2_with ((with_reducible refine (KT _).mono ?_); rintro e w2 ⟨rfl, rfl⟩)
          exact ⟨⟨k + 1, hkl, by go_num, by rw [HUA.out], HS.out.put hkl HV.out (by rw [HX.out, HCx.out]; exact HT.out)⟩, by simp [intOf]; omega⟩
        · have hv : canonAt l k = l.getD k 0 := by
            rw [HCA.out]
            unfold canonC
            rw [HCx.out, if_neg h1, if_neg h2, HX.out]
          have HV := Lib.hid hv
          clear hv
          have HS' := Lib.hid (HS.out.stay HV.out (by rw [HX.out, HCx.out]; exact HT.out))
          cases u
          · have h3 : c < 65 ∨ 90 < c := by simp at h2; omega
            clear h1 h2
            rcases h3 with h3 | h3
            all_goals
              go_wp2_with ((with_reducible refine (KT _).mono ?_); rintro e w2 ⟨rfl, rfl⟩)
              all_goals first
                | omega
                | exact ⟨⟨k + 1, hkl, by go_num, by rw [HUA.out], HS'.out⟩, by simp [intOf]; omega⟩
          · have h3 : c < 97 ∨ 122 < c := by simp at h1; omega
            clear h1 h2
            rcases h3 with h3 | h3
            all_goals
              go_wp2_with ((with_reducible refine (KT _).mono ?_); rintro e w2 ⟨rfl, rfl⟩)
              all_goals first
                | omega
                | exact ⟨⟨k + 1, hkl, by go_num, by rw [HUA.out], HS'.out⟩, by simp [intOf]; omega⟩
    · have e : k = n := by omega
      subst e
      have hback := run_convert_bytes_back wr 22 9 5 ⟨w.heap.size, 0, none⟩ cap (canonOut l) Tryz.underlying22 Tryz.underlying5 Tryz.underlying9 (fun j hj => by
        have hj' : j < k := by rw [canonOut_len, HLN.out] at hj; exact hj
        rw [canonOut_at, Addr.add_lit, Nat.zero_add, HS.out.cells j hj']
        simp [mixAt, hj'])
      rw [canonOut_len, HLN.out] at hback
      have hr : str (canonOut l) = str (canonL l) := by
        have : tokAll l = true := by
          unfold tokAll
          rw [List.all_eq_true]
          intro x hx
          obtain ⟨j, hj, rfl⟩ := List.getElem_of_mem hx
          have := HS.out.tok j (by rw [HLN.out] at hj; exact hj)
          rwa [show l.getD j 0 = l[j] by simp [List.getD, List.getElem?_eq_getElem hj]] at this
        unfold canonL
        rw [this]
        rfl
      have HRR := Lib.hid hr
      clear hr
      go_wp2_with fail
      go_ret
      exact ⟨congrArg _ HRR.out, HS.out.bel⟩
end Go.Proofs.YtgcfnhchmmkndaaGreatDoor
