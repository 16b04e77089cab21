/- internal/strconv.ParseUint at base 10 and 63 bits, told by parseCL. -/
import Derived.Test.YtgcfnhchmmkndaaGreatDoorC5
import Derived.Test.YtgcfnhchmmkndaaGreatDoorG1
import Derived.Test.YtgcfnhchmmkndaaGreatDoorSh3
import Derived.Lib.ConvBytes
namespace Go.Proofs.YtgcfnhchmmkndaaGreatDoor
open Go.RowKit Go.Maps
set_option linter.unusedVariables false
set_option maxRecDepth 100000

/-- a number of at most 63 bits, or one of two errors -/
def PU63 (w : World) (l : BS) (e : Ending) (w' : World) : Prop :=
  Below w.heap.size w w' ∧ ((∃ n : Nat, parseCL l = some n ∧ e = .returned (.tuple #[.int .u64 (n : Int), .nilIface])) ∨ (parseCL l = none ∧ ∃ (v : Int) (t : Int), (t = 1 ∨ t = 2) ∧ e = .returned (.tuple #[.int .u64 v, .iface 156 (.int .i64 t)])))
theorem PU63.err {w w' : World} {l : BS} (hb : Below w.heap.size w w') (hn : parseCL l = none) (v t : Int) (ht : t = 1 ∨ t = 2) : PU63 w l (.returned (.tuple #[.int .u64 v, .iface 156 (.int .i64 t)])) w' := ⟨hb, .inr ⟨hn, v, t, ht, rfl⟩⟩
theorem PU63.num {w w' : World} {l : BS} {n : Nat} (hb : Below w.heap.size w w') (hn : parseCL l = some n) : PU63 w l (.returned (.tuple #[.int .u64 (n : Int), .nilIface])) w' := ⟨hb, .inl ⟨n, hn, rfl⟩⟩
/-- the digits that have been read -/
structure PuAt (l : BS) (k a : Nat) : Prop where
  le : k ≤ l.length
  val : decN (l.take k) = a
  dig : (l.take k).all digitB = true
  max : a ≤ 9223372036854775807
theorem PuAt.start (l : BS) : PuAt l 0 0 := ⟨by omega, rfl, rfl, by omega⟩
section
variable {l : BS} {k a : Nat} {c : UInt8}
theorem take_at (hk : k < l.length) (hc : l[k] = c) : l.take (k + 1) = l.take k ++ [c] := by rw [List.take_succ_eq_append_getElem hk, hc]
theorem PuAt.next (h : PuAt l k a) (hk : k < l.length) (hc : l[k] = c) (hd : 48 ≤ c.toNat ∧ c.toNat ≤ 57) (hm : a * 10 + (c.toNat - 48) ≤ 9223372036854775807) : PuAt l (k + 1) (a * 10 + (c.toNat - 48)) where
  le := hk
  val := by rw [take_at hk hc, decN_snoc, h.val]
  dig := by rw [take_at hk hc, List.all_append, h.dig]; simp [digitB, hd]
  max := hm
theorem PuAt.none_sign (h : PuAt l k a) (hk : k < l.length) (hc : l[k] = c) (hd : ¬ (48 ≤ c.toNat ∧ c.toNat ≤ 57)) : parseCL l = none := by
  unfold parseCL
  rw [if_neg]
  intro e
  simp only [Bool.and_eq_true] at e
  have := List.all_eq_true.1 e.1.1 c (hc ▸ List.getElem_mem hk)
  unfold digitB at this
  exact hd (by simpa using this)
theorem PuAt.none_great (h : PuAt l k a) (hk : k < l.length) (hc : l[k] = c) (hm : 9223372036854775807 < a * 10 + (c.toNat - 48)) : parseCL l = none := by
  unfold parseCL
  rw [if_neg]
  intro e
  simp only [Bool.and_eq_true, decide_eq_true_eq] at e
  have h1 := decN_app (l.take (k + 1)) (l.drop (k + 1))
  rw [List.take_append_drop, take_at hk hc, decN_snoc, h.val] at h1
  omega
theorem PuAt.all (h : PuAt l l.length a) (hl : l ≠ []) : parseCL l = some a := by
  have h1 := h.val
  have h2 := h.dig
  have h3 := h.max
  rw [List.take_length] at h1 h2
  unfold parseCL
  have h4 : l.isEmpty = false := by cases l with | nil => exact absurd rfl hl | cons _ _ => rfl
  rw [if_pos (by rw [h2, h4, h1]; simp; omega), h1]
end
set_option maxHeartbeats 32000000 in
theorem pu63_at (l : BS) (hl : l ≠ []) (hlen : l.length ≤ 1000000) (w : World) : Calls Tryz.prog 97 #[str l, .int .i64 10, .int .i64 63] w (PU63 w l) := by
  have hcv := Lib.run_convert_string_bytes (P := Tryz.prog) w 9 22 5 ⟨l.toArray⟩ (u := .string) Tryz.underlying9 Tryz.underlying22 Tryz.underlying5
  have hB : ∀ j, (h : j < l.length) → (Lib.bytesWorld w 5 ⟨l.toArray⟩).cell? ⟨w.heap.size, j, none⟩ = some (.int .u8 ((l[j]).toNat : Int)) := fun j hj => by
    have := Lib.bytesWorld_cell w 5 ⟨l.toArray⟩ j (by show j < l.toArray.size; simpa using hj)
    simpa [List.getD, List.getElem?_eq_getElem hj] using this
  have hb := Lib.bytesWorld_below w 5 ⟨l.toArray⟩
  have hsz : (⟨l.toArray⟩ : ByteArray).size = l.length := by show l.toArray.size = _; simp
  obtain ⟨W1, hW1⟩ : ∃ W1, W1 = Lib.bytesWorld w 5 ⟨l.toArray⟩ := ⟨_, rfl⟩
  rw [← hW1] at hcv hB hb
  rw [hsz] at hcv
  clear hW1 hsz
  have HB := Lib.hid hb
  have HC := Lib.hid hB
  have HL := Lib.hid hl
  have hmv : IntKind.u64.wrap (IntKind.u64.wrap 9223372036854775808 - 1) = 9223372036854775807 := by
    rw [IntKind.wrap_u64, IntKind.wrap_u64]
    decide
  clear hB hb
  have hle : (l == []) = false := by simpa using hl
  go_enter Tryz.func97, Tryz.ntmps97
  go_wp2_with fail
  go_loopw [12, 13, 101] (fun s12 s13 s101 wx => ∃ (k a : Nat) (x : Int), s12 = .bool false ∧ s13 = .int .u64 x ∧ s101 = .int .i64 (k : Int) ∧ wx = W1 ∧ PuAt l k a ∧ x = (a : Int)) (fun _ _ s101 _ => l.length - (intOf s101).toNat)
  case atStart => exact ⟨0, 0, 0, rfl, rfl, rfl, rfl, PuAt.start l, rfl⟩
  case round =>
    obtain ⟨k, a, x, rfl, rfl, rfl, rfl, hP, hx⟩ := hrel
    have HP := Lib.hid hP
    have HX := Lib.hid hx
    have hk := hP.le
    have ham := hP.max
    have a0 : 0 ≤ x := by omega
    have a1 : x ≤ 9223372036854775807 := by omega
    by_cases hkl : k < l.length
    · have h00 := HC.out k hkl
      obtain ⟨c, hc⟩ : ∃ c, l[k] = c := ⟨_, rfl⟩
      rw [hc] at h00
      have HCC := Lib.hid hc
      have hc256 : c.toNat < 256 := c.toNat_lt
      clear hc
      by_cases hd : 48 ≤ c.toNat ∧ c.toNat ≤ 57
      · have HD := Lib.hid hd
        obtain ⟨hd0, hd1⟩ := hd
        by_cases hcut : 1844674407370955162 ≤ a
        · have HN := Lib.hid (HP.out.none_great hkl HCC.out (by omega))
          have icut : (1844674407370955162 : Int) ≤ x := by omega
          clear hcut ham hP hx
          go_wp2_with fail
          go_ret2
          exact PU63.err HB.out HN.out 9223372036854775807 1 (.inl rfl)
        · have icut : x < 1844674407370955162 := by omega
          by_cases hov : 9223372036854775807 < a * 10 + (c.toNat - 48)
          · have HN := Lib.hid (HP.out.none_great hkl HCC.out hov)
            by_cases hw : 18446744073709551616 ≤ a * 10 + (c.toNat - 48)
            · have iov : (18446744073709551616 : Int) ≤ x * 10 + ((c.toNat : Int) - 48) := by omega
              have hwr : IntKind.u64.wrap (x * 10 + ((c.toNat : Int) - 48)) = x * 10 + ((c.toNat : Int) - 48) - 18446744073709551616 := by
                rw [IntKind.wrap_u64]
                omega
              clear hcut hov hw ham hP hx
              go_wp2_with fail
              go_ret2
              exact PU63.err HB.out HN.out 9223372036854775807 1 (.inl rfl)
            · have iov : (9223372036854775807 : Int) < x * 10 + ((c.toNat : Int) - 48) := by omega
              have iov2 : x * 10 + ((c.toNat : Int) - 48) < 18446744073709551616 := by omega
              clear hcut hov hw ham hP hx
              go_wp2_with fail
              go_ret2
              exact PU63.err HB.out HN.out 9223372036854775807 1 (.inl rfl)
          · have HN := Lib.hid (HP.out.next hkl HCC.out HD.out (by omega))
            have iov : x * 10 + ((c.toNat : Int) - 48) ≤ 9223372036854775807 := by omega
            have HE : Hid (x * 10 + ((c.toNat : Int) - 48) = ((a * 10 + (c.toNat - 48) : Nat) : Int)) := Lib.hid (by omega)
            clear hcut hov ham hP hx
            go_wp2_with fail
            refine ⟨⟨k + 1, a * 10 + (c.toNat - 48), x * 10 + ((c.toNat : Int) - 48), ?_, ?_, ?_, ?_, HN.out, HE.out⟩, ?_⟩
            all_goals first
              | rfl
              | trivial
              | go_num
              | (simp [intOf]; omega)
      · have HN := Lib.hid (HP.out.none_sign hkl HCC.out hd)
        clear ham hP hx
        have hv0 := bits_lo_u8 .or (c.toNat : Int) 32
        have hv1 := bits_hi_u8 .or (c.toNat : Int) 32
        go_wp2_with (go_at_call 126; refine (Tryz.internal_strconv_lower _ _).mono ?_; rintro e w' ⟨rfl, rfl⟩)
        all_goals go_ret2
        all_goals exact PU63.err HB.out HN.out 0 2 (.inr rfl)
    · obtain rfl : k = l.length := by omega
      have HN := Lib.hid (HP.out.all HL.out)
      subst hx
      clear ham hP a0 a1
      go_wp2_with fail
      go_ret2
      exact PU63.num HB.out HN.out

/-- what the two variables of errors hold -/
def ErrC (w : World) : Prop := (∃ ev, w.cell? ⟨3, 0, none⟩ = some ev ∧ (ev = .nilIface ∨ ∃ te pe, ev = .iface te pe)) ∧ ∃ ev, w.cell? ⟨4, 0, none⟩ = some ev ∧ (ev = .nilIface ∨ ∃ te pe, ev = .iface te pe)
theorem ErrC.below {B : Nat} {w w' : World} (h : ErrC w) (k : Below B w w') (hB : 5 ≤ B) : ErrC w' := by
  obtain ⟨⟨e1, h1, h2⟩, ⟨e2, h3, h4⟩⟩ := h
  exact ⟨⟨e1, (k.cell (p := ⟨3, 0, none⟩) (by show 3 < B; omega)).trans h1, h2⟩, ⟨e2, (k.cell (p := ⟨4, 0, none⟩) (by show 4 < B; omega)).trans h3, h4⟩⟩
def Err90 (w : World) (e : Ending) (w' : World) : Prop := ∃ N, e = .returned (.iface 159 (.pointer (some ⟨N, 0, none⟩))) ∧ Below w.heap.size w w'
theorem toerr_any (fn s : ByteArray) (base bits t : Int) (ht : t = 1 ∨ t = 2) (w : World) (hlim : s.size ≤ 281474976710656) (hE : ErrC w) : Calls Tryz.prog 90 #[.string fn, .string s, .int .i64 base, .int .i64 bits, .iface 156 (.int .i64 t)] w (Err90 w) := by
  obtain ⟨⟨e1, h1, h2⟩, ⟨e2, h3, h4⟩⟩ := hE
  rcases ht with rfl | rfl
  · refine (Tryz.strconv_toError_range fn s base bits e2 w hlim h3 h4).mono ?_
    rintro e w' ⟨N, rfl, _, _, hb⟩
    exact ⟨N, rfl, hb⟩
  · refine (Tryz.strconv_toError_syntax fn s base bits e1 w hlim h1 h2).mono ?_
    rintro e w' ⟨N, rfl, _, _, hb⟩
    exact ⟨N, rfl, hb⟩

theorem pu76_at (l : BS) (hl : l ≠ []) (hlen : l.length ≤ 1000000) (w : World) (hE : ErrC w) (h5 : 5 ≤ w.heap.size) : Calls Tryz.prog 76 #[str l, .int .i64 10, .int .i64 63] w (CLPost w l) := by
  have KP := pu63_at l hl hlen w
  have HE := Lib.hid hE
  have hsz : (⟨l.toArray⟩ : ByteArray).size ≤ 281474976710656 := by show l.toArray.size ≤ _; rw [List.size_toArray]; omega
  clear hE
  go_enter Tryz.func76, Tryz.ntmps76
  go_wp2_with fail
  refine KP.mono ?_
  rintro e w2 ⟨hb2, h⟩
  have HB := Lib.hid hb2
  have HE2 := Lib.hid (HE.out.below hb2 h5)
  clear hb2 KP
  rcases h with ⟨n, h, rfl⟩ | ⟨h, v, t, ht, rfl⟩
  · have HH := Lib.hid h
    clear h
    go_wp2_with fail
    go_ret2
    exact ⟨_, _, rfl, HB.out, fun m hm => by rw [HH.out] at hm; injection hm with hm; subst hm; exact ⟨rfl, rfl⟩, fun h => by rw [HH.out] at h; cases h⟩
  · have HH := Lib.hid h
    have KE := toerr_any ⟨#[80, 97, 114, 115, 101, 85, 105, 110, 116]⟩ ⟨l.toArray⟩ 10 63 t ht w2 hsz HE2.out
    clear h
    go_wp2_with fail
    refine KE.mono ?_
    rintro e w3 ⟨N, rfl, hb3⟩
    have HB3 := Lib.hid (Below.next HB.out HB.out.size hb3)
    clear hb3
    go_wp2_with fail
    go_ret2
    exact ⟨_, _, rfl, HB3.out, (fun m hm => by rw [HH.out] at hm; cases hm), fun _ => ⟨_, _, rfl⟩⟩
end Go.Proofs.YtgcfnhchmmkndaaGreatDoor
