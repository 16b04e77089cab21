/- spec.HROdd. -/
import Derived.Test.YtgcfnhchmmkndaaGreatDoorR1
import Derived.Test.YtgcfnhchmmkndaaGreatDoorE1
namespace Go.Proofs.YtgcfnhchmmkndaaGreatDoor
open Go.RowKit Go.Maps
set_option linter.unusedVariables false
set_option maxRecDepth 100000

/-- fields of which nothing is said -/
def hrOddF (req : Bool) : BS → BS → List (BS × BS) → Bool
  | m, sc, [] => req && (m != [67, 79, 78, 78, 69, 67, 84]) && (sc == [])
  | m, sc, p :: t => if p.1 == kMethod then hrOddF req p.2 sc t else if p.1 == kScheme && p.2 != [] then hrOddF req m p.2 t else if p.1 == kLength && p.2 == [] then true else hrOddF req m sc t

theorem odd_cons (req : Bool) (m sc nm vl : BS) (t : List (BS × BS)) : hrOddF req m sc ((nm, vl) :: t) = if nm == kMethod then hrOddF req vl sc t else if nm == kScheme && vl != [] then hrOddF req m vl t else if nm == kLength && vl == [] then true else hrOddF req m sc t := rfl
set_option maxHeartbeats 8000000 in
theorem odd_at (req : Bool) (l : List (BS × BS)) (A : Option Addr) (c : Nat) (w : World) (hR : Reads w w.heap.size 2 A l.length (fc l)) (hc : l.length ≤ c) (hln : l.length ≤ 800000) :
    Calls Tryz.prog 10 #[.slice A l.length c, .bool req] w fun e w' => e = .returned (.bool (hrOddF req [] [] l)) ∧ Below w.heap.size w w' := by
  have HR := Lib.hid hR
  clear hR
  go_enter Tryz.func10, Tryz.ntmps10
  go_wp2_with fail
  go_loopw [5, 6, 11] (fun s5 s6 s11 wx => ∃ (k : Nat) (m sc : BS), k ≤ l.length ∧ s5 = str m ∧ s6 = str sc ∧ s11 = .int .i64 (k : Int) ∧ Below w.heap.size w wx ∧ hrOddF req [] [] l = hrOddF req m sc (l.drop k)) (fun _ _ s11 _ => l.length - (intOf s11).toNat)
  case atStart => exact ⟨0, [], [], by omega, rfl, rfl, rfl, Below.refl _ _, rfl⟩
  case round =>
    obtain ⟨k, m, sc, hk, rfl, rfl, rfl, hbel, hfold⟩ := hrel
    have HB := Lib.hid hbel
    have HF := Lib.hid hfold
    clear hbel hfold
    rcases Nat.lt_or_ge k l.length with hkl | hkl
    · obtain ⟨b, o, rfl, hb, hcl⟩ := reads_fields (HR.out.below HB.out) (by omega)
      obtain ⟨e0, e1⟩ := hcl k hkl
      obtain ⟨⟨nm, vl⟩, hpq⟩ : ∃ pq, l[k] = pq := ⟨_, rfl⟩
      rw [hpq] at e0 e1
      simp only at e0 e1
      have hdr : l.drop k = (nm, vl) :: l.drop (k + 1) := by rw [List.drop_eq_getElem_cons hkl, hpq]
      have HD := Lib.hid hdr
      have HB1 := Lib.hid (HB.out.alloc HB.out.size (.cells #[str nm, str vl] 42))
      clear hcl hpq hdr
      cases a1 : (nm == [58, 109, 101, 116, 104, 111, 100])
      · cases a2 : (nm == [58, 115, 99, 104, 101, 109, 101])
        · cases a4 : (nm == [99, 111, 110, 116, 101, 110, 116, 45, 108, 101, 110, 103, 116, 104])
          · have HN : Hid (hrOddF req [] [] l = hrOddF req m sc (l.drop (k + 1))) := Lib.hid (by rw [HF.out, HD.out, odd_cons]; simp only [kMethod, kScheme, kLength, a1, a2, a4, Bool.false_and, Bool.false_eq_true, if_false])
            go_wp2_with fail
            exact ⟨⟨k + 1, m, sc, hkl, rfl, rfl, by go_num, HB1.out, HN.out⟩, by simp [intOf]; omega⟩
          · cases a3 : (vl == [])
            · have HN : Hid (hrOddF req [] [] l = hrOddF req m sc (l.drop (k + 1))) := Lib.hid (by rw [HF.out, HD.out, odd_cons]; simp only [kMethod, kScheme, kLength, a1, a2, a3, a4, Bool.false_and, Bool.true_and, Bool.false_eq_true, if_false])
              go_wp2_with fail
              exact ⟨⟨k + 1, m, sc, hkl, rfl, rfl, by go_num, HB1.out, HN.out⟩, by simp [intOf]; omega⟩
            · have HN : Hid (hrOddF req [] [] l = true) := Lib.hid (by rw [HF.out, HD.out, odd_cons]; simp only [kMethod, kScheme, kLength, a1, a2, a3, a4, Bool.false_and, Bool.true_and, Bool.false_eq_true, if_false, if_true])
              go_wp2_with fail
              go_ret
              exact ⟨by rw [HN.out]; rfl, HB1.out⟩
        · cases a3 : (vl == [])
          · have HN : Hid (hrOddF req [] [] l = hrOddF req m vl (l.drop (k + 1))) := Lib.hid (by rw [HF.out, HD.out, odd_cons]; simp only [kMethod, kScheme, kLength, bne, a1, a2, a3, Bool.not_false, Bool.and_true, Bool.false_eq_true, if_false, if_true])
            go_wp2_with fail
            exact ⟨⟨k + 1, m, vl, hkl, rfl, rfl, by go_num, HB1.out, HN.out⟩, by simp [intOf]; omega⟩
          · have a4 : (nm == [99, 111, 110, 116, 101, 110, 116, 45, 108, 101, 110, 103, 116, 104]) = false := by rw [eq_of_beq a2]; decide
            have HN : Hid (hrOddF req [] [] l = hrOddF req m sc (l.drop (k + 1))) := Lib.hid (by rw [HF.out, HD.out, odd_cons]; simp only [kMethod, kScheme, kLength, bne, a1, a2, a3, a4, Bool.not_true, Bool.and_false, Bool.false_and, Bool.false_eq_true, if_false])
            go_wp2_with fail
            exact ⟨⟨k + 1, m, sc, hkl, rfl, rfl, by go_num, HB1.out, HN.out⟩, by simp [intOf]; omega⟩
      · have HN : Hid (hrOddF req [] [] l = hrOddF req vl sc (l.drop (k + 1))) := Lib.hid (by rw [HF.out, HD.out, odd_cons]; simp only [kMethod, a1, if_true])
        go_wp2_with fail
        exact ⟨⟨k + 1, vl, sc, hkl, rfl, rfl, by go_num, HB1.out, HN.out⟩, by simp [intOf]; omega⟩
    · have e : k = l.length := by omega
      subst e
      have hf := HF.out
      rw [List.drop_length] at hf
      have hf2 : hrOddF req [] [] l = (req && (m != [67, 79, 78, 78, 69, 67, 84]) && (sc == [])) := hf
      have HE := Lib.hid hf2
      clear hf2
      clear hf
      have f1 : decide ((l.length : Int) < (l.length : Int)) = false := by simp
      cases req
      · go_wp2_with fail
        go_ret
        exact ⟨by rw [HE.out]; rfl, HB.out⟩
      · cases b1 : (m == [67, 79, 78, 78, 69, 67, 84])
        · cases b2 : (sc == [])
          · go_wp2_with fail
            go_ret
            exact ⟨by rw [HE.out, bne, b1, b2]; rfl, HB.out⟩
          · go_wp2_with fail
            go_ret
            exact ⟨by rw [HE.out, bne, b1, b2]; rfl, HB.out⟩
        · go_wp2_with fail
          go_ret
          exact ⟨by rw [HE.out, bne, b1]; rfl, HB.out⟩

set_option maxHeartbeats 8000000 in
theorem alike9_at (m u p h i : BS) (n : Int) (VA VB tA tB : Option Addr) (vc uc tc td base base' : Nat) (es es' : List Ent) (w : World) (hL : HL w base (.slice VA es.length vc) es) (hL' : HL w base' (.slice VB es'.length uc) es') (hab : absE es = absE es') (hn : es.length ≤ 900000) (hil : ∀ e ∈ es, e.items.length ≤ 900000) :
    Calls Tryz.prog 12 #[.agg #[str m, str u, str p, str h, str i, .int .i64 n, .slice VA es.length vc, .slice tA 0 tc], .agg #[str m, str u, str p, str h, str i, .int .i64 n, .slice VB es'.length uc, .slice tB 0 td]] w fun e w' => e = .returned (.bool true) ∧ Below w.heap.size w w' := by
  have b1 := below_new w (.cells #[str m, str u, str p, str h, str i, .int .i64 n, .slice VA es.length vc, .slice tA 0 tc] 31)
  have b2 := b1.alloc (w := w.alloc (.cells #[str m, str u, str p, str h, str i, .int .i64 n, .slice VA es.length vc, .slice tA 0 tc] 31)) (by simp) (.cells #[str m, str u, str p, str h, str i, .int .i64 n, .slice VB es'.length uc, .slice tB 0 td] 31)
  have KS := fun W (k : Below w.heap.size w W) => same_at base base' _ _ es es' W (hL.below k) (hL'.below k) hab hn hil
  have KE := fun W => seq_at tA tB tc td [] [] W W.heap.size W.heap.size ⟨rfl, fun h => absurd h (by simp)⟩ ⟨rfl, fun h => absurd h (by simp)⟩ (by simp) (by simp)
  have HB := Lib.hid b2
  have HKS := Lib.hid KS
  clear b1 b2 KS hL hL' hil
  go_enter Tryz.func12, Tryz.ntmps12
  go_wp2_with fail
  refine (HKS.out _ HB.out).mono ?_
  rintro e w3 ⟨rfl, hb3⟩
  have x7 : w3.cell? ⟨w.heap.size, 7, none⟩ = some (.slice tA 0 tc) := (hb3.cell (p := ⟨w.heap.size, 7, none⟩) (by simp; omega)).trans (by simp)
  have y7 : w3.cell? ⟨w.heap.size + 1, 7, none⟩ = some (.slice tB 0 td) := (hb3.cell (p := ⟨w.heap.size + 1, 7, none⟩) (by simp)).trans (by simp)
  have HB3 := Lib.hid (Below.next HB.out HB.out.size hb3)
  clear hb3
  go_wp2_with fail
  refine (KE _).mono ?_
  rintro e w4 ⟨rfl, hb4⟩
  go_wp2_with fail
  go_ret
  exact ⟨rfl, Below.next HB3.out HB3.out.size hb4⟩
end Go.Proofs.YtgcfnhchmmkndaaGreatDoor
