/- spec.sfText.item at a text within quotes. -/
import Derived.Test.YtdgpfgbocacgeaaDoorP7
import Derived.BigQuiet
namespace Go.Proofs.YtdgpfgbocacgeaaDoor
open Go.RowKit
set_option linter.unusedVariables false

/-- In the text's loop: b is read behind the first quote. -/
def StrAt (t R : Nat) (s : ByteArray) (o : Bool) (w wr : World) : Prop :=
  ∃ (b : List UInt8) (s' : ByteArray) (o' : Bool), Tx wr t s' o' ∧ w.grownBy wr (some t) ∧ Pr wr R (iv 0) (iv 0) ∧ s.data.toList = 34 :: (b ++ s'.data.toList) ∧ (o = true → o' = true) ∧ StrBody b

theorem grown_drew (w : World) (row : Option Nat) : w.grownBy w.drew row := ⟨rfl, rfl, rfl, Nat.le_refl _, fun _ _ _ => rfl⟩
theorem below_drew (w : World) : Below w.heap.size w w.drew := (Below.refl _ w).drew

theorem str_step {t R : Nat} {s s' s2 : ByteArray} {o o' : Bool} {w W : World} {b c : List UInt8} (T' : Tx W t s2 o') (g : w.grownBy W (some t)) (R' : Pr W R (iv 0) (iv 0))
    (hcs : s.data.toList = 34 :: (b ++ s'.data.toList)) (h' : s'.data.toList = c ++ s2.data.toList) (hc : c ≠ []) (ho : o = true → o' = true) (hb : StrBody b) (hx : StrBody c) :
    StrAt t R s o w W ∧ textLen t W < s'.size := by
  refine ⟨⟨b ++ c, s2, o', T', g, R', by rw [hcs, h']; simp, ho, hb.append hx⟩, ?_⟩
  rw [T'.len]
  have h1 := len_eq s'
  have h2 := len_eq s2
  rw [h', List.length_append] at h1
  have : c.length ≠ 0 := fun h0 => hc (List.eq_nil_of_length_eq_zero h0)
  omega

theorem str_done {s s' s2 : ByteArray} {b : List UInt8} (hcs : s.data.toList = 34 :: (b ++ s'.data.toList)) (h' : s'.data.toList = 34 :: s2.data.toList) (hb : StrBody b) :
    s2.size < s.size ∧ ∃ c, s.data.toList = c ++ s2.data.toList ∧ ItemIs c 0 0 := by
  refine ⟨?_, ⟨34 :: (b ++ [34]), by rw [hcs, h']; simp, .inr (.inl ⟨rfl, b, rfl, hb⟩)⟩⟩
  have h1 := len_eq s
  have h2 := len_eq s2
  rw [hcs, h'] at h1
  simp at h1
  omega

set_option maxHeartbeats 4000000 in
set_option maxRecDepth 100000 in
theorem item_string (t : Nat) (s : ByteArray) (o : Bool) (w : World) (T : Tx w t s o) (hh : headB s = 34) :
    Calls Tryd.prog 18 #[.pointer (some ⟨t, 0, none⟩)] w (ItemPost w t s o) := by
  have HT : Tx (w.alloc (.cells #[iv 0, iv 0] 33)) t s o := T.below (below_new w _)
  have HR : Pr (w.alloc (.cells #[iv 0, iv 0] 33)) w.heap.size (iv 0) (iv 0) := Pr.new w _ _ _
  have ht : t ≠ w.heap.size := by have := T.lt; omega
  have hg0 : w.grownBy (w.alloc (.cells #[iv 0, iv 0] 33)) (some t) := World.grownBy_alloc _ _ _
  have f1 : (((headB s).toNat : Int) == 45) = false := by rw [hh]; rfl
  have f2 : (((headB s).toNat : Int) == 34) = true := by rw [hh]; rfl
  have HD : Hid (isDigit (headB s) = false) := Lib.hid (by rw [hh]; rfl)
  obtain ⟨r, hr⟩ := head_cons hh (by decide)
  have g1 := cons_size hr
  have g2 := cons_ne hr
  have g3 := cons_toList hr
  have g4 := cons_isEmpty hr
  have HS : Hid (s.data.toList = 34 :: ([] ++ (s.extract 1 s.size).data.toList)) := Lib.hid (by rw [cons_rest hr]; exact hr)
  clear hr hh
  have T1 := HT.sets (s.extract 1 s.size)
  have R1 := HR.other (p := ⟨t, 0, none⟩) (.string (s.extract 1 s.size)) ht
  have G1 := hg0.trans (grown_set (w.alloc (.cells #[iv 0, iv 0] 33)) t 0 (.string (s.extract 1 s.size)))
  obtain ⟨s0, o0, fs, fo, lt⟩ := id HT
  go_enter Tryd.func18, Tryd.ntmps18
  go_wp2_with fail
  refine (at_at t s o _ HT).mono ?_
  rintro e w' ⟨rfl, hw'⟩
  subst hw'
  go_wp2_with fail
  refine (digit_at _ _).mono ?_
  rintro e w' ⟨rfl, hw'⟩
  subst hw'
  rw [HD.out]
  clear HR hg0
  go_wp2_with fail
  go_loopw [31] (fun _ wr => StrAt t w.heap.size s o w wr) (fun _ wr => textLen t wr)
  case atStart => exact ⟨[], _, o, T1, G1, R1, HS.out, id, .nil⟩
  case round =>
    clear s0 o0 fs fo lt HT
    obtain ⟨b, s', o', T', g', R', hcs, ho, hb⟩ := hrel
    rw [T'.len]
    have HT' := Lib.hid T'
    have HR' := Lib.hid R'
    have HC := Lib.hid hcs
    have HG := Lib.hid g'
    have HO := Lib.hid ho
    have HB := Lib.hid hb
    obtain ⟨s0, o0, fs, fo, lt⟩ := T'
    obtain ⟨c0, c1, q0, q1, ql⟩ := R'
    clear hcs g' ho hb T1 R1 G1
    rcases h' : s'.data.toList with _ | ⟨x, r'⟩
    · obtain rfl := nil_empty h'
      clear h'
      go_wp2_with fail
      have z0 := two_0 wr w.heap.size (iv 0) (iv 0) _ c0
      have z1 := two_1 wr w.heap.size (iv 0) (iv 0) _ c1
      exact ⟨rfl, _, (show _ = Result.ok (.tuple #[.agg #[iv 0, iv 0], .bool false]) _ by simp [results, Tryd.results18, go_sem, z0, z1]), item_end 0 0 false HT'.out HG.out ht HO.out fun h => by cases h⟩
    · have k1 := cons_size h'
      have k2 := cons_ne h'
      have k3 := cons_toList h'
      have k4 := cons_isEmpty h'
      have k5 := cons_get h' k1
      have H' := Lib.hid h'
      clear h'
      go_wp2_with fail
      go_region
      have T2 := (HT'.out.sets (s'.extract 1 s'.size)).below (below_drew _)
      have G2 := (HG.out.trans (grown_set wr t 0 (.string (s'.extract 1 s'.size)))).trans (grown_drew _ _)
      have R2 := (HR'.out.other (p := ⟨t, 0, none⟩) (.string (s'.extract 1 s'.size)) ht).below (below_drew _)
      generalize (wr.setCell ⟨t, 0, none⟩ (.string (s'.extract 1 s'.size))).drew = W at T2 G2 R2 ⊢
      clear s0 o0 fs fo lt c0 c1 q0 q1 ql HT' HG HR'
      obtain ⟨s0, o0, fs, fo, lt⟩ := id T2
      obtain ⟨c0, c1, q0, q1, ql⟩ := id R2
      have HE : Hid (s'.data.toList = x :: (s'.extract 1 s'.size).data.toList) := Lib.hid (by rw [cons_rest H'.out]; exact H'.out)
      clear k1 k2 k3 k4 k5 H'
      generalize s'.extract 1 s'.size = s2 at T2 s0 HE ⊢
      have HT2 := Lib.hid T2
      have HR2 := Lib.hid R2
      have HG2 := Lib.hid G2
      clear T2 R2 G2
      by_cases x34 : x = 34
      · have k6 : ((x.toNat : Int) == 34) = true := by rw [x34]; rfl
        go_wp2_with fail
        have z0 := two_0 W w.heap.size (iv 0) (iv 0) _ c0
        have z1 := two_1 W w.heap.size (iv 0) (iv 0) _ c1
        exact ⟨rfl, _, (show _ = Result.ok (.tuple #[.agg #[iv 0, iv 0], .bool true]) _ by simp [results, Tryd.results18, go_sem, z0, z1]), item_end 0 0 true HT2.out HG2.out ht HO.out fun _ => str_done HC.out (by rw [HE.out, x34]) HB.out⟩
      have k6 : ((x.toNat : Int) == 34) = false := eq_false (c := 34) x34
      by_cases x92 : x = 92
      · have k7 : ((x.toNat : Int) == 92) = true := by rw [x92]; rfl
        go_wp2_with fail
        refine (at_at t s2 o' _ HT2.out).mono ?_
        rintro e w2 ⟨rfl, hw2⟩
        obtain rfl := hw2.symm
        by_cases d34 : headB s2 = 34
        · have k8 : (((headB s2).toNat : Int) != 34) = false := by rw [d34]; rfl
          obtain ⟨r3, h3⟩ := head_cons d34 (by decide)
          have m1 := cons_size h3
          have m2 := cons_ne h3
          have m3 := cons_toList h3
          have m4 := cons_isEmpty h3
          have H3 : Hid (s2.data.toList = 34 :: (s2.extract 1 s2.size).data.toList) := Lib.hid (by rw [cons_rest h3]; exact h3)
          clear h3 d34
          go_wp2_with fail
          exact str_step (s2 := s2.extract 1 s2.size) (c := [92, 34]) (HT2.out.sets _) (HG2.out.trans (grown_set _ _ _ _)) (HR2.out.other _ ht) HC.out (by rw [HE.out, x92, H3.out]; rfl) (by simp) HO.out HB.out (.esc _ _ (.inl rfl) .nil)
        have k8 : (((headB s2).toNat : Int) != 34) = true := ne_true (c := 34) d34
        by_cases d92 : headB s2 = 92
        · have k9 : (((headB s2).toNat : Int) != 92) = false := by rw [d92]; rfl
          obtain ⟨r3, h3⟩ := head_cons d92 (by decide)
          have m1 := cons_size h3
          have m2 := cons_ne h3
          have m3 := cons_toList h3
          have m4 := cons_isEmpty h3
          have H3 : Hid (s2.data.toList = 92 :: (s2.extract 1 s2.size).data.toList) := Lib.hid (by rw [cons_rest h3]; exact h3)
          clear h3 d92
          go_wp2_with fail
          exact str_step (s2 := s2.extract 1 s2.size) (c := [92, 92]) (HT2.out.sets _) (HG2.out.trans (grown_set _ _ _ _)) (HR2.out.other _ ht) HC.out (by rw [HE.out, x92, H3.out]; rfl) (by simp) HO.out HB.out (.esc _ _ (.inr rfl) .nil)
        have k9 : (((headB s2).toNat : Int) != 92) = true := ne_true (c := 92) d92
        go_wp2_with fail
        have z0 := two_0 W w.heap.size (iv 0) (iv 0) _ c0
        have z1 := two_1 W w.heap.size (iv 0) (iv 0) _ c1
        exact ⟨rfl, _, (show _ = Result.ok (.tuple #[.agg #[iv 0, iv 0], .bool false]) _ by simp [results, Tryd.results18, go_sem, z0, z1]), item_end 0 0 false HT2.out HG2.out ht HO.out fun h => by cases h⟩
      have k7 : ((x.toNat : Int) == 92) = false := eq_false (c := 92) x92
      by_cases xlo : x.toNat < 32
      · have k8 : decide ((x.toNat : Int) < 32) = true := decide_eq_true (by omega)
        go_wp2_with fail
        have z0 := two_0 W w.heap.size (iv 0) (iv 0) _ c0
        have z1 := two_1 W w.heap.size (iv 0) (iv 0) _ c1
        exact ⟨rfl, _, (show _ = Result.ok (.tuple #[.agg #[iv 0, iv 0], .bool false]) _ by simp [results, Tryd.results18, go_sem, z0, z1]), item_end 0 0 false HT2.out HG2.out ht HO.out fun h => by cases h⟩
      have k8 : decide ((x.toNat : Int) < 32) = false := decide_eq_false (by omega)
      by_cases xhi : 126 < x.toNat
      · have k9 : decide ((126 : Int) < (x.toNat : Int)) = true := decide_eq_true (by omega)
        go_wp2_with fail
        have z0 := two_0 W w.heap.size (iv 0) (iv 0) _ c0
        have z1 := two_1 W w.heap.size (iv 0) (iv 0) _ c1
        exact ⟨rfl, _, (show _ = Result.ok (.tuple #[.agg #[iv 0, iv 0], .bool false]) _ by simp [results, Tryd.results18, go_sem, z0, z1]), item_end 0 0 false HT2.out HG2.out ht HO.out fun h => by cases h⟩
      have k9 : decide ((126 : Int) < (x.toNat : Int)) = false := decide_eq_false (by omega)
      go_wp2_with fail
      refine (among_at x ⟨#[44, 59, 61]⟩ _ (by decide)).mono ?_
      rintro e w2 ⟨rfl, hw2⟩
      obtain rfl := hw2.symm
      have HA : Hid (contains x (ByteArray.mk #[44, 59, 61]).data.toList = contains x [44, 59, 61]) := Lib.hid rfl
      rw [HA.out]
      generalize hA : contains x [44, 59, 61] = b3
      have HA3 := Lib.hid hA
      clear hA
      cases b3
      · go_wp2_with fail
        exact str_step (c := [x]) HT2.out HG2.out HR2.out HC.out (by rw [HE.out]; rfl) (by simp) HO.out HB.out (.plain x [] (by omega) (by omega) x34 x92 .nil)
      · go_wp2_with fail
        exact str_step (o' := true) (c := [x]) (HT2.out.seto true) (HG2.out.trans (grown_set _ _ _ _)) (HR2.out.other _ ht) HC.out (by rw [HE.out]; rfl) (by simp) (fun _ => rfl) HB.out (.plain x [] (by omega) (by omega) x34 x92 .nil)
end Go.Proofs.YtdgpfgbocacgeaaDoor
