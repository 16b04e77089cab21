/- spec.sfText.number. -/
import Derived.Test.YtdgpfgbocacgeaaDoorP3
namespace Go.Proofs.YtdgpfgbocacgeaaDoor
open Go.RowKit
set_option linter.unusedVariables false

abbrev iv (n : Int) : Value := .int .i64 n
def numCh (c : UInt8) : Bool := c == 45 || isDigit c || c == 46

/-- a number as far as it matters -/
def NumIs (c : List UInt8) (k n : Int) : Prop :=
  (∀ x ∈ c, numCh x = true) ∧ c ≠ [] ∧ (k = 0 ∨ k = 1) ∧ ∀ d, c = [d] → isDigit d = true ∧ k = 1 ∧ n = (d.toNat : Int) - 48

def NumPost (w : World) (t : Nat) (s : ByteArray) (o : Bool) (e : Ending) (w' : World) : Prop :=
  ∃ (k n : Int) (is : Bool) (s' : ByteArray), e = .returned (.tuple #[.agg #[iv k, iv n], .bool is]) ∧ Tx w' t s' o ∧ w.grownBy w' (some t) ∧
    (is = true → ∃ c, s.data.toList = c ++ s'.data.toList ∧ NumIs c k n)

/-- in the loop: c is read since the sign -/
def NumAt (t R : Nat) (s : ByteArray) (o : Bool) (w : World) (n d p : Value) (wr : World) : Prop :=
  ∃ (nv dv pv : Int) (c : List UInt8) (s' : ByteArray), n = iv nv ∧ d = iv dv ∧ p = iv pv ∧ Tx wr t s' o ∧ w.grownBy wr (some t) ∧ Pr wr R (iv 0) (iv 0) ∧ s.data.toList = c ++ s'.data.toList ∧
    0 ≤ nv ∧ nv < 1000000000000000 ∧ 0 ≤ dv ∧ dv ≤ 15 ∧ (∀ x ∈ c, isDigit x = true ∨ x = 46) ∧
    ((pv = -1 ∧ dv = c.length ∧ nv < 10 ^ c.length ∧ ∀ x, c = [x] → isDigit x = true ∧ nv = (x.toNat : Int) - 48) ∨ (1 ≤ pv ∧ pv ≤ 12 ∧ pv ≤ dv ∧ 2 ≤ c.length))

theorem grown_new {w wr : World} {row : Option Nat} (h : w.grownBy wr row) {b i : Nat} (v : Value) (hb : w.heap.size ≤ b) : w.grownBy (wr.setCell ⟨b, i, none⟩ v) row :=
  ⟨h.os, h.tape, h.output, by simpa using h.size, fun k hk hne => (Below.heap_setCell wr _ v k (by simp; omega)).trans (h.block k hk hne)⟩
theorem Tx.other {w : World} {t : Nat} {s : ByteArray} {o : Bool} (h : Tx w t s o) {p : Addr} (v : Value) (hp : p.block ≠ t) : Tx (w.setCell p v) t s o where
  s0 := (cell_other _ _ _ _ hp).trans h.s0
  o0 := (cell_other _ _ _ _ hp).trans h.o0
  fs := by simpa using h.fs
  fo := by simpa using h.fo
  lt := by simpa using h.lt

theorem num_end {w wr : World} {t : Nat} {s s' : ByteArray} {o : Bool} (k n : Int) (is : Bool) (T' : Tx wr t s' o) (g : w.grownBy wr (some t)) (ht : t ≠ w.heap.size)
    (himp : is = true → ∃ c, s.data.toList = c ++ s'.data.toList ∧ NumIs c k n) :
    NumPost w t s o (.returned (.tuple #[.agg #[iv k, iv n], .bool is])) ((wr.setCell ⟨w.heap.size, 0, none⟩ (iv k)).setCell ⟨w.heap.size, 1, none⟩ (iv n)) :=
  ⟨k, n, is, s', rfl, (T'.other _ (Ne.symm ht)).other _ (Ne.symm ht), grown_new (grown_new g _ (Nat.le_refl _)) _ (Nat.le_refl _), himp⟩

theorem numAt_go {t R : Nat} {s s' : ByteArray} {o : Bool} {w wr : World} {cc : List UInt8} {x : UInt8} {r' : List UInt8} {nv dv pv : Int} (T' : Tx wr t s' o) (g : w.grownBy wr (some t)) (R' : Pr wr R (iv 0) (iv 0)) (ht : t ≠ R)
    (hcs : s.data.toList = cc ++ s'.data.toList) (h' : s'.data.toList = x :: r') (b1 : 0 ≤ nv) (b2 : nv < 1000000000000000) (b3 : 0 ≤ dv) (b4 : dv ≤ 15) (b5 : ∀ y ∈ cc, isDigit y = true ∨ y = 46) (hx : isDigit x = true ∨ x = 46)
    (b6 : (pv = -1 ∧ dv = (cc.length : Int) + 1 ∧ nv < 10 ^ (cc.length + 1) ∧ (cc = [] → isDigit x = true ∧ nv = (x.toNat : Int) - 48)) ∨ (1 ≤ pv ∧ pv ≤ 12 ∧ pv ≤ dv ∧ 1 ≤ cc.length)) :
    NumAt t R s o w (iv nv) (iv dv) (iv pv) (wr.setCell ⟨t, 0, none⟩ (.string (s'.extract 1 s'.size))) ∧ textLen t (wr.setCell ⟨t, 0, none⟩ (.string (s'.extract 1 s'.size))) < s'.size := by
  have T2 := T'.sets (s'.extract 1 s'.size)
  refine ⟨⟨nv, dv, pv, cc ++ [x], _, rfl, rfl, rfl, T2, g.trans (grown_set _ _ _ _), R'.other _ ht, ?_, b1, b2, b3, b4, ?_, ?_⟩, ?_⟩
  · rw [hcs, cons_rest h', h']; simp
  · intro y hy
    rcases List.mem_append.1 hy with hy | hy
    · exact b5 y hy
    · obtain rfl : y = x := by simpa using hy
      exact hx
  · rcases b6 with ⟨e1, e2, e3, e4⟩ | ⟨e1, e2, e3, e4⟩
    · refine .inl ⟨e1, by simp; omega, by simpa using e3, fun y hy => ?_⟩
      have hcc : cc = [] := by
        rcases cc with _ | ⟨a, l⟩
        · rfl
        · simp at hy
      subst hcc
      obtain rfl : x = y := by simpa using hy
      exact e4 rfl
    · exact .inr ⟨e1, e2, e3, by simp; omega⟩
  · rw [T2.len]; exact cons_less h'

theorem pow_le15 {n : Nat} (h : n ≤ 15) : (10 : Int) ^ n ≤ 1000000000000000 := by
  have h1 : (10 : Nat) ^ n ≤ 10 ^ 15 := Nat.pow_le_pow_right (by decide) h
  have h2 : (((10 : Nat) ^ n : Nat) : Int) ≤ ((10 ^ 15 : Nat) : Int) := by exact_mod_cast h1
  simpa using h2

theorem num_next {nv : Int} {n : Nat} {x : UInt8} (b1 : 0 ≤ nv) (b7 : nv < 10 ^ n) (hl : (n : Int) + 1 ≤ 15) (h : 48 ≤ x.toNat ∧ x.toNat ≤ 57) :
    nv * 10 + ((x.toNat : Int) - 48) < 10 ^ (n + 1) ∧ nv * 10 + ((x.toNat : Int) - 48) < 1000000000000000 := by
  have h1 : nv * 10 + ((x.toNat : Int) - 48) < 10 ^ (n + 1) := by
    rw [Int.pow_succ]
    omega
  have h2 := pow_le15 (n := n + 1) (by omega)
  exact ⟨h1, by omega⟩

theorem numIs_plain {c : List UInt8} {n : Int} (h : ∀ x ∈ c, isDigit x = true ∨ x = 46) (hc : c ≠ []) (h1 : ∀ x, c = [x] → isDigit x = true ∧ n = (x.toNat : Int) - 48) : NumIs c 1 n :=
  ⟨fun x hx => by rcases h x hx with h | h <;> simp [numCh, h], hc, .inr rfl, fun d hd => ⟨(h1 d hd).1, rfl, (h1 d hd).2⟩⟩
theorem numIs_minus {c : List UInt8} {n : Int} (h : ∀ x ∈ c, isDigit x = true ∨ x = 46) (hc : c ≠ []) : NumIs (45 :: c) 1 n :=
  ⟨fun x hx => by
    rcases List.mem_cons.1 hx with rfl | hx
    · rfl
    · rcases h x hx with h | h <;> simp [numCh, h], by simp, .inr rfl, fun d hd => by
    exfalso
    simp only [List.cons.injEq] at hd
    exact hc hd.2⟩
theorem numIs_point {c : List UInt8} {n : Int} (h : ∀ x ∈ c, isDigit x = true ∨ x = 46) (hc : 2 ≤ c.length) : NumIs c 0 n :=
  ⟨fun x hx => by rcases h x hx with h | h <;> simp [numCh, h], by rintro rfl; simp at hc, .inl rfl, fun d hd => by subst hd; simp at hc⟩
theorem numIs_mpoint {c : List UInt8} {n : Int} (h : ∀ x ∈ c, isDigit x = true ∨ x = 46) (hc : 2 ≤ c.length) : NumIs (45 :: c) 0 n :=
  ⟨fun x hx => by
    rcases List.mem_cons.1 hx with rfl | hx
    · rfl
    · rcases h x hx with h | h <;> simp [numCh, h], by simp, .inl rfl, fun d hd => by
    exfalso
    simp only [List.cons.injEq] at hd
    rw [hd.2] at hc
    simp at hc⟩

set_option maxHeartbeats 4000000 in
set_option maxRecDepth 100000 in
theorem number_at (t : Nat) (s : ByteArray) (o : Bool) (w : World) (T : Tx w t s o) (hs : s.size ≤ 2147483647) : Calls Tryd.prog 23 #[.pointer (some ⟨t, 0, none⟩)] w (NumPost w t s o) := by
  have HT : Tx (w.alloc (.cells #[iv 0, iv 0] 33)) t s o := T.below (below_new w _)
  have HR : Pr (w.alloc (.cells #[iv 0, iv 0] 33)) w.heap.size (iv 0) (iv 0) := Pr.new w _ _ _
  have ht : t ≠ w.heap.size := by have := T.lt; omega
  have hg0 : w.grownBy (w.alloc (.cells #[iv 0, iv 0] 33)) (some t) := World.grownBy_alloc _ _ _
  go_enter Tryd.func23, Tryd.ntmps23
  go_wp2_with fail
  refine (at_at t s o _ HT).mono ?_
  rintro e w' ⟨rfl, hw'⟩
  subst hw'
  by_cases h45 : headB s = 45
  · have f1 : (((headB s).toNat : Int) == 45) = true := by rw [h45]; rfl
    obtain ⟨r, h⟩ : ∃ r, s.data.toList = 45 :: r := by
      rcases h : s.data.toList with _ | ⟨c, r⟩
      · exfalso
        simp [headB, h] at h45
      · simp [headB, h] at h45
        exact ⟨r, by rw [h45]⟩
    have g1 := cons_size h
    have g2 := cons_ne h
    have g3 := cons_toList h
    have g4 := cons_isEmpty h
    have g5 := cons_get h g1
    have HS : Hid (s.data.toList = 45 :: (s.extract 1 s.size).data.toList) := Lib.hid (by rw [cons_rest h]; exact h)
    clear h
    have T1 := HT.sets (s.extract 1 s.size)
    have R1 := HR.other (p := ⟨t, 0, none⟩) (.string (s.extract 1 s.size)) ht
    have G1 := hg0.trans (grown_set (w.alloc (.cells #[iv 0, iv 0] 33)) t 0 (.string (s.extract 1 s.size)))
    obtain ⟨s0, o0, fs, fo, lt⟩ := HT
    clear HR hg0
    go_wp2_with fail
    go_loopw [5, 6, 7] (fun n d p wr => NumAt t w.heap.size (s.extract 1 s.size) o w n d p wr) (fun _ _ _ wr => textLen t wr)
    case atStart => exact ⟨0, 0, -1, [], (s.extract 1 s.size), rfl, rfl, rfl, T1, G1, R1, rfl, by omega, by omega, by omega, by omega, by simp, .inl ⟨rfl, rfl, by simp, by simp⟩⟩
    case round =>
      obtain ⟨nv, dv, pv, cc, s', rfl, rfl, rfl, T', g', R', hcs, b1, b2, b3, b4, b5, b6⟩ := hrel
      rw [T'.len]
      have HT' := Lib.hid T'
      have HR' := Lib.hid R'
      have HC := Lib.hid hcs
      have HG := Lib.hid g'
      have H5 := Lib.hid b5
      obtain ⟨s0, o0, fs, fo, lt⟩ := T'
      obtain ⟨c0, c1, q0, q1, ql⟩ := R'
      clear hcs g' b5
      rcases h' : s'.data.toList with _ | ⟨x, r'⟩
      · obtain rfl := nil_empty h'
        clear h'
        rcases b6 with ⟨rfl, rfl, b7, b8⟩ | ⟨b7, b8, b9, b10⟩
        · have H8 := Lib.hid b8
          clear b8
          go_wp2_with fail
          have z0 := two_0 wr w.heap.size (iv 1) (iv (-nv)) _ c0
          have z1 := two_1 wr w.heap.size (iv 1) (iv (-nv)) _ c1
          exact ⟨rfl, _, (show _ = Result.ok (.tuple #[.agg #[iv 1, iv (-nv)], .bool (decide (0 < cc.length))]) _ by simp [results, Tryd.results23, go_sem, z0, z1]), num_end 1 (-nv) _ HT'.out HG.out ht (fun hd => ⟨45 :: cc, HS.out.trans (by rw [HC.out]; rfl), numIs_minus H5.out (by rintro rfl; simp at hd)⟩)⟩
        · go_wp2_with fail
          · have z0 := two_0 wr w.heap.size (iv 0) (iv 0) _ c0
            have z1 := two_1 wr w.heap.size (iv 0) (iv 0) _ c1
            exact ⟨rfl, _, (show _ = Result.ok (.tuple #[.agg #[iv 0, iv 0], .bool (decide (dv - pv ≤ 3))]) _ by simp [results, Tryd.results23, go_sem, z0, z1]), num_end 0 0 _ HT'.out HG.out ht (fun hd => ⟨45 :: cc, HS.out.trans (by rw [HC.out]; rfl), numIs_mpoint H5.out b10⟩)⟩
          · have z0 := two_0 wr w.heap.size (iv 0) (iv 0) _ c0
            have z1 := two_1 wr w.heap.size (iv 0) (iv 0) _ c1
            exact ⟨rfl, _, (show _ = Result.ok (.tuple #[.agg #[iv 0, iv 0], .bool false]) _ by simp [results, Tryd.results23, go_sem, z0, z1]), num_end 0 0 _ HT'.out HG.out ht (fun h => by cases h)⟩
      · have f1 := cons_size h'
        have f2 := cons_ne h'
        have f3 := cons_toList h'
        have f4 := cons_isEmpty h'
        have f5 := cons_get h' f1
        have H' := Lib.hid h'
        clear h'
        rcases b6 with ⟨rfl, rfl, b7, b8⟩ | ⟨b7, b8, b9, b10⟩
        · have H8 := Lib.hid b8
          clear b8
          by_cases hx : x = 46
          · have f6 : ((x.toNat : Int) == 46) = true := by rw [hx]; rfl
            by_cases hl0 : cc.length = 0
            · have f7 : ((cc.length : Int) == 0) = true := by rw [hl0]; rfl
              go_wp2_with fail
              have z0 := two_0 wr w.heap.size (iv 0) (iv 0) _ c0
              have z1 := two_1 wr w.heap.size (iv 0) (iv 0) _ c1
              exact ⟨rfl, _, (show _ = Result.ok (.tuple #[.agg #[iv 0, iv 0], .bool false]) _ by simp [results, Tryd.results23, go_sem, z0, z1]), num_end 0 0 _ HT'.out HG.out ht (fun h => by cases h)⟩
            · have f7 : ((cc.length : Int) == 0) = false := by rw [beq_eq_false_iff_ne]; omega
              by_cases hl1 : 12 < cc.length
              · have f8 : decide ((12 : Int) < (cc.length : Int)) = true := decide_eq_true (by omega)
                go_wp2_with fail
                have z0 := two_0 wr w.heap.size (iv 0) (iv 0) _ c0
                have z1 := two_1 wr w.heap.size (iv 0) (iv 0) _ c1
                exact ⟨rfl, _, (show _ = Result.ok (.tuple #[.agg #[iv 0, iv 0], .bool false]) _ by simp [results, Tryd.results23, go_sem, z0, z1]), num_end 0 0 _ HT'.out HG.out ht (fun h => by cases h)⟩
              · have f8 : decide ((12 : Int) < (cc.length : Int)) = false := decide_eq_false (by omega)
                have f9 : decide ((cc.length : Int) < 0) = false := decide_eq_false (by omega)
                have f10 : decide ((0 : Int) ≤ (cc.length : Int)) = true := decide_eq_true (by omega)
                go_wp2_with fail
                exact numAt_go HT'.out HG.out HR'.out ht HC.out H'.out b1 b2 b3 b4 H5.out (.inr hx) (.inr ⟨by omega, by omega, by omega, by omega⟩)
          · have f6 : ((x.toNat : Int) == 46) = false := (u8_eq x 46).trans (by simpa using hx)
            go_wp2_with fail
            refine (digit_at x _).mono ?_
            rintro e w2 ⟨rfl, hw2⟩
            obtain rfl := hw2.symm
            generalize hD : isDigit x = b
            have HD := Lib.hid hD
            clear hD
            cases b
            · go_wp2_with fail
              have z0 := two_0 wr w.heap.size (iv 1) (iv (-nv)) _ c0
              have z1 := two_1 wr w.heap.size (iv 1) (iv (-nv)) _ c1
              exact ⟨rfl, _, (show _ = Result.ok (.tuple #[.agg #[iv 1, iv (-nv)], .bool (decide (0 < cc.length))]) _ by simp [results, Tryd.results23, go_sem, z0, z1]), num_end 1 (-nv) _ HT'.out HG.out ht (fun hd => ⟨45 :: cc, HS.out.trans (by rw [HC.out]; rfl), numIs_minus H5.out (by rintro rfl; simp at hd)⟩)⟩
            · by_cases hl : (cc.length : Int) + 1 ≤ 15
              · have f7 : decide ((15 : Int) < (cc.length : Int) + 1) = false := decide_eq_false (by omega)
                have hdg : 48 ≤ x.toNat ∧ x.toNat ≤ 57 := by have := HD.out; simpa [isDigit] using this
                have HB7 := Lib.hid b7
                go_wp2_with fail
                have hnx := num_next b1 HB7.out hl hdg
                exact numAt_go HT'.out HG.out HR'.out ht HC.out H'.out (by omega) hnx.2 (by omega) hl H5.out (.inl HD.out) (.inl ⟨rfl, rfl, hnx.1, fun hcc => ⟨HD.out, by
                  have h0 := HB7.out
                  rw [hcc] at h0
                  simp only [List.length_nil, Int.pow_zero] at h0
                  omega⟩⟩)
              · have f7 : decide ((15 : Int) < (cc.length : Int) + 1) = true := decide_eq_true (by omega)
                go_wp2_with fail
                have z0 := two_0 wr w.heap.size (iv 0) (iv 0) _ c0
                have z1 := two_1 wr w.heap.size (iv 0) (iv 0) _ c1
                exact ⟨rfl, _, (show _ = Result.ok (.tuple #[.agg #[iv 0, iv 0], .bool false]) _ by simp [results, Tryd.results23, go_sem, z0, z1]), num_end 0 0 _ HT'.out HG.out ht (fun h => by cases h)⟩
        · have p1 : decide (pv < 0) = false := decide_eq_false (by omega)
          have p2 : decide ((0 : Int) ≤ pv) = true := decide_eq_true (by omega)
          have p3 : ((x.toNat : Int) == 46) = (x == 46) := u8_eq x 46
          cases hx : (x == 46)
          all_goals
            rw [hx] at p3
            go_wp2_with fail
          all_goals
            refine (digit_at x _).mono ?_
            rintro e w2 ⟨rfl, hw2⟩
            obtain rfl := hw2.symm
            generalize hD : isDigit x = b
            have HD := Lib.hid hD
            clear hD
            cases b
          all_goals clear hx
          · go_wp2_with fail
            · have z0 := two_0 wr w.heap.size (iv 0) (iv 0) _ c0
              have z1 := two_1 wr w.heap.size (iv 0) (iv 0) _ c1
              exact ⟨rfl, _, (show _ = Result.ok (.tuple #[.agg #[iv 0, iv 0], .bool (decide (dv - pv ≤ 3))]) _ by simp [results, Tryd.results23, go_sem, z0, z1]), num_end 0 0 _ HT'.out HG.out ht (fun hd => ⟨45 :: cc, HS.out.trans (by rw [HC.out]; rfl), numIs_mpoint H5.out b10⟩)⟩
            · have z0 := two_0 wr w.heap.size (iv 0) (iv 0) _ c0
              have z1 := two_1 wr w.heap.size (iv 0) (iv 0) _ c1
              exact ⟨rfl, _, (show _ = Result.ok (.tuple #[.agg #[iv 0, iv 0], .bool false]) _ by simp [results, Tryd.results23, go_sem, z0, z1]), num_end 0 0 _ HT'.out HG.out ht (fun h => by cases h)⟩
          · by_cases hl : dv + 1 + 1 ≤ 16
            · have f7 : decide ((16 : Int) < dv + 1 + 1) = false := decide_eq_false (by omega)
              go_wp2_with fail
              exact numAt_go HT'.out HG.out HR'.out ht HC.out H'.out b1 b2 (by omega) (by omega) H5.out (.inl HD.out) (.inr ⟨b7, b8, by omega, by omega⟩)
            · have f7 : decide ((16 : Int) < dv + 1 + 1) = true := decide_eq_true (by omega)
              go_wp2_with fail
              have z0 := two_0 wr w.heap.size (iv 0) (iv 0) _ c0
              have z1 := two_1 wr w.heap.size (iv 0) (iv 0) _ c1
              exact ⟨rfl, _, (show _ = Result.ok (.tuple #[.agg #[iv 0, iv 0], .bool false]) _ by simp [results, Tryd.results23, go_sem, z0, z1]), num_end 0 0 _ HT'.out HG.out ht (fun h => by cases h)⟩
          · go_wp2_with fail
            · have z0 := two_0 wr w.heap.size (iv 0) (iv 0) _ c0
              have z1 := two_1 wr w.heap.size (iv 0) (iv 0) _ c1
              exact ⟨rfl, _, (show _ = Result.ok (.tuple #[.agg #[iv 0, iv 0], .bool (decide (dv - pv ≤ 3))]) _ by simp [results, Tryd.results23, go_sem, z0, z1]), num_end 0 0 _ HT'.out HG.out ht (fun hd => ⟨45 :: cc, HS.out.trans (by rw [HC.out]; rfl), numIs_mpoint H5.out b10⟩)⟩
            · have z0 := two_0 wr w.heap.size (iv 0) (iv 0) _ c0
              have z1 := two_1 wr w.heap.size (iv 0) (iv 0) _ c1
              exact ⟨rfl, _, (show _ = Result.ok (.tuple #[.agg #[iv 0, iv 0], .bool false]) _ by simp [results, Tryd.results23, go_sem, z0, z1]), num_end 0 0 _ HT'.out HG.out ht (fun h => by cases h)⟩
          · by_cases hl : dv + 1 + 1 ≤ 16
            · have f7 : decide ((16 : Int) < dv + 1 + 1) = false := decide_eq_false (by omega)
              go_wp2_with fail
              exact numAt_go HT'.out HG.out HR'.out ht HC.out H'.out b1 b2 (by omega) (by omega) H5.out (.inl HD.out) (.inr ⟨b7, b8, by omega, by omega⟩)
            · have f7 : decide ((16 : Int) < dv + 1 + 1) = true := decide_eq_true (by omega)
              go_wp2_with fail
              have z0 := two_0 wr w.heap.size (iv 0) (iv 0) _ c0
              have z1 := two_1 wr w.heap.size (iv 0) (iv 0) _ c1
              exact ⟨rfl, _, (show _ = Result.ok (.tuple #[.agg #[iv 0, iv 0], .bool false]) _ by simp [results, Tryd.results23, go_sem, z0, z1]), num_end 0 0 _ HT'.out HG.out ht (fun h => by cases h)⟩
  · have f1 : (((headB s).toNat : Int) == 45) = false := (u8_eq _ 45).trans (by simpa using h45)
    have T1 := HT
    have R1 := HR
    have G1 := hg0
    clear HT HR hg0
    go_wp2_with fail
    go_loopw [5, 6, 7] (fun n d p wr => NumAt t w.heap.size s o w n d p wr) (fun _ _ _ wr => textLen t wr)
    case atStart => exact ⟨0, 0, -1, [], s, rfl, rfl, rfl, T1, G1, R1, rfl, by omega, by omega, by omega, by omega, by simp, .inl ⟨rfl, rfl, by simp, by simp⟩⟩
    case round =>
      obtain ⟨nv, dv, pv, cc, s', rfl, rfl, rfl, T', g', R', hcs, b1, b2, b3, b4, b5, b6⟩ := hrel
      rw [T'.len]
      have HT' := Lib.hid T'
      have HR' := Lib.hid R'
      have HC := Lib.hid hcs
      have HG := Lib.hid g'
      have H5 := Lib.hid b5
      obtain ⟨s0, o0, fs, fo, lt⟩ := T'
      obtain ⟨c0, c1, q0, q1, ql⟩ := R'
      clear hcs g' b5
      rcases h' : s'.data.toList with _ | ⟨x, r'⟩
      · obtain rfl := nil_empty h'
        clear h'
        rcases b6 with ⟨rfl, rfl, b7, b8⟩ | ⟨b7, b8, b9, b10⟩
        · have H8 := Lib.hid b8
          clear b8
          go_wp2_with fail
          have z0 := two_0 wr w.heap.size (iv 1) (iv nv) _ c0
          have z1 := two_1 wr w.heap.size (iv 1) (iv nv) _ c1
          exact ⟨rfl, _, (show _ = Result.ok (.tuple #[.agg #[iv 1, iv nv], .bool (decide (0 < cc.length))]) _ by simp [results, Tryd.results23, go_sem, z0, z1]), num_end 1 nv _ HT'.out HG.out ht (fun hd => ⟨cc, HC.out, numIs_plain H5.out (by rintro rfl; simp at hd) fun x hx => H8.out x hx⟩)⟩
        · go_wp2_with fail
          · have z0 := two_0 wr w.heap.size (iv 0) (iv 0) _ c0
            have z1 := two_1 wr w.heap.size (iv 0) (iv 0) _ c1
            exact ⟨rfl, _, (show _ = Result.ok (.tuple #[.agg #[iv 0, iv 0], .bool (decide (dv - pv ≤ 3))]) _ by simp [results, Tryd.results23, go_sem, z0, z1]), num_end 0 0 _ HT'.out HG.out ht (fun hd => ⟨cc, HC.out, numIs_point H5.out b10⟩)⟩
          · have z0 := two_0 wr w.heap.size (iv 0) (iv 0) _ c0
            have z1 := two_1 wr w.heap.size (iv 0) (iv 0) _ c1
            exact ⟨rfl, _, (show _ = Result.ok (.tuple #[.agg #[iv 0, iv 0], .bool false]) _ by simp [results, Tryd.results23, go_sem, z0, z1]), num_end 0 0 _ HT'.out HG.out ht (fun h => by cases h)⟩
      · have f1 := cons_size h'
        have f2 := cons_ne h'
        have f3 := cons_toList h'
        have f4 := cons_isEmpty h'
        have f5 := cons_get h' f1
        have H' := Lib.hid h'
        clear h'
        rcases b6 with ⟨rfl, rfl, b7, b8⟩ | ⟨b7, b8, b9, b10⟩
        · have H8 := Lib.hid b8
          clear b8
          by_cases hx : x = 46
          · have f6 : ((x.toNat : Int) == 46) = true := by rw [hx]; rfl
            by_cases hl0 : cc.length = 0
            · have f7 : ((cc.length : Int) == 0) = true := by rw [hl0]; rfl
              go_wp2_with fail
              have z0 := two_0 wr w.heap.size (iv 0) (iv 0) _ c0
              have z1 := two_1 wr w.heap.size (iv 0) (iv 0) _ c1
              exact ⟨rfl, _, (show _ = Result.ok (.tuple #[.agg #[iv 0, iv 0], .bool false]) _ by simp [results, Tryd.results23, go_sem, z0, z1]), num_end 0 0 _ HT'.out HG.out ht (fun h => by cases h)⟩
            · have f7 : ((cc.length : Int) == 0) = false := by rw [beq_eq_false_iff_ne]; omega
              by_cases hl1 : 12 < cc.length
              · have f8 : decide ((12 : Int) < (cc.length : Int)) = true := decide_eq_true (by omega)
                go_wp2_with fail
                have z0 := two_0 wr w.heap.size (iv 0) (iv 0) _ c0
                have z1 := two_1 wr w.heap.size (iv 0) (iv 0) _ c1
                exact ⟨rfl, _, (show _ = Result.ok (.tuple #[.agg #[iv 0, iv 0], .bool false]) _ by simp [results, Tryd.results23, go_sem, z0, z1]), num_end 0 0 _ HT'.out HG.out ht (fun h => by cases h)⟩
              · have f8 : decide ((12 : Int) < (cc.length : Int)) = false := decide_eq_false (by omega)
                have f9 : decide ((cc.length : Int) < 0) = false := decide_eq_false (by omega)
                have f10 : decide ((0 : Int) ≤ (cc.length : Int)) = true := decide_eq_true (by omega)
                go_wp2_with fail
                exact numAt_go HT'.out HG.out HR'.out ht HC.out H'.out b1 b2 b3 b4 H5.out (.inr hx) (.inr ⟨by omega, by omega, by omega, by omega⟩)
          · have f6 : ((x.toNat : Int) == 46) = false := (u8_eq x 46).trans (by simpa using hx)
            go_wp2_with fail
            refine (digit_at x _).mono ?_
            rintro e w2 ⟨rfl, hw2⟩
            obtain rfl := hw2.symm
            generalize hD : isDigit x = b
            have HD := Lib.hid hD
            clear hD
            cases b
            · go_wp2_with fail
              have z0 := two_0 wr w.heap.size (iv 1) (iv nv) _ c0
              have z1 := two_1 wr w.heap.size (iv 1) (iv nv) _ c1
              exact ⟨rfl, _, (show _ = Result.ok (.tuple #[.agg #[iv 1, iv nv], .bool (decide (0 < cc.length))]) _ by simp [results, Tryd.results23, go_sem, z0, z1]), num_end 1 nv _ HT'.out HG.out ht (fun hd => ⟨cc, HC.out, numIs_plain H5.out (by rintro rfl; simp at hd) fun x hx => H8.out x hx⟩)⟩
            · by_cases hl : (cc.length : Int) + 1 ≤ 15
              · have f7 : decide ((15 : Int) < (cc.length : Int) + 1) = false := decide_eq_false (by omega)
                have hdg : 48 ≤ x.toNat ∧ x.toNat ≤ 57 := by have := HD.out; simpa [isDigit] using this
                have HB7 := Lib.hid b7
                go_wp2_with fail
                have hnx := num_next b1 HB7.out hl hdg
                exact numAt_go HT'.out HG.out HR'.out ht HC.out H'.out (by omega) hnx.2 (by omega) hl H5.out (.inl HD.out) (.inl ⟨rfl, rfl, hnx.1, fun hcc => ⟨HD.out, by
                  have h0 := HB7.out
                  rw [hcc] at h0
                  simp only [List.length_nil, Int.pow_zero] at h0
                  omega⟩⟩)
              · have f7 : decide ((15 : Int) < (cc.length : Int) + 1) = true := decide_eq_true (by omega)
                go_wp2_with fail
                have z0 := two_0 wr w.heap.size (iv 0) (iv 0) _ c0
                have z1 := two_1 wr w.heap.size (iv 0) (iv 0) _ c1
                exact ⟨rfl, _, (show _ = Result.ok (.tuple #[.agg #[iv 0, iv 0], .bool false]) _ by simp [results, Tryd.results23, go_sem, z0, z1]), num_end 0 0 _ HT'.out HG.out ht (fun h => by cases h)⟩
        · have p1 : decide (pv < 0) = false := decide_eq_false (by omega)
          have p2 : decide ((0 : Int) ≤ pv) = true := decide_eq_true (by omega)
          have p3 : ((x.toNat : Int) == 46) = (x == 46) := u8_eq x 46
          cases hx : (x == 46)
          all_goals
            rw [hx] at p3
            go_wp2_with fail
          all_goals
            refine (digit_at x _).mono ?_
            rintro e w2 ⟨rfl, hw2⟩
            obtain rfl := hw2.symm
            generalize hD : isDigit x = b
            have HD := Lib.hid hD
            clear hD
            cases b
          all_goals clear hx
          · go_wp2_with fail
            · have z0 := two_0 wr w.heap.size (iv 0) (iv 0) _ c0
              have z1 := two_1 wr w.heap.size (iv 0) (iv 0) _ c1
              exact ⟨rfl, _, (show _ = Result.ok (.tuple #[.agg #[iv 0, iv 0], .bool (decide (dv - pv ≤ 3))]) _ by simp [results, Tryd.results23, go_sem, z0, z1]), num_end 0 0 _ HT'.out HG.out ht (fun hd => ⟨cc, HC.out, numIs_point H5.out b10⟩)⟩
            · have z0 := two_0 wr w.heap.size (iv 0) (iv 0) _ c0
              have z1 := two_1 wr w.heap.size (iv 0) (iv 0) _ c1
              exact ⟨rfl, _, (show _ = Result.ok (.tuple #[.agg #[iv 0, iv 0], .bool false]) _ by simp [results, Tryd.results23, go_sem, z0, z1]), num_end 0 0 _ HT'.out HG.out ht (fun h => by cases h)⟩
          · by_cases hl : dv + 1 + 1 ≤ 16
            · have f7 : decide ((16 : Int) < dv + 1 + 1) = false := decide_eq_false (by omega)
              go_wp2_with fail
              exact numAt_go HT'.out HG.out HR'.out ht HC.out H'.out b1 b2 (by omega) (by omega) H5.out (.inl HD.out) (.inr ⟨b7, b8, by omega, by omega⟩)
            · have f7 : decide ((16 : Int) < dv + 1 + 1) = true := decide_eq_true (by omega)
              go_wp2_with fail
              have z0 := two_0 wr w.heap.size (iv 0) (iv 0) _ c0
              have z1 := two_1 wr w.heap.size (iv 0) (iv 0) _ c1
              exact ⟨rfl, _, (show _ = Result.ok (.tuple #[.agg #[iv 0, iv 0], .bool false]) _ by simp [results, Tryd.results23, go_sem, z0, z1]), num_end 0 0 _ HT'.out HG.out ht (fun h => by cases h)⟩
          · go_wp2_with fail
            · have z0 := two_0 wr w.heap.size (iv 0) (iv 0) _ c0
              have z1 := two_1 wr w.heap.size (iv 0) (iv 0) _ c1
              exact ⟨rfl, _, (show _ = Result.ok (.tuple #[.agg #[iv 0, iv 0], .bool (decide (dv - pv ≤ 3))]) _ by simp [results, Tryd.results23, go_sem, z0, z1]), num_end 0 0 _ HT'.out HG.out ht (fun hd => ⟨cc, HC.out, numIs_point H5.out b10⟩)⟩
            · have z0 := two_0 wr w.heap.size (iv 0) (iv 0) _ c0
              have z1 := two_1 wr w.heap.size (iv 0) (iv 0) _ c1
              exact ⟨rfl, _, (show _ = Result.ok (.tuple #[.agg #[iv 0, iv 0], .bool false]) _ by simp [results, Tryd.results23, go_sem, z0, z1]), num_end 0 0 _ HT'.out HG.out ht (fun h => by cases h)⟩
          · by_cases hl : dv + 1 + 1 ≤ 16
            · have f7 : decide ((16 : Int) < dv + 1 + 1) = false := decide_eq_false (by omega)
              go_wp2_with fail
              exact numAt_go HT'.out HG.out HR'.out ht HC.out H'.out b1 b2 (by omega) (by omega) H5.out (.inl HD.out) (.inr ⟨b7, b8, by omega, by omega⟩)
            · have f7 : decide ((16 : Int) < dv + 1 + 1) = true := decide_eq_true (by omega)
              go_wp2_with fail
              have z0 := two_0 wr w.heap.size (iv 0) (iv 0) _ c0
              have z1 := two_1 wr w.heap.size (iv 0) (iv 0) _ c1
              exact ⟨rfl, _, (show _ = Result.ok (.tuple #[.agg #[iv 0, iv 0], .bool false]) _ by simp [results, Tryd.results23, go_sem, z0, z1]), num_end 0 0 _ HT'.out HG.out ht (fun h => by cases h)⟩
end Go.Proofs.YtdgpfgbocacgeaaDoor
