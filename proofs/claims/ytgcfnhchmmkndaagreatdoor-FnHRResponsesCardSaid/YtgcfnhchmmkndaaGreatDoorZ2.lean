/- http3.updateResponseFromHeaders and ResponseOf. -/
import Derived.Test.YtgcfnhchmmkndaaGreatDoorZ1
namespace Go.Proofs.YtgcfnhchmmkndaaGreatDoor
open Go.RowKit Go.Maps
set_option linter.unusedVariables false
set_option maxRecDepth 100000

theorem Hdr.setB {w w' : World} {base b n rb : Nat} {es : List Ent} (h : Hdr w base b n es) (g : w.grownBy w' (some rb)) (hb : b ≠ rb) (hr : rb < base) : Hdr w' base b n es :=
  h.kept g (by simp; exact hb) (fun e he => by
    cases hv : e.val.ownBlock with
    | none => exact .inl rfl
    | some k => exact .inr (fun e2 => by injection e2 with e2; have := ((h.rows e he).lt _ hv).1; omega))
/-- the response's struct -/
def R9 (W : World) (rb : Nat) (f : Nat → Value) : Prop := (∀ j, j < 9 → W.cell? ⟨rb, j, none⟩ = some (f j)) ∧ ∀ j, W.frozen? ⟨rb, j, none⟩ = false
theorem R9.set {W : World} {rb : Nat} {f : Nat → Value} (h : R9 W rb f) (i : Nat) (v : Value) : R9 (W.setCell ⟨rb, i, none⟩ v) rb (fun j => if j = i then v else f j) := by
  refine ⟨fun j hj => ?_, fun j => by simpa using h.2 j⟩
  by_cases e : j = i
  · subst e
    simp only [if_pos]
    exact cs1 (h.1 j hj)
  · simp only [if_neg e]
    exact cs2 (fun x => e x.symm) (h.1 j hj)
theorem R9.below {W W' : World} {rb B : Nat} {f : Nat → Value} (h : R9 W rb f) (k : Below B W W') (hB : rb < B) : R9 W' rb f :=
  ⟨fun j hj => (k.cell (p := ⟨rb, j, none⟩) hB).trans (h.1 j hj), fun j => (k.frozen (p := ⟨rb, j, none⟩) hB).trans (h.2 j)⟩
def z91 : Nat → Value
  | 0 => str []
  | 1 => .int .i64 0
  | 2 => str []
  | 3 => .int .i64 0
  | 4 => .map none
  | 5 => .nilIface
  | 6 => .int .i64 0
  | 7 => .bool false
  | _ => .map none
abbrev zero91 : Obj := .cells #[str [], .int .i64 0, str [], .int .i64 0, .map none, .nilIface, .int .i64 0, .bool false, .map none] 91
theorem R9.made (w : World) : R9 (w.alloc zero91) w.heap.size z91 := by
  refine ⟨fun j hj => ?_, fun j => by simp⟩
  have hc := cells_new w [str [], .int .i64 0, str [], .int .i64 0, .map none, .nilIface, .int .i64 0, .bool false, .map none] 91
  have h := hc j (z91 j) (by match j, hj with
    | 0, _ => rfl
    | 1, _ => rfl
    | 2, _ => rfl
    | 3, _ => rfl
    | 4, _ => rfl
    | 5, _ => rfl
    | 6, _ => rfl
    | 7, _ => rfl
    | 8, _ => rfl)
  rwa [Addr.add_lit, Nat.zero_add] at h

theorem atoi_yes {v : BS} (h : v ∈ stR) (hs : stOk v = true) : Lib.atoi v = some (decN v : Int) := by
  rcases stR_at h with rfl | rfl | rfl | rfl | rfl | rfl | rfl
  · rfl
  · rfl
  · rfl
  · rfl
  · rfl
  · exact absurd hs (by decide)
  · exact absurd hs (by decide)
theorem atoi_no {v : BS} (h : v ∈ stR) (hs : stOk v = false) : Lib.atoi v = none := by
  rcases stR_at h with rfl | rfl | rfl | rfl | rfl | rfl | rfl
  · exact absurd hs (by decide)
  · exact absurd hs (by decide)
  · exact absurd hs (by decide)
  · exact absurd hs (by decide)
  · exact absurd hs (by decide)
  · rfl
  · rfl
theorem stR_len {v : BS} (h : v ∈ stR) : v.length ≤ 3 := by
  rcases stR_at h with rfl | rfl | rfl | rfl | rfl | rfl | rfl <;> decide

/-- a response in memory -/
structure RespAt (w : World) (rb b n base m : Nat) (es : List Ent) (x : RS) : Prop where
  c0 : w.cell? ⟨rb, 0, none⟩ = some (str x.st)
  c1 : w.cell? ⟨rb, 1, none⟩ = some (.int .i64 (decN x.st : Int))
  c4 : w.cell? ⟨rb, 4, none⟩ = some (.map (some b))
  c6 : w.cell? ⟨rb, 6, none⟩ = some (.int .i64 x.len)
  c8 : w.cell? ⟨rb, 8, none⟩ = some (.map none)
  hdr : Hdr w base b n es
  abs : absE es = x.H
  hn : n ≤ m
  items : ∀ e ∈ es, e.items.length ≤ m
  lo : rb < base ∧ rb < b
def UPost (w : World) (rb m : Nat) (r : Option RS) (e : Ending) (w' : World) : Prop :=
  ∃ ev, e = .returned ev ∧ Below rb w w' ∧ ErrV r.isSome ev ∧ ∀ x, r = some x → ∃ b n base es, RespAt w' rb b n base m es x

/-- the walk's state -/
structure US (w0 : World) (z rb base b n : Nat) (es : List Ent) (st : BS) (f : Nat → Value) (W : World) : Prop where
  r : R9 W rb f
  h : Hdr W base b n es
  bel : Below rb w0 W
  t : W.cell? ⟨z, 4, none⟩ = some (str st)
  sz : z + 1 ≤ W.heap.size
  hz : rb < z
  hne : b ≠ rb
  hrb : rb < base
theorem US.set {w0 W : World} {z rb base b n : Nat} {es : List Ent} {st : BS} {f : Nat → Value} (u : US w0 z rb base b n es st f W) (j : Nat) (v : Value) : US w0 z rb base b n es st (fun i => if i = j then v else f i) (W.setCell ⟨rb, j, none⟩ v) where
  r := u.r.set j v
  h := u.h.setB (grown_set W rb j v) u.hne u.hrb
  bel := u.bel.setCell (Nat.le_refl _) _
  t := (World.cell?_setCell_other _ _ _ _ (by intro e; injection e with e; have := u.hz; omega)).trans u.t
  sz := by simpa using u.sz
  hz := u.hz
  hne := u.hne
  hrb := u.hrb
theorem US.next {w0 W w7 : World} {z rb base b n : Nat} {es : List Ent} {st : BS} {f : Nat → Value} (u : US w0 z rb base b n es st f W) (k : Below W.heap.size W w7) : US w0 z rb base b n es st f w7 where
  r := u.r.below k (by have := u.sz; have := u.hz; omega)
  h := u.h.below k
  bel := Below.next u.bel (by have := u.sz; have := u.hz; omega) k
  t := (k.cell (p := ⟨z, 4, none⟩) (by have := u.sz; show z < _; omega)).trans u.t
  sz := by have := u.sz; have := k.size; omega
  hz := u.hz
  hne := u.hne
  hrb := u.hrb

set_option maxHeartbeats 16000000 in
theorem update_at (fn : Value) (r : Option (PS × Int)) (rr : Option RS) (hrr : (r.bind fun x => rsOf x.1 x.2) = rr) (w0 : World) (rb Bx m : Nat) (hK : Calls Tryz.prog 56 #[fn, .bool false, .int .i64 1048576, .pointer none] w0 (HPostR w0 Bx m r)) (hEr : ErrC w0) (hB : rb < Bx) (hBx : Bx < w0.heap.size) (h5 : 5 ≤ rb) (hC : R9 w0 rb z91)
    (hI : ∀ s cl, r = some (s, cl) → hasKey s.H kTrailer = false ∧ s.status ∈ stR) :
    Calls Tryz.prog 53 #[.pointer (some ⟨rb, 0, none⟩), fn, .int .i64 1048576, .pointer none] w0 (UPost w0 rb m rr) := by
  have HI := Lib.hid hI
  have HRR := Lib.hid hrr
  have HC := Lib.hid hC
  have HER := Lib.hid hEr
  clear hI hC hEr hrr
  go_enter Tryz.func53, Tryz.ntmps53
  go_wp2_with fail
  refine hK.mono ?_
  rintro e w1 ⟨v, ev, rfl, hg1, hev, hsome, hnone⟩
  have HX1 := Lib.hid ((Below.refl Bx w0).grown hg1 (Nat.le_of_lt hBx) (fun k hk => by injection hk with hk; omega))
  have HB1 := Lib.hid (HX1.out.mono (Nat.le_of_lt hB))
  have hs1 : w0.heap.size ≤ w1.heap.size := HX1.out.size
  cases r with
  | none =>
    obtain ⟨q, rfl⟩ := hev
    obtain rfl := hnone rfl
    clear hK hg1 hsome hnone
    have hh : hcl {} 0 (.map none) = [str [], str [], str [], str [], str [], str [], .int .i64 0, .map none] := rfl
    rw [hh]
    clear hh
    go_wp2_with fail
    go_ret
    obtain rfl : none = rr := HRR.out
    exact ⟨_, rfl, HB1.out.alloc (by omega) _, ⟨q, rfl⟩, fun x hx => by cases hx⟩
  | some x =>
    obtain ⟨s, cl⟩ := x
    obtain ⟨n, es, rfl, hH, ha, hn, hi, hz⟩ := hsome s cl rfl
    obtain rfl : ev = .nilIface := hev
    obtain ⟨htr, hst⟩ := HI.out s cl rfl
    have hh : hcl s cl (.map (some (w0.heap.size + 1))) = [str s.path, str s.meth, str s.auth, str s.scheme, str s.status, str s.proto, .int .i64 cl, .map (some (w0.heap.size + 1))] := rfl
    rw [hh]
    obtain ⟨b, hbb⟩ : ∃ b, w0.heap.size + 1 = b := ⟨_, rfl⟩
    obtain ⟨base, hba⟩ : ∃ b, w0.heap.size + 3 = b := ⟨_, rfl⟩
    rw [hbb, hba] at hH
    rw [hbb]
    have hne : b ≠ rb := by omega
    have hrb : rb < base := by omega
    have hb3 : base ≤ w1.heap.size := by omega
    have HLO : Hid (rb < base ∧ rb < b) := Lib.hid (by omega)
    have HKT := Lib.hid (keys_ent ha htr)
    obtain ⟨o, ho⟩ : ∃ o : Obj, Obj.cells #[str s.path, str s.meth, str s.auth, str s.scheme, str s.status, str s.proto, .int .i64 cl, .map (some b)] 115 = o := ⟨_, rfl⟩
    have hbo := below_new w1 o
    have R2 := Lib.hid ((HC.out.below HX1.out hB).below hbo (by omega))
    have HD2 := Lib.hid (hH.below hbo)
    have HB2 := Lib.hid (HB1.out.alloc (by omega) o)
    have hsz : (w1.alloc o).heap.size = w1.heap.size + 1 := al_size _ _
    have T4 : Hid ((w1.alloc o).cell? ⟨w1.heap.size, 4, none⟩ = some (str s.status)) := Lib.hid (by
      subst ho
      have hc := cells_new w1 [str s.path, str s.meth, str s.auth, str s.scheme, str s.status, str s.proto, .int .i64 cl, .map (some b)] 115
      have h := hc 4 _ rfl
      rwa [Addr.add_lit, Nat.zero_add] at h)
    have U2 := Lib.hid (US.mk (w0 := w0) (z := w1.heap.size) (es := es) (n := n) R2.out HD2.out HB2.out T4.out (Nat.le_of_eq hsz.symm) (by omega) hne hrb)
    have KAn := fun (W : World) (h : Hdr W base b n es) => announced_at base b n es W h HKT.out
    have HKA := Lib.hid KAn
    have x0 := R2.out.1 0 (by decide)
    have x1 := R2.out.1 1 (by decide)
    have x2 := R2.out.1 2 (by decide)
    have x3 := R2.out.1 3 (by decide)
    have x4 := R2.out.1 4 (by decide)
    have x6 := R2.out.1 6 (by decide)
    have x8 := R2.out.1 8 (by decide)
    have xf := R2.out.2
    have hn1 : w1.heap.size ≠ rb := by omega
    have hn2 : ¬ (rb = w1.heap.size) := by omega
    have HIT := Lib.hid (And.intro ha (And.intro hn hi))
    have hl3 := stR_len hst
    obtain ⟨st, hst0⟩ : ∃ st, s.status = st := ⟨_, rfl⟩
    have hrs : (if stOk st = true then some ⟨st, cl, s.H⟩ else none) = rr := by
      have h : rsOf s cl = rr := HRR.out
      unfold rsOf at h
      rw [hst0] at h
      exact h
    have HRS := Lib.hid hrs
    rw [hst0] at U2 hst hl3 ho ⊢
    subst ho
    clear hrs hh hK hg1 hsome hnone hH hbo htr KAn HD2 T4 hsz hbb hba HI ha hn hi
    by_cases hm0 : st = []
    · subst hm0
      go_wp2_with fail
      refine (new_at9 _ _).mono ?_
      rintro e w9 ⟨q9, rfl, hb9⟩
      have HB9 := Lib.hid (Below.next HB2.out (by simp; omega) hb9)
      clear hb9
      go_wp2_with fail
      go_ret
      exact ⟨_, rfl, HB9.out, by have h := HRS.out; rw [if_neg (by decide)] at h; subst h; exact ⟨q9, rfl⟩, fun x hx => by have h := HRS.out; rw [if_neg (by decide)] at h; subst h; cases hx⟩
    · have f0 : (st == []) = false := by simp [hm0]
      have hzs : rb < w1.heap.size + 1 := by omega
      rcases Bool.eq_false_or_eq_true (stOk st) with hk | hk
      · have HK72 : Hid (∀ W, Calls Tryz.prog 72 #[str st] W (fun e w' => e = .returned (.tuple #[.int .i64 (decN st : Int), .nilIface]) ∧ Below W.heap.size W w')) := Lib.hid fun W => (Tryz.strconv_Atoi ⟨st.toArray⟩ _ (by show st.toArray.size ≤ 18; simp; omega) (atoi_yes hst hk) W).mono (by rintro e w' ⟨rfl, t, rfl⟩; exact ⟨rfl, Lib.bytesWorld_below W 5 t⟩)
        have HK := Lib.hid hk
        clear hk hst hl3 hm0
        go_wp2_with fail
        refine (HKA.out _ (((U2.out.set 2 _).set 3 _).set 4 _).h).mono ?_
        rintro e w6 ⟨rfl, rfl⟩
        go_wp2_with fail
        refine (HK72.out _).mono ?_
        rintro e w7 ⟨rfl, hb7⟩
        have U7 := Lib.hid ((((((U2.out.set 2 _).set 3 _).set 4 _).set 8 _).set 6 _).next hb7)
        have T7 := U7.out.t
        have y0 : w7.cell? ⟨rb, 0, none⟩ = some (str []) := U7.out.r.1 0 (by decide)
        have y1 : w7.cell? ⟨rb, 1, none⟩ = some (.int .i64 0) := U7.out.r.1 1 (by decide)
        have yf := U7.out.r.2
        clear hb7 x0 x1 x2 x3 x4 x6 x8 xf
        go_wp2_with fail
        go_ret
        have U8 := (U7.out.set 1 (.int .i64 (decN st : Int))).set 0 (str st)
        have R8 := U8.r
        refine ⟨_, rfl, U8.bel, ?_, ?_⟩
        · have h := HRS.out
          rw [if_pos HK.out] at h
          subst h
          rfl
        · intro x hx
          have h := HRS.out
          rw [if_pos HK.out] at h
          subst h
          injection hx with hx
          subst hx
          exact ⟨b, n, base, es, ⟨R8.1 0 (by decide), R8.1 1 (by decide), R8.1 4 (by decide), R8.1 6 (by decide), R8.1 8 (by decide), U8.h, HIT.out.1, HIT.out.2.1, HIT.out.2.2, HLO.out⟩⟩
      · have HK72 : Hid (∀ W, ErrC W → Calls Tryz.prog 72 #[str st] W (fun e w' => ∃ N, e = .returned (.tuple #[.int .i64 0, .iface 159 (.pointer (some ⟨N, 0, none⟩))]) ∧ Below W.heap.size W w')) := Lib.hid fun W hW => by
          obtain ⟨⟨e1, h1, h2⟩, _⟩ := hW
          exact (Tryz.strconv_Atoi_err ⟨st.toArray⟩ (by show st.toArray.size ≤ 18; simp; omega) (atoi_no hst hk) e1 W h1 h2).mono (by rintro e w' ⟨N, rfl, _, _, hb⟩; exact ⟨N, rfl, hb⟩)
        have HK := Lib.hid hk
        clear hk hst hl3 hm0
        go_wp2_with fail
        refine (HKA.out _ (((U2.out.set 2 _).set 3 _).set 4 _).h).mono ?_
        rintro e w6 ⟨rfl, rfl⟩
        go_wp2_with fail
        refine (HK72.out _ (HER.out.below (((((U2.out.set 2 _).set 3 _).set 4 _).set 8 _).set 6 _).bel h5)).mono ?_
        rintro e w7 ⟨N7, rfl, hb7⟩
        have U7 := Lib.hid ((((((U2.out.set 2 _).set 3 _).set 4 _).set 8 _).set 6 _).next hb7)
        have HB7 := Lib.hid U7.out.bel
        have hle7 : rb ≤ w7.heap.size := by have := U7.out.sz; omega
        clear hb7 x0 x1 x2 x3 x4 x6 x8 xf
        go_wp2_with fail
        refine (new_at9 _ _).mono ?_
        rintro e w9 ⟨q9, rfl, hb9⟩
        have HB9 := Lib.hid (Below.next HB7.out hle7 hb9)
        clear hb9
        go_wp2_with fail
        go_ret
        have h := HRS.out
        rw [if_neg (by rw [HK.out]; decide)] at h
        subst h
        exact ⟨_, rfl, HB9.out, ⟨q9, rfl⟩, fun x hx => by cases hx⟩

def ROf2 (w : World) (m : Nat) (r : Option RS) (e : Ending) (w' : World) : Prop :=
  ∃ v ev, e = .returned (.tuple #[v, ev]) ∧ Below w.heap.size w w' ∧ ErrV r.isSome ev ∧ ∀ x, r = some x → v = .pointer (some ⟨w.heap.size, 0, none⟩) ∧ ∃ b n base es, RespAt w' w.heap.size b n base m es x
theorem respof_at (A : Option Addr) (c m : Nat) (r : Option RS) (l : List (BS × BS)) (w : World)
    (KU : Calls Tryz.prog 53 #[.pointer (some ⟨w.heap.size, 0, none⟩), .func (.func 67) #[] #[.pointer (some ⟨w.heap.size + 1, 0, none⟩)], .int .i64 1048576, .pointer none] ((w.alloc zero91).alloc (.cells #[.slice A l.length c] 66)) (UPost ((w.alloc zero91).alloc (.cells #[.slice A l.length c] 66)) w.heap.size m r)) :
    Calls Tryz.prog 40 #[.slice A l.length c, .int .i64 1048576] w (ROf2 w m r) := by
  have HB := Lib.hid ((below_new w zero91).alloc (by simp) (.cells #[.slice A l.length c] 66))
  go_enter Tryz.func40, Tryz.ntmps40
  go_wp2_with fail
  refine (funcOf_at A l.length c _).mono ?_
  rintro e w1 ⟨rfl, rfl⟩
  go_wp2_with fail
  refine KU.mono ?_
  rintro e w2 ⟨ev, rfl, hb, hev, h1⟩
  have H1 := Lib.hid h1
  have HEV := Lib.hid hev
  have HBL := Lib.hid (HB.out.trans hb)
  clear hev hb h1 KU
  go_wp2_with fail
  go_ret2
  exact ⟨_, ev, rfl, HBL.out, HEV.out, fun q hq => ⟨rfl, H1.out q hq⟩⟩
end Go.Proofs.YtgcfnhchmmkndaaGreatDoor
