/- http3.RequestOf, impl.HRequestOf, over the contract of requestFromHeaders. -/
import Derived.Test.YtgcfnhchmmkndaaGreatDoorE2
namespace Go.Proofs.YtgcfnhchmmkndaaGreatDoor
open Go.RowKit Go.Maps
set_option linter.unusedVariables false
set_option maxRecDepth 100000

def ROfPost (w : World) (m : Nat) (r : Option RQ) (e : Ending) (w' : World) : Prop :=
  ∃ v ev, e = .returned (.tuple #[v, ev]) ∧ Below w.heap.size w w' ∧ ErrV r.isSome ev ∧
    (∀ q, r = some q → ∃ rb ub b n base es, v = .pointer (some ⟨rb, 0, none⟩) ∧ ReqAt w' rb ub b n base m es q) ∧ (r = none → v = .pointer none)

theorem reqof_at (A : Option Addr) (c m : Nat) (l : List (BS × BS)) (r : Option RQ) (w : World)
    (KR : Calls Tryz.prog 49 #[.func (.func 67) #[] #[.pointer (some ⟨w.heap.size, 0, none⟩)], .int .i64 1048576, .pointer none] (w.alloc (.cells #[.slice A l.length c] 66)) (RQPost (w.alloc (.cells #[.slice A l.length c] 66)) w.heap.size m r)) :
    Calls Tryz.prog 26 #[.slice A l.length c, .int .i64 1048576] w (ROfPost w m r) := by
  have HB := Lib.hid (below_new w (.cells #[.slice A l.length c] 66))
  go_enter Tryz.func26, Tryz.ntmps26
  go_wp2_with fail
  refine (funcOf_at A l.length c _).mono ?_
  rintro e w1 ⟨rfl, rfl⟩
  go_wp2_with fail
  refine KR.mono ?_
  rintro e w2 ⟨v, ev, rfl, hg, hev, h1, h2⟩
  have H1 := Lib.hid h1
  have H2 := Lib.hid h2
  have HEV := Lib.hid hev
  have HBL := Lib.hid (HB.out.grown hg HB.out.size (fun k hk => by injection hk with hk; omega))
  clear hev hg h1 h2 KR
  go_wp2_with fail
  go_ret2
  refine ⟨v, ev, rfl, HBL.out, HEV.out, fun q hq => ?_, H2.out⟩
  obtain ⟨rb, ub, n, es, k1, k2⟩ := H1.out q hq
  exact ⟨rb, ub, _, n, _, es, k1, k2⟩

/-- what is asked of the reading of a list of fields -/
def ReqOk (p : Addr) (l : List (BS × BS)) (m : Nat) (r : Option RQ) : Prop :=
  ∀ (W : World) (A : Option Addr) (c : Nat), Reads W W.heap.size 2 A l.length (fc l) → l.length ≤ c → Env W p → Calls Tryz.prog 26 #[.slice A l.length c, .int .i64 1048576] W (ROfPost W m r)
structure RQB (q : RQ) : Prop where
  len : q.H.length ≤ 900000
  uhost : q.uhost.length ≤ 2147483648
  utarget : q.utarget.length ≤ 2147483648

def reqV (r : Option RQ) (hv : Value) (tA : Option Addr) (tc : Nat) : Value := match r with
  | some q => .agg #[str q.meth, str (urlOf q), str q.proto, str q.host, str q.uri, .int .i64 q.len, hv, .slice tA 0 tc]
  | none => .agg #[str [], str [], str [], str [], str [], .int .i64 0, .slice none 0 0, .slice none 0 0]
def HRPost (w : World) (r : Option RQ) (e : Ending) (w' : World) : Prop :=
  ∃ hv es tA tc, e = .returned (.tuple #[reqV r hv tA tc, .bool r.isSome]) ∧ Below w.heap.size w w' ∧ HL w' w.heap.size hv es ∧ absE es = (match r with | some q => headsOf q.H | none => [])

theorem HRPost.fin {w w3 : World} {r : Option RQ} {hv : Value} {es3 : List Ent} {tA : Option Addr} {tc base : Nat} {v0 v1 v2 v3 v4 v5 v6 v7 u : Value} (hL : HL w3 base hv es3) (hbase : w.heap.size + 1 < base) (hA : absE es3 = (match r with | some q => headsOf q.H | none => [])) (hB : Below w.heap.size w w3) (hz : w.heap.size + 1 < w3.heap.size) :
    HRPost w r (.returned (.tuple #[reqV r hv tA tc, .bool r.isSome])) ((put8v w3 w.heap.size v0 v1 v2 v3 v4 v5 v6 v7).setCell ⟨w.heap.size + 1, 0, none⟩ u) := by
  have g := put8v_grown w3 w.heap.size v0 v1 v2 v3 v4 v5 v6 v7
  have g2 := grown_set (put8v w3 w.heap.size v0 v1 v2 v3 v4 v5 v6 v7) (w.heap.size + 1) 0 u
  refine ⟨hv, es3, tA, tc, rfl, ?_, ((hL.grown g (by omega)).grown g2 (by omega)).base (by omega), hA⟩
  have b2 : Below w.heap.size w (put8v w3 w.heap.size v0 v1 v2 v3 v4 v5 v6 v7) := hB.grown g (by omega) (fun k hk => by injection hk with hk; omega)
  exact b2.grown g2 (by have := g.size; omega) (fun k hk => by injection hk with hk; omega)
/-- the cells of the results -/
theorem fin_cells {w w3 : World} {B : Nat} {u u0 : Value} {v0 v1 v2 v3 v4 v5 v6 v7 a0 a1 a2 a3 a4 a5 a6 a7 : Value} (z : Z8 w3 B a0 a1 a2 a3 a4 a5 a6 a7) (h : w3.cell? ⟨B + 1, 0, none⟩ = some u0) : Z8 ((put8v w3 B v0 v1 v2 v3 v4 v5 v6 v7).setCell ⟨B + 1, 0, none⟩ u) B v0 v1 v2 v3 v4 v5 v6 v7 ∧ ((put8v w3 B v0 v1 v2 v3 v4 v5 v6 v7).setCell ⟨B + 1, 0, none⟩ u).cell? ⟨B + 1, 0, none⟩ = some u :=
  ⟨z.put.other (by omega), cs1 (((put8v_grown w3 B v0 v1 v2 v3 v4 v5 v6 v7).cell_far ⟨B + 1, 0, none⟩ (World.block_lt_of_cell? w3 _ h) (by simp)).trans h)⟩

set_option maxHeartbeats 4000000 in
theorem hr_at (A : Option Addr) (c m : Nat) (l : List (BS × BS)) (p : Addr) (r : Option RQ) (w : World) (hR : Reads w w.heap.size 2 A l.length (fc l)) (hl : l.length ≤ 32768) (hE : Env w p) (hm : m ≤ 900000) (hK : ReqOk p l m r) (hq : ∀ q, r = some q → RQB q) :
    Calls Tryz.prog 8 #[.slice A l.length c] w (HRPost w r) := by
  have hb0 := below_new w zero31
  have hb := hb0.alloc (w := w.alloc zero31) (by simp) (.cells #[.bool false] 4)
  have KF := fields_at A c l ((w.alloc zero31).alloc (.cells #[.bool false] 4)) (((hR.alloc (Nat.le_refl _) _).alloc (by simp) _).more hb.size) (by omega)
  have HB := Lib.hid hb
  have HE := Lib.hid (hE.cut hb hE.ge)
  have HK := Lib.hid hK
  have HQ := Lib.hid hq
  have Z0 := Lib.hid ((Z8.new w (str []) (str []) (str []) (str []) (str []) (.int .i64 0) (.slice none 0 0) (.slice none 0 0) 31).below (below_new _ (.cells #[.bool false] 4)))
  clear hb hb0 hR hE hK hq
  go_enter_defers Tryz.func8, Tryz.ntmps8
  go_wp2_with fail
  refine KF.mono ?_
  rintro e w1 ⟨A1, c1, rfl, hrow1, hb1⟩
  have HB1 := Lib.hid (Below.next HB.out HB.out.size hb1)
  have R0 : Hid (w1.cell? ⟨w.heap.size + 1, 0, none⟩ = some (.bool false)) := Lib.hid ((hb1.cell (p := ⟨w.heap.size + 1, 0, none⟩) (by simp)).trans (by simp))
  have G0 : Hid (w1.frozen? ⟨w.heap.size + 1, 0, none⟩ = false) := Lib.hid ((hb1.frozen (p := ⟨w.heap.size + 1, 0, none⟩) (by simp)).trans (by simp))
  have Z1 := Lib.hid (Z0.out.below hb1)
  have hlt1 : w.heap.size + 1 < w1.heap.size := by have := hb1.size; simp at this; omega
  have KT := HK.out w1 A1 c1 (Reads.of_own hrow1) (row_cap hrow1) (HE.out.cut hb1 HE.out.ge)
  clear hrow1 hb1 KF
  go_wp2_with fail
  refine KT.mono ?_
  rintro e w2 ⟨v, ev, rfl, hb2, hev, h1, h2⟩
  have HB2 := Lib.hid (Below.next HB1.out HB1.out.size hb2)
  have x0 := (hb2.cell (p := ⟨w.heap.size + 1, 0, none⟩) hlt1).trans R0.out
  have y0 := (hb2.frozen (p := ⟨w.heap.size + 1, 0, none⟩) hlt1).trans G0.out
  have Z2 := Lib.hid (Z1.out.below hb2)
  have hlt2 : w.heap.size + 1 < w2.heap.size := Nat.lt_of_lt_of_le hlt1 hb2.size
  have H1 := Lib.hid h1
  have H2 := Lib.hid h2
  clear hb2 h1 h2 KT
  cases r with
  | none =>
    obtain ⟨p3, rfl⟩ := hev
    obtain rfl := H2.out rfl
    obtain ⟨⟨z0, z1, z2, z3, z4, z5, z6, z7⟩, zf⟩ := Z2.out
    have HP := Lib.hid (HRPost.fin (r := none) (tA := none) (tc := 0) (u := .bool false) (v0 := str []) (v1 := str []) (v2 := str []) (v3 := str []) (v4 := str []) (v5 := .int .i64 0) (v6 := .slice none 0 0) (v7 := .slice none 0 0) (HL.nil w2 w2.heap.size) hlt2 rfl HB2.out hlt2)
    have HC := Lib.hid (fin_cells (w := w2) (u := .bool false) (v0 := str []) (v1 := str []) (v2 := str []) (v3 := str []) (v4 := str []) (v5 := .int .i64 0) (v6 := .slice none 0 0) (v7 := .slice none 0 0) Z2.out x0)
    go_wp2_with fail
    refine leaves_cons (f := 25) (args := #[.pointer (some ⟨w.heap.size + 1, 0, none⟩)]) (by simp) (by simp [go_sem]) ?_
    refine (caught_idle ⟨w.heap.size + 1, 0, none⟩ _).mono ?_
    rintro e u' w'' ⟨rfl, rfl, rfl⟩
    obtain ⟨⟨⟨x0, x1, x2, x3, x4, x5, x6, x7⟩, xf⟩, hbc⟩ := HC.out
    exact ⟨_, (show _ = Result.ok (Value.tuple #[.agg #[str [], str [], str [], str [], str [], .int .i64 0, .slice none 0 0, .slice none 0 0], .bool false]) _ by simp [results, Tryz.results8, go_sem, x0, x1, x2, x3, x4, x5, x6, x7, hbc]), HP.out⟩
  | some q =>
    obtain rfl : ev = .nilIface := hev
    obtain ⟨rb, ub, b, n, base, es, rfl, hRA⟩ := H1.out q rfl
    have hqb := HQ.out q rfl
    have KO := of_at rb ub b n base m es q w2 hRA hm (by rw [absE_len hRA.abs]; exact hqb.len) hqb.uhost hqb.utarget
    clear hRA hqb
    go_wp2_with fail
    refine KO.mono ?_
    rintro e w3 ⟨hv, es3, tA, tc, rfl, hL, hA, hb3⟩
    obtain ⟨A3, k3, rfl⟩ := row_form hL.row
    have HBF := Lib.hid (Below.next HB2.out HB2.out.size hb3)
    have q0 := (hb3.cell (p := ⟨w.heap.size + 1, 0, none⟩) hlt2).trans x0
    have g0 := (hb3.frozen (p := ⟨w.heap.size + 1, 0, none⟩) hlt2).trans y0
    have Z3 := Lib.hid (Z2.out.below hb3)
    obtain ⟨⟨z0, z1, z2, z3, z4, z5, z6, z7⟩, zf⟩ := Z3.out
    have HL3 := Lib.hid hL
    have HA3 := Lib.hid hA
    have HP := Lib.hid (HRPost.fin (r := some q) (tA := tA) (tc := tc) (u := .bool true) (v0 := str q.meth) (v1 := str (urlOf q)) (v2 := str q.proto) (v3 := str q.host) (v4 := str q.uri) (v5 := .int .i64 q.len) (v6 := .slice A3 es3.length k3) (v7 := .slice tA 0 tc) hL hlt2 hA HBF.out (Nat.lt_of_lt_of_le hlt2 hb3.size))
    have HC := Lib.hid (fin_cells (w := w2) (u := .bool true) (v0 := str q.meth) (v1 := str (urlOf q)) (v2 := str q.proto) (v3 := str q.host) (v4 := str q.uri) (v5 := .int .i64 q.len) (v6 := .slice A3 es3.length k3) (v7 := .slice tA 0 tc) Z3.out q0)
    clear hL hA hb3 KO x0 y0
    go_wp2_with fail
    refine leaves_cons (f := 25) (args := #[.pointer (some ⟨w.heap.size + 1, 0, none⟩)]) (by simp) (by simp [go_sem]) ?_
    refine (caught_idle ⟨w.heap.size + 1, 0, none⟩ _).mono ?_
    rintro e u' w'' ⟨rfl, rfl, rfl⟩
    obtain ⟨⟨⟨x0, x1, x2, x3, x4, x5, x6, x7⟩, xf⟩, hbc⟩ := HC.out
    exact ⟨_, (show _ = Result.ok (Value.tuple #[.agg #[str q.meth, str (urlOf q), str q.proto, str q.host, str q.uri, .int .i64 q.len, .slice A3 es3.length k3, .slice tA 0 tc], .bool true]) _ by simp [results, Tryz.results8, go_sem, x0, x1, x2, x3, x4, x5, x6, x7, hbc]), HP.out⟩
end Go.Proofs.YtgcfnhchmmkndaaGreatDoor
