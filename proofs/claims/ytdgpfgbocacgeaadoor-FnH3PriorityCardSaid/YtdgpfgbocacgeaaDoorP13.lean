/- spec.PRRead. -/
import Derived.Test.YtdgpfgbocacgeaaDoorP12
import Derived.OwnWalk
import Derived.Deep.CutBlock
import Derived.Deep.DeepCutAuto
namespace Go.Proofs.YtdgpfgbocacgeaaDoor
open Go.RowKit
set_option linter.unusedVariables false

theorem info9 : (Tryd.prog.info? 9).map (fun i => (i.zero, i.size, i.bytes)) = some (some (.string ⟨#[]⟩), 1, 16) := by kernel_rfl
theorem underlying34 : Tryd.prog.underlying 34 = some (.slice 9) := by kernel_rfl

theorem pr_end {v : ByteArray} {w wc : World} {ua ub ia ib ur : Int} {inc : Bool} {nq : Nat} (HB : Hid (Below w.heap.size w wc)) (HW : Hid (Whole (bl v) (ua, ub) (ia, ib))) (e1 : ur = urgOf ua ub) (e2 : inc = incOf ia ib) :
    PRPost v w (.returned (.tuple #[iv ur, .bool inc, .bool true])) (wc.drewN nq) :=
  ⟨HB.out.trans ⟨rfl, rfl, rfl, Nat.le_refl _, fun _ _ => rfl⟩, ur, inc, true, rfl, fun _ => ⟨(ua, ub), (ia, ib), HW.out, e1, e2⟩⟩
theorem pr_fail {v : ByteArray} {w wc : World} (hb : Below w.heap.size w wc) : PRPost v w (.returned (.tuple #[iv 3, .bool false, .bool false])) wc := ⟨hb, 3, false, false, rfl, fun h => by cases h⟩

def Chk (k : List UInt8) (kd n : Int) (raw : List UInt8) : Prop := k = [117] → kd = 1 → 0 ≤ n → n ≤ 7 → raw.length ≤ 1 ∨ raw[1]? = some 59
theorem chk_le {raw : ByteArray} (h : (raw.size : Int) ≤ 1) : (bl raw).length ≤ 1 ∨ (bl raw)[1]? = some 59 := .inl (by rw [len_eq]; omega)
theorem chk_59 {raw : ByteArray} (h : 1 < raw.size) (hb : ((raw[1].toNat : Int) != 59) = false) : (bl raw).length ≤ 1 ∨ (bl raw)[1]? = some 59 := by
  have h1 : 1 < (bl raw).length := by rw [len_eq]; exact h
  have e : raw[1] = 59 := by
    have := u8_eq raw[1] 59
    have h2 : ((raw[1].toNat : Int) == 59) = true := by simpa [bne] using hb
    rw [show (59 : Int) = ((59 : UInt8).toNat : Int) from rfl, this] at h2
    simpa using h2
  exact .inr (by rw [List.getElem?_eq_getElem h1, get_eq raw 1 h, e])
def CutA (W0 : World) (v : ByteArray) (t bu bi base R : Nat) (val : Value) (ns : List ByteArray) (u i : Int × Int) (l3 : List UInt8) (s14 : Value) (wr : World) : Prop :=
  ∃ (s' : ByteArray) (o' : Bool) (raw : ByteArray) (kd n : Int) (c : List UInt8), s14 = .string raw ∧ DSt W0 wr t bu bi base s' o' val ns u i ∧ Pr wr R (iv kd) (iv n) ∧ l3 = c ++ bl s' ∧ s'.size ≤ l3.length ∧
    ((c = 61 :: bl raw ∧ MemberIs (bl raw) kd n) ∨ (kd = 2 ∧ n = 1 ∧ bl raw = [] ∧ Params c))

set_option maxHeartbeats 4000000 in
set_option maxRecDepth 100000 in
theorem read_at (v : ByteArray) (w : World) (hs : v.size ≤ 2147483647) : Calls Tryd.prog 4 #[.string v] w (PRPost v w) := by
  have T0 : Tx (w.alloc (.cells #[.string v, .bool false] 30)) w.heap.size v false := ⟨by simp, by simp, by simp, by simp, by simp⟩
  go_enter Tryd.func4, Tryd.ntmps4
  go_wp2_with fail
  refine (skip_at w.heap.size false v false _ T0).mono ?_
  rintro e W ⟨rfl, s1, sp, T1, g1, e1, hsp⟩
  have hz := g1.size
  simp at hz
  have D0 : DSt w ((W.alloc (.cells #[iv 0, iv 0] 33)).alloc (.cells #[iv 0, iv 0] 33)) w.heap.size W.heap.size (W.heap.size + 1) (W.heap.size + 2) s1 false (.slice none 0 0) [] (0, 0) (0, 0) := {
    tx := (T1.below (below_new W _)).below (below_new _ _)
    row := World.ownsRow_nil _ _ _ _
    pu := (Pr.new W _ _ 33).below (below_new _ _)
    pi := by simpa using Pr.new (W.alloc (.cells #[iv 0, iv 0] 33)) (iv 0) (iv 0) 33
    bel := (((((Below.refl _ w).alloc (Nat.le_refl _) _).grown g1 (by simp) (by simp)).alloc (by omega) _).alloc (by simp; omega) _)
    n1 := by omega
    n2 := by omega
    n3 := by omega
    k0 := by omega
    k1 := by omega
    k2 := by omega
    b0 := by omega
    b1 := by omega
    b2 := by omega
    b3 := by simp }
  have hR : ROut w v w.heap.size W.heap.size (W.heap.size + 1) (W.heap.size + 2) (.slice none 0 0) ((W.alloc (.cells #[iv 0, iv 0] 33)).alloc (.cells #[iv 0, iv 0] 33)) := by
    refine ⟨s1, false, [], (0, 0), (0, 0), [], sp, D0, by simpa using e1, .start sp (fun x hx => ?_), ?_, fun _ => rfl⟩
    · exact (hsp x hx).elim .inl (fun h => by cases h.1)
    · have h1 := len_eq v
      have h2 := len_eq s1
      rw [e1, List.length_append] at h1
      simp
      omega
  have HR := Lib.hid hR
  clear hR D0 T0 T1 g1 e1 hsp
  go_upto_block 0 with fail
  go_cut [] (fun wx => REnd w v W.heap.size (W.heap.size + 1) wx)
  case first =>
    go_wp2_with fail
    go_loopw [8] (fun val wr => ROut w v w.heap.size W.heap.size (W.heap.size + 1) (W.heap.size + 2) val wr) (fun _ wr => textLen w.heap.size wr)
    case atStart => exact HR.out
    case round =>
      clear HR
      obtain ⟨s', o', ns, u, i, pre, ws, D, hv, hrd, hn, hpre⟩ := hrel
      rw [D.tx.len]
      obtain ⟨A, c, rfl⟩ := row_form D.row
      have HD := Lib.hid D
      have HV := Lib.hid hv
      have HRD := Lib.hid hrd
      have HPRE := Lib.hid hpre
      obtain ⟨s0, o0, fs, fo, lt⟩ := D.tx
      clear D hv hrd hpre
      rcases h' : s'.data.toList with _ | ⟨x, r'⟩
      · have HN : Hid (REnd w v W.heap.size (W.heap.size + 1) wr) := Lib.hid (by
          have hp := HPRE.out h'
          obtain ⟨hw, rfl, rfl⟩ := read_nil HRD.out hp
          refine ⟨_, _, HD.out.pu, HD.out.pi, HD.out.bel, ?_⟩
          have := HV.out
          rw [hp] at this
          simp [h'] at this
          rw [this]
          exact .none ws hw)
        obtain rfl := nil_empty h'
        clear h'
        go_wp2_with fail
        go_meet
        case rel => exact HN.out
      · have k1 := cons_size h'
        have k2 := cons_ne h'
        have k3 := cons_toList h'
        have k4 := cons_isEmpty h'
        clear h'
        go_wp2_with fail
        refine (key_at w.heap.size s' o' _ HD.out.tx (by omega)).mono ?_
        rintro e W2 ⟨kk, is, s3, rfl, T3, g3, hk⟩
        have HD3 := Lib.hid (HD.out.grown T3 g3)
        have HK := Lib.hid hk
        clear g3 hk T3 HD s0 o0 fs fo lt
        cases is
        · go_wp2_with fail
          go_ret3
          exact pr_fail HD3.out.bel
        · have HK2 := Lib.hid (HK.out rfl)
          clear HK
          go_wp2_with fail
          go_loop [37] (fun i => ∃ k : Nat, k ≤ ns.length ∧ i = .int .i64 k ∧ ∀ n ∈ ns.take k, bl n ≠ bl kk) (fun i => ns.length - (intOf i).toNat)
          case atStart => exact ⟨0, by omega, rfl, by simp⟩
          case round =>
            obtain ⟨j, hj, rfl, hne⟩ := hrel
            have HNE := Lib.hid hne
            clear hne
            rcases Nat.lt_or_ge j ns.length with hjl | hjl
            · obtain ⟨g, cap, hA, _, _⟩ := HD3.out.row.form (by omega)
              obtain ⟨rfl, rfl⟩ : A = some ⟨g, 0, none⟩ ∧ c = cap := by
                injection hA with h1 h2 h3
                exact ⟨h1, h3⟩
              have hc : W2.cell? ⟨g, j, none⟩ = some (.string ns[j]) := by
                rw [HD3.out.row.cellAt j (by omega)]
                simp [hjl]
              clear hA
              by_cases heq : bl ns[j] = bl kk
              · have f1 : (ns[j].toList == kk.toList) = true := by rw [Lib.toList_data, Lib.toList_data]; simpa using heq
                clear heq
                go_wp2_with fail
                go_ret3
                exact pr_fail HD3.out.bel
              · have f1 : (ns[j].toList == kk.toList) = false := by rw [Lib.toList_data, Lib.toList_data]; simpa using heq
                have HE := Lib.hid heq
                clear heq
                go_wp2_with fail
                go_round
                case rel =>
                  refine ⟨j + 1, by omega, by go_num, fun n hn => ?_⟩
                  rw [List.take_succ_eq_append_getElem hjl] at hn
                  rcases List.mem_append.1 hn with hn | hn
                  · exact HNE.out n hn
                  · obtain rfl : n = ns[j] := by simpa using hn
                    exact HE.out
                case measure => simp [intOf]; omega
            · have e : j = ns.length := by omega
              subst e
              have HNEW : Hid (bl kk ∉ ns.map bl) := Lib.hid (by
                intro hm
                obtain ⟨n, hn, he⟩ := List.mem_map.1 hm
                exact HNE.out n (by simpa using hn) he)
              clear HNE
              have f1 : decide ((ns.length : Int) < (ns.length : Int)) = false := by simp
              obtain ⟨i9, hi9, hz0, hz1, hz2⟩ := info_parts info9
              go_wp2_with (at_builtin; refine wpList_append_own _ rfl _ _ 34 rfl (W.heap.size + 2) 9 i9 (.string ⟨#[]⟩) 1 16 underlying34 hi9 hz0 hz1 hz2 rfl (by decide) _ _ _ rfl (HD3.out.row.alloc _) ⟨W2.heap.size, 0, none⟩ 1 1 [.string kk] rfl rfl ?c1 ?c2 ?c3 ?c4 ?c5 ?_)
              case c2 => exact rfl
              case c3 => unfold maxLen; omega
              case c4 => omega
              case c5 => have := HD3.out.b3; simp; omega
              intro v' w1 hown' hgrow _
              have HD4 := Lib.hid ((HD3.out.alloc (.cells #[.string kk] 9)).append kk hown' hgrow)
              have HD5 := Lib.hid (HD4.out.alloc (.cells #[iv 2, iv 1] 33))
              have PX := Lib.hid (Pr.new w1 (iv 2) (iv 1) 33)
              clear hown' hgrow hi9 hz0 hz1 hz2
              have hv' : v'.ownBlock ≠ some w1.heap.size := HD4.out.own_ne' (Nat.le_refl _)
              have hR : W.heap.size + 2 ≤ w1.heap.size := HD4.out.b3
              have z3 : s3.size < s'.size := by
                obtain ⟨e1, _, c, r, e2, _⟩ := HK2.out
                have q1 := len_eq s'
                have q2 := len_eq s3
                rw [e1, e2] at q1
                simp at q1
                omega
              go_upto_if 52 with (go_at_call 9; refine (at_at w.heap.size s3 o' _ HD5.out.tx).mono ?_; rintro e w2 ⟨rfl, hw2⟩; subst hw2)
              go_cut [14] (fun s14 wx => CutA w v w.heap.size W.heap.size (W.heap.size + 1) (W.heap.size + 2) w1.heap.size v' (ns ++ [kk]) u i (bl s3) s14 wx)
              case first =>
                have hv' : v'.ownBlock ≠ some w1.heap.size := HD4.out.own_ne' (Nat.le_refl _)
                have hR : W.heap.size + 2 ≤ w1.heap.size := HD4.out.b3
                by_cases h61 : headB s3 = 61
                · have f2 : (((headB s3).toNat : Int) == 61) = true := by rw [h61]; rfl
                  obtain ⟨r4, hr4⟩ := head_cons h61 (by decide)
                  have m1 := cons_size hr4
                  have m2 := cons_ne hr4
                  have m3 := cons_toList hr4
                  have m4 := cons_isEmpty hr4
                  have m5 := cons_less hr4
                  have H4 : Hid (s3.data.toList = 61 :: (s3.extract 1 s3.size).data.toList) := Lib.hid (by rw [cons_rest hr4]; exact hr4)
                  clear hr4 h61
                  have T4 := HD5.out.tx.sets (s3.extract 1 s3.size)
                  have HD6 := Lib.hid (HD5.out.grown T4 (grown_set _ _ 0 (.string (s3.extract 1 s3.size))))
                  have PX4 := Lib.hid (PX.out.other (p := ⟨w.heap.size, 0, none⟩) (.string (s3.extract 1 s3.size)) (by have := HD5.out.b0; simp; omega))
                  obtain ⟨s0, o0, fs, fo, lt⟩ := id HD5.out.tx
                  have a0 := T4.s0
                  go_wp2_with fail
                  clear a0
                  refine (member_at w.heap.size (s3.extract 1 s3.size) o' _ T4 (by omega)).mono ?_
                  rintro e W5 ⟨kd, n, is, s5, o5, rfl, T5, g5, ho5, hm⟩
                  have HD7 := Lib.hid (HD6.out.grown T5 g5)
                  have PX5 := Lib.hid (pr_grown PX4.out g5 (by omega))
                  have HD8 := Lib.hid (HD7.out.other (grown_two W5 w1.heap.size (iv kd) (iv n)) hR hv')
                  have PX8 := Lib.hid (PX5.out.sets (iv kd) (iv n))
                  have HM := Lib.hid hm
                  have HO := Lib.hid ho5
                  obtain ⟨c0, c1, q0, q1, ql⟩ := id PX5.out
                  obtain ⟨t0, t1, t2, t3, t4⟩ := id HD8.out.tx
                  clear hm ho5 T4 T5 g5 s0 o0 fs fo lt HD6 PX4 HD5 PX
                  cases is
                  · go_wp2_with fail
                    go_ret3
                    exact pr_fail HD8.out.bel
                  · have HM2 := Lib.hid (HM.out rfl)
                    have z5 : s5.size < (s3.extract 1 s3.size).size := HM2.out.1
                    clear HM
                    cases o5
                    · go_wp2_with fail
                      go_meet
                      obtain ⟨_, _, c5, e5, mm⟩ := HM2.out
                      have hz1 : (s3.extract 1 s3.size).size = s3.size - 1 := by rw [← len_eq, drop_eq, List.length_drop, len_eq]
                      have hraw := raw_eq (s4 := s3.extract 1 s3.size) (s5 := s5) (k := s3.size - 1 - s5.size) e5 (by rw [hz1])
                      refine ⟨s5, false, _, kd, n, 61 :: c5, rfl, HD8.out, PX8.out, ?_, ?_, .inl ⟨by rw [hraw], by rw [hraw]; exact mm⟩⟩
                      · show s3.data.toList = _
                        rw [H4.out, e5]
                        rfl
                      · have : (bl s3).length = s3.size := len_eq s3
                        omega
                    · go_wp2_with fail
                      go_ret3
                      exact pr_fail HD8.out.bel
                · have f2 : (((headB s3).toNat : Int) == 61) = false := eq_false (c := 61) h61
                  clear h61
                  go_wp2_with fail
                  refine (params_at w.heap.size s3 o' _ HD5.out.tx (by omega)).mono ?_
                  rintro e W5 ⟨is, s5, o5, rfl, T5, g5, ho5, hp⟩
                  have HD7 := Lib.hid (HD5.out.grown T5 g5)
                  have PX5 := Lib.hid (pr_grown PX.out g5 (by omega))
                  have HP5 := Lib.hid hp
                  clear hp ho5 T5 g5 HD5 PX
                  cases is
                  · go_wp2_with fail
                    go_ret3
                    exact pr_fail HD7.out.bel
                  · have HP6 := Lib.hid (HP5.out rfl)
                    clear HP5
                    go_wp2_with fail
                    go_meet
                    obtain ⟨z5, _, c6, e6, p6⟩ := HP6.out
                    exact ⟨s5, o5, ⟨#[]⟩, 2, 1, c6, rfl, HD7.out, PX5.out, e6, by rw [len_eq]; exact z5, .inr ⟨rfl, rfl, rfl, p6⟩⟩
              case rest =>
                obtain ⟨s6, o6, raw, kd, n, c6, rfl, D6, P6, hc6, hl6, hm6⟩ := hcut
                have HD6 := Lib.hid D6
                have HC6 := Lib.hid hc6
                have HM6 := Lib.hid hm6
                obtain ⟨c0, c1, q0, q1, ql⟩ := id P6
                have HP6 := Lib.hid P6
                clear D6 hc6 hm6 P6 HD5 PX
                go_upto_region 27 with fail
                go_cut [117] (fun s117 wx => wc = wx ∧ ∃ b, s117 = .bool b ∧ (b = false → Chk (bl kk) kd n (bl raw)))
                case first =>
                  go_wp2_with fail
                  all_goals go_meet
                  all_goals refine ⟨rfl, _, rfl, fun hb hk h1 h0 h7 => ?_⟩
                  all_goals first
                    | exact chk_59 _ hb
                    | exact chk_le ‹_›
                    | (exfalso; rename_i hx; exact hx (by rw [Lib.toList_data]; exact hk))
                    | (exfalso; omega)
                case rest =>
                  obtain ⟨rfl, b, rfl, hck⟩ := hcut
                  have HCK := Lib.hid hck
                  clear hck
                  cases b
                  · go_upto_block 4 with fail
                    go_cut [] (fun wx => DSt w wx w.heap.size W.heap.size (W.heap.size + 1) (W.heap.size + 2) s6 o6 v' (ns ++ [kk]) (if bl kk = [117] then (kd, n) else u) (if bl kk = [105] then (kd, n) else i))
                    case first =>
                      obtain ⟨d0, d1, d2, d3, d4⟩ := id HD6.out.pu
                      obtain ⟨e0, e1, e2, e3, e4⟩ := id HD6.out.pi
                      by_cases hu : bl kk = [117]
                      · have g1 : (kk.toList == [117]) = true := by rw [Lib.toList_data]; simpa using hu
                        have HU := Lib.hid hu
                        clear hu
                        go_wp2_with fail
                        go_meet
                        rw [if_pos HU.out, if_neg (by rw [HU.out]; decide)]
                        exact HD6.out.setu kd n
                      · have g1 : (kk.toList == [117]) = false := by rw [Lib.toList_data]; simpa using hu
                        have HU := Lib.hid hu
                        clear hu
                        by_cases hi : bl kk = [105]
                        · have g2 : (kk.toList == [105]) = true := by rw [Lib.toList_data]; simpa using hi
                          have HI := Lib.hid hi
                          clear hi
                          go_wp2_with fail
                          go_meet
                          rw [if_neg HU.out, if_pos HI.out]
                          exact HD6.out.seti kd n
                        · have g2 : (kk.toList == [105]) = false := by rw [Lib.toList_data]; simpa using hi
                          have HI := Lib.hid hi
                          clear hi
                          go_wp2_with fail
                          go_meet
                          rw [if_neg HU.out, if_neg HI.out]
                          exact HD6.out
                    case rest =>
                      have HD7 := Lib.hid hcut
                      clear hcut c0 c1 q0 q1 ql HD6 HP6
                      go_wp2_with fail
                      refine (skip_at w.heap.size true s6 o6 _ HD7.out.tx).mono ?_
                      rintro e W8 ⟨rfl, s8, sp8, T8, g8, e8, hs8⟩
                      have HD8 := Lib.hid (HD7.out.grown T8 g8)
                      have HE8 := Lib.hid e8
                      have HS8 : Hid (∀ x ∈ sp8, isWs x) := Lib.hid (fun x hx => (hs8 x hx).imp id And.right)
                      have z8 : s8.size ≤ s6.size := by
                        have q1 := len_eq s8
                        have q2 := len_eq s6
                        rw [e8, List.length_append] at q2
                        omega
                      clear g8 e8 hs8 HD7
                      obtain ⟨t0, t1, t2, t3, t4⟩ := id T8
                      rcases h8 : s8.data.toList with _ | ⟨x8, r8⟩
                      · have H8 := Lib.hid h8
                        obtain rfl := nil_empty h8
                        clear h8
                        go_wp2_with fail
                        go_meet
                        refine ⟨if bl kk = [117] then (kd, n) else u, if bl kk = [105] then (kd, n) else i, HD8.out.pu, HD8.out.pi, HD8.out.bel, ?_⟩
                        obtain ⟨e1, hkc, x1, r1, e2, _⟩ := HK2.out
                        have hwh := Whole.last pre ws (bl kk ++ c6) (bl kk) (bl raw) sp8 kd n (ns.map bl) u i HRD.out (by show kk.data.toList ≠ []; rw [e2]; simp) hkc (mem_of HM6.out) HNEW.out (HCK.out (by trivial)) HS8.out
                        have hvv : bl v = pre ++ ws ++ (bl kk ++ c6) ++ sp8 := by
                          rw [HV.out, show bl s' = bl kk ++ bl s3 from e1, HC6.out, show bl s6 = sp8 ++ _ from HE8.out, H8.out]
                          simp
                        rw [hvv]
                        exact hwh
                      · have k1 := cons_size h8
                        have k2 := cons_ne h8
                        have k3 := cons_toList h8
                        have k4 := cons_isEmpty h8
                        have k5 := cons_get h8 k1
                        have k6 := cons_less h8
                        by_cases h44 : x8 = 44
                        · have f44 : ((s8[0].toNat : Int) != 44) = false := by rw [k5, h44]; rfl
                          have H8 : Hid (s8.data.toList = 44 :: (s8.extract 1 s8.size).data.toList) := Lib.hid (by rw [cons_rest h8, ← h44]; exact h8)
                          clear h8 h44 k5
                          have T9 := T8.sets (s8.extract 1 s8.size)
                          have HD9 := Lib.hid (HD8.out.grown T9 (grown_set _ _ 0 (.string (s8.extract 1 s8.size))))
                          go_wp2_with fail
                          refine (skip_at w.heap.size true (s8.extract 1 s8.size) o6 _ T9).mono ?_
                          rintro e W10 ⟨rfl, s10, sp10, T10, g10, e10, hs10⟩
                          have HD10 := Lib.hid (HD9.out.grown T10 g10)
                          have HE10 := Lib.hid e10
                          have HS10 : Hid (∀ x ∈ sp10, isWs x) := Lib.hid (fun x hx => (hs10 x hx).imp id And.right)
                          have z10 : s10.size ≤ (s8.extract 1 s8.size).size := by
                            have q1 := len_eq s10
                            have q2 := len_eq (s8.extract 1 s8.size)
                            rw [e10, List.length_append] at q2
                            omega
                          clear g10 e10 hs10 HD9 T9 t0 t1 t2 t3 t4
                          obtain ⟨t0, t1, t2, t3, t4⟩ := id T10
                          rcases h10 : s10.data.toList with _ | ⟨x10, r10⟩
                          · obtain rfl := nil_empty h10
                            clear h10
                            go_wp2_with fail
                            go_ret3
                            exact pr_fail HD10.out.bel
                          · have j2 := cons_ne h10
                            have j3 := cons_toList h10
                            have j4 := cons_isEmpty h10
                            have H10 : Hid (bl s10 ≠ []) := Lib.hid (by show s10.data.toList ≠ []; rw [h10]; simp)
                            clear h10
                            go_wp2_with fail
                            obtain ⟨e1, hkc, x1, r1, e2, _⟩ := HK2.out
                            have hread := Read.step pre ws (bl kk ++ c6) (bl kk) (bl raw) sp8 sp10 kd n (ns.map bl) u i HRD.out (by show kk.data.toList ≠ []; rw [e2]; simp) hkc (mem_of HM6.out) HNEW.out (HCK.out (by trivial)) HS8.out HS10.out
                            have hl3 : (bl s3).length = s3.size := len_eq s3
                            refine ⟨⟨s10, o6, ns ++ [kk], if bl kk = [117] then (kd, n) else u, if bl kk = [105] then (kd, n) else i, _, sp10, HD10.out, ?_, by rw [List.map_append]; exact hread, ?_, fun h => absurd h H10.out⟩, ?_⟩
                            · rw [HV.out, show bl s' = bl kk ++ bl s3 from e1, HC6.out, show bl s6 = sp8 ++ bl s8 from HE8.out, show bl s8 = _ from H8.out, HE10.out]
                              simp
                            · simp only [List.length_append, List.length_cons, List.length_nil]
                              omega
                            · rw [HD10.out.tx.len]
                              omega
                        · have f44 : ((s8[0].toNat : Int) != 44) = true := by rw [k5]; exact ne_true (c := 44) h44
                          clear h8 h44 k5
                          go_wp2_with fail
                          go_ret3
                          exact pr_fail HD8.out.bel
                  · go_wp2_with fail
                    go_ret3
                    exact pr_fail HD6.out.bel
  case rest =>
    obtain ⟨⟨ua, ub⟩, ⟨ia, ib⟩, pu, pi, hb, hw⟩ := hcut
    have HB := Lib.hid hb
    have HW := Lib.hid hw
    clear HR hb hw
    obtain ⟨c0, c1, q0, q1, ql⟩ := pu
    obtain ⟨d0, d1, p0, p1, pl⟩ := pi
    simp only at c0 c1 d0 d1
    by_cases hi : ia = 2
    · have f1 : (ia == 2) = true := by simpa using hi
      have HI := Lib.hid hi
      clear hi
      go_wp2_with fail
      all_goals go_quiet (fail)
      all_goals go_wp2_with fail
      all_goals go_ret3
      all_goals exact pr_end HB HW (by unfold urgOf; split <;> omega) (by rw [HI.out]; simp [incOf]; rfl)
    · have f1 : (ia == 2) = false := by simpa using hi
      have HI := Lib.hid hi
      clear hi
      go_wp2_with fail
      all_goals go_quiet (fail)
      all_goals go_wp2_with fail
      all_goals go_ret3
      all_goals exact pr_end HB HW (by unfold urgOf; split <;> omega) (by simp [incOf, HI.out])
end Go.Proofs.YtdgpfgbocacgeaaDoor
