/- spec.H3Frames at one frame of SETTINGS. -/
import Derived.Test.YtpegafbcfpedoaaH14
namespace Go.Proofs.Ytpegafbcfpedoaa
open Go.RowKit Go.Maps
set_option linter.unusedVariables false
set_option maxRecDepth 100000

def rcells (v : Value) (d s : Bool) : List Value := [v, .int .u64 0, .bool d, .bool s]
def FramesPost (w : World) (qs : List (Nat × Nat)) (e : Ending) (w' : World) : Prop :=
  ∃ mx dat ext v ps A c, e = .returned (.agg #[.slice A 1 c, .int .u64 0, .bool true, .bool true]) ∧ Told qs mx dat ext ps ∧ w'.ownsRow w.heap.size 29 8 (.slice A 1 c) 1 (fcells mx dat ext v) ∧ w'.ownsRow w.heap.size 41 2 v ps.length (pcells ps) ∧ Below w.heap.size w w'

theorem info29 : (Try.prog.info? 29).map (fun i => (i.zero, i.size, i.bytes)) = some (some (.agg #[.int .i64 0, .int .u64 0, .int .u64 0, .int .i64 0, .bool false, .bool false, .slice none 0 0, es]), 8, 80) := by kernel_rfl

structure F0 (w wx : World) : Prop where
  r : Blk wx w.heap.size (rcells (.slice none 0 0) false false)
  x : Blk wx (w.heap.size + 1) (rcells (.slice none 0 0) false true)
  bel : Below w.heap.size w wx
/-- behind the call -/
structure F1 (w wx : World) (qs : List (Nat × Nat)) (F : Nat) (mx : Int) (dat ext : Bool) (v : Value) (ps : List (Nat × Nat)) : Prop where
  z : F0 w wx
  t : Told qs mx dat ext ps
  f : Blk wx F (fcells mx dat ext v)
  row : wx.ownsRow (w.heap.size + 2) 41 2 v ps.length (pcells ps)
/-- behind the round -/
structure F2 (w wx : World) (qs : List (Nat × Nat)) (A : Option Addr) (c : Nat) (mx : Int) (dat ext : Bool) (v : Value) (ps : List (Nat × Nat)) : Prop where
  r : Blk wx w.heap.size (rcells (.slice none 0 0) false false)
  x : Blk wx (w.heap.size + 1) (rcells (.slice A 1 c) false true)
  bel : Below w.heap.size w wx
  t : Told qs mx dat ext ps
  row : wx.ownsRow (w.heap.size + 2) 41 2 v ps.length (pcells ps)
  rows : wx.ownsRow (w.heap.size + 2) 29 8 (.slice A 1 c) 1 (fcells mx dat ext v)

theorem F1.next {w wc w9 : World} {qs ps : List (Nat × Nat)} {F c9 : Nat} {A9 : Option Addr} {mx : Int} {dat ext : Bool} {v : Value} {ob : Obj} (h : F1 w wc qs F mx dat ext v ps)
    (hown : w9.ownsRow (w.heap.size + 2) 29 8 (.slice A9 1 c9) 1 (fcells mx dat ext v)) (hg : (wc.alloc ob).grownBy w9 none) :
    F2 w (w9.setCell ⟨w.heap.size + 1, 0, none⟩ (.slice A9 1 c9)) qs A9 c9 mx dat ext v ps := by
  have hx := (h.z.x.below (below_new _ ob)).grown hg (by simp)
  exact {
    r := ((h.z.r.below (below_new _ ob)).grown hg (by simp)).other _ (by simp)
    x := hx.set 0 _ (by simp [rcells])
    bel := (((h.z.bel.alloc h.z.bel.size ob).grown hg (by have := h.z.bel.size; simp; omega) (fun k hk => by cases hk))).grown (grown_set _ _ _ _) (by have := hg.size; have := h.z.bel.size; simp at *; omega) (fun k hk => by injection hk with hk; omega)
    t := h.t
    row := ((h.row.alloc ob).kept hg (by
      cases hv : v.ownBlock
      · exact .inl rfl
      · exact .inr (by simp))).kept (grown_set _ _ _ _) (.inr (fun e => by have := (h.row.lt _ e).1; omega))
    rows := hown.kept (grown_set _ _ _ _) (.inr (fun e => by have := (hown.lt _ e).1; omega)) }

theorem grown4 (w : World) (b : Nat) (x0 x1 x2 x3 : Value) : w.grownBy ((((w.setCell ⟨b, 0, none⟩ x0).setCell ⟨b, 1, none⟩ x1).setCell ⟨b, 2, none⟩ x2).setCell ⟨b, 3, none⟩ x3) (some b) :=
  (((grown_set w b 0 x0).trans (grown_set _ b 1 x1)).trans (grown_set _ b 2 x2)).trans (grown_set _ b 3 x3)

set_option maxHeartbeats 4000000 in
theorem frames_at (b o n c : Nat) (qs : List (Nat × Nat)) (w : World) (hq : Qok qs) (bs : List UInt8) (hbs : bs = vnEnc 4 ++ (vnEnc (qs.flatMap pairEnc).length ++ qs.flatMap pairEnc)) (hl : bs.length = n) (hR : Reads w w.heap.size 1 (some ⟨b, o, none⟩) n (bcells bs)) (hnc : n ≤ c) :
    Calls Try.prog 7 #[.slice (some ⟨b, o, none⟩) n c] w (FramesPost w qs) := by
  have HQ := Lib.hid hq
  have hlen := hq.len
  have hfl := flat_len qs
  obtain ⟨body, hbody⟩ : ∃ body, qs.flatMap pairEnc = body := ⟨_, rfl⟩
  rw [hbody] at hbs hfl
  have HB := Lib.hid hbody
  have hR1 := hR
  rw [hbs] at hR1
  have l4 : (vnEnc 4).length = 1 := by rw [vnEnc_len]; rfl
  obtain ⟨lm, hlm⟩ : ∃ lm, vnLen body.length = lm := ⟨_, rfl⟩
  have hlm0 := vnLen_pos body.length
  have hlm8 := vnLen_le body.length
  have lb : (vnEnc body.length).length = lm := by rw [vnEnc_len, hlm]
  have hnl : n = 1 + (lm + body.length) := by rw [← hl, hbs]; simp only [List.length_append, l4, lb]
  rw [hlm] at hlm0 hlm8
  have e1 := enc_read 4 (vnEnc body.length ++ body) (by omega)
  have e2 := enc_read body.length body (by omega)
  have hR2 := reads_drop hR1 (k := 1) (by omega)
  rw [show (vnEnc 4 ++ (vnEnc body.length ++ body)).drop 1 = vnEnc body.length ++ body from List.drop_left' l4] at hR2
  have hR3 := reads_drop hR2 (k := lm) (by omega)
  rw [show (vnEnc body.length ++ body).drop lm = body from List.drop_left' lb] at hR3
  have H1 := Lib.hid hR1
  have H2 := Lib.hid hR2
  have H3 := Lib.hid hR3
  have E1 := Lib.hid e1
  have E2 := Lib.hid e2
  have HLM := Lib.hid hlm
  obtain ⟨m, hm⟩ : ∃ m, body.length = m := ⟨_, rfl⟩
  rw [hm] at hnl hfl
  have HM := Lib.hid hm
  have HNL := Lib.hid hnl
  have n1 : 1 + lm ≤ n := by omega
  have n2 : n ≤ 2000 := by omega
  clear hR1 hR2 hR3 e1 e2 hR hq hbody hbs hl hlm l4 lb hm hnl
  go_enter Try.func7, Try.ntmps7
  go_wp2_with fail
  go_loopw [0] (fun s0 wx => (s0 = .slice (some ⟨b, o, none⟩) n c ∧ F0 w wx) ∨ (∃ A c' A9 c9 mx dat ext v ps, s0 = .slice A 0 c' ∧ F2 w wx qs A9 c9 mx dat ext v ps)) (fun s0 _ => slen s0)
  case atStart =>
    refine .inl ⟨rfl, (Blk.new w _ _).below (below_new _ _), ?_, ((Below.refl _ w).alloc (Nat.le_refl _) _).alloc (by simp) _⟩
    have := Blk.new (w.alloc (.cells (rcells (.slice none 0 0) false false).toArray 37)) (rcells (.slice none 0 0) false true).toArray 37
    rw [show (w.alloc (.cells (rcells (.slice none 0 0) false false).toArray 37)).heap.size = w.heap.size + 1 by simp] at this
    exact this
  case round =>
    rcases hrel with ⟨rfl, hS⟩ | ⟨A, c', A9, c9, mx, dat, ext, v, ps, rfl, hS⟩
    · have HS := Lib.hid hS
      clear hS
      have K1 : Calls Try.prog 14 #[.slice (some ⟨b, o, none⟩) n c] wr fun e w' => e = .returned (.tuple #[.int .u64 4, .int .i64 1]) ∧ wr = w' := by
        obtain ⟨b', o', ee, _, hbl, hbc⟩ := (H1.out.below HS.out.bel).byte (by omega)
        injection ee with ee
        injection ee with e21 e22
        subst e21 e22
        have K := get_any b o n c _ wr (by omega) hbl hnc (by omega) hbc (by rw [E1.out.1]; decide)
        rw [E1.out.1, E1.out.2] at K
        exact K
      have K2 : Calls Try.prog 14 #[.slice (some ⟨b, o + 1, none⟩) (n - 1) (c - 1)] wr fun e w' => e = .returned (.tuple #[.int .u64 m, .int .i64 lm]) ∧ wr = w' := by
        obtain ⟨b', o', ee, _, hbl, hbc⟩ := (H2.out.below HS.out.bel).byte (by omega)
        injection ee with ee
        injection ee with e21 e22
        subst e21 e22
        have K := get_any b (o + 1) (n - 1) (c - 1) _ wr (by omega) hbl (by omega) (by omega) hbc (by rw [E2.out.1, HLM.out]; omega)
        rw [E2.out.1, E2.out.2, HLM.out, HM.out] at K
        exact K
      have f1 : decide ((0 : Int) < (n : Int)) = true := by simp; omega
      have f2 : ((lm : Int) == 0) = false := by simp; omega
      have q1 : (0 : Int) ≤ 1 + (lm : Int) := by omega
      have q2 : (1 + (lm : Int)).toNat = 1 + lm := by omega
      have q3 : 1 + (lm : Int) ≤ n := by omega
      have q4 : (n : Int) ≤ c := by omega
      have q0 : IntKind.i64.wrap (1 + (lm : Int)) = 1 + (lm : Int) := IntWalk.i64_in _ (by omega)
      go_upto_region 8 with (first | ((with_reducible refine K1.mono ?_); rintro e w1 ⟨rfl, rfl⟩) | ((with_reducible refine K2.mono ?_); rintro e w1 ⟨rfl, rfl⟩))
      clear K1 K2
      go_cut [0] (fun s0 wx => wr = wx ∧ ∃ b2 o2 c', s0 = .slice (some ⟨b2, o2, none⟩) m c' ∧ m ≤ c' ∧ Reads wx wx.heap.size 1 (some ⟨b2, o2, none⟩) m (bcells body))
      case first =>
        have hrd := (H3.out.below HS.out.bel).more HS.out.bel.size
        rw [show n - 1 - lm = m by have := HNL.out; omega, Nat.add_assoc] at hrd
        have HRD := Lib.hid hrd
        clear hrd
        by_cases hcc : c = 1 + lm
        · have hm0 : m = 0 := by have := HNL.out; omega
          have hnn : n = 1 + lm := by have := HNL.out; omega
          subst hm0
          subst hnn
          subst hcc
          go_wp2_with fail
          go_meet
          case rel =>
            have hb0 : body = [] := List.eq_nil_of_length_eq_zero HM.out
            exact ⟨rfl, _, _, _, rfl, Nat.le_refl _, by rw [hb0]; exact reads_zero _ _ _⟩
        · have hcl : 1 + lm < c := by omega
          have hnm : n - (1 + lm) = m := by have := HNL.out; omega
          go_wp2_with fail
          go_meet
          case rel => exact ⟨rfl, _, _, _, rfl, by omega, HRD.out⟩
      case rest =>
        obtain ⟨rfl, b2, o2, c', rfl, hmc, hrd⟩ := hcut
        have HRD := Lib.hid hrd
        clear hrd f1 f2 q0 q1 q2 q3 q4
        have g1 : decide ((8192 : Int) < (m : Int)) = false := by simp; omega
        go_upto_region 35 with fail
        go_cut [10, 11, 12] (fun s10 s11 s12 wx => s11 = .bool true ∧ s12 = .bool true ∧ ∃ F mx dat ext A3 c3 ps, s10 = .pointer (some ⟨F, 0, none⟩) ∧ F1 w wx qs F mx dat ext (.slice A3 ps.length c3) ps)
        case first =>
          have KC := ctl_at (some ⟨b2, o2, none⟩) c' qs wr HQ.out m (by rw [HB.out]; exact HM.out) (by rw [HB.out]; exact HRD.out) hmc
          go_wp2_with ((with_reducible refine KC.mono ?_); rintro e w1 ⟨mx, dat, ext, v, ps, rfl, htold, hrow1, hb1⟩; obtain ⟨A3, c3, rfl⟩ := row_form hrow1; have HT := Lib.hid htold; have HR1 := Lib.hid hrow1; have HB1 := Lib.hid hb1; clear htold hrow1 hb1 KC; unfold frameV fcells)
          go_meet
          case rel =>
            refine ⟨rfl, rfl, _, mx, dat, ext, A3, c3, ps, rfl, ?_⟩
            exact {
              z := ⟨(HS.out.r.below HB1.out).below (below_new _ _), (HS.out.x.below HB1.out).below (below_new _ _), (HS.out.bel.trans (HB1.out.mono HS.out.bel.size)).alloc (Nat.le_trans HS.out.bel.size HB1.out.size) _⟩
              t := HT.out
              f := Blk.new w1 (fcells mx dat ext (.slice A3 ps.length c3)).toArray 29
              row := (own_base' HR1.out HS.out.x.lt).alloc _ }
        case rest =>
          obtain ⟨rfl, rfl, F, mx, dat, ext, A3, c3, ps, rfl, hF⟩ := hcut
          have HF := Lib.hid hF
          clear hF HS
          have a0 := HF.out.f.at_ 0 _ rfl
          have a1 := HF.out.f.at_ 1 _ rfl
          have a2 := HF.out.f.at_ 2 _ rfl
          have a3 := HF.out.f.at_ 3 _ rfl
          have a4 := HF.out.f.at_ 4 _ rfl
          have a5 := HF.out.f.at_ 5 _ rfl
          have a6 := HF.out.f.at_ 6 _ rfl
          have a7 := HF.out.f.at_ 7 _ rfl
          have x0 := HF.out.z.x.at_ 0 _ rfl
          have y0 := HF.out.z.x.fz 0 (by simp [rcells])
          obtain ⟨i9, hi9, hz0, hz1, hz2⟩ := info_parts info29
          have hbs : w.heap.size + 2 ≤ wc.heap.size := HF.out.z.x.lt
          go_wp2_with (at_builtin; refine wpList_append_own _ rfl (.tmp 127) (.tmp 129) 35 rfl (w.heap.size + 2) 29 i9 _ 8 80 Try.underlying35 hi9 hz0 hz1 hz2 rfl (by decide) _ _ [] rfl (World.ownsRow_nil _ _ _ _) ⟨wc.heap.size, 0, none⟩ 1 1 (fcells mx dat ext (.slice A3 ps.length c3)) rfl rfl ?c1 ?c2 ?c3 ?c4 ?c5 ?_)
          case c1 => exact cells_new wc (fcells mx dat ext (.slice A3 ps.length c3)) 29
          case c2 => intro u hu; simp only [fcells, List.mem_cons, List.mem_nil_iff, or_false] at hu; rcases hu with rfl | rfl | rfl | rfl | rfl | rfl | rfl | rfl <;> rfl
          case c3 => unfold maxLen; omega
          case c4 => omega
          case c5 => simp; omega
          intro v' w9 hown' hgrow _
          obtain ⟨A9, c9, rfl⟩ := row_form hown'
          have HO := Lib.hid hown'
          have HG := Lib.hid hgrow
          have HX9 := Lib.hid ((HF.out.z.x.below (below_new _ _)).grown hgrow (by simp [Value.ownBlock]))
          clear hown' hgrow hi9 hz0 hz1 hz2 x0 y0
          have x9 := HX9.out.at_ 0 _ rfl
          have y9 := HX9.out.fz 0 (by simp [rcells])
          by_cases hcm : c' = m
          · subst hcm
            go_wp2_with fail
            exact ⟨.inr ⟨_, _, A9, c9, mx, dat, ext, _, ps, rfl, HF.out.next HO.out HG.out⟩, by show 0 < n; omega⟩
          · have hlt : m < c' := by omega
            go_wp2_with fail
            exact ⟨.inr ⟨_, _, A9, c9, mx, dat, ext, _, ps, rfl, HF.out.next HO.out HG.out⟩, by show 0 < n; omega⟩
    · have HS := Lib.hid hS
      clear hS
      have x0 := HS.out.x.at_ 0 _ rfl
      have x1 := HS.out.x.at_ 1 _ rfl
      have x2 := HS.out.x.at_ 2 _ rfl
      have x3 := HS.out.x.at_ 3 _ rfl
      have r0 := HS.out.r.at_ 0 _ rfl
      have r1 := HS.out.r.at_ 1 _ rfl
      have r2 := HS.out.r.at_ 2 _ rfl
      have r3 := HS.out.r.at_ 3 _ rfl
      have y0 := HS.out.x.fz 0 (by simp [rcells])
      have y1 := HS.out.x.fz 1 (by simp [rcells])
      have y2 := HS.out.x.fz 2 (by simp [rcells])
      have y3 := HS.out.x.fz 3 (by simp [rcells])
      have z0 := HS.out.r.fz 0 (by simp [rcells])
      have z1 := HS.out.r.fz 1 (by simp [rcells])
      have z2 := HS.out.r.fz 2 (by simp [rcells])
      have z3 := HS.out.r.fz 3 (by simp [rcells])
      go_wp2_with fail
      have B := HS.out.r.other (p := ⟨w.heap.size + 1, 2, none⟩) (.bool true) (by simp)
      have B0 := B.set 0 (.slice A9 1 c9) (by simp [rcells])
      have B1 := B0.set 1 (.int .u64 0) (by simp [rcells])
      have B2 := B1.set 2 (.bool true) (by simp [rcells])
      have B3 := B2.set 3 (.bool true) (by simp [rcells])
      have b0 := B3.at_ 0 _ rfl
      have b1 := B3.at_ 1 _ rfl
      have b2 := B3.at_ 2 _ rfl
      have b3 := B3.at_ 3 _ rfl
      refine ⟨rfl, _, (show _ = Result.ok (.agg #[.slice A9 1 c9, .int .u64 0, .bool true, .bool true]) _ by simp [results, Try.results7, go_sem, b0, b1, b2, b3]), mx, dat, ext, v, ps, A9, c9, rfl, HS.out.t, ?_, ?_, ?_⟩
      · exact own_base' ((HS.out.rows.kept (grown_set wr (w.heap.size + 1) 2 (.bool true)) (.inr (fun e => by have := (HS.out.rows.lt _ e).1; omega))).kept (grown4 _ w.heap.size _ _ _ _) (.inr (fun e => by have := (HS.out.rows.lt _ e).1; omega))) (by omega)
      · exact own_base' ((HS.out.row.kept (grown_set wr (w.heap.size + 1) 2 (.bool true)) (.inr (fun e => by have := (HS.out.row.lt _ e).1; omega))).kept (grown4 _ w.heap.size _ _ _ _) (.inr (fun e => by have := (HS.out.row.lt _ e).1; omega))) (by omega)
      · exact (HS.out.bel.grown (grown_set wr (w.heap.size + 1) 2 (.bool true)) HS.out.bel.size (fun k hk => by injection hk with hk; omega)).grown (grown4 _ w.heap.size _ _ _ _) (by have := HS.out.bel.size; simpa using this) (fun k hk => by injection hk with hk; omega)
end Go.Proofs.Ytpegafbcfpedoaa
