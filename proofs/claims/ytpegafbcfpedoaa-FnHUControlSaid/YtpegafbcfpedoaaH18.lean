/- laws.FnHUControl: the walk. -/
import Derived.Test.YtpegafbcfpedoaaH17
namespace Go.Proofs.Ytpegafbcfpedoaa
open Go.RowKit Go.Maps
set_option linter.unusedVariables false
set_option maxRecDepth 100000

theorem frame_any (mx : Int) (dat ext : Bool) (A : Option Addr) (c : Nat) (ps : List (Nat × Nat)) (w : World) (hR : Reads w w.heap.size 2 A ps.length (pcells ps)) (hl : ps.length ≤ 100) (hv : ∀ p ∈ ps, p.1 < 4611686018427387904 ∧ p.2 < 4611686018427387904) :
    ∀ w', Below w.heap.size w w' → Calls Try.prog 13 #[iframeV mx dat ext (.slice A ps.length c)] w' (FramePost w' mx dat ext ps) := by
  intro w' hb
  rcases Nat.eq_zero_or_pos ps.length with h0 | hp
  · obtain rfl : ps = [] := List.eq_nil_of_length_eq_zero h0
    exact frame_none mx dat ext A c w'
  · have hR' := (hR.below hb).more hb.size
    obtain ⟨b, o, rfl, hlt, hc⟩ := reads_pairs hR' hp
    exact frame_some mx dat ext b o c ps w' hp hl hlt hc hv

theorem outBytes_len (mx : Int) (dat ext : Bool) (ps : List (Nat × Nat)) (hl : ps.length ≤ 5) : (outBytes mx dat ext ps).length ≤ 4096 ∧ 2 ≤ (outBytes mx dat ext ps).length := by
  have h1 := setBody_len mx dat ext ps
  have h2 := flat_len ps
  have h3 := sixEnc_len mx
  have h4 : (vnEnc 4).length = 1 := by rw [vnEnc_len]; rfl
  have h5 := vnLen_le (setBody mx dat ext ps).length
  have h6 := vnEnc_len (setBody mx dat ext ps).length
  unfold outBytes
  simp only [List.length_append, List.length_cons, List.length_nil, h4, h6]
  split at h1 <;> split at h1 <;> omega

set_option maxHeartbeats 4000000 in
theorem law_at (A : Option Addr) (n c : Nat) (bs : List UInt8) (W : World) (hR : Reads W W.heap.size 1 A n (bcells bs)) (hnc : n ≤ c) :
    Calls Try.prog 3 #[.slice A n c] W (fun e w' => e = .returned (.bool true) ∧ Below W.heap.size W w') := by
  by_cases hbig : 2147483647 < n
  · have f1 : decide ((2147483647 : Int) < (n : Int)) = true := by simp; omega
    clear hR
    go_enter Try.func3, Try.ntmps3
    go_wp2_with fail
    go_ret
    exact ⟨rfl, Below.refl _ _⟩
  · have f1 : decide ((2147483647 : Int) < (n : Int)) = false := by simp; omega
    have hm : Mk (W.alloc (.cells #[.slice A n c] 25)) W.heap.size W.heap.size := {
      st := ⟨A, n, c, bs, by simp, hR.alloc (Nat.le_refl _) _, hnc, by omega⟩
      fz := by simp
      ge := Nat.le_refl _
      lt := by simp }
    have KS := settings_at W.heap.size W.heap.size _ hm
    clear hR hm hbig
    go_enter Try.func3, Try.ntmps3
    go_wp2_with fail
    refine KS.mono ?_
    rintro e w1 ⟨v, l, rfl, hG, hS⟩
    obtain ⟨A1, c1, rfl⟩ := row_form hS.row
    have hc1 : l.length ≤ c1 := by
      rcases hS.row.2 with ⟨e1, e2⟩ | ⟨g, cap, cur, e1, _, _, e2, _⟩
      · omega
      · injection e1 with _ _ e4; omega
    have hins : Ins w1 A1 l := ⟨Reads.of_own hS.row, hG.nd, fun p hp => ⟨(hG.ok p hp).2.1, (hG.ok p hp).2.2⟩, by have := hG.len; omega⟩
    have KT := told_at A1 c1 l w1 hins hc1
    have HG := Lib.hid hG
    have HB1 := Lib.hid hS.bel
    clear hG hS hins KS
    go_wp2_with ((with_reducible refine KT.mono ?_); rintro e w2 ⟨mx, dat, ext, v2, ps, rfl, hT, hrow2, hb2⟩; obtain ⟨A2, c2, rfl⟩ := row_form hrow2; have HT := Lib.hid hT; have HR2 := Lib.hid hrow2; have HB2 := Lib.hid hb2; clear hT hrow2 hb2 KT; unfold frameV fcells)
    have hps5 := HT.out.ps_len HG.out
    have hpsv := HT.out.ps_ok HG.out
    have hmx := HT.out.mx_of HG.out
    have hol := outBytes_len mx dat ext ps hps5
    have HX3 := Lib.hid (Blk.new w2 (fcells mx dat ext (.slice A2 ps.length c2)).toArray 29)
    have HB3 := Lib.hid (below_new w2 (.cells (fcells mx dat ext (.slice A2 ps.length c2)).toArray 29))
    have HRd3 := Lib.hid ((Reads.of_own HR2.out).below HB3.out)
    have KC := h3control_at mx dat ext A2 ps.length c2 ps (w2.alloc (.cells (fcells mx dat ext (.slice A2 ps.length c2)).toArray 29))
      (frame_any mx dat ext A2 c2 ps _ (HRd3.out.more HB3.out.size) (by omega) hpsv) (by omega) (by omega) HT.out.asc hps5 hpsv hol.1 (by omega)
    obtain ⟨T, hT⟩ : ∃ T, outBytes mx dat ext ps = T := ⟨_, rfl⟩
    rw [hT] at KC hol
    have HTT := Lib.hid hT
    have HPV := Lib.hid hpsv
    clear hT hpsv
    refine KC.mono ?_
    rintro e w4 ⟨v4, rfl, hrow4, hb4⟩
    obtain ⟨g, cT, rfl, hgl, hgs⟩ := hrow4.form (by omega)
    have x0 := hrow4.cellAt 0 (by omega)
    have t0 : (bcells T)[0]? = some (.int .u8 0) := by rw [← HTT.out]; rfl
    rw [t0] at x0
    have hcT : T.length ≤ cT := by
      rcases hrow4.2 with ⟨e1, e2⟩ | ⟨g, cap, cur, e1, _, _, e2, _⟩
      · omega
      · injection e1 with _ _ e4; omega
    have hr4 := reads_drop (Reads.of_own hrow4) (k := 1) (by omega)
    have HR4 := Lib.hid hr4
    have HB4 := Lib.hid hb4
    obtain ⟨N, hN⟩ : ∃ N, T.length = N := ⟨_, rfl⟩
    rw [hN] at hcT hol HR4
    rw [hN]
    have HN := Lib.hid hN
    have m1 : ((N : Int) == 0) = false := by simp; omega
    have m2 : (0 : Int) < (N : Int) := by omega
    have HROW4 := Lib.hid hrow4
    clear hrow4 hr4 hb4 hN t0 KC
    go_wp2_with fail
    have hbs : T.drop 1 = vnEnc 4 ++ (vnEnc ((setPairs mx dat ext ps).flatMap pairEnc).length ++ (setPairs mx dat ext ps).flatMap pairEnc) := by
      rw [← HTT.out, ← setBody_pairs]
      simp [outBytes]
    have KF := frames_at g 1 (N - 1) (cT - 1) (setPairs mx dat ext ps) w4 (HT.out.qok HG.out) (T.drop 1) hbs (by rw [List.length_drop, HN.out]) HR4.out (by omega)
    have HX4 := Lib.hid (HX3.out.below HB4.out)
    clear hbs x0 m1 m2
    refine KF.mono ?_
    rintro e w5 ⟨mx', dat', ext', v5, ps', A5, c5, rfl, hT5, hrows5, hrow5, hb5⟩
    obtain ⟨rfl, rfl, rfl, rfl⟩ := HT.out.same HG.out hT5
    obtain ⟨A6, c6, rfl⟩ := row_form hrow5
    obtain ⟨g5, c5', hA5, hg5l, hg5s⟩ := hrows5.form (by omega)
    obtain ⟨rfl, rfl⟩ : A5 = some ⟨g5, 0, none⟩ ∧ c5 = c5' := by
      injection hA5 with h1 _ h3
      exact ⟨h1, h3⟩
    have HX5 := Lib.hid (HX4.out.below hb5)
    have HB5 := Lib.hid hb5
    have HRS5 := Lib.hid hrows5
    have HRW5 := Lib.hid hrow5
    clear hT5 hrows5 hrow5 hb5 hA5 KF
    have hz5 : w2.heap.size < w5.heap.size := HX5.out.lt
    have y0 := HX5.out.at_ 0 _ rfl
    have y1 := HX5.out.at_ 1 _ rfl
    have y2 := HX5.out.at_ 2 _ rfl
    have y3 := HX5.out.at_ 3 _ rfl
    have y4 := HX5.out.at_ 4 _ rfl
    have y5 := HX5.out.at_ 5 _ rfl
    have y6 := HX5.out.at_ 6 _ rfl
    have y7 := HX5.out.at_ 7 _ rfl
    go_wp2_with fail
    have HB6 := Lib.hid (((Below.refl w5.heap.size w5).alloc (Nat.le_refl _) (.cells #[.slice (some ⟨g5, 0, none⟩) 1 c5, .int .u64 0, .bool true, .bool true] 37)).alloc (by simp) (.cells (fcells mx' dat' ext' (.slice A2 ps'.length c2)).toArray 29))
    have hy := Blk.new (w5.alloc (.cells #[.slice (some ⟨g5, 0, none⟩) 1 c5, .int .u64 0, .bool true, .bool true] 37)) (fcells mx' dat' ext' (.slice A2 ps'.length c2)).toArray 29
    rw [show (w5.alloc (.cells #[.slice (some ⟨g5, 0, none⟩) 1 c5, .int .u64 0, .bool true, .bool true] 37)).heap.size = w5.heap.size + 1 by simp] at hy
    have hr1 := ((Reads.of_own HRW5.out).below HB6.out).more HB6.out.size
    have hr2 := (((HRd3.out.below (HB4.out.mono HB3.out.size)).below (HB5.out.mono (Nat.le_trans HB3.out.size HB4.out.size))).below (HB6.out.mono (Nat.le_of_lt hz5))).more (Nat.le_trans (Nat.le_of_lt hz5) HB6.out.size)
    have KA := all_at mx' dat' ext' A6 A2 c6 c2 g5 (w5.heap.size + 1) c5 1 ps' _ hr1 hr2 (by omega)
      (fun j u hu => (HB6.out.cell (p := ⟨g5, j, none⟩) hg5s).trans (by have := HRS5.out.cells (g := g5) rfl j u hu; rwa [add_plain] at this)) hy.at_
    refine KA.mono ?_
    rintro e w7 ⟨rfl, hb7⟩
    go_wp2_with fail
    go_ret
    refine ⟨rfl, ?_⟩
    have c0 : Below W.heap.size W (W.alloc (.cells #[.slice A n c] 25)) := below_new W _
    have c1 := c0.trans HB1.out
    have c2 := c1.trans (HB2.out.mono c1.size)
    have c3 := c2.trans (HB3.out.mono c2.size)
    have c4 := c3.trans (HB4.out.mono c3.size)
    have c5 := c4.trans (HB5.out.mono c4.size)
    have c6 := c5.trans (HB6.out.mono c5.size)
    exact c6.trans (hb7.mono c6.size)
end Go.Proofs.Ytpegafbcfpedoaa
