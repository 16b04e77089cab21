/- spec.h3Control at SETTINGS. -/
import Derived.Test.YtpegafbcfpedoaaH6
import Derived.Test.YtpegafbcfpedoaaH2
import Derived.Test.YtpegafbcfpedoaaL1
namespace Go.Proofs.Ytpegafbcfpedoaa
open Go.RowKit Go.Maps
set_option linter.unusedVariables false
set_option maxRecDepth 100000

theorem enc_read (i : Nat) (tl : List UInt8) (h : i < 4611686018427387904) : vnUsed (vnEnc i ++ tl) = vnLen i ∧ vnNum (vnEnc i ++ tl) = i := by
  have := vnLen_ok i h
  exact vnBytes_read i (vnLen i) tl this.1 this.2
theorem vnLen_pos (i : Nat) : 1 ≤ vnLen i := by unfold vnLen; split <;> (try split) <;> (try split) <;> omega

def slen : Value → Nat | .slice _ n _ => n | _ => 0
def CtlPost (w : World) (qs : List (Nat × Nat)) (e : Ending) (w' : World) : Prop :=
  ∃ mx dat ext v ps, e = .returned (.tuple #[frameV mx dat ext v, .bool true, .bool true]) ∧ Told qs mx dat ext ps ∧ w'.ownsRow w.heap.size 41 2 v ps.length (pcells ps) ∧ Below w.heap.size w w'

structure CSt (w wx : World) (qs : List (Nat × Nat)) (k : Nat) (A : Option Addr) (n c : Nat) (v : Value) : Prop where
  r : Blk wx w.heap.size zcells
  rd : Reads wx w.heap.size 1 A n (bcells ((qs.drop k).flatMap pairEnc))
  row : wx.ownsRow (w.heap.size + 1) 41 2 v k (pcells (qs.take k))
  bel : Below w.heap.size w wx
  hk : k ≤ qs.length
  nc : n ≤ c
  nlt : n ≤ 1600

theorem reads_drop {w : World} {B n k b o : Nat} {bs : List UInt8} (h : Reads w B 1 (some ⟨b, o, none⟩) n (bcells bs)) (hk : k ≤ n) : Reads w B 1 (some ⟨b, o + k, none⟩) (n - k) (bcells (bs.drop k)) := by
  have hl : bs.length = n := by have := h.1; rw [bcells_length] at this; omega
  refine ⟨by rw [bcells_length, List.length_drop]; omega, fun h0 => ?_⟩
  obtain ⟨ad, e, hb, hc⟩ := h.2 (by omega)
  injection e with e
  subst e
  refine ⟨_, rfl, hb, fun j u hu => ?_⟩
  have := hc (k + j) u (by
    unfold bcells at hu ⊢
    rw [List.getElem?_map] at hu ⊢
    rwa [List.getElem?_drop] at hu)
  rw [Addr.add_lit] at this ⊢
  rwa [Nat.add_assoc]

theorem undrew {w w' : World} {row : Option Nat} (h : w.drew.grownBy w' row) : w.grownBy w' row := ⟨h.os, h.tape, h.output, h.size, h.block⟩

theorem CSt.next {w wr w9 : World} {qs : List (Nat × Nat)} {k n c n' c' pa pb : Nat} {A A' : Option Addr} {v v9 : Value} {ob : Obj} {R : List UInt8} (h : CSt w wr qs k A n c v)
    (ht : qs.take (k + 1) = qs.take k ++ [(pa, pb)]) (hR : (qs.drop (k + 1)).flatMap pairEnc = R) (hr : Reads wr w.heap.size 1 A' n' (bcells R)) (hk : k < qs.length) (hn : n' ≤ c') (hn2 : n' ≤ n)
    (hown : w9.ownsRow (w.heap.size + 1) 41 2 v9 (k + 1) (pcells (qs.take k) ++ [un pa, un pb])) (hg : (wr.alloc ob).drew.grownBy w9 v.ownBlock) : CSt w w9 qs (k + 1) A' n' c' v9 := by
  have hg := undrew hg
  have hb : ∀ g, v.ownBlock = some g → w.heap.size + 1 ≤ g := fun g e => (h.row.lt g e).1
  have hl := h.r.lt
  exact {
    r := (h.r.below (below_new _ ob)).grown hg (fun e => by have := hb _ e.symm; omega)
    rd := by
      rw [hR]
      exact (hr.alloc (by omega) ob).grown hg (by simp; omega) (fun g e => by have := hb g e; omega)
    row := by
      rw [ht, pcells_append]
      simpa [pcells] using hown
    bel := (h.bel.alloc (by omega) ob).grown hg (by simp; omega) (fun g e => by have := hb g e; omega)
    hk := hk
    nc := hn
    nlt := by have := h.nlt; omega }

set_option maxHeartbeats 4000000 in
theorem ctl_at (A : Option Addr) (c : Nat) (qs : List (Nat × Nat)) (w : World) (hq : Qok qs) (n : Nat) (hn : (qs.flatMap pairEnc).length = n) (hR : Reads w w.heap.size 1 A n (bcells (qs.flatMap pairEnc))) (hnc : n ≤ c) :
    Calls Try.prog 15 #[.int .u64 4, .slice A n c] w (CtlPost w qs) := by
  have HQ := Lib.hid hq
  have hlen := hq.len
  have hfl := flat_len qs
  have HR := Lib.hid hR
  have hn16 : n ≤ 1600 := by omega
  clear hR hq hn hfl
  go_enter Try.func15, Try.ntmps15
  go_wp2_with fail
  go_loopw [1, 9] (fun s1 s9 wx => ∃ k A n c v, s1 = .slice A n c ∧ s9 = v ∧ CSt w wx qs k A n c v) (fun s1 _ _ => slen s1)
  case atStart => 
    refine ⟨0, A, n, c, .slice none 0 0, rfl, rfl, ?_, ?_, World.ownsRow_nil _ _ _ _, ?_, by omega, hnc, hn16⟩
    · exact Blk.new w zcells.toArray 29
    · exact HR.out.alloc (Nat.le_refl _) _
    · exact (Below.refl _ w).alloc (Nat.le_refl _) _
  case round =>
    obtain ⟨k, A, n, c, v, rfl, rfl, hS⟩ := hrel
    obtain ⟨A2, c2, rfl⟩ := row_form hS.row
    have HS := Lib.hid hS
    have nc := hS.nc
    have nlt := hS.nlt
    have hk := hS.hk
    clear hS HR hnc hn16
    rcases Nat.lt_or_ge k qs.length with hkl | hkl
    · obtain ⟨⟨pa, pb⟩, hpq⟩ : ∃ pq, qs[k] = pq := ⟨_, rfl⟩
      have hok := HQ.out.ok (qs[k]) (List.getElem_mem hkl)
      have hdr : qs.drop k = (pa, pb) :: qs.drop (k + 1) := by rw [List.drop_eq_getElem_cons hkl, hpq]
      rw [hpq] at hok
      simp only at hok
      obtain ⟨ha, hb, hbit, h25⟩ := hok
      have HBIT := Lib.hid hbit
      have hrd := HS.out.rd
      rw [hdr, List.flatMap_cons, pairEnc, List.append_assoc] at hrd
      simp only at hrd
      have HDR := Lib.hid hdr
      have HPQ := Lib.hid hpq
      obtain ⟨R, hRt⟩ : ∃ R, (qs.drop (k + 1)).flatMap pairEnc = R := ⟨_, rfl⟩
      rw [hRt] at hrd
      have hln := hrd.1
      rw [bcells_length, List.length_append, List.length_append, vnEnc_len, vnEnc_len] at hln
      have hla := vnLen_pos pa
      have hlb := vnLen_pos pb
      have ea := enc_read pa (vnEnc pb ++ R) ha
      have eb := enc_read pb R hb
      obtain ⟨b, o, rfl, hbB, hbl, hbc⟩ := hrd.byte (by omega)
      have hrd2 := reads_drop hrd (k := vnLen pa) (by omega)
      have ed : (vnEnc pa ++ (vnEnc pb ++ R)).drop (vnLen pa) = vnEnc pb ++ R := List.drop_left' (vnEnc_len pa)
      rw [ed] at hrd2
      obtain ⟨b', o', e2, hbB2, hbl2, hbc2⟩ := hrd2.byte (by omega)
      injection e2 with e2
      injection e2 with e21 e22
      subst e21 e22
      have hrd3 := reads_drop hrd2 (k := vnLen pb) (by omega)
      have ed : (vnEnc pb ++ R).drop (vnLen pb) = R := List.drop_left' (vnEnc_len pb)
      rw [ed] at hrd3
      have K1 := get_any b o n c _ wr (by omega) hbl nc (by omega) hbc (by omega)
      have K2 := get_any b (o + vnLen pa) (n - vnLen pa) (c - vnLen pa) _ wr (by omega) hbl2 (by omega) (by omega) hbc2 (by omega)
      rw [ea.1, ea.2] at K1
      rw [eb.1, eb.2] at K2
      have H3 := Lib.hid hrd3
      have HRT := Lib.hid hRt
      obtain ⟨la, hLA⟩ : ∃ la, vnLen pa = la := ⟨_, rfl⟩
      obtain ⟨lb, hLB⟩ : ∃ lb, vnLen pb = lb := ⟨_, rfl⟩
      rw [hLA] at K1 K2 H3 hla hln
      rw [hLB] at K2 H3 hlb hln
      clear ea eb hrd hrd2 hrd3 hbc hbc2 hbl hbl2 ed hpq hdr hRt hLA hLB hbB2 hbit
      have f1 : decide (0 < (n : Int)) = true := by simp; omega
      have f2 : decide (0 < (la : Int)) = true := by simp; omega
      have f3 : ((la : Int) == 0) = false := by simp; omega
      have f4 : ((lb : Int) == 0) = false := by simp; omega
      go_wp2_with fail
      refine K1.mono ?_
      rintro e w1 ⟨rfl, rfl⟩
      go_wp2_with fail
      refine K2.mono ?_
      rintro e w1 ⟨rfl, rfl⟩
      go_wp2_with fail
      clear K1 K2
      all_goals
        obtain ⟨i9, hi9, hz0, hz1, hz2⟩ := info_parts info41
        have hbs : w.heap.size + 1 ≤ wr.heap.size := HS.out.r.lt
        have hnew : Reads (wr.alloc (.cells #[un pa, un pb] 41)) (wr.heap.size + 1) 2 (some ⟨wr.heap.size, 0, none⟩) 1 [un pa, un pb] := ⟨rfl, fun _ => ⟨_, rfl, Nat.lt_succ_self _, cells_new wr [un pa, un pb] 41⟩⟩
        have hone := pcells_two pa pb [] 0
        have l63 : k + 1 ≤ maxLen := by simp only [maxLen]; omega
        have lby : (k + 1) * 16 ≤ 140737488355328 := by omega
        have lbs : w.heap.size + 1 ≤ (wr.alloc (.cells #[un pa, un pb] 41)).heap.size := by simp; omega
        have q1 : (0 : Int) ≤ (la : Int) + lb := by omega
        have q2 : ((la : Int) + (lb : Int)).toNat = la + lb := by omega
        have q3 : (la : Int) + lb ≤ n := by omega
        have q4 : (n : Int) ≤ c := by omega
        have q0 : IntKind.i64.wrap ((la : Int) + lb) = la + lb := IntWalk.i64_in _ (by omega)
        have HT : Hid (qs.take (k + 1) = qs.take k ++ [(pa, pb)]) := Lib.hid (by rw [List.take_succ_eq_append_getElem hkl, HPQ.out])
        by_cases hcc : c = la + lb
        · have q5 : n = la + lb := by omega
          subst q5
          subst hcc
          go_region_law (first
            | (refine step_append_any _ (by rfl) (.tmp 71) (.tmp 75) 27 (by rfl) (w.heap.size + 1) 41 i9 (.agg #[un 0, un 0]) 2 16 Try.underlying27 hi9 hz0 hz1 hz2 rfl (by decide) _ k (pcells (qs.take k)) (by rfl) (HS.out.row.alloc _)
                (wr.heap.size + 1) _ 1 1 [un pa, un pb] (by rfl) hnew hone l63 lby lbs ?_; intro v9 w9 hown9 hg9 hat9; obtain ⟨A9, c9, rfl⟩ := row_form hown9))
          go_simp
          go_roundw
          case measure => exact (by omega : 0 < la + lb)
          case rel =>
            (repeat apply Exists.intro)
            refine ⟨?_, rfl⟩
            have hz := H3.out
            rw [show la + lb - la - lb = 0 by omega] at hz
            have hR0 : R = [] := List.eq_nil_of_length_eq_zero (by omega)
            exact ⟨k + 1, _, 0, 0, _, rfl, rfl, HS.out.next HT.out (HRT.out.trans hR0) (reads_zero _ _ _) hkl (by omega) (by omega) hown9 hg9⟩
        · go_region_law (first
            | (refine step_append_any _ (by rfl) (.tmp 71) (.tmp 75) 27 (by rfl) (w.heap.size + 1) 41 i9 (.agg #[un 0, un 0]) 2 16 Try.underlying27 hi9 hz0 hz1 hz2 rfl (by decide) _ k (pcells (qs.take k)) (by rfl) (HS.out.row.alloc _)
                (wr.heap.size + 1) _ 1 1 [un pa, un pb] (by rfl) hnew hone l63 lby lbs ?_; intro v9 w9 hown9 hg9 hat9; obtain ⟨A9, c9, rfl⟩ := row_form hown9))
          go_simp
          go_roundw
          case measure => exact (by omega : n - (la + lb) < n)
          case rel =>
            (repeat apply Exists.intro)
            refine ⟨?_, rfl⟩
            have hz := H3.out
            rw [Nat.add_assoc, Nat.sub_sub] at hz
            exact ⟨k + 1, _, _, _, _, rfl, rfl, HS.out.next HT.out HRT.out hz hkl (by omega) (by omega) hown9 hg9⟩
    · have e : k = qs.length := by omega
      subst e
      have hrd := HS.out.rd
      rw [List.drop_length] at hrd
      have hn0 := hrd.1
      obtain rfl : n = 0 := by simpa [bcells] using hn0.symm
      clear hrd hn0
      have hrow := HS.out.row
      rw [List.take_length] at hrow
      have hc2 : qs.length ≤ c2 := by
        rcases hrow.2 with ⟨e1, e2⟩ | ⟨g, cap, cur, e1, _, _, e2, _⟩
        · omega
        · injection e1 with _ _ e4; omega
      have hins : Ins wr A2 qs := ⟨Reads.of_own hrow, HQ.out.nd, fun p hp => ⟨(HQ.out.ok p hp).2.1, (HQ.out.ok p hp).2.2.1⟩, HQ.out.len⟩
      have KT := told_at A2 c2 qs wr hins hc2
      have HROW := Lib.hid hrow
      clear hrow hins
      have f1 : decide ((0 : Int) < ((0 : Nat) : Int)) = false := rfl
      go_upto_region 15 with fail
      go_cut [5] (fun s5 wx => s5 = .bool true ∧ ∃ mx dat ext A3 c3 ps, Told qs mx dat ext ps ∧ Blk wx w.heap.size (fcells mx dat ext (.slice A3 ps.length c3)) ∧ wx.ownsRow (w.heap.size + 1) 41 2 (.slice A3 ps.length c3) ps.length (pcells ps) ∧ Below w.heap.size w wx)
      case first =>
        go_wp2_with fail
        refine KT.mono ?_
        rintro e w1 ⟨mx, dat, ext, v, ps, rfl, htold, hrow1, hb1⟩
        obtain ⟨A3, c3, rfl⟩ := row_form hrow1
        have HS1 := Lib.hid ((HS.out.r).below hb1)
        have HT := Lib.hid htold
        have HR1 := Lib.hid hrow1
        have HB1 := Lib.hid hb1
        clear htold hrow1 hb1 KT
        unfold frameV fcells
        have b0 := HS1.out.at_ 0 _ rfl
        have b1 := HS1.out.at_ 1 _ rfl
        have b2 := HS1.out.at_ 2 _ rfl
        have b3 := HS1.out.at_ 3 _ rfl
        have b4 := HS1.out.at_ 4 _ rfl
        have b5 := HS1.out.at_ 5 _ rfl
        have b6 := HS1.out.at_ 6 _ rfl
        have b7 := HS1.out.at_ 7 _ rfl
        have g0 := HS1.out.fz 0 (by decide)
        have g1 := HS1.out.fz 1 (by decide)
        have g2 := HS1.out.fz 2 (by decide)
        have g3 := HS1.out.fz 3 (by decide)
        have g4 := HS1.out.fz 4 (by decide)
        have g5 := HS1.out.fz 5 (by decide)
        have g6 := HS1.out.fz 6 (by decide)
        have g7 := HS1.out.fz 7 (by decide)
        go_wp2_with fail
        go_meet
        case rel =>
          have B0 := HS1.out.set 0 (.int .i64 2) (by simp [zcells])
          have B1 := B0.set 1 (.int .u64 0) (by simp [zcells])
          have B2 := B1.set 2 (.int .u64 0) (by simp [zcells])
          have B3 := B2.set 3 (.int .i64 mx) (by simp [zcells])
          have B4 := B3.set 4 (.bool dat) (by simp [zcells])
          have B5 := B4.set 5 (.bool ext) (by simp [zcells])
          have B6 := B5.set 6 (.slice A3 ps.length c3) (by simp [zcells])
          have B7 := B6.set 7 es (by simp [zcells])
          refine ⟨rfl, mx, dat, ext, A3, c3, ps, HT.out, B7, ?_, ?_⟩
          · exact (own_base' HR1.out HS.out.r.lt).kept (grown8 w1 w.heap.size _ _ _ _ _ _ _ _) (.inr (fun e => by have := (HR1.out.lt _ e).1; have := HS.out.r.lt; omega))
          · exact (HS.out.bel.trans (HB1.out.mono HS.out.bel.size)).grown (grown8 w1 w.heap.size _ _ _ _ _ _ _ _) (Nat.le_trans HS.out.bel.size HB1.out.size) (fun k hk => by injection hk with hk; omega)
      case rest =>
        obtain ⟨rfl, mx, dat, ext, A3, c3, ps, htold, hB, hrow, hbel⟩ := hcut
        have HT := Lib.hid htold
        have HB := Lib.hid hB
        have HRW := Lib.hid hrow
        have HBL := Lib.hid hbel
        clear htold hB hrow hbel KT
        have b0 := HB.out.at_ 0 _ rfl
        have b1 := HB.out.at_ 1 _ rfl
        have b2 := HB.out.at_ 2 _ rfl
        have b3 := HB.out.at_ 3 _ rfl
        have b4 := HB.out.at_ 4 _ rfl
        have b5 := HB.out.at_ 5 _ rfl
        have b6 := HB.out.at_ 6 _ rfl
        have b7 := HB.out.at_ 7 _ rfl
        have g0 := HB.out.fz 0 (by simp [fcells])
        have g1 := HB.out.fz 1 (by simp [fcells])
        have g2 := HB.out.fz 2 (by simp [fcells])
        have g3 := HB.out.fz 3 (by simp [fcells])
        have g4 := HB.out.fz 4 (by simp [fcells])
        have g5 := HB.out.fz 5 (by simp [fcells])
        have g6 := HB.out.fz 6 (by simp [fcells])
        have g7 := HB.out.fz 7 (by simp [fcells])
        go_wp2_with fail
        have B0 := HB.out.set 0 (.int .i64 2) (by simp [fcells])
        have z0 := B0.at_ 0 _ rfl
        have B1 := B0.set 1 (.int .u64 0) (by simp [fcells])
        have z1 := B1.at_ 1 _ rfl
        have B2 := B1.set 2 (.int .u64 0) (by simp [fcells])
        have z2 := B2.at_ 2 _ rfl
        have B3 := B2.set 3 (.int .i64 mx) (by simp [fcells])
        have z3 := B3.at_ 3 _ rfl
        have B4 := B3.set 4 (.bool dat) (by simp [fcells])
        have z4 := B4.at_ 4 _ rfl
        have B5 := B4.set 5 (.bool ext) (by simp [fcells])
        have z5 := B5.at_ 5 _ rfl
        have B6 := B5.set 6 (.slice A3 ps.length c3) (by simp [fcells])
        have z6 := B6.at_ 6 _ rfl
        have B7 := B6.set 7 es (by simp [fcells])
        have z7 := B7.at_ 7 _ rfl
        refine ⟨rfl, _, (show _ = Result.ok (.tuple #[frameV mx dat ext (.slice A3 ps.length c3), .bool true, .bool true]) _ by simp [results, Try.results15, go_sem, z0, z1, z2, z3, z4, z5, z6, z7, frameV, fcells]), mx, dat, ext, _, ps, rfl, HT.out, ?_, ?_⟩
        · exact own_base' (HRW.out.kept (grown8 wc w.heap.size _ _ _ _ _ _ _ _) (.inr (fun e => by have := (HRW.out.lt _ e).1; omega))) (by omega)
        · exact HBL.out.grown (grown8 wc w.heap.size _ _ _ _ _ _ _ _) HBL.out.size (fun k hk => by injection hk with hk; omega)
end Go.Proofs.Ytpegafbcfpedoaa
