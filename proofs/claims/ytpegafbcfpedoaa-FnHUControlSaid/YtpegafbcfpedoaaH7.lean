/- impl.H3Frame.frame. -/
import Derived.Test.YtpegafbcfpedoaaH5
import Derived.Maps.OwnOps
namespace Go.Proofs.Ytpegafbcfpedoaa
open Go.RowKit Go.Maps
set_option linter.unusedVariables false
set_option maxRecDepth 100000

def mapD (ps : List (Nat × Nat)) : DataW Unit := ps.foldl (fun D p => D.put (.int .u64 (p.1 : Int)) (.lit (.int .u64 (p.2 : Int)))) (.map [])
theorem mapD_snoc (ps : List (Nat × Nat)) (p : Nat × Nat) : mapD (ps ++ [p]) = (mapD ps).put (.int .u64 (p.1 : Int)) (.lit (.int .u64 (p.2 : Int))) := by simp [mapD]
theorem law26 : Keyed Try.prog 26 := int_keyed Try.underlying26
theorem zero26 (w : World) : (zeroValue 26).run Try.prog w = .ok (.int .u64 0) w := by kernel_rfl

def MapIs (w : World) (mv : Value) (ps : List (Nat × Nat)) : Prop :=
  (ps = [] ∧ mv = .map none) ∨ (∃ b, mv = .map (some b) ∧ w.ownsMap Try.prog 26 (plainElem Try.prog 26) b ps.length (mapD ps))
theorem MapIs.below {w w' : World} {mv : Value} {ps : List (Nat × Nat)} (h : MapIs w mv ps) (k : Below w.heap.size w w') : MapIs w' mv ps := by
  rcases h with h | ⟨b, rfl, h⟩
  · exact .inl h
  · refine .inr ⟨b, rfl, ?_⟩
    exact h.kept (row := none) ⟨k.os, k.tape, k.output, k.size, fun j hj _ => k.block j hj⟩ (by simp)

def hcells (mx : Int) (dat ext : Bool) (mv : Value) : List Value := [.int .i64 2, .int .u64 0, .int .u64 0, .int .i64 mx, .bool dat, .bool ext, mv, .string ⟨#[]⟩]
def hframeV (mx : Int) (dat ext : Bool) (mv : Value) : Value := .agg (hcells mx dat ext mv).toArray
def icells (mx : Int) (dat ext : Bool) (v : Value) : List Value := [.int .i64 2, .int .u64 0, .int .u64 0, .int .i64 mx, .bool dat, .bool ext, v, .string ⟨#[]⟩]
def iframeV (mx : Int) (dat ext : Bool) (v : Value) : Value := .agg (icells mx dat ext v).toArray

def FramePost (w : World) (mx : Int) (dat ext : Bool) (ps : List (Nat × Nat)) (e : Ending) (w' : World) : Prop :=
  ∃ mv, e = .returned (hframeV mx dat ext mv) ∧ MapIs w' mv ps ∧ Below w.heap.size w w'

structure XSt (w wx : World) (mx : Int) (dat ext : Bool) (v mv : Value) : Prop where
  a : Blk wx w.heap.size (icells mx dat ext v)
  r : ∃ z, Blk wx (w.heap.size + 1) z ∧ z.length = 8
  x : Blk wx (w.heap.size + 1 + 1) (hcells mx dat ext mv)
  bel : Below w.heap.size w wx

set_option maxHeartbeats 1000000 in
theorem frame_none (mx : Int) (dat ext : Bool) (A : Option Addr) (c : Nat) (w : World) :
    Calls Try.prog 13 #[iframeV mx dat ext (.slice A 0 c)] w (FramePost w mx dat ext []) := by
  go_enter Try.func13, Try.ntmps13
  unfold iframeV icells
  go_wp2_with fail
  exact ⟨rfl, _, (show _ = Result.ok (hframeV mx dat ext (.map none)) _ by simp [results, Try.results13, go_sem, hframeV, hcells]), .map none, rfl, .inl ⟨rfl, rfl⟩, (((Below.refl _ w).alloc (Nat.le_refl _) _).alloc (by simp) _).alloc (by simp; omega) _⟩

theorem grown8b (w : World) (b : Nat) (x0 x1 x2 x3 x4 x5 x6 x7 : Value) :
    w.grownBy ((((((((w.setCell ⟨b, 0, none⟩ x0).setCell ⟨b, 1, none⟩ x1).setCell ⟨b, 2, none⟩ x2).setCell ⟨b, 3, none⟩ x3).setCell ⟨b, 4, none⟩ x4).setCell ⟨b, 5, none⟩ x5).setCell ⟨b, 6, none⟩ x6).setCell ⟨b, 7, none⟩ x7) (some b) :=
  (((((((grown_set w b 0 x0).trans (grown_set _ b 1 x1)).trans (grown_set _ b 2 x2)).trans (grown_set _ b 3 x3)).trans (grown_set _ b 4 x4)).trans (grown_set _ b 5 x5)).trans (grown_set _ b 6 x6)).trans (grown_set _ b 7 x7)
theorem XSt.grown {w wx wx' : World} {mx : Int} {dat ext : Bool} {v mv : Value} {row : Nat} (h : XSt w wx mx dat ext v mv) (g : wx.grownBy wx' (some row)) (hr : w.heap.size + 3 ≤ row) : XSt w wx' mx dat ext v mv where
  a := h.a.grown g (by simp; omega)
  r := by
    obtain ⟨z, hz, hl⟩ := h.r
    exact ⟨z, hz.grown g (by simp; omega), hl⟩
  x := h.x.grown g (by simp; omega)
  bel := h.bel.grown g h.bel.size (fun k hk => by injection hk with hk; omega)
theorem XSt.alloc {w wx : World} {mx : Int} {dat ext : Bool} {v mv : Value} (h : XSt w wx mx dat ext v mv) (o : Obj) : XSt w (wx.alloc o) mx dat ext v mv where
  a := h.a.below (below_new _ _)
  r := by
    obtain ⟨z, hz, hl⟩ := h.r
    exact ⟨z, hz.below (below_new _ _), hl⟩
  x := h.x.below (below_new _ _)
  bel := h.bel.alloc h.bel.size o

def zz8 : List Value := [.int .i64 0, .int .u64 0, .int .u64 0, .int .i64 0, .bool false, .bool false, .map none, .string ⟨#[]⟩]
theorem frame_start (w : World) (mx : Int) (dat ext : Bool) (v : Value) :
    XSt w ((((w.alloc (.cells (icells mx dat ext v).toArray 29)).alloc (.cells zz8.toArray 58)).alloc (.cells (hcells mx dat ext (.map (some (w.heap.size + 1 + 1 + 1)))).toArray 58)).alloc (.map #[] 0)) mx dat ext v (.map (some (w.heap.size + 1 + 1 + 1))) ∧
    ((((w.alloc (.cells (icells mx dat ext v).toArray 29)).alloc (.cells zz8.toArray 58)).alloc (.cells (hcells mx dat ext (.map (some (w.heap.size + 1 + 1 + 1)))).toArray 58)).alloc (.map #[] 0)).ownsMap Try.prog 26 (plainElem Try.prog 26) (w.heap.size + 1 + 1 + 1) 0 (mapD []) := by
  have e1 : (w.alloc (.cells (icells mx dat ext v).toArray 29)).heap.size = w.heap.size + 1 := by simp
  have e2 : ((w.alloc (.cells (icells mx dat ext v).toArray 29)).alloc (.cells zz8.toArray 58)).heap.size = w.heap.size + 1 + 1 := by simp
  have e3 : (((w.alloc (.cells (icells mx dat ext v).toArray 29)).alloc (.cells zz8.toArray 58)).alloc (.cells (hcells mx dat ext (.map (some (w.heap.size + 1 + 1 + 1)))).toArray 58)).heap.size = w.heap.size + 1 + 1 + 1 := by simp
  refine ⟨⟨?_, ⟨zz8, ?_, rfl⟩, ?_, ?_⟩, ?_⟩
  · exact (((Blk.new w (icells mx dat ext v).toArray 29).below (below_new _ _)).below (below_new _ _)).below (below_new _ _)
  · rw [← e1]
    exact ((Blk.new (w.alloc (.cells (icells mx dat ext v).toArray 29)) zz8.toArray 58).below (below_new _ _)).below (below_new _ _)
  · have := (Blk.new ((w.alloc (.cells (icells mx dat ext v).toArray 29)).alloc (.cells zz8.toArray 58)) (hcells mx dat ext (.map (some (w.heap.size + 1 + 1 + 1)))).toArray 58).below (below_new _ (.map #[] 0))
    rw [e2] at this
    exact this
  · exact ((((Below.refl _ w).alloc (Nat.le_refl _) _).alloc (by simp) _).alloc (by simp; omega) _).alloc (by simp; omega) _
  · have := World.ownsMap_made (H := Unit) (((w.alloc (.cells (icells mx dat ext v).toArray 29)).alloc (.cells zz8.toArray 58)).alloc (.cells (hcells mx dat ext (.map (some (w.heap.size + 1 + 1 + 1)))).toArray 58)) Try.prog 26 (plainElem Try.prog 26)
    rw [e3] at this
    exact this

set_option maxHeartbeats 2000000 in
theorem frame_some (mx : Int) (dat ext : Bool) (b o c : Nat) (ps : List (Nat × Nat)) (w : World) (hn : 0 < ps.length) (hl : ps.length ≤ 100) (hb : b < w.heap.size)
    (hpc : ∀ j, (hj : j < ps.length) → w.cell? ⟨b, o + j * 2, none⟩ = some (un (ps[j]).1) ∧ w.cell? ⟨b, o + j * 2 + 1, none⟩ = some (un (ps[j]).2)) (hv : ∀ p ∈ ps, p.1 < 4611686018427387904 ∧ p.2 < 4611686018427387904) :
    Calls Try.prog 13 #[iframeV mx dat ext (.slice (some ⟨b, o, none⟩) ps.length c)] w (FramePost w mx dat ext ps) := by
  have HPC := Lib.hid hpc
  have HV := Lib.hid hv
  clear hpc hv
  have hmm := @run_makeMap Try.prog
  have hn' : decide ((0 : Int) < (ps.length : Int)) = true := by simp; omega
  go_enter Try.func13, Try.ntmps13
  unfold iframeV icells
  go_wp2_with fail
  go_loopw [28] (fun i wx => ∃ k : Nat, k ≤ ps.length ∧ i = .int .i64 (k : Int) ∧ XSt w wx mx dat ext (.slice (some ⟨b, o, none⟩) ps.length c) (.map (some (w.heap.size + 1 + 1 + 1))) ∧ wx.ownsMap Try.prog 26 (plainElem Try.prog 26) (w.heap.size + 1 + 1 + 1) k (mapD (ps.take k))) (fun i _ => ps.length - (intOf i).toNat)
  case atStart =>
    exact ⟨0, by omega, rfl, (frame_start w mx dat ext (.slice (some ⟨b, o, none⟩) ps.length c)).1, (frame_start w mx dat ext (.slice (some ⟨b, o, none⟩) ps.length c)).2⟩
  case round =>
    obtain ⟨k, hk, rfl, hX, hM⟩ := hrel
    have HX := Lib.hid hX
    have HMp := Lib.hid hM
    clear hX hM
    rcases Nat.lt_or_ge k ps.length with hkl | hkl
    · have e0 := (HX.out.bel.cell (p := ⟨b, o + k * 2, none⟩) hb).trans (HPC.out k hkl).1
      have e1 := (HX.out.bel.cell (p := ⟨b, o + k * 2 + 1, none⟩) hb).trans (HPC.out k hkl).2
      have hpv := HV.out (ps[k]) (List.getElem_mem hkl)
      obtain ⟨pq, hpq⟩ : ∃ pq, ps[k] = pq := ⟨_, rfl⟩
      rw [hpq] at e0 e1 hpv
      have HPQ := Lib.hid hpq
      clear hpq
      obtain ⟨pa, pb⟩ := pq
      simp only at e0 e1 hpv
      obtain ⟨hpa, hpb⟩ := hpv
      have x6 := HX.out.x.at_ 6 _ rfl
      have hkey : keyOf Try.prog 26 (un pa) = some (.int .u64 (pa : Int)) := keyOf_int_mk Try.underlying26 (by go_wf)
      have x6' := (HX.out.alloc (.cells #[un pa, un pb] 41)).x.at_ 6 _ rfl
      go_wp2_with (first
        | (at_mapUpdate; refine wpList_mapUpdate_own _ rfl _ _ _ 56 rfl 26 26 law26 Try.underlying56 _ (w.heap.size + 1 + 1 + 1) k _ rfl (HMp.out.alloc _) (by unfold maxLen; omega) _ _ _ rfl rfl hkey _ [] (plainElem_int Try.underlying26 (by go_wf)) ?_; intro w1 hown1 hgrow1))
      have hX2 := (HX.out.alloc (.cells #[un pa, un pb] 41)).grown hgrow1 (by omega)
      refine ⟨⟨k + 1, hkl, by go_num, hX2, ?_⟩, by simp [intOf]; omega⟩
      rw [List.take_succ_eq_append_getElem hkl, HPQ.out, mapD_snoc]
      exact hown1
    · have e : k = ps.length := by omega
      subst e
      have f1 : decide ((ps.length : Int) < (ps.length : Int)) = false := by simp
      have y0 := HX.out.x.at_ 0 _ rfl
      have y1 := HX.out.x.at_ 1 _ rfl
      have y2 := HX.out.x.at_ 2 _ rfl
      have y3 := HX.out.x.at_ 3 _ rfl
      have y4 := HX.out.x.at_ 4 _ rfl
      have y5 := HX.out.x.at_ 5 _ rfl
      have y6 := HX.out.x.at_ 6 _ rfl
      have y7 := HX.out.x.at_ 7 _ rfl
      obtain ⟨z, hz, hzl⟩ := HX.out.r
      obtain ⟨r0, r1, r2, r3, r4, r5, r6, r7, rfl⟩ : ∃ a0 a1 a2 a3 a4 a5 a6 a7, z = [a0, a1, a2, a3, a4, a5, a6, a7] := by
        match z, hzl with
        | [a0, a1, a2, a3, a4, a5, a6, a7], _ => exact ⟨_, _, _, _, _, _, _, _, rfl⟩
      have s0 := hz.at_ 0 _ rfl
      have t0 := hz.fz 0 (by simp)
      have s1 := hz.at_ 1 _ rfl
      have t1 := hz.fz 1 (by simp)
      have s2 := hz.at_ 2 _ rfl
      have t2 := hz.fz 2 (by simp)
      have s3 := hz.at_ 3 _ rfl
      have t3 := hz.fz 3 (by simp)
      have s4 := hz.at_ 4 _ rfl
      have t4 := hz.fz 4 (by simp)
      have s5 := hz.at_ 5 _ rfl
      have t5 := hz.fz 5 (by simp)
      have s6 := hz.at_ 6 _ rfl
      have t6 := hz.fz 6 (by simp)
      have s7 := hz.at_ 7 _ rfl
      have t7 := hz.fz 7 (by simp)
      have HZ := Lib.hid hz
      clear hz
      go_wp2_with fail
      have B0 := HZ.out.set 0 (.int .i64 2) (by simp)
      have q0 := B0.at_ 0 _ rfl
      have B1 := B0.set 1 (.int .u64 0) (by simp)
      have q1 := B1.at_ 1 _ rfl
      have B2 := B1.set 2 (.int .u64 0) (by simp)
      have q2 := B2.at_ 2 _ rfl
      have B3 := B2.set 3 (.int .i64 mx) (by simp)
      have q3 := B3.at_ 3 _ rfl
      have B4 := B3.set 4 (.bool dat) (by simp)
      have q4 := B4.at_ 4 _ rfl
      have B5 := B4.set 5 (.bool ext) (by simp)
      have q5 := B5.at_ 5 _ rfl
      have B6 := B5.set 6 (.map (some (w.heap.size + 1 + 1 + 1))) (by simp)
      have q6 := B6.at_ 6 _ rfl
      have B7 := B6.set 7 (.string ⟨#[]⟩) (by simp)
      have q7 := B7.at_ 7 _ rfl
      refine ⟨rfl, _, (show _ = Result.ok (hframeV mx dat ext (.map (some (w.heap.size + 1 + 1 + 1)))) _ by simp [results, Try.results13, go_sem, q0, q1, q2, q3, q4, q5, q6, q7, hframeV, hcells]), _, rfl, .inr ⟨_, rfl, ?_⟩, ?_⟩
      · have hM2 := HMp.out
        rw [List.take_length] at hM2
        exact hM2.kept (grown8b wr (w.heap.size + 1) _ _ _ _ _ _ _ _) (by simp; omega)
      · exact HX.out.bel.grown (grown8b wr (w.heap.size + 1) _ _ _ _ _ _ _ _) HX.out.bel.size (fun k hk => by injection hk with hk; omega)
end Go.Proofs.Ytpegafbcfpedoaa
