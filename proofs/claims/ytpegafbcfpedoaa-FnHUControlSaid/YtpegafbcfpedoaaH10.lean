/- settingsFrame.Append. -/
import Derived.Test.YtpegafbcfpedoaaH9
import Derived.Deep.CutBlock
import Derived.Deep.DeepCutAuto
namespace Go.Proofs.Ytpegafbcfpedoaa
open Go.RowKit Go.Maps
set_option linter.unusedVariables false
set_option maxRecDepth 100000

def vnEnc (i : Nat) : List UInt8 := vnBytes i (vnLen i)
theorem vnEnc_len (i : Nat) : (vnEnc i).length = vnLen i := vnBytes_len i _
theorem vnLen_le (i : Nat) : vnLen i ≤ 8 := by unfold vnLen; split <;> (try split) <;> (try split) <;> omega
def pairEnc (p : Nat × Nat) : List UInt8 := vnEnc p.1 ++ vnEnc p.2
def setBody (mx : Int) (dat ext : Bool) (ps : List (Nat × Nat)) : List UInt8 :=
  (if 0 ≤ mx then pairEnc (6, mx.toNat) else []) ++ (if dat then pairEnc (51, 1) else []) ++ (if ext then pairEnc (8, 1) else []) ++ ps.flatMap pairEnc

structure Wst (w0 w : World) (P base : Nat) (cs : List Value) (mv : Value) (ps : List (Nat × Nat)) (v : Value) (bs : List UInt8) : Prop where
  p : Blk w P cs
  m : MapIs w mv ps
  row : w.ownsRow base 5 1 v bs.length (bcells bs)
  np : v.ownBlock ≠ some P
  nm : ∀ b, mv = .map (some b) → v.ownBlock ≠ some b
  lb : base ≤ w0.heap.size
  bel : Below base w0 w

section
variable {w0 w w' : World} {P base : Nat} {cs : List Value} {mv v : Value} {ps : List (Nat × Nat)} {bs : List UInt8}
theorem Wst.ge (h : Wst w0 w P base cs mv ps v bs) : base ≤ w.heap.size := Nat.le_trans h.lb h.bel.size
theorem Wst.below (h : Wst w0 w P base cs mv ps v bs) (k : Below w.heap.size w w') : Wst w0 w' P base cs mv ps v bs where
  p := h.p.below k
  m := h.m.below k
  row := h.row.kept (row := none) ⟨k.os, k.tape, k.output, k.size, fun j hj _ => k.block j hj⟩ (by
    cases hv : v.ownBlock
    · exact .inl rfl
    · exact .inr (by simp))
  np := h.np
  nm := h.nm
  lb := h.lb
  bel := h.bel.trans (k.mono h.ge)
theorem MapIs.kept (h : MapIs w mv ps) {row : Option Nat} (g : w.grownBy w' row) (hr : ∀ b, mv = .map (some b) → row ≠ some b) : MapIs w' mv ps := by
  rcases h with h | ⟨b, rfl, h⟩
  · exact .inl h
  · exact .inr ⟨b, rfl, h.kept g (fun e => hr b rfl e.symm)⟩
theorem MapIs.lt (h : MapIs w mv ps) (b : Nat) (e : mv = .map (some b)) : b < w.heap.size := by
  rcases h with ⟨_, h⟩ | ⟨b', h', h⟩
  · rw [h] at e; cases e
  · rw [h'] at e; injection e with e; injection e with e; subst e; exact h.lt
theorem Wst.app (h : Wst w0 w P base cs mv ps v bs) {e : Ending} (i : Nat) (k : App w base v (bs.length + vnLen i) (bcells bs ++ bcells (vnBytes i (vnLen i))) e w') : ∃ v', e = .returned v' ∧ Wst w0 w' P base cs mv ps v' (bs ++ vnEnc i) := by
  obtain ⟨v', he, hrow, g, hv⟩ := k
  refine ⟨v', he, ⟨h.p.grown g (fun e => h.np e.symm), h.m.kept g h.nm, ?_, ?_, ?_, h.lb, h.bel.grown g h.ge (fun j hj => (h.row.lt _ hj).1)⟩⟩
  · rw [List.length_append, vnEnc_len]
    simpa [bcells, vnEnc] using hrow
  · rcases hv with hv | ⟨gg, hv, hg⟩
    · rw [hv]; exact h.np
    · rw [hv]; intro e; injection e with e; have := h.p.lt; omega
  · intro b hb
    rcases hv with hv | ⟨gg, hv, hg⟩
    · rw [hv]; exact h.nm b hb
    · rw [hv]; intro e; injection e with e; have := h.m.lt b hb; omega
end

theorem Wst.drewN {w0 w : World} {P base : Nat} {cs : List Value} {mv v : Value} {ps : List (Nat × Nat)} {bs : List UInt8} (h : Wst w0 w P base cs mv ps v bs) (k : Nat) : Wst w0 (w.drewN k) P base cs mv ps v bs := h.below ⟨rfl, rfl, rfl, Nat.le_refl _, fun _ _ => rfl⟩

def WPost (w0 : World) (P base : Nat) (cs : List Value) (mv : Value) (ps : List (Nat × Nat)) (bs : List UInt8) (e : Ending) (w' : World) : Prop :=
  ∃ v', e = .returned v' ∧ Wst w0 w' P base cs mv ps v' bs
theorem Wst.step {w0 w : World} {P base : Nat} {cs : List Value} {mv v : Value} {ps : List (Nat × Nat)} {bs : List UInt8} (h : Wst w0 w P base cs mv ps v bs) (i : Nat) (hi : i < 4611686018427387904) (hb : bs.length ≤ 4096) :
    Calls Try.prog 24 #[v, .int .u64 i] w (WPost w0 P base cs mv ps (bs ++ vnEnc i)) :=
  (append_any base v bs.length (bcells bs) i w h.row h.ge (by omega) hi).mono fun e w' k => h.app i k
theorem Wst.step2 {w0 w : World} {P base : Nat} {cs : List Value} {mv v : Value} {ps : List (Nat × Nat)} {bs : List UInt8} (h : Wst w0 w P base cs mv ps v bs) (i : Nat) (hi : i < 4611686018427387904) (hb : bs.length ≤ 4096)
    {B n : Nat} {A : Option Addr} {xs : List Value} (hR : Reads w B 1 A n xs) (hB : B ≤ w.heap.size) (hA : ∀ ad, A = some ad → v.ownBlock ≠ some ad.block) (hAB : ∀ ad, A = some ad → ad.block < w.heap.size) :
    Calls Try.prog 24 #[v, .int .u64 i] w fun e w' => ∃ v', e = .returned v' ∧ Wst w0 w' P base cs mv ps v' (bs ++ vnEnc i) ∧ Reads w' B 1 A n xs ∧ (∀ ad, A = some ad → v'.ownBlock ≠ some ad.block) ∧ w.heap.size ≤ w'.heap.size := by
  refine (append_any base v bs.length (bcells bs) i w h.row h.ge (by omega) hi).mono fun e w' k => ?_
  obtain ⟨v', he, hrow, g, hv⟩ := k
  obtain ⟨v2, he2, hW⟩ := h.app i ⟨v', he, hrow, g, hv⟩
  subst he
  injection he2 with he2
  subst he2
  refine ⟨_, rfl, hW, ⟨hR.1, fun hn => ?_⟩, fun ad e => ?_, g.size⟩
  · obtain ⟨ad, e, hb', hc⟩ := hR.2 hn
    refine ⟨ad, e, hb', fun j u hu => ?_⟩
    refine (World.cell?_of_block (g.block _ ?_ ?_)).trans (hc j u hu)
    · rw [block_of_add]; exact hAB ad e
    · rw [block_of_add]; exact fun e' => hA ad e e'.symm
  · rcases hv with hv | ⟨gg, hv, hg⟩
    · rw [hv]; exact hA ad e
    · rw [hv]; intro e'; injection e' with e'; have := hAB ad e; omega
theorem len_at (i L : Nat) (w : World) (hi : i < 4611686018427387904) (hL : vnLen i = L) : Calls Try.prog 25 #[.int .u64 i] w fun e w' => e = .returned (.int .i64 (L : Int)) ∧ w' = w := by
  subst hL
  exact (len_any i w hi).mono fun e w' h => ⟨h.1, h.2.symm⟩

theorem pairEnc_len (p : Nat × Nat) : (pairEnc p).length = vnLen p.1 + vnLen p.2 := by simp [pairEnc, vnEnc_len]
theorem flat_len (ps : List (Nat × Nat)) : (ps.flatMap pairEnc).length ≤ 16 * ps.length := by
  induction ps with
  | nil => simp
  | cons p ps ih =>
    have := vnLen_le p.1
    have := vnLen_le p.2
    simp only [List.flatMap_cons, List.length_append, pairEnc_len, List.length_cons]
    omega
def sixEnc (mx : Int) : List UInt8 := if 0 ≤ mx then pairEnc (6, mx.toNat) else []
theorem sixEnc_len (mx : Int) : (sixEnc mx).length ≤ 16 := by
  unfold sixEnc
  split
  · have := vnLen_le mx.toNat
    have := vnLen_le 6
    rw [pairEnc_len]; simp only; omega
  · simp

theorem reads_num {w : World} {B n : Nat} {A : Option Addr} {ns : List Nat} (h : Reads w B 1 A n (ucells ns)) (hn : 0 < n) :
    ∃ b o, A = some ⟨b, o, none⟩ ∧ b < B ∧ ns.length = n ∧ ∀ k, (hk : k < ns.length) → w.cell? ⟨b, o + k, none⟩ = some (un ns[k]) := by
  obtain ⟨ad, e, hb, hc⟩ := h.2 hn
  have hl : ns.length = n := by have := h.1; rw [ucells_length] at this; omega
  have h0 := hc 0 (un (ns[0]'(by omega))) (by simp [ucells, List.getElem?_eq_getElem (show 0 < ns.length by omega)])
  obtain ⟨b, o, spot⟩ := ad
  have hspot : spot = none := by simpa [Addr.add] using World.cell?_spot h0
  subst hspot
  refine ⟨b, o, e, hb, hl, fun k hk => ?_⟩
  have := hc k (un ns[k]) (by rw [ucells, List.getElem?_map, List.getElem?_eq_getElem hk]; rfl)
  rwa [Addr.add_lit] at this

theorem u64_lit {c d : Int} (h : (DataW.lit (.int .u64 c) : DataW Unit) = .lit (.int .u64 d)) : c = d := by injection h with h; injection h

theorem setBody_eq (mx : Int) (dat ext : Bool) (ps : List (Nat × Nat)) : setBody mx dat ext ps = sixEnc mx ++ (if dat then pairEnc (51, 1) else []) ++ (if ext then pairEnc (8, 1) else []) ++ ps.flatMap pairEnc := rfl
theorem p51 : (pairEnc (51, 1)).length = 2 := by rw [pairEnc_len]; rfl
theorem p8 : (pairEnc (8, 1)).length = 2 := by rw [pairEnc_len]; rfl
theorem setBody_len (mx : Int) (dat ext : Bool) (ps : List (Nat × Nat)) : (setBody mx dat ext ps).length = (sixEnc mx).length + (ps.flatMap pairEnc).length + (if dat then 2 else 0) + (if ext then 2 else 0) := by
  rw [setBody_eq]
  cases dat <;> cases ext <;> simp [p51, p8] <;> omega

set_option maxHeartbeats 4000000 in
theorem settings_append (mx : Int) (dat ext : Bool) (mo : Option Nat) (v : Value) (ps : List (Nat × Nat)) (bs : List UInt8) (P base : Nat) (w : World) (h : Wst w w P base [.int .i64 mx, .bool dat, .bool ext, .map mo] (.map mo) ps v bs)
    (hmx : mx < 4611686018427387904) (hmn : -1 ≤ mx) (ha : Asc ps) (hl : ps.length ≤ 5) (hv : ∀ p ∈ ps, p.1 < 4611686018427387904 ∧ p.2 < 4611686018427387904) (hb : bs.length ≤ 64) :
    Calls Try.prog 21 #[.pointer (some ⟨P, 0, none⟩), v] w (WPost w P base [.int .i64 mx, .bool dat, .bool ext, .map mo] (.map mo) ps (bs ++ vnEnc 4 ++ vnEnc (setBody mx dat ext ps).length ++ setBody mx dat ext ps)) := by
  obtain ⟨B, hB⟩ : ∃ B, setBody mx dat ext ps = B := ⟨_, rfl⟩
  rw [hB]
  have HB := Lib.hid hB
  obtain ⟨T, hT⟩ : ∃ T, bs ++ vnEnc 4 ++ vnEnc B.length ++ B = T := ⟨_, rfl⟩
  rw [hT]
  have HT := Lib.hid hT
  clear hB hT
  have HA := Lib.hid ha
  have HV := Lib.hid hv
  have HW := Lib.hid h
  have x0 := h.p.at_ 0 _ rfl
  clear ha hv h
  go_enter Try.func21, Try.ntmps21
  go_upto_if 18 with (go_at_call 24; refine (HW.out.step 4 (by omega) (by omega)).mono ?_; rintro e w1 ⟨v1, rfl, hW1⟩; have HW1 := Lib.hid hW1; clear hW1; have x1 := HW1.out.p.at_ 0 _ rfl)
  go_cut [5] (fun s5 wx => s5 = .int .i64 ((sixEnc mx).length : Int) ∧ Wst w wx P base [.int .i64 mx, .bool dat, .bool ext, .map mo] (.map mo) ps v1 (bs ++ vnEnc 4))
  case first =>
    rcases Int.lt_or_le mx 0 with hneg | hpos
    · have f1 : decide (0 ≤ mx) = false := by simp; omega
      go_wp2_with fail
      go_meet
      case rel => exact ⟨by rw [sixEnc, if_neg (by omega)]; rfl, HW1.out⟩
    · have f1 : decide (0 ≤ mx) = true := by simp; omega
      go_wp2_with fail
      obtain ⟨m, rfl⟩ := Int.eq_ofNat_of_zero_le hpos
      obtain ⟨L, hL⟩ : ∃ L, vnLen m = L := ⟨_, rfl⟩
      have lm := vnLen_le m
      rw [hL] at lm
      have hsix : (sixEnc (m : Int)).length = 1 + L := by rw [sixEnc, if_pos hpos, pairEnc_len, ← hL]; rfl
      have hm62 : m < 4611686018427387904 := by omega
      have K6 := fun w => len_at 6 1 w (by omega) rfl
      have Km := fun w => len_at m L w hm62 hL
      have HS := Lib.hid hsix
      clear hsix hL
      have wm : IntKind.u64.wrap (m : Int) = m := IntWalk.u64_in _ (by omega)
      have w1a : IntKind.i64.wrap (((1 : Nat) : Int) + (L : Int)) = 1 + (L : Int) := IntWalk.i64_in _ (by omega)
      have w1b : IntKind.i64.wrap (0 + (1 + (L : Int))) = 1 + (L : Int) := by rw [Int.zero_add]; exact IntWalk.i64_in _ (by omega)
      go_quiet (first | (go_at_call_of 25 (Value.int .u64 6); exact Calls.quiet_of_same (K6 _)) | (go_at_call 25; exact Calls.quiet_of_same (Km _)))
      go_wp2_with fail
      go_meet
      case rel => exact ⟨by rw [HS.out]; rfl, HW1.out.drewN _⟩
  case rest =>
    obtain ⟨rfl, hW2⟩ := hcut
    have HW2 := Lib.hid hW2
    have x3 := hW2.p.at_ 3 _ rfl
    clear hW2
    have l6 := sixEnc_len mx
    obtain ⟨S, hS⟩ : ∃ S, (sixEnc mx).length = S := ⟨_, rfl⟩
    rw [hS] at l6
    have HS := Lib.hid hS
    rw [hS]
    clear hS
    go_wp2_with (go_at_call 26; refine (ids_at (.map mo) ps wc HW2.out.m HA.out hl (fun p hp => (HV.out p hp).1)).mono ?_; rintro e w3 ⟨A, cA, rfl, hR3, hB3, _⟩; have HR3 := Lib.hid hR3; have HB3 := Lib.hid hB3; clear hR3 hB3)
    have hW3 := HW2.out.below HB3.out
    go_loopw [5, 35] (fun s5 s35 wx => ∃ k : Nat, k ≤ ps.length ∧ s35 = .int .i64 (k : Int) ∧ s5 = .int .i64 ((S + ((ps.take k).flatMap pairEnc).length : Nat) : Int) ∧ Wst w wx P base [.int .i64 mx, .bool dat, .bool ext, .map mo] (.map mo) ps v1 (bs ++ vnEnc 4) ∧ Reads wx w3.heap.size 1 A ps.length (ucells (ps.map Prod.fst)))
      (fun _ s35 _ => ps.length - (intOf s35).toNat)
    case atStart => exact ⟨0, by omega, rfl, by simp, hW3, HR3.out⟩
    case round =>
      obtain ⟨k, hk, rfl, rfl, hWx, hRx⟩ := hrel
      have HWx := Lib.hid hWx
      have HRx := Lib.hid hRx
      clear hWx hRx
      rcases Nat.lt_or_ge k ps.length with hkl | hkl
      · obtain ⟨bA, oA, rfl, hbA, _, hcA⟩ := reads_num HRx.out (by omega)
        have e0 := hcA k (by simpa using hkl)
        rw [List.getElem_map] at e0
        have HEl := Lib.hid (rfl : ps[k] = ps[k])
        have hpv := HV.out (ps[k]) (List.getElem_mem hkl)
        have hat := fun z => at_mapD ps HA.out ps[k] (List.getElem_mem hkl) z
        have hfl : (ps.take (k + 1)).flatMap pairEnc = (ps.take k).flatMap pairEnc ++ pairEnc ps[k] := by
          rw [List.take_succ_eq_append_getElem hkl, List.flatMap_append]; simp
        have hfb := flat_len (ps.take k)
        rw [List.length_take] at hfb
        have hpl := pairEnc_len ps[k]
        obtain ⟨F, hF⟩ : ∃ F, ((ps.take k).flatMap pairEnc).length = F := ⟨_, rfl⟩
        have hfl2 : ((ps.take (k + 1)).flatMap pairEnc).length = F + (vnLen ps[k].1 + vnLen ps[k].2) := by rw [hfl, List.length_append, hF, hpl]
        rw [hF] at hfb ⊢
        have HFL := Lib.hid hfl2
        clear hfl hpl hF hfl2
        obtain ⟨⟨pa, pb⟩, hpq⟩ : ∃ pq, ps[k] = pq := ⟨_, rfl⟩
        rw [hpq] at e0 hpv hat HFL
        simp only at e0 hpv hat HFL
        obtain ⟨hpa, hpb⟩ := hpv
        obtain ⟨mb, rfl, hmap⟩ : ∃ mb, mo = some mb ∧ wr.ownsMap Try.prog 26 (plainElem Try.prog 26) mb ps.length (mapD ps) := by
          rcases HWx.out.m with ⟨h, _⟩ | ⟨mb, e, h⟩
          · subst h; simp at hkl
          · injection e with e; exact ⟨mb, e, h⟩
        have hkey : keyOf Try.prog 26 (un pa) = some (.int .u64 (pa : Int)) := keyOf_int_mk Try.underlying26 (by go_wf)
        have HAT := Lib.hid hat
        have HMP := Lib.hid hmap
        have hz26 := zero26 wr
        have x3' := HWx.out.p.at_ 3 _ rfl
        clear hat hmap
        go_wp2_with (first
          | (at_lookup; refine wpList_lookup_own_int _ rfl _ _ 56 rfl 26 26 .u64 law26 Try.underlying56 Try.underlying26 hz26 mb ps.length _ rfl HMP.out _ _ rfl hkey ?_; intro c hc hcw))
        have hcb : c = (pb : Int) := u64_lit (hc.symm.trans (HAT.out _))
        subst hcb
        clear hc hcw hkey hz26
        obtain ⟨La, hLa⟩ : ∃ L, vnLen pa = L := ⟨_, rfl⟩
        obtain ⟨Lb, hLb⟩ : ∃ L, vnLen pb = L := ⟨_, rfl⟩
        have la := vnLen_le pa
        have lb := vnLen_le pb
        rw [hLa] at la HFL
        rw [hLb] at lb HFL
        have Ka := fun w => len_at pa La w hpa hLa
        have Kb := fun w => len_at pb Lb w hpb hLb
        clear hLa hLb
        have hFF := HFL.out
        have hgoal : S + (F + (La + Lb)) < 1000 := by omega
        have w1a : IntKind.i64.wrap ((La : Int) + (Lb : Int)) = (La : Int) + (Lb : Int) := IntWalk.i64_in _ (by omega)
        have w1b : IntKind.i64.wrap (((S + F : Nat) : Int) + ((La : Int) + (Lb : Int))) = ((S + F : Nat) : Int) + ((La : Int) + (Lb : Int)) := IntWalk.i64_in _ (by omega)
        have w1c : IntKind.i64.wrap ((S : Int) + (F : Int) + ((La : Int) + (Lb : Int))) = (S : Int) + (F : Int) + ((La : Int) + (Lb : Int)) := IntWalk.i64_in _ (by omega)
        clear hFF
        refine (Ka _).mono ?_
        rintro e w5 ⟨rfl, rfl⟩
        go_wp2_with (go_at_call 25; refine (Kb _).mono ?_; rintro e w6 ⟨rfl, rfl⟩)
        refine ⟨⟨k + 1, hkl, by go_num, ?_, HWx.out, HRx.out⟩, by simp [intOf]; omega⟩
        rw [HFL.out]
        congr 1
        omega
      · have e : k = ps.length := by omega
        subst e
        rw [List.take_length]
        have f1 : decide ((ps.length : Int) < (ps.length : Int)) = false := by simp
        have hfb := flat_len ps
        obtain ⟨F, hF⟩ : ∃ F, (ps.flatMap pairEnc).length = F := ⟨_, rfl⟩
        rw [hF] at hfb ⊢
        have HF := Lib.hid hF
        clear hF HR3 HRx HB3 hW3
        have y1 := HWx.out.p.at_ 1 _ rfl
        go_upto_if 56 with fail
        go_cut [5] (fun s5 wx => s5 = .int .i64 ((S + F + (if dat then 2 else 0) : Nat) : Int) ∧ Wst w wx P base [.int .i64 mx, .bool dat, .bool ext, .map mo] (.map mo) ps v1 (bs ++ vnEnc 4))
        case first =>
          cases dat
          · go_wp2_with fail
            go_meet
            case rel => exact ⟨by simp, HWx.out⟩
          · go_wp2_with fail
            have K51 := fun w => len_at 51 1 w (by omega) rfl
            have K1 := fun w => len_at 1 1 w (by omega) rfl
            have w1a : IntKind.i64.wrap (((1 : Nat) : Int) + ((1 : Nat) : Int)) = 2 := rfl
            refine (K51 _).mono ?_
            rintro e w5 ⟨rfl, rfl⟩
            go_wp2_with (go_at_call 25; refine (K1 _).mono ?_; rintro e w6 ⟨rfl, rfl⟩)
            go_meet
            case rel => exact ⟨by simp, HWx.out⟩
        case rest =>
          obtain ⟨rfl, hW4⟩ := hcut
          have HW4 := Lib.hid hW4
          have y2 := hW4.p.at_ 2 _ rfl
          clear hW4
          obtain ⟨D, hD⟩ : ∃ D, (if dat then 2 else 0) = D := ⟨_, rfl⟩
          have dle : D ≤ 2 := by rw [← hD]; split <;> omega
          rw [hD]
          have HD := Lib.hid hD
          clear hD
          go_upto_if 65 with fail
          go_cut [5] (fun s5 wx => s5 = .int .i64 ((S + F + D + (if ext then 2 else 0) : Nat) : Int) ∧ Wst w wx P base [.int .i64 mx, .bool dat, .bool ext, .map mo] (.map mo) ps v1 (bs ++ vnEnc 4))
          case first =>
            cases ext
            · go_wp2_with fail
              go_meet
              case rel => exact ⟨by simp, HW4.out⟩
            · go_wp2_with fail
              have K8 := fun w => len_at 8 1 w (by omega) rfl
              have K1 := fun w => len_at 1 1 w (by omega) rfl
              have w1a : IntKind.i64.wrap (((1 : Nat) : Int) + ((1 : Nat) : Int)) = 2 := rfl
              refine (K8 _).mono ?_
              rintro e w5 ⟨rfl, rfl⟩
              go_wp2_with (go_at_call 25; refine (K1 _).mono ?_; rintro e w6 ⟨rfl, rfl⟩)
              go_meet
              case rel => exact ⟨by simp, HW4.out⟩
          case rest =>
            obtain ⟨rfl, hW5⟩ := hcut
            have HW5 := Lib.hid hW5
            clear hW5
            obtain ⟨E, hE⟩ : ∃ E, (if ext then 2 else 0) = E := ⟨_, rfl⟩
            have ele : E ≤ 2 := by rw [← hE]; split <;> omega
            have hN : S + F + D + E = B.length := by rw [← HB.out, setBody_len, HS.out, HF.out, HD.out, hE]
            rw [hE, hN]
            clear hE
            obtain ⟨N, hNN⟩ : ∃ N, B.length = N := ⟨_, rfl⟩
            rw [hNN] at hN ⊢
            have HNN := Lib.hid hNN
            clear hNN
            have wu : IntKind.u64.wrap (N : Int) = N := IntWalk.u64_in _ (by omega)
            have hl4 : (bs ++ vnEnc 4).length ≤ 100 := by rw [List.length_append, vnEnc_len]; have := vnLen_le 4; omega
            have hlN : (bs ++ vnEnc 4 ++ vnEnc N).length ≤ 200 := by rw [List.length_append, vnEnc_len]; have := vnLen_le N; omega
            have KW5 := fun (h : N < 4611686018427387904) => HW5.out.step N h (by omega)
            go_upto_if 79 with (go_at_call 24; refine (KW5 (by omega)).mono ?_; rintro e w6 ⟨v6, rfl, hW6⟩; have HW6 := Lib.hid hW6; clear hW6; have z0 := HW6.out.p.at_ 0 _ rfl)
            go_cut [1] (fun s1 wx => Wst w wx P base [.int .i64 mx, .bool dat, .bool ext, .map mo] (.map mo) ps s1 (bs ++ vnEnc 4 ++ vnEnc N ++ sixEnc mx))
            case first =>
              rcases Int.lt_or_le mx 0 with hneg | hpos
              · have f2 : decide (0 ≤ mx) = false := by simp; omega
                go_wp2_with fail
                go_meet
                case rel => rw [sixEnc, if_neg (by omega), List.append_nil]; exact HW6.out
              · have f2 : decide (0 ≤ mx) = true := by simp; omega
                have wm : IntKind.u64.wrap mx = mx := IntWalk.u64_in _ (by omega)
                have hm0 : (mx.toNat : Int) = mx := Int.toNat_of_nonneg hpos
                have hm62 : mx.toNat < 4611686018427387904 := by omega
                go_wp2_with (go_at_call_of 24 (Value.int .u64 6); refine (HW6.out.step 6 (by omega) (by omega)).mono ?_; rintro e w7 ⟨v7, rfl, hW7⟩; have HW7 := Lib.hid hW7; clear hW7; have q0 := HW7.out.p.at_ 0 _ rfl)
                have K7 := HW7.out.step mx.toNat hm62 (by rw [List.length_append, vnEnc_len]; have := vnLen_le 6; omega)
                rw [hm0] at K7
                refine K7.mono ?_
                rintro e w8 ⟨v8, rfl, hW8⟩
                have HW8 := Lib.hid hW8
                clear hW8 K7
                go_wp2_with fail
                go_meet
                case rel => rw [sixEnc, if_pos hpos, pairEnc, ← List.append_assoc]; exact HW8.out
            case rest =>
              obtain ⟨C, hC⟩ : ∃ C, bs ++ vnEnc 4 ++ vnEnc N ++ sixEnc mx = C := ⟨_, rfl⟩
              have hCl : C.length ≤ 300 := by rw [← hC, List.length_append]; have := sixEnc_len mx; omega
              rw [hC] at hcut
              have HC := Lib.hid hC
              clear hC
              have HWa := Lib.hid hcut
              have r1 := hcut.p.at_ 1 _ rfl
              clear hcut
              go_upto_if 92 with fail
              go_cut [1] (fun s1 wx => Wst w wx P base [.int .i64 mx, .bool dat, .bool ext, .map mo] (.map mo) ps s1 (C ++ if dat then pairEnc (51, 1) else []))
              case first =>
                cases dat
                · go_wp2_with fail
                  go_meet
                  case rel => simpa using HWa.out
                · go_wp2_with (first
                    | (go_at_call_of 24 (Value.int .u64 51); refine (HWa.out.step 51 (by omega) (by omega)).mono ?_; rintro e w7 ⟨v7, rfl, hW7⟩; have HW7 := Lib.hid hW7; clear hW7)
                    | (go_at_call_of 24 (Value.int .u64 1); refine (HW7.out.step 1 (by omega) (by rw [List.length_append, vnEnc_len]; have := vnLen_le 51; omega)).mono ?_; rintro e w8 ⟨v8, rfl, hW8⟩; have HW8 := Lib.hid hW8; clear hW8))
                  go_meet
                  case rel => simpa [pairEnc] using HW8.out
              case rest =>
                obtain ⟨C2, hC2⟩ : ∃ C2, (C ++ if dat then pairEnc (51, 1) else []) = C2 := ⟨_, rfl⟩
                have hC2l : C2.length ≤ 320 := by rw [← hC2, List.length_append]; cases dat <;> simp [p51] <;> omega
                rw [hC2] at hcut
                have HC2 := Lib.hid hC2
                clear hC2
                have HWb := Lib.hid hcut
                have r2 := hcut.p.at_ 2 _ rfl
                clear hcut
                go_upto_if 100 with fail
                go_cut [1] (fun s1 wx => Wst w wx P base [.int .i64 mx, .bool dat, .bool ext, .map mo] (.map mo) ps s1 (C2 ++ if ext then pairEnc (8, 1) else []))
                case first =>
                  cases ext
                  · go_wp2_with fail
                    go_meet
                    case rel => simpa using HWb.out
                  · go_wp2_with (first
                      | (go_at_call_of 24 (Value.int .u64 8); refine (HWb.out.step 8 (by omega) (by omega)).mono ?_; rintro e w7 ⟨v7, rfl, hW7⟩; have HW7 := Lib.hid hW7; clear hW7)
                      | (go_at_call_of 24 (Value.int .u64 1); refine (HW7.out.step 1 (by omega) (by rw [List.length_append, vnEnc_len]; have := vnLen_le 8; omega)).mono ?_; rintro e w8 ⟨v8, rfl, hW8⟩; have HW8 := Lib.hid hW8; clear hW8))
                    go_meet
                    case rel => simpa [pairEnc] using HW8.out
                case rest =>
                  obtain ⟨C3, hC3⟩ : ∃ C3, (C2 ++ if ext then pairEnc (8, 1) else []) = C3 := ⟨_, rfl⟩
                  have hC3l : C3.length ≤ 340 := by rw [← hC3, List.length_append]; cases ext <;> simp [p8] <;> omega
                  rw [hC3] at hcut
                  have HC3 := Lib.hid hC3
                  clear hC3
                  have HWc := Lib.hid hcut
                  have r3 := hcut.p.at_ 3 _ rfl
                  clear hcut
                  go_wp2_with (go_at_call 26; refine (ids_at (.map mo) ps _ HWc.out.m HA.out hl (fun p hp => (HV.out p hp).1)).mono ?_; rintro e w9 ⟨A9, cA9, rfl, hR9, hB9, hA9⟩; have HR9 := Lib.hid hR9; have HB9 := Lib.hid hB9; clear hR9 hB9)
                  have HWd := Lib.hid (HWc.out.below HB9.out)
                  go_loopw [1, 111] (fun s1 s111 wx => ∃ k : Nat, k ≤ ps.length ∧ s111 = .int .i64 (k : Int) ∧ Wst w wx P base [.int .i64 mx, .bool dat, .bool ext, .map mo] (.map mo) ps s1 (C3 ++ (ps.take k).flatMap pairEnc) ∧ Reads wx w9.heap.size 1 A9 ps.length (ucells (ps.map Prod.fst)) ∧ w9.heap.size ≤ wx.heap.size ∧ ∀ ad, A9 = some ad → s1.ownBlock ≠ some ad.block)
                    (fun _ s111 _ => ps.length - (intOf s111).toNat)
                  case atStart => exact ⟨0, by omega, rfl, by simpa using HWd.out, HR9.out, Nat.le_refl _, fun ad ea eb => by have := (HWc.out.row.lt _ eb).2; have := hA9 ad ea; omega⟩
                  case round =>
                    obtain ⟨k, hk, rfl, hWx, hRx, hzx, hAx⟩ := hrel
                    have HAx := Lib.hid hAx
                    clear hAx
                    have HWx := Lib.hid hWx
                    have HRx := Lib.hid hRx
                    clear hWx hRx
                    rcases Nat.lt_or_ge k ps.length with hkl | hkl
                    · obtain ⟨bA, oA, rfl, hbA, _, hcA⟩ := reads_num HRx.out (by omega)
                      have e0 := hcA k (by simpa using hkl)
                      rw [List.getElem_map] at e0
                      have hpv := HV.out (ps[k]) (List.getElem_mem hkl)
                      have hat := fun z => at_mapD ps HA.out ps[k] (List.getElem_mem hkl) z
                      have hfl : C3 ++ (ps.take (k + 1)).flatMap pairEnc = C3 ++ (ps.take k).flatMap pairEnc ++ vnEnc (ps[k]).1 ++ vnEnc (ps[k]).2 := by
                        rw [List.take_succ_eq_append_getElem hkl, List.flatMap_append]; simp [pairEnc]
                      have hfb := flat_len (ps.take k)
                      rw [List.length_take] at hfb
                      have hcl1 : (C3 ++ (ps.take k).flatMap pairEnc).length ≤ 500 := by rw [List.length_append]; omega
                      obtain ⟨⟨pa, pb⟩, hpq⟩ : ∃ pq, ps[k] = pq := ⟨_, rfl⟩
                      rw [hpq] at e0 hpv hat hfl
                      simp only at e0 hpv hat hfl
                      obtain ⟨hpa, hpb⟩ := hpv
                      obtain ⟨mb, rfl, hmap⟩ : ∃ mb, mo = some mb ∧ wr.ownsMap Try.prog 26 (plainElem Try.prog 26) mb ps.length (mapD ps) := by
                        rcases HWx.out.m with ⟨h, _⟩ | ⟨mb, e, h⟩
                        · subst h; simp at hkl
                        · injection e with e; exact ⟨mb, e, h⟩
                      have hkey : keyOf Try.prog 26 (un pa) = some (.int .u64 (pa : Int)) := keyOf_int_mk Try.underlying26 (by go_wf)
                      have HAT := Lib.hid hat
                      have HMP := Lib.hid hmap
                      have HFL := Lib.hid hfl
                      have hz26 := zero26 wr
                      have x3' := HWx.out.p.at_ 3 _ rfl
                      clear hat hmap hfl
                      have hbz : bA < w9.heap.size := hbA
                      have KA := HWx.out.step2 pa hpa (by omega) HRx.out hzx HAx.out (fun ad ea => by injection ea with ea; subst ea; show bA < _; omega)
                      go_wp2_with (first
                        | (at_lookup; refine wpList_lookup_own_int _ rfl _ _ 56 rfl 26 26 .u64 law26 Try.underlying56 Try.underlying26 hz26 mb ps.length _ rfl HMP.out _ _ rfl hkey ?_; intro c hc hcw))
                      have hcb : c = (pb : Int) := u64_lit (hc.symm.trans (HAT.out _))
                      subst hcb
                      clear hc hcw hkey hz26
                      refine KA.mono ?_
                      rintro e w11 ⟨v11, rfl, hW11, hR11, hA11, hz11⟩
                      have KB := hW11.step2 pb hpb (by rw [List.length_append, vnEnc_len]; have := vnLen_le pa; omega) hR11 (by omega) hA11 (fun ad ea => by injection ea with ea; subst ea; show bA < _; omega)
                      clear hW11 hR11 hA11
                      go_wp2_with (go_at_call 24; refine KB.mono ?_; rintro e w12 ⟨v12, rfl, hW12, hR12, hA12, hz12⟩; have HW12 := Lib.hid hW12; have HR12 := Lib.hid hR12; have HA12 := Lib.hid hA12; clear hW12 hR12 hA12)
                      refine ⟨⟨k + 1, hkl, by go_num, ?_, HR12.out, by omega, HA12.out⟩, by simp [intOf]; omega⟩
                      rw [HFL.out]
                      exact HW12.out
                    · have e : k = ps.length := by omega
                      subst e
                      have f1 : decide ((ps.length : Int) < (ps.length : Int)) = false := by simp
                      go_wp2_with fail
                      go_ret
                      refine ⟨_, rfl, ?_⟩
                      have hW := HWx.out
                      rw [List.take_length, ← HC3.out, ← HC2.out, ← HC.out] at hW
                      rw [← HT.out, HNN.out, ← HB.out, setBody_eq]
                      simp only [List.append_assoc] at hW ⊢
                      exact hW
end Go.Proofs.Ytpegafbcfpedoaa
