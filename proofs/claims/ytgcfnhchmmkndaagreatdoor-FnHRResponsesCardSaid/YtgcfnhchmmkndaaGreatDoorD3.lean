/- http3.requestFromHeaders. -/
import Derived.Test.YtgcfnhchmmkndaaGreatDoorD3u
namespace Go.Proofs.YtgcfnhchmmkndaaGreatDoor
open Go.RowKit Go.Maps
set_option linter.unusedVariables false
set_option maxRecDepth 100000

set_option maxHeartbeats 100000000 in
theorem request_at (fn : Value) (r : Option (PS × Int)) (p : Addr) (w0 : World) (Bx m : Nat) (hK : Calls Tryz.prog 56 #[fn, .bool true, .int .i64 1048576, .pointer none] w0 (HPostR w0 Bx m r)) (hE : Env w0 p) (hB : Bx < w0.heap.size) (h3 : 3 ≤ Bx)
    (hI : ∀ s cl, r = some (s, cl) → RIn m s) : Calls Tryz.prog 49 #[fn, .int .i64 1048576, .pointer none] w0 (RQPost w0 Bx (m + 1) (r.bind fun x => rqOf x.1 x.2)) := by
  have HE := Lib.hid hE
  have HI := Lib.hid hI
  clear hE hI
  go_enter Tryz.func49, Tryz.ntmps49
  go_wp2_with fail
  refine hK.mono ?_
  rintro e w1 ⟨v, ev, rfl, hg1, hev, hsome, hnone⟩
  have HS := Lib.hid hsome
  have HG1 := Lib.hid hg1
  cases r with
  | none =>
    obtain ⟨q, rfl⟩ := hev
    obtain rfl := hnone rfl
    clear hK hg1 hsome hnone
    have hh : hcl {} 0 (.map none) = [str [], str [], str [], str [], str [], str [], .int .i64 0, .map none] := rfl
    rw [hh]
    clear hh
    go_wp2_with fail
    go_ret2
    exact ⟨_, _, rfl, HG1.out.trans (World.grownBy_alloc w1 _ _), ⟨q, rfl⟩, (fun q hq => by cases hq), fun _ => rfl⟩
  | some x =>
    obtain ⟨s, cl⟩ := x
    obtain ⟨n, es, rfl, hH, ha, hn, hi, hz⟩ := hsome s cl rfl
    obtain rfl : ev = .nilIface := hev
    have hin := HI.out s cl rfl
    have R1 := Lib.hid (RSt.start (cl := cl) hg1 hH ha hn hi hz)
    have hh : hcl s cl (.map (some (w0.heap.size + 1))) = [str s.path, str s.meth, str s.auth, str s.scheme, str s.status, str s.proto, .int .i64 cl, .map (some (w0.heap.size + 1))] := rfl
    rw [hh]
    have HIN := Lib.hid hin
    clear hh hK hg1 hsome hnone hH ha hn hi hin HS HI
    have e7 := R1.out.cells 7 _ rfl
    obtain ⟨v1, k1⟩ := R1.out.hdr.look_any kPath (by simp)
    obtain ⟨v2, k2⟩ := R1.out.hdr.look_any kAuth (by simp)
    obtain ⟨v3, k3⟩ := R1.out.hdr.look_any kScheme (by simp)
    obtain ⟨v4, k4⟩ := R1.out.hdr.look_any kProto (by simp)
    rw [R1.out.abs] at k1 k2 k3 k4
    obtain ⟨hp, hhp⟩ : ∃ x, hasKey s.H kPath = x := ⟨_, rfl⟩
    obtain ⟨ha, hha⟩ : ∃ x, hasKey s.H kAuth = x := ⟨_, rfl⟩
    obtain ⟨hs, hhs⟩ : ∃ x, hasKey s.H kScheme = x := ⟨_, rfl⟩
    obtain ⟨hpr, hhpr⟩ : ∃ x, hasKey s.H kProto = x := ⟨_, rfl⟩
    rw [hhp] at k1
    rw [hha] at k2
    rw [hhs] at k3
    rw [hhpr] at k4
    have HK1 := Lib.hid hhp
    have HK2 := Lib.hid hha
    have HK3 := Lib.hid hhs
    have HK4 := Lib.hid hhpr
    clear hhp hha hhs hhpr
    go_wp2_with (at_delete; refine wpList_delete_hdr2 rfl _ _ rfl kPath rfl R1.out.hdr rfl (by simp) ?_)
    intro w2 hh gg
    have R2 := Lib.hid (R1.out.del hB kPath hh gg)
    have e70 := R2.out.cells 7 _ rfl
    clear hh gg e7 k1 k2 k3 k4
    go_wp2_with (at_delete; refine wpList_delete_hdr2 rfl _ _ rfl kAuth rfl R2.out.hdr rfl (by simp) ?_)
    intro w3 hh gg
    have R3 := Lib.hid (R2.out.del hB kAuth hh gg)
    have e71 := R3.out.cells 7 _ rfl
    clear hh gg e70
    go_wp2_with (at_delete; refine wpList_delete_hdr2 rfl _ _ rfl kScheme rfl R3.out.hdr rfl (by simp) ?_)
    intro w4 hh gg
    have R4 := Lib.hid (R3.out.del hB kScheme hh gg)
    have e72 := R4.out.cells 7 _ rfl
    clear hh gg e71
    go_wp2_with (at_delete; refine wpList_delete_hdr2 rfl _ _ rfl kProto rfl R4.out.hdr rfl (by simp) ?_)
    intro w5 hh gg
    have R5 := Lib.hid (R4.out.del hB kProto hh gg)
    have e73 := R5.out.cells 7 _ rfl
    clear hh gg e72
    obtain ⟨H1, hH1⟩ : ∃ H1, delH (delH (delH (delH s.H kPath) kAuth) kScheme) kProto = H1 := ⟨_, rfl⟩
    have HH1 := Lib.hid hH1
    have hnh : hasKey H1 kHost = false := by rw [← hH1]; exact keys_del (keys_del (keys_del (keys_del HIN.out.host)))
    have hnt : hasKey H1 kTrailer = false := by rw [← hH1]; exact keys_del (keys_del (keys_del (keys_del HIN.out.trailer)))
    obtain ⟨es4, hes4⟩ : ∃ es4, delE (delE (delE (delE es kPath) kAuth) kScheme) kProto = es4 := ⟨_, rfl⟩
    rw [hH1, hes4] at R5
    clear hH1 hes4
    have HE5 := Lib.hid (HE.out.grown R5.out.g h3)
    have e1 := R5.out.cells 1 _ rfl
    have KM := method_at s.meth w5 HIN.out.meth HE5.out.tok
    have hlk := R5.out.hdr.look_no kHost (by simp) (keys_ent R5.out.abs hnh)
    have KG := get_at kHost (w0.heap.size + 3) (w0.heap.size + 1) n es4 w5 R5.out.hdr (by simp)
    have hcan : canonL kHost = kHost := by decide
    have hg0 : getH (absE es4) kHost = [] := by rw [R5.out.abs]; unfold getH; rw [show H1.find? (fun p => p.1 == kHost) = none from List.find?_eq_none.2 fun p hp e => by unfold hasKey at hnh; rw [List.any_eq_false] at hnh; exact hnh p hp e]; rfl
    rw [hcan, hg0] at KG
    have HNT := Lib.hid hnt
    clear hcan hg0 hnh hnt
    obtain ⟨nk, hnk⟩ : ∃ x, nameOk s.meth = x := ⟨_, rfl⟩
    rw [hnk] at KM
    cases nk
    · have hr : rqOf s cl = none := by unfold rqOf; simp [hnk]
      have HR := Lib.hid hr
      clear hr KG hnk
      by_cases hm0 : s.meth = []
      · have f0 : (s.meth == []) = true := by simp [hm0]
        clear hm0
        go_wp2_with fail
        refine (new_at9 _ _).mono ?_
        rintro e w9 ⟨q9, rfl, hb9⟩
        have M := Lib.hid ((R5.out.below hb9).fail (m' := m + 1) HR.out q9)
        clear hb9
        go_wp2_with fail
        go_ret2
        exact M.out
      · have f0 : (s.meth == []) = false := by simp [hm0]
        clear hm0
        go_wp2_with fail
        refine KM.mono ?_
        rintro e w8 ⟨rfl, rfl⟩
        go_wp2_with fail
        refine (new_at9 _ _).mono ?_
        rintro e w9 ⟨q9, rfl, hb9⟩
        have M := Lib.hid ((R5.out.below hb9).fail (m' := m + 1) HR.out q9)
        clear hb9
        go_wp2_with fail
        go_ret2
        exact M.out
    · have f0 := nameOk_ne hnk
      have HNK := Lib.hid hnk
      clear hnk
      go_wp2_with fail
      refine KM.mono ?_
      rintro e w8 ⟨rfl, rfl⟩
      go_wp2_with fail
      refine KG.mono ?_
      rintro e w6 ⟨rfl, hb6⟩
      have R6 := Lib.hid (R5.out.below hb6)
      have HE6 := Lib.hid (HE5.out.grown (grown_below hb6 |>.but Bx) h3)
      clear KG KM hb6 hlk e1 R1 R2 R3 R4 R5 HE5 f0 e73
      go_upto_region 20 with fail
      go_cut [99] (fun s99 wx => s99 = .bool false ∧ wx = w6)
      case first =>
        cases ha
        all_goals
          go_wp2_with fail
          go_meet
          exact ⟨rfl, rfl⟩
      case rest =>
        obtain ⟨rfl, rfl⟩ := hcut
        go_upto_if 99 with fail
        rename_i K0 hK0
        go_cut [] (fun wx => wx = wc)
        case first =>
          go_wp2_with fail
          go_meet
          rfl
        case rest =>
          obtain rfl := hcut
          have HHP : Hid (dropPs s.H = H1) := Lib.hid HH1.out
          refine hK0 _ _ ?_
          exact tailR w0 _ Bx w1.heap.size m n es4 s cl H1 p ha hs hp hpr R6 HE hB h3 HIN HNT HK1 HK2 HK3 HK4 HNK HHP _ _ _ _ _ _ _ _ _ _ _ _ _ _ _ _ _ _ _ _ _ _ _ _ _ _ _ _ _ _ _ _ _ _ _ _ _ _ _ _ _ _ _ _ _ _ _ _ _ _ _ _ _ _ _ _ _ _ _ _ _ _ _ _ _ _ _ _ _ _ _ _ _ _ _ _ _ _ _ _ _ _ _ _ _ _ _ _ _ _ _ _ _ _ _ _ _ _ _ _ _ _ _ _ _ _ _ _ _ _ _ _ _ _ _ _ _ _ _ _ _ _ _ _ _ _ _ _ _ _ _ _ _ _ _ _ _ _ _ _ _ _ _ _ _ _ _ _ _ _ _ _ _ _ _ _ _ _ _ _ _ _ _ _ _ _ _ _ _ _ _ _ _ _ _ _ _ _ _ _ _ _ _ _ _ _ _ _ _ _ _ _ _ _ _ _ _ _ _ _ _ _ _ _ _ _ _ _ _ _ _ _ _ _ _ _ _ _ _ _ _ _ _ _ _ _ _ _ _ _ _ _ _ _ _ _ _ _ _ _ _ _ _ _ _ _ _ _ _ _ _ _ _ _ _ _ _ _ _ _ _ _ _ _ _ _ _ _ _ _ _ _ _
end Go.Proofs.YtgcfnhchmmkndaaGreatDoor
