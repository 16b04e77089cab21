/- small functions of the requests' reader. -/
import Derived.Test.YtgcfnhchmmkndaaGreatDoorC5
namespace Go.Proofs.YtgcfnhchmmkndaaGreatDoor
open Go.RowKit Go.Maps
set_option linter.unusedVariables false
set_option maxRecDepth 100000

theorem new_at9 (s : ByteArray) (w : World) : Calls Tryz.prog 57 #[.string s] w fun e w' => ∃ q : Addr, e = .returned (.iface 136 (.pointer (some q))) ∧ Below w.heap.size w w' :=
  (new_at s w).mono fun e w' h => ⟨_, h.1, h.2⟩
theorem method_at (l : BS) (w : World) (hs : l.length ≤ 2147483648) (ht : TokTab w) : Calls Tryz.prog 58 #[str l] w fun e w' => e = .returned (.bool (nameOk l)) ∧ w' = w := by
  have K := name_at' l w hs ht
  clear ht
  go_enter Tryz.func58, Tryz.ntmps58
  go_wp2_with (go_at_call 77; refine K.mono ?_; rintro e w2 ⟨rfl, rfl⟩)
  go_ret
  exact ⟨rfl, rfl⟩
theorem protocol_at (l : BS) (w : World) (hs : l.length ≤ 2147483648) (ht : TokTab w) : Calls Tryz.prog 63 #[str l] w fun e w' => e = .returned (.bool (nameOk l)) ∧ w' = w := by
  have K := name_at' l w hs ht
  clear ht
  go_enter Tryz.func63, Tryz.ntmps63
  go_wp2_with (go_at_call 77; refine K.mono ?_; rintro e w2 ⟨rfl, rfl⟩)
  go_ret
  exact ⟨rfl, rfl⟩

abbrev kTrailer : BS := [84, 114, 97, 105, 108, 101, 114]
theorem announced_at (base b n : Nat) (es : List Ent) (w : World) (h : Hdr w base b n es) (hn : ∀ e ∈ es, e.key ≠ [84, 114, 97, 105, 108, 101, 114]) :
    Calls Tryz.prog 66 #[.map (some b)] w fun e w' => e = .returned (.map none) ∧ w' = w := by
  have hl := h.look_ok_no [84, 114, 97, 105, 108, 101, 114] (by simp) hn
  clear h hn
  go_enter Tryz.func66, Tryz.ntmps66
  go_wp2_with fail
  go_ret
  exact ⟨rfl, rfl⟩

def hexN (c : Nat) : Bool := decide (48 ≤ c ∧ c ≤ 57 ∨ 97 ≤ c ∧ c ≤ 102 ∨ 65 ≤ c ∧ c ≤ 70)
set_option maxHeartbeats 2000000 in
theorem hex_at (c : Nat) (hc : c < 256) (w : World) : Calls Tryz.prog 84 #[.int .u8 (c : Int)] w fun e w' => e = .returned (.bool (hexN c)) ∧ w' = w := by
  have hcase : c < 48 ∨ (48 ≤ c ∧ c ≤ 57) ∨ (57 < c ∧ c < 65) ∨ (65 ≤ c ∧ c ≤ 70) ∨ (70 < c ∧ c < 97) ∨ (97 ≤ c ∧ c ≤ 102) ∨ 102 < c := by omega
  rcases hcase with h | ⟨h, h2⟩ | ⟨h, h2⟩ | ⟨h, h2⟩ | ⟨h, h2⟩ | ⟨h, h2⟩ | h
  all_goals
    first
      | rw [show hexN c = true by unfold hexN; rw [decide_eq_true_iff]; omega]
      | rw [show hexN c = false by unfold hexN; rw [decide_eq_false_iff_not]; omega]
    go_enter Tryz.func84, Tryz.ntmps84
    go_wp2_with fail
    go_ret
    refine ⟨?_, rfl⟩
    first
      | rfl
      | (simp; omega)
      | (refine congrArg (fun b => Ending.returned (Value.bool b)) (?_ : true = _); symm; simp; omega)
      | (refine congrArg (fun b => Ending.returned (Value.bool b)) (?_ : false = _); symm; simp; omega)

def hex2 : BS → Bool
  | a :: b :: _ => hexN a.toNat && hexN b.toNat
  | _ => false
def uriGo : Bool → BS → Bool
  | _, [] => true
  | q, c :: t => let q' := q || decide (c.toNat = 63)
      if decide (c.toNat < 32) || decide (c.toNat = 127) || (decide (c.toNat = 37) && !q' && !hex2 t) then false else uriGo q' t
def uriOk (l : BS) : Bool := uriGo false l && !l.isEmpty

theorem byteAt (l : BS) (k : Nat) (h : k < l.length) (h2 : k < (⟨l.toArray⟩ : ByteArray).size) : (⟨l.toArray⟩ : ByteArray)[k]'h2 = l[k] := by
  show l.toArray[k] = l[k]
  simp

def URIPost (w : World) (l : BS) (e : Ending) (w' : World) : Prop :=
  Below w.heap.size w w' ∧ if uriOk l then e = .returned (.tuple #[.pointer (some ⟨w.heap.size, 0, none⟩), .nilIface]) ∧ w' = w.alloc (.cells #[str [], str [], str l] 108)
    else ∃ q : Addr, e = .returned (.tuple #[.pointer none, .iface 136 (.pointer (some q))])

set_option maxHeartbeats 4000000 in
theorem uri_at (l : BS) (w : World) (hs : l.length ≤ 2147483648) : Calls Tryz.prog 65 #[str l] w (URIPost w l) := by
  have hsz : (⟨l.toArray⟩ : ByteArray).size = l.length := by show l.toArray.size = _; simp
  go_enter Tryz.func65, Tryz.ntmps65
  go_wp2_with fail
  go_loopw [4, 5] (fun s4 s5 wx => ∃ (q : Bool) (k : Nat), k ≤ l.length ∧ s4 = .bool q ∧ s5 = .int .i64 (k : Int) ∧ wx = w ∧ uriGo false l = uriGo q (l.drop k)) (fun _ s5 _ => l.length - (intOf s5).toNat)
  case atStart => exact ⟨false, 0, by omega, rfl, rfl, rfl, rfl⟩
  case round =>
    obtain ⟨q, k, hk, rfl, rfl, rfl, hgo⟩ := hrel
    have HGO := Lib.hid hgo
    clear hgo
    rcases Nat.lt_or_ge k l.length with hkl | hkl
    · have hk2 : k < (⟨l.toArray⟩ : ByteArray).size := by rw [hsz]; exact hkl
      obtain ⟨c, hc⟩ : ∃ c, (l[k]).toNat = c := ⟨_, rfl⟩
      have hb : ((⟨l.toArray⟩ : ByteArray)[k]'hk2).toNat = c := by rw [byteAt l k hkl, hc]
      have hc256 : c < 256 := hc ▸ UInt8.toNat_lt _
      have hstep : uriGo q (l.drop k) = if decide (c < 32) || decide (c = 127) || (decide (c = 37) && !(q || decide (c = 63)) && !hex2 (l.drop (k + 1))) then false else uriGo (q || decide (c = 63)) (l.drop (k + 1)) := by
        rw [List.drop_eq_getElem_cons hkl]
        simp only [uriGo, hc]
      have HST := Lib.hid hstep
      clear hstep hc
      have HBAD : Hid (∀ (q9 : Addr) (w9 : World), uriGo false l = false → Below wr.heap.size wr w9 → URIPost wr l (.returned (.tuple #[.pointer none, .iface 136 (.pointer (some q9))])) w9) := Lib.hid (fun q9 w9 h hb => ⟨hb, by rw [show uriOk l = false by unfold uriOk; rw [h]; rfl]; exact ⟨q9, rfl⟩⟩)
      have hcase : c < 32 ∨ c = 127 ∨ c = 37 ∨ c = 63 ∨ (32 ≤ c ∧ c ≠ 127 ∧ c ≠ 37 ∧ c ≠ 63) := by omega
      have hi : ((k : Int)).toNat = k := by simp
      cases q
      · rcases hcase with h | h | h | h | ⟨h, h5, h6, h7⟩
        · have HU : Hid (uriGo false l = false) := Lib.hid (by rw [HGO.out, HST.out]; simp [h])
          have f1 : decide ((c : Int) < 32) = true := by simp; omega
          have f4 : ((c : Int) == 63) = false := by simp; omega
          go_wp2_with fail
          refine (new_at9 _ _).mono ?_
          rintro e w9 ⟨q9, rfl, hb9⟩
          have HB9 := Lib.hid hb9
          clear hb9
          go_wp2_with fail
          go_ret2
          exact HBAD.out _ _ HU.out HB9.out
        · have HU : Hid (uriGo false l = false) := Lib.hid (by rw [HGO.out, HST.out]; simp [h])
          have f1 : decide ((c : Int) < 32) = false := by simp; omega
          have f2 : ((c : Int) == 127) = true := by simp; omega
          have f4 : ((c : Int) == 63) = false := by simp; omega
          go_wp2_with fail
          refine (new_at9 _ _).mono ?_
          rintro e w9 ⟨q9, rfl, hb9⟩
          have HB9 := Lib.hid hb9
          clear hb9
          go_wp2_with fail
          go_ret2
          exact HBAD.out _ _ HU.out HB9.out
        · have f1 : decide ((c : Int) < 32) = false := by simp; omega
          have f2 : ((c : Int) == 127) = false := by simp; omega
          have f3 : ((c : Int) == 37) = true := by simp; omega
          have f4 : ((c : Int) == 63) = false := by simp; omega
          rcases Nat.lt_or_ge (k + 2) l.length with hk3 | hk3
          · have hd : l.drop (k + 1) = l[k + 1] :: l[k + 2] :: l.drop (k + 3) := by rw [List.drop_eq_getElem_cons (by omega), List.drop_eq_getElem_cons (by omega)]
            have hk4 : k + 1 < (⟨l.toArray⟩ : ByteArray).size := by rw [hsz]; omega
            have hk5 : k + 2 < (⟨l.toArray⟩ : ByteArray).size := by rw [hsz]; omega
            obtain ⟨c1, hc1⟩ : ∃ c1, (l[k + 1]).toNat = c1 := ⟨_, rfl⟩
            obtain ⟨c2, hc2⟩ : ∃ c2, (l[k + 2]).toNat = c2 := ⟨_, rfl⟩
            have hb1 : ((⟨l.toArray⟩ : ByteArray)[k + 1]'hk4).toNat = c1 := by rw [byteAt l (k + 1) (by omega), hc1]
            have hb2 : ((⟨l.toArray⟩ : ByteArray)[k + 2]'hk5).toNat = c2 := by rw [byteAt l (k + 2) (by omega), hc2]
            have hc1l : c1 < 256 := hc1 ▸ UInt8.toNat_lt _
            have hc2l : c2 < 256 := hc2 ▸ UInt8.toNat_lt _
            have hh : hex2 (l.drop (k + 1)) = (hexN c1 && hexN c2) := by rw [hd]; simp [hex2, hc1, hc2]
            have K1 := fun w => hex_at c1 hc1l w
            have K2 := fun w => hex_at c2 hc2l w
            obtain ⟨x1, hx1⟩ : ∃ x, hexN c1 = x := ⟨_, rfl⟩
            obtain ⟨x2, hx2⟩ : ∃ x, hexN c2 = x := ⟨_, rfl⟩
            rw [hx1] at K1 hh
            rw [hx2] at K2 hh
            have HH := Lib.hid hh
            clear hd hc1 hc2 hx1 hx2 hh
            cases x1
            · have HU : Hid (uriGo false l = false) := Lib.hid (by rw [HGO.out, HST.out, HH.out]; simp [h])
              go_wp2_with fail
              refine (K1 _).mono ?_
              rintro e w8 ⟨rfl, rfl⟩
              go_wp2_with fail
              refine (new_at9 _ _).mono ?_
              rintro e w9 ⟨q9, rfl, hb9⟩
              have HB9 := Lib.hid hb9
              clear hb9
              go_wp2_with fail
              go_ret2
              exact HBAD.out _ _ HU.out HB9.out
            · go_wp2_with fail
              refine (K1 _).mono ?_
              rintro e w8 ⟨rfl, rfl⟩
              go_wp2_with fail
              refine (K2 _).mono ?_
              rintro e w8 ⟨rfl, rfl⟩
              cases x2
              · have HU : Hid (uriGo false l = false) := Lib.hid (by rw [HGO.out, HST.out, HH.out]; simp [h])
                go_wp2_with fail
                refine (new_at9 _ _).mono ?_
                rintro e w9 ⟨q9, rfl, hb9⟩
                have HB9 := Lib.hid hb9
                clear hb9
                go_wp2_with fail
                go_ret2
                exact HBAD.out _ _ HU.out HB9.out
              · have HU : Hid (uriGo false l = uriGo false (l.drop (k + 1))) := Lib.hid (by rw [HGO.out, HST.out, HH.out]; simp [h])
                go_wp2_with fail
                exact ⟨⟨false, k + 1, hkl, rfl, by go_num, trivial, HU.out⟩, by simp [intOf]; omega⟩
          · have hh : hex2 (l.drop (k + 1)) = false := by
              have hl : (l.drop (k + 1)).length ≤ 1 := by rw [List.length_drop]; omega
              match l.drop (k + 1), hl with
              | [], _ => rfl
              | [a], _ => rfl
            have HU : Hid (uriGo false l = false) := Lib.hid (by rw [HGO.out, HST.out, hh]; simp [h])
            clear hh
            go_wp2_with fail
            refine (new_at9 _ _).mono ?_
            rintro e w9 ⟨q9, rfl, hb9⟩
            have HB9 := Lib.hid hb9
            clear hb9
            go_wp2_with fail
            go_ret2
            exact HBAD.out _ _ HU.out HB9.out
        · have f1 : decide ((c : Int) < 32) = false := by simp; omega
          have f2 : ((c : Int) == 127) = false := by simp; omega
          have f3 : ((c : Int) == 37) = false := by simp; omega
          have f4 : ((c : Int) == 63) = true := by simp; omega
          have HU : Hid (uriGo false l = uriGo true (l.drop (k + 1))) := Lib.hid (by rw [HGO.out, HST.out]; simp [h])
          go_wp2_with fail
          exact ⟨⟨true, k + 1, hkl, rfl, by go_num, trivial, HU.out⟩, by simp [intOf]; omega⟩
        · have f1 : decide ((c : Int) < 32) = false := by simp; omega
          have f2 : ((c : Int) == 127) = false := by simp; omega
          have f3 : ((c : Int) == 37) = false := by simp; omega
          have f4 : ((c : Int) == 63) = false := by simp; omega
          have HU : Hid (uriGo false l = uriGo false (l.drop (k + 1))) := Lib.hid (by rw [HGO.out, HST.out]; simp [h5, h6, h7]; omega)
          go_wp2_with fail
          exact ⟨⟨false, k + 1, hkl, rfl, by go_num, trivial, HU.out⟩, by simp [intOf]; omega⟩
      · rcases hcase with h | h | h | h | ⟨h, h5, h6, h7⟩
        · have HU : Hid (uriGo false l = false) := Lib.hid (by rw [HGO.out, HST.out]; simp [h])
          have f1 : decide ((c : Int) < 32) = true := by simp; omega
          have f4 : ((c : Int) == 63) = false := by simp; omega
          go_wp2_with fail
          refine (new_at9 _ _).mono ?_
          rintro e w9 ⟨q9, rfl, hb9⟩
          have HB9 := Lib.hid hb9
          clear hb9
          go_wp2_with fail
          go_ret2
          exact HBAD.out _ _ HU.out HB9.out
        · have HU : Hid (uriGo false l = false) := Lib.hid (by rw [HGO.out, HST.out]; simp [h])
          have f1 : decide ((c : Int) < 32) = false := by simp; omega
          have f2 : ((c : Int) == 127) = true := by simp; omega
          have f4 : ((c : Int) == 63) = false := by simp; omega
          go_wp2_with fail
          refine (new_at9 _ _).mono ?_
          rintro e w9 ⟨q9, rfl, hb9⟩
          have HB9 := Lib.hid hb9
          clear hb9
          go_wp2_with fail
          go_ret2
          exact HBAD.out _ _ HU.out HB9.out
        · have f1 : decide ((c : Int) < 32) = false := by simp; omega
          have f2 : ((c : Int) == 127) = false := by simp; omega
          have f3 : ((c : Int) == 37) = true := by simp; omega
          have f4 : ((c : Int) == 63) = false := by simp; omega
          have HU : Hid (uriGo false l = uriGo true (l.drop (k + 1))) := Lib.hid (by rw [HGO.out, HST.out]; simp [h])
          go_wp2_with fail
          exact ⟨⟨true, k + 1, hkl, rfl, by go_num, trivial, HU.out⟩, by simp [intOf]; omega⟩
        · have f1 : decide ((c : Int) < 32) = false := by simp; omega
          have f2 : ((c : Int) == 127) = false := by simp; omega
          have f3 : ((c : Int) == 37) = false := by simp; omega
          have f4 : ((c : Int) == 63) = true := by simp; omega
          have HU : Hid (uriGo false l = uriGo true (l.drop (k + 1))) := Lib.hid (by rw [HGO.out, HST.out]; simp [h])
          go_wp2_with fail
          exact ⟨⟨true, k + 1, hkl, rfl, by go_num, trivial, HU.out⟩, by simp [intOf]; omega⟩
        · have f1 : decide ((c : Int) < 32) = false := by simp; omega
          have f2 : ((c : Int) == 127) = false := by simp; omega
          have f3 : ((c : Int) == 37) = false := by simp; omega
          have f4 : ((c : Int) == 63) = false := by simp; omega
          have HU : Hid (uriGo false l = uriGo true (l.drop (k + 1))) := Lib.hid (by rw [HGO.out, HST.out]; simp [h5, h6, h7]; omega)
          go_wp2_with fail
          exact ⟨⟨true, k + 1, hkl, rfl, by go_num, trivial, HU.out⟩, by simp [intOf]; omega⟩
    · have e : k = l.length := by omega
      subst e
      have hgo : uriGo false l = true := by rw [HGO.out, List.drop_length]; rfl
      cases l with
      | nil =>
        go_wp2_with fail
        refine (new_at9 _ _).mono ?_
        rintro e w9 ⟨q9, rfl, hb9⟩
        have HB9 := Lib.hid hb9
        clear hb9
        go_wp2_with fail
        go_ret2
        exact ⟨HB9.out, by rw [show uriOk [] = false by rfl]; exact ⟨q9, rfl⟩⟩
      | cons a t =>
        have HU : Hid (uriOk (a :: t) = true) := Lib.hid (by unfold uriOk; rw [hgo]; rfl)
        have hlen : ((a :: t).length : Int) = (t.length : Int) + 1 := by simp
        clear hgo HGO
        go_wp2_with fail
        go_ret2
        exact ⟨below_new _ _, by rw [HU.out]; exact ⟨rfl, rfl⟩⟩
end Go.Proofs.YtgcfnhchmmkndaaGreatDoor
