/- a map from strings to strings that the call makes: HRParts.Pseudo. -/
import Derived.Test.YtgcfnhchmmkndaaGreatDoorG1
import Derived.Test.YtgcfnhchmmkndaaGreatDoorC3
namespace Go.Proofs.YtgcfnhchmmkndaaGreatDoor
open Go.RowKit Go.Maps
set_option linter.unusedVariables false
set_option maxRecDepth 100000

def getP (m : List (BS × BS)) (k : BS) : BS := ((m.find? fun p => p.1 == k).map Prod.snd).getD []
def hasP (m : List (BS × BS)) (k : BS) : Bool := m.any fun p => p.1 == k
structure PMap (w : World) (b n : Nat) (m : List (BS × BS)) : Prop where
  own : ∃ D, w.ownsMap Tryz.prog 9 hElem b n D ∧ (∀ k, has D (.string k) = hasP m k) ∧ ∀ k, hasP m k = true → ∀ z, D.atKey (.string k) z = .held (str (getP m k))
theorem zero9 (w : World) : (zeroValue 9).run Tryz.prog w = .ok (str []) w := by kernel_rfl
section
variable {w w' : World} {b n : Nat} {m : List (BS × BS)}
theorem PMap.lt (h : PMap w b n m) : b < w.heap.size := by
  obtain ⟨D, hD, _⟩ := h.own
  exact hD.lt
theorem PMap.kept (h : PMap w b n m) {row : Option Nat} (g : w.grownBy w' row) (hb : some b ≠ row) : PMap w' b n m where
  own := by
    obtain ⟨D, hD, h1⟩ := h.own
    exact ⟨D, hD.kept g hb, h1⟩
theorem PMap.below (h : PMap w b n m) (k : Below w.heap.size w w') : PMap w' b n m := h.kept (grown_below k) (by simp)
theorem PMap.drew (h : PMap w b n m) : PMap w.drew b n m := ⟨h.own⟩
theorem PMap.made (w : World) : PMap (w.alloc (.map #[] 0)) w.heap.size 0 [] where
  own := ⟨_, World.ownsMap_made w _ _ _, fun k => by simp [has, hasP], fun k hk => by simp [hasP] at hk⟩
theorem PMap.look (h : PMap w b n m) (k : BS) (hk : k.length ≤ 2147483648) : (Instr.lookup 51 (.map (some b)) (str k) false).run Tryz.prog w = .ok (str (getP m k)) w := by
  obtain ⟨D, hD, hh, ha⟩ := h.own
  obtain ⟨v, ps, hrun, hv⟩ := hD.lookup law9 Tryz.underlying51 (zero9 w) (zd := .held (str [])) (zp := []) rfl (key9 k hk)
  cases hp : hasP m k
  · have hf : has D (.string k) = false := by rw [hh, hp]
    rw [atKey_of_not_has hf] at hv
    have h1 : v = str [] := hElem_eq hv
    have h2 : getP m k = [] := by
      unfold getP
      rw [List.find?_eq_none.2]
      · rfl
      · intro p hp2
        unfold hasP at hp
        exact fun e => absurd e (List.any_eq_false.1 hp p hp2)
    rw [hrun, h1, h2]
  · rw [ha k hp] at hv
    have h1 : v = str (getP m k) := hElem_eq hv
    rw [hrun, h1]
theorem PMap.look_ok (h : PMap w b n m) (k : BS) (hk : k.length ≤ 2147483648) : ∃ v, (Instr.lookup 51 (.map (some b)) (str k) true).run Tryz.prog w = .ok (.tuple #[v, .bool (hasP m k)]) w := by
  obtain ⟨D, hD, hh, ha⟩ := h.own
  obtain ⟨v, ps, hrun, hv⟩ := hD.look_ok law9 Tryz.underlying51 (zero9 w) (zd := .held (str [])) (zp := []) rfl (key9 k hk)
  exact ⟨v, by rw [hrun, hh]⟩
theorem PMap.put (h : PMap w b n m) (k v : BS) (hk : k.length ≤ 2147483648) (hn : n < 1000000) (hno : hasP m k = false) :
    ∃ w2, (Instr.mapUpdate 51 (.map (some b)) (str k) (str v)).run Tryz.prog w = .ok () w2 ∧ PMap w2 b (n + 1) (m ++ [(k, v)]) ∧ w.grownBy w2 (some b) := by
  obtain ⟨D, hD, hh, ha⟩ := h.own
  obtain ⟨w2, hrun, hD2, hg2⟩ := hD.update (val := str v) law9 Tryz.underlying51 (by unfold maxLen; omega) (key9 k hk) (d := .held (str v)) (ps := []) rfl
  have hhas : ∀ x, hasP (m ++ [(k, v)]) x = (hasP m x || k == x) := fun x => by unfold hasP; rw [List.any_append]; simp
  refine ⟨w2, hrun, ⟨⟨_, hD2, fun x => ?_, fun x hx z => ?_⟩⟩, hg2⟩
  · rw [hhas]
    by_cases e : x = k
    · subst e
      rw [has_put_same hD.isMap (strKey _)]
      simp
    · rw [has_put_other (by intro e2; injection e2 with e2; exact e e2), hh]
      simp [Ne.symm e]
  · by_cases e : x = k
    · subst e
      rw [atKey_put_same hD.isMap (strKey _)]
      have : getP (m ++ [(x, v)]) x = v := by
        unfold getP
        rw [List.find?_append, List.find?_eq_none.2 (fun p hp e2 => by unfold hasP at hno; exact absurd e2 (List.any_eq_false.1 hno p hp))]
        simp
      rw [this]
    · rw [atKey_put_other (by intro e2; injection e2 with e2; exact e e2)]
      have hx2 : hasP m x = true := by
        rw [hhas] at hx
        simpa [Ne.symm e] using hx
      rw [ha x hx2]
      have : getP (m ++ [(k, v)]) x = getP m x := by
        unfold getP
        rw [List.find?_append]
        obtain ⟨p, hp⟩ := List.any_eq_true.1 hx2
        cases hf : m.find? fun p => p.1 == x with
        | none => exact absurd hp.2 (List.find?_eq_none.1 hf p hp.1)
        | some q => rfl
      rw [this]
end

def GetPost (w : World) (its : List BS) (e : Ending) (w' : World) : Prop :=
  ∃ A c, e = .returned (.slice A its.length c) ∧ Reads w' w.heap.size 1 A its.length (scells its) ∧ its.length ≤ c ∧ Below w.heap.size w w'

theorem getH_at {es : List Ent} {k : Nat} (hk : k < es.length) {name : BS} (he : (es[k].key == name) = true) (hlt : ∀ j, (h : j < k) → ((es[j]'(by omega)).key == name) = false) : getH (absE es) name = es[k].items := by
  induction es generalizing k with
  | nil => simp at hk
  | cons a t ih =>
    unfold getH absE
    rw [List.map_cons, List.find?_cons]
    cases k with
    | zero =>
      have : (a.key == name) = true := he
      rw [this]
      rfl
    | succ k =>
      have h0 : (a.key == name) = false := hlt 0 (by omega)
      rw [h0]
      have hk2 : k < t.length := by simpa using hk
      have := ih (k := k) hk2 he (fun j hj => hlt (j + 1) (by omega))
      unfold getH absE at this
      exact this
theorem getH_out {es : List Ent} {name : BS} (hlt : ∀ j, (h : j < es.length) → (es[j].key == name) = false) : getH (absE es) name = [] := by
  refine getH_none fun e he e2 => ?_
  obtain ⟨j, hj, rfl⟩ := List.getElem_of_mem he
  have := hlt j hj
  simp [e2] at this

set_option maxHeartbeats 4000000 in
theorem hrget_at (name : BS) (base : Nat) (V : Value) (es : List Ent) (w : World) (hL : HL w base V es) (hn : es.length ≤ 900000) : Calls Tryz.prog 29 #[V, str name] w (GetPost w (getH (absE es) name)) := by
  rcases hL.parts with ⟨rfl, rfl⟩ | ⟨b, c, rfl, _, hb, hc, hR⟩
  · go_enter Tryz.func29, Tryz.ntmps29
    go_wp2_with fail
    refine wp_loop_rounds 1 ?_
    rw [rounds_succ]
    go_wp2_with fail
    go_ret
    exact ⟨none, 0, rfl, ⟨rfl, fun h => absurd h (by simp [getH, absE])⟩, Nat.zero_le _, Below.refl _ _⟩
  · have HR := Lib.hid hR
    have HV := Lib.hid hL.vals
    obtain ⟨n, hn'⟩ : ∃ n, es.length = n := ⟨_, rfl⟩
    have HN := Lib.hid hn'
    rw [hn'] at hc hn ⊢
    clear hR hL hn'
    go_enter Tryz.func29, Tryz.ntmps29
    go_wp2_with fail
    go_loopw [9] (fun s9 wx => ∃ k : Nat, k ≤ n ∧ s9 = .int .i64 (k : Int) ∧ Below w.heap.size w wx ∧ ∀ j, (h : j < k) → (h2 : j < es.length) → (es[j].key == name) = false) (fun s9 _ => n - (intOf s9).toNat)
    case atStart => exact ⟨0, by omega, rfl, Below.refl _ _, fun j hj => absurd hj (by omega)⟩
    case round =>
      obtain ⟨k, hk, rfl, hbel, hlt⟩ := hrel
      have HB := Lib.hid hbel
      have HLT := Lib.hid hlt
      clear hbel hlt
      rcases Nat.lt_or_ge k n with hkl | hkl
      · have hkl' : k < es.length := by rw [HN.out]; exact hkl
        have e0 := (HB.out.cell (p := ⟨b, k * 2, none⟩) hb).trans (HR.out.key k hkl')
        have e1 := (HB.out.cell (p := ⟨b, k * 2 + 1, none⟩) hb).trans (HR.out.val k hkl')
        obtain ⟨A1, c1, hv, hrd, hcap, _⟩ := (HV.out es[k] (List.getElem_mem hkl')).ex
        rw [hv] at e1
        have HRD := Lib.hid hrd
        have HB1 := Lib.hid (HB.out.alloc HB.out.size (.cells #[str es[k].key, .slice A1 es[k].items.length c1] 72))
        cases hq : (es[k].key == name)
        · have HQ := Lib.hid hq
          clear hrd hv
          go_wp2_with fail
          refine ⟨⟨k + 1, hkl, by go_num, HB1.out, fun j hj h2 => ?_⟩, by simp [intOf]; omega⟩
          rcases Nat.lt_succ_iff_lt_or_eq.1 hj with hj | rfl
          · exact HLT.out j hj h2
          · exact HQ.out
        · have HG := Lib.hid (getH_at hkl' hq (fun j hj => HLT.out j hj (by omega)))
          clear hrd hv
          go_wp2_with fail
          go_ret
          refine ⟨A1, c1, ?_, ?_, ?_, HB1.out⟩
          · rw [HG.out]; rfl
          · rw [HG.out]; exact HRD.out.below HB1.out
          · rw [HG.out]; exact hcap
      · have e : k = n := by omega
        subst e
        have HG : Hid (getH (absE es) name = []) := Lib.hid (getH_out fun j hj => HLT.out j (by rw [← HN.out]; exact hj) hj)
        go_wp2_with fail
        go_ret
        exact ⟨none, 0, by rw [HG.out]; rfl, by rw [HG.out]; exact ⟨rfl, fun h => absurd h (by simp)⟩, by rw [HG.out]; exact Nat.zero_le _, HB.out⟩

def setOff (H : AL) (k : BS) : AL := H.filter fun p => p.1 != k
theorem absE_off (es : List Ent) (k : BS) : absE (es.filter fun e => e.key != k) = setOff (absE es) k := by
  unfold absE setOff
  rw [List.filter_map]
  rfl
def offE (es : List Ent) (k : BS) : List Ent := es.filter fun e => e.key != k

set_option maxHeartbeats 4000000 in
theorem hrset_at (name val : BS) (base : Nat) (V : Value) (es : List Ent) (w : World) (hL : HL w base V es) (hbase : base ≤ w.heap.size) (hn : es.length ≤ 800000) (hil : ∀ e ∈ es, e.items.length ≤ 900000) :
    Calls Tryz.prog 30 #[V, str name, str val] w (HAddPost w base (hrAdd (setOff (absE es) name) name val)) := by
  rcases hL.parts with ⟨rfl, rfl⟩ | ⟨b, c, rfl, _, hb, hc, hR⟩
  · have KA := hradd_at name val base (.slice none 0 0) [] w (HL.nil w base) hbase (by simp) (fun e he => by cases he)
    go_enter Tryz.func30, Tryz.ntmps30
    go_wp2_with fail
    refine wp_loop_rounds 1 ?_
    rw [rounds_succ]
    go_wp2_with fail
    refine KA.mono ?_
    rintro e w1 ⟨v1, es1, rfl, h1, h2, h3, h4⟩
    go_wp2_with fail
    go_ret
    exact ⟨v1, es1, rfl, h1, h2, h3, h4⟩
  · have HR := Lib.hid hR
    have HL0 := Lib.hid hL
    have HIL := Lib.hid hil
    obtain ⟨n, hn'⟩ : ∃ n, es.length = n := ⟨_, rfl⟩
    have HN := Lib.hid hn'
    rw [hn'] at hc hn ⊢
    clear hR hL hn' hil
    go_enter Tryz.func30, Tryz.ntmps30
    go_wp2_with fail
    go_loopw [7, 12] (fun s7 s12 wx => ∃ (k m : Nat) (xs : List Ent), k ≤ n ∧ s12 = .int .i64 (k : Int) ∧ xs = offE (es.take k) name ∧ xs.length = m ∧ m ≤ k ∧ HL wx base s7 xs ∧ (∀ g, s7.ownBlock = some g → w.heap.size ≤ g) ∧ Below w.heap.size w wx) (fun _ s12 _ => n - (intOf s12).toNat)
    case atStart => exact ⟨0, 0, [], by omega, rfl, rfl, rfl, Nat.le_refl _, HL.nil _ _, (fun g hg => by cases hg), Below.refl _ _⟩
    case round =>
      obtain ⟨k, m, xs, hk, rfl, hxs, rfl, hm, hX, hown, hbel⟩ := hrel
      obtain ⟨A7, c7, rfl⟩ := row_form hX.row
      have HX := Lib.hid hX
      have HXS := Lib.hid hxs
      have HB := Lib.hid hbel
      have HOW := Lib.hid hown
      have hws := hbel.size
      clear hX hxs hbel hown
      rcases Nat.lt_or_ge k n with hkl | hkl
      · have hkl' : k < es.length := by rw [HN.out]; exact hkl
        have e0 := (HB.out.cell (p := ⟨b, k * 2, none⟩) hb).trans (HR.out.key k hkl')
        have e1 := (HB.out.cell (p := ⟨b, k * 2 + 1, none⟩) hb).trans (HR.out.val k hkl')
        obtain ⟨A1, c1, hv, hrd, hcap, hoff⟩ := (HL0.out.vals es[k] (List.getElem_mem hkl')).ex
        have hlo := HL0.out.lo es[k] (List.getElem_mem hkl')
        have htk : es.take (k + 1) = es.take k ++ [es[k]] := List.take_succ_eq_append_getElem hkl'
        rw [hv] at e1
        obtain ⟨⟨ky, vl, its⟩, hx⟩ : ∃ x, es[k] = x := ⟨_, rfl⟩
        rw [hx] at e0 e1 hv hrd hcap hoff hlo htk
        simp only at e0 e1 hv hrd hcap hoff hlo
        subst hv
        have HTK := Lib.hid htk
        have HRD := Lib.hid hrd
        have HLO := Lib.hid hlo
        clear htk hrd hlo hx hoff
        have HB1 := Lib.hid (HB.out.alloc HB.out.size (.cells #[str ky, .slice A1 its.length c1] 72))
        have HX1 := Lib.hid (HX.out.below (below_new wr (.cells #[str ky, .slice A1 its.length c1] 72)))
        cases hq : (ky == name)
        · have hq2 : (ky != name) = true := by rw [bne, hq]; rfl
          have hoff2 : Hid (offE (es.take (k + 1)) name = xs ++ [⟨ky, .slice A1 its.length c1, its⟩]) := Lib.hid (by rw [HTK.out]; unfold offE; rw [List.filter_append, ← offE, ← HXS.out]; simp [hq2])
          have HNE := Lib.hid hq
          clear hq2
          obtain ⟨i7, hi7, hy0, hy1, hy2⟩ := info_parts info72
          have hrow2 := HX1.out.row.alloc (.cells #[str ky, .slice A1 its.length c1] 72)
          go_wp2_with (at_builtin; refine wpList_append_own_at _ rfl (.tmp 20) (.tmp 22) 28 rfl base 72 i7 (.agg #[str [], .slice none 0 0]) 2 40 Tryz.underlying28 hi7 hy0 hy1 hy2 rfl (by decide) _ xs.length (hcells xs) rfl hrow2 ⟨wr.heap.size + 1, 0, none⟩ 1 1 [str ky, .slice A1 its.length c1] rfl rfl ?d1 ?d2 ?d3 ?d4 ?d5 ?_)
          case d1 =>
            have h := cells_new (wr.alloc (.cells #[str ky, .slice A1 its.length c1] 72)) [str ky, .slice A1 its.length c1] 72
            rwa [show (wr.alloc (.cells #[str ky, .slice A1 its.length c1] 72)).heap.size = wr.heap.size + 1 by simp] at h
          case d2 => intro u hu; simp only [List.mem_cons, List.mem_nil_iff, or_false] at hu; rcases hu with rfl | rfl <;> rfl
          case d3 => unfold maxLen; omega
          case d4 => omega
          case d5 => simp; omega
          intro v9 w9 hrow9 hg9 _ hat9
          obtain ⟨A9, c9, rfl⟩ := row_form hrow9
          have hgA : (wr.alloc (.cells #[str ky, .slice A1 its.length c1] 72)).grownBy w9 (Value.slice A7 xs.length c7).ownBlock := (World.grownBy_alloc _ _ _).trans hg9
          have hrow7 : ∀ g, (Value.slice A7 xs.length c7).ownBlock = some g → w.heap.size ≤ g := HOW.out
          have hB9 : Below w.heap.size w w9 := HB1.out.grown hgA HB1.out.size hrow7
          have hnew : ∀ g, (Value.slice A9 (xs.length + 1) c9).ownBlock = some g → w.heap.size ≤ g := fun g hg => by
            rcases hat9 with h | h
            · rw [h] at hg; exact hrow7 g hg
            · rw [h] at hg
              injection hg with hg
              rw [← hg]
              first | omega | (simp; omega)
          have HI : ItemsAt w9 (Value.slice A9 (xs.length + 1) c9).ownBlock ⟨ky, .slice A1 its.length c1, its⟩ := ⟨A1, c1, rfl, (HRD.out.below hB9).more hB9.size, hcap, fun hn ad e1 e2 => by
            obtain ⟨ad2, e3, hlt, _⟩ := HRD.out.2 hn
            rw [e1] at e3
            injection e3 with e3
            subst e3
            have := hnew _ e2
            omega⟩
          have hL9 := Lib.hid (HX1.out.snoc hgA HI hrow9 (by
            rcases hat9 with h | h
            · exact .inl h
            · exact .inr ⟨_, h, by simp⟩) (fun hn g hg => HLO.out hn g hg))
          have HB9 := Lib.hid hB9
          have HNEW := Lib.hid hnew
          clear hB9 hnew HI hgA hrow9 hg9 hat9 hrow2 hrow7 hi7 hy0 hy1 hy2
          go_wp2_with fail
          exact ⟨⟨k + 1, xs.length + 1, _, hkl, by go_num, hoff2.out.symm, by simp, by omega, hL9.out, HNEW.out, HB9.out⟩, by simp [intOf]; omega⟩
        · have hq2 : (ky != name) = false := by rw [bne, hq]; rfl
          have hoff2 : Hid (offE (es.take (k + 1)) name = xs) := Lib.hid (by rw [HTK.out]; unfold offE; rw [List.filter_append, ← offE, ← HXS.out]; simp [hq2])
          clear hq2
          go_wp2_with fail
          exact ⟨⟨k + 1, xs.length, xs, hkl, by go_num, hoff2.out.symm, rfl, by omega, HX1.out, HOW.out, HB1.out⟩, by simp [intOf]; omega⟩
      · have e : k = n := by omega
        subst e
        have hx2 : xs = offE es name := by have := HXS.out; rwa [List.take_of_length_le (by rw [HN.out]; exact Nat.le_refl _)] at this
        have KA := hradd_at name val base (.slice A7 xs.length c7) xs wr HX.out (by omega) (by omega) (fun e he => HIL.out e (by rw [hx2] at he; exact (List.mem_filter.1 he).1))
        have HAB : Hid (absE xs = setOff (absE es) name) := Lib.hid (by rw [hx2]; exact absE_off es name)
        rw [HAB.out] at KA
        clear hx2
        go_wp2_with fail
        refine KA.mono ?_
        rintro e w1 ⟨v1, es1, rfl, h1, h2, h3, h4⟩
        have HF : Hid (HAddPost w base (hrAdd (setOff (absE es) name) name val) (.returned v1) w1) := Lib.hid ⟨v1, es1, rfl, h1, h2, HB.out.trans (h3.mono hws), fun g hg => Nat.le_trans hws (h4 g hg)⟩
        clear h1 h2 h3 h4 KA
        go_wp2_with fail
        go_ret
        exact HF.out
end Go.Proofs.YtgcfnhchmmkndaaGreatDoor
