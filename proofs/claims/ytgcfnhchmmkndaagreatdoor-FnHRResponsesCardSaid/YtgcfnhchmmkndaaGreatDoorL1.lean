/- What two readings of a list of fields leave: maps beside sorted lists. -/
import Derived.Test.YtgcfnhchmmkndaaGreatDoorS1
import Derived.Test.YtgcfnhchmmkndaaGreatDoorC3
import Derived.Test.YtgcfnhchmmkndaaGreatDoorC7q
import Derived.Test.YtgcfnhchmmkndaaGreatDoorE1
namespace Go.Proofs.YtgcfnhchmmkndaaGreatDoor
open Go.RowKit Go.Maps
set_option linter.unusedVariables false
set_option maxRecDepth 100000

theorem setOff_sorted {S : AL} (h : SortedA S) (k : BS) : SortedA (setOff S k) := List.Pairwise.filter _ h
theorem mem_setOff {S : AL} {k : BS} (p : BS × List BS) : p ∈ setOff S k ↔ p ∈ S ∧ p.1 ≠ k := by
  unfold setOff
  rw [List.mem_filter]
  simp
theorem getH_setOff (S : AL) (k : BS) : getH (setOff S k) k = [] := getH_no fun h => by
  obtain ⟨q, hq, e⟩ := List.mem_map.1 h
  exact ((mem_setOff q).1 hq).2 e
theorem headsOf_set {H : AL} (hnd : (H.map Prod.fst).Nodup) (k v : BS) : headsOf (putH H k [v]) = hrAdd (setOff (headsOf H) k) k v := by
  have hnd2 := putH_nodup hnd k [v]
  have hs := setOff_sorted (headsOf_sorted hnd) k
  refine sorted_ext (headsOf_sorted hnd2) (hrAdd_sorted hs k v) fun p => ?_
  rw [mem_headsOf hnd2, mem_putH hnd, mem_hrAdd hs, getH_setOff, mem_setOff, mem_headsOf hnd]
  simp only [List.nil_append]
  constructor
  · rintro (h | ⟨h1, h2⟩)
    · exact .inl h
    · exact .inr ⟨h1, h2, h1⟩
  · rintro (h | ⟨h1, h2, _⟩)
    · exact .inl h
    · exact .inr ⟨h1, h2⟩
theorem cook_heads {H : AL} (hnd : (H.map Prod.fst).Nodup) : headsOf (cookH H) = hqHd (headsOf H) := by
  unfold cookH hqHd
  rw [getH_heads hnd]
  split
  · rfl
  · exact headsOf_set hnd _ _
theorem delH_nodup {H : AL} (hnd : (H.map Prod.fst).Nodup) (k : BS) : ((delH H k).map Prod.fst).Nodup := by
  unfold delH
  exact hnd.sublist (List.Sublist.map _ List.filter_sublist)
theorem dropPs_nodup {H : AL} (hnd : (H.map Prod.fst).Nodup) : ((dropPs H).map Prod.fst).Nodup := delH_nodup (delH_nodup (delH_nodup (delH_nodup hnd _) _) _) _
theorem mem_delH {H : AL} {k : BS} (p : BS × List BS) : p ∈ delH H k ↔ p ∈ H ∧ p.1 ≠ k := by
  unfold delH
  rw [List.mem_filter]
  simp
def notPs (k : BS) : Prop := k ≠ kPath ∧ k ≠ kAuth ∧ k ≠ kScheme ∧ k ≠ kProto
theorem mem_dropPs {H : AL} (p : BS × List BS) : p ∈ dropPs H ↔ p ∈ H ∧ notPs p.1 := by
  unfold dropPs notPs
  simp only [mem_delH]
  constructor
  · rintro ⟨⟨⟨⟨h, h1⟩, h2⟩, h3⟩, h4⟩
    exact ⟨h, h1, h2, h3, h4⟩
  · rintro ⟨h, h1, h2, h3, h4⟩
    exact ⟨⟨⟨⟨h, h1⟩, h2⟩, h3⟩, h4⟩
/-- two maps of the same entries have the same heads -/
theorem headsOf_ext {H G : AL} (h1 : (H.map Prod.fst).Nodup) (h2 : (G.map Prod.fst).Nodup) (h : ∀ p, p ∈ H ↔ p ∈ G) : headsOf H = headsOf G :=
  sorted_ext (headsOf_sorted h1) (headsOf_sorted h2) fun p => by rw [mem_headsOf h1, mem_headsOf h2, h]
/-- a pseudo field's mark is dropped again -/
theorem heads_mark {H : AL} (hnd : (H.map Prod.fst).Nodup) {k : BS} (hk : ¬ notPs k) (vs : List BS) : headsOf (dropPs (putH H k vs)) = headsOf (dropPs H) := by
  refine headsOf_ext (dropPs_nodup (putH_nodup hnd k vs)) (dropPs_nodup hnd) fun p => ?_
  rw [mem_dropPs, mem_dropPs, mem_putH hnd]
  constructor
  · rintro ⟨rfl | ⟨h1, h2⟩, h3⟩
    · exact absurd h3 hk
    · exact ⟨h2, h3⟩
  · rintro ⟨h2, h3⟩
    exact ⟨.inr ⟨fun e => hk (by rw [← e]; exact h3), h2⟩, h3⟩
theorem getH_dropPs {H : AL} (hnd : (H.map Prod.fst).Nodup) {k : BS} (hk : notPs k) : getH (dropPs H) k = getH H k := by
  obtain ⟨h1, h2, h3, h4⟩ := hk
  have g : ∀ (G : AL) (k2 : BS), k ≠ k2 → getH (delH G k2) k = getH G k := fun G k2 hne => by
    unfold getH delH
    rw [List.find?_filter]
    congr 2
    congr 1
    funext p
    by_cases h : p.1 = k
    · subst h
      simp [hne]
    · simp [h]
  unfold dropPs
  rw [g _ _ h4, g _ _ h3, g _ _ h2, g _ _ h1]
/-- what is put at another name stays -/
theorem heads_put {H : AL} (hnd : (H.map Prod.fst).Nodup) {k : BS} (hk : notPs k) (vs : List BS) : headsOf (dropPs (putH H k vs)) = headsOf (putH (dropPs H) k vs) := by
  refine headsOf_ext (dropPs_nodup (putH_nodup hnd k vs)) (putH_nodup (dropPs_nodup hnd) k vs) fun p => ?_
  rw [mem_dropPs, mem_putH hnd, mem_putH (dropPs_nodup hnd), mem_dropPs]
  constructor
  · rintro ⟨rfl | ⟨h1, h2⟩, h3⟩
    · exact .inl rfl
    · exact .inr ⟨h1, h2, h3⟩
  · rintro (rfl | ⟨h1, h2, h3⟩)
    · exact ⟨.inl rfl, hk⟩
    · exact ⟨.inr ⟨h1, h2⟩, h3⟩
theorem heads_addH {H : AL} (hnd : (H.map Prod.fst).Nodup) {k : BS} (hk : notPs k) (v : BS) : headsOf (dropPs (addH H k v)) = hrAdd (headsOf (dropPs H)) k v := by
  unfold addH
  rw [heads_put hnd hk, ← getH_dropPs hnd hk]
  exact headsOf_add (dropPs_nodup hnd) k v
theorem heads_setH {H : AL} (hnd : (H.map Prod.fst).Nodup) {k : BS} (hk : notPs k) (v : BS) : headsOf (dropPs (putH H k [v])) = hrAdd (setOff (headsOf (dropPs H)) k) k v := by
  rw [heads_put hnd hk]
  exact headsOf_set (dropPs_nodup hnd) k v

theorem canonC_ne (c : UInt8) (h : c.toNat ≠ 58) : (canonC true c).toNat ≠ 58 := by
  unfold canonC
  split
  · next hh =>
    have h1 : (c - 32).toNat = c.toNat - 32 := by
      rw [UInt8.toNat_sub_of_le]
      · rfl
      · exact UInt8.le_iff_toNat_le.2 (by show 32 ≤ c.toNat; omega)
    omega
  · split
    · next hh => exact absurd hh.1 (by decide)
    · exact h
theorem canon_head (c : UInt8) (t : BS) : ∃ r, canonOut (c :: t) = canonC true c :: r := by
  refine ⟨((List.range t.length).map Nat.succ).map (canonAt (c :: t)), ?_⟩
  unfold canonOut
  rw [List.length_cons, List.range_succ_eq_map, List.map_cons]
  rfl
theorem canon_notPs {nm : BS} (hn : nm ≠ []) (hp : pseudoB nm = false) : notPs (canonOut nm) := by
  cases nm with
  | nil => exact absurd rfl hn
  | cons c t =>
    have hc : c.toNat ≠ 58 := by simpa [pseudoB] using hp
    obtain ⟨r, hr⟩ := canon_head c t
    have h := canonC_ne c hc
    rw [hr]
    have key : ∀ x : BS, canonC true c :: r ≠ 58 :: x := fun x e => by
      injection e with e _
      rw [e] at h
      exact h rfl
    exact ⟨key _, key _, key _, key _⟩
theorem hasP_snoc (m : List (BS × BS)) (k v x : BS) : hasP (m ++ [(k, v)]) x = (hasP m x || k == x) := by unfold hasP; rw [List.any_append]; simp
theorem getP_snoc_same {m : List (BS × BS)} {k : BS} (v : BS) (h : hasP m k = false) : getP (m ++ [(k, v)]) k = v := by
  unfold getP
  rw [List.find?_append, List.find?_eq_none.2 (fun p hp e2 => by unfold hasP at h; exact absurd e2 (List.any_eq_false.1 h p hp))]
  simp
theorem getP_snoc_other {m : List (BS × BS)} {k x : BS} (v : BS) (h : k ≠ x) : getP (m ++ [(k, v)]) x = getP m x := by
  unfold getP
  rw [List.find?_append]
  cases hf : m.find? fun p => p.1 == x with
  | none =>
    have : (k == x) = false := by simpa using h
    simp [this]
  | some q => rfl
theorem hasKey_put (H : AL) (k x : BS) (vs : List BS) : hasKey (putH H k vs) x = (hasKey H x || k == x) := by
  unfold hasKey putH
  split
  · next hh =>
    have e : ((H.map fun p => if p.1 = k then (k, vs) else p).any fun p => p.1 == x) = H.any fun p => p.1 == x := by
      rw [List.any_map]
      congr 1
      funext p
      simp only [Function.comp_def]
      by_cases h : p.1 = k
      · rw [if_pos h, h]
      · rw [if_neg h]
    rw [e]
    cases hx : (k == x)
    · rw [Bool.or_false]
    · have hkx : k = x := by simpa using hx
      subst hkx
      rw [hh]
      rfl
  · rw [List.any_append]
    simp
/-- the two readings' states -/
structure Rel (req : Bool) (s : PS) (h : HRS) : Prop where
  reg : s.reg = h.beh
  nd : (s.H.map Prod.fst).Nodup
  hd : headsOf (dropPs s.H) = h.hd
  kp : hasKey s.H kPath = hasP h.pm kPath
  ka : hasKey s.H kAuth = hasP h.pm kAuth
  ks : hasKey s.H kScheme = hasP h.pm kScheme
  kr : hasKey s.H kProto = hasP h.pm kProto
  km : s.hasM = hasP h.pm kMethod
  kt : s.hasS = hasP h.pm kStatus
  path : s.path = getP h.pm kPath
  meth : s.meth = getP h.pm kMethod
  auth : s.auth = getP h.pm kAuth
  proto : s.proto = getP h.pm kProto
  scheme : s.scheme = Lib.toLowerA (getP h.pm kScheme)
  status : s.status = getP h.pm kStatus
  told : s.hasCL = h.told
  cls : s.cls = h.ls
  cl0 : h.told = false → h.ls = []
  len0 : h.ls = [] → h.len = -1
  len1 : h.ls ≠ [] → ∃ n, parseCL h.ls = some n ∧ h.len = (n : Int)
  fromL : ∀ q ∈ h.pm, pseOk req q.1 = true
/-- a length that no number is: the package will fail at the end -/
def Bad (s : PS) : Prop := s.hasCL = true ∧ s.cls ≠ [] ∧ parseCL s.cls = none
def Fit (req : Bool) : Option PS → Option HRS → Prop
  | none, none => True
  | some s, some h => Rel req s h
  | some s, none => Bad s
  | none, some _ => False
theorem Rel.start (req : Bool) : Rel req {} {} where
  reg := rfl
  nd := by simp
  hd := by unfold dropPs delH headsOf; simp [sortK_nil]
  kp := rfl
  ka := rfl
  ks := rfl
  kr := rfl
  km := rfl
  kt := rfl
  path := rfl
  meth := rfl
  auth := rfl
  proto := rfl
  scheme := rfl
  status := rfl
  told := rfl
  cls := rfl
  cl0 := fun _ => rfl
  len0 := fun _ => rfl
  len1 := fun h => absurd rfl h
  fromL := fun q hq => by cases hq
/-- a regular field -/
theorem rel_regular {req : Bool} {s : PS} {h : HRS} (r : Rel req s h) (nm vl : BS) (hn : nm ≠ []) (hp : pseudoB nm = false) : Fit req (psRegular s nm vl) (hsRg h nm vl) := by
  have hro : regularOk nm vl = !(!nameOk nm || barredNames.contains nm || (nm == [116, 101] && vl != [116, 114, 97, 105, 108, 101, 114, 115])) := by
    unfold regularOk teName trailersVal
    cases nameOk nm <;> cases barredNames.contains nm <;> cases (nm == [116, 101] && vl != [116, 114, 97, 105, 108, 101, 114, 115]) <;> rfl
  unfold psRegular hsRg
  rw [hro]
  cases hb : (!nameOk nm || barredNames.contains nm || (nm == [116, 101] && vl != [116, 114, 97, 105, 108, 101, 114, 115]))
  · have hnok : nameOk nm = true := by
      cases hx : nameOk nm
      · rw [hx] at hb; simp at hb
      · rfl
    have htok : tokAll nm = true := by unfold nameOk at hnok; simp at hnok; exact hnok.2
    have hcan : canonL nm = canonOut nm := by unfold canonL; rw [htok]; rfl
    have hnp := canon_notPs hn hp
    have hne : ∀ k : BS, ¬ notPs k → (canonOut nm == k) = false := fun k hk => by
      rw [beq_eq_false_iff_ne]
      exact fun e => hk (by rw [← e]; exact hnp)
    simp only [Bool.not_false, Bool.not_true, Bool.false_eq_true, if_false]
    by_cases hcl : nm = kLength
    · have hcl2 : (nm != kLength) = false := by rw [hcl]; rfl
      rw [if_pos hcl, hcl2]
      simp only [Bool.false_eq_true, if_false]
      cases ht : h.told
      · have hc : s.hasCL = false := r.told.trans ht
        rw [hc]
        simp only [Bool.false_and, Bool.not_false, Bool.false_eq_true, if_false, if_true]
        by_cases hv : vl = []
        · subst hv
          simp only [beq_self_eq_true, if_true]
          exact { r with reg := rfl, told := rfl, cls := rfl, cl0 := fun _ => rfl, len0 := fun _ => r.len0 (r.cl0 ht), len1 := fun h => absurd rfl h }
        · have hve : (vl == []) = false := by simpa using hv
          rw [hve]
          simp only [Bool.false_eq_true, if_false]
          cases hpc : parseCL vl with
          | none => exact ⟨rfl, hv, hpc⟩
          | some N => exact { r with reg := rfl, told := rfl, cls := rfl, cl0 := fun hh => (by cases hh), len0 := fun hh => absurd hh hv, len1 := fun _ => ⟨N, hpc, rfl⟩ }
      · have hc : s.hasCL = true := r.told.trans ht
        rw [hc]
        simp only [Bool.true_and, Bool.not_true, Bool.false_eq_true, if_false]
        by_cases hls : h.ls = vl
        · have h1 : (h.ls != vl) = false := by simpa using hls
          have h2 : s.cls = vl := r.cls.trans hls
          rw [h1, if_pos h2]
          simp only [Bool.false_eq_true, if_false]
          subst hls
          by_cases hv : h.ls = []
          · rw [hv]
            simp only [beq_self_eq_true, if_true]
            exact { r with reg := rfl, told := rfl, cls := h2.trans hv, cl0 := fun _ => rfl, len0 := fun _ => r.len0 hv, len1 := fun hh => absurd rfl hh }
          · have hve : (h.ls == []) = false := by simpa using hv
            rw [hve]
            simp only [Bool.false_eq_true, if_false]
            obtain ⟨N, hN, hlen⟩ := r.len1 hv
            rw [hN]
            exact { r with reg := rfl, told := rfl, cls := h2, cl0 := fun hh => (by cases hh), len0 := fun hh => absurd hh hv, len1 := fun _ => ⟨N, hN, rfl⟩ }
        · have h1 : (h.ls != vl) = true := by simpa using hls
          have h2 : ¬ s.cls = vl := fun e => hls (r.cls.symm.trans e)
          rw [h1, if_neg h2]
          trivial
    · have hcl2 : (nm != kLength) = true := by simpa using hcl
      rw [if_neg hcl, hcl2]
      simp only [if_true]
      rw [hcan]
      have e1 := hne kPath (fun x => x.1 rfl)
      have e2 := hne kAuth (fun x => x.2.1 rfl)
      have e3 := hne kScheme (fun x => x.2.2.1 rfl)
      have e4 := hne kProto (fun x => x.2.2.2 rfl)
      exact { r with
        reg := rfl
        nd := putH_nodup r.nd _ _
        hd := by show headsOf (dropPs (addH s.H (canonOut nm) vl)) = hrAdd h.hd (canonOut nm) vl; rw [heads_addH r.nd hnp, r.hd]
        kp := by show hasKey (addH s.H (canonOut nm) vl) kPath = _; unfold addH; rw [hasKey_put, e1, Bool.or_false]; exact r.kp
        ka := by show hasKey (addH s.H (canonOut nm) vl) kAuth = _; unfold addH; rw [hasKey_put, e2, Bool.or_false]; exact r.ka
        ks := by show hasKey (addH s.H (canonOut nm) vl) kScheme = _; unfold addH; rw [hasKey_put, e3, Bool.or_false]; exact r.ks
        kr := by show hasKey (addH s.H (canonOut nm) vl) kProto = _; unfold addH; rw [hasKey_put, e4, Bool.or_false]; exact r.kr }
  · trivial

theorem rel_pseudo {req : Bool} {s : PS} {h : HRS} (r : Rel req s h) (nm vl : BS) : Fit req (psPseudo req s nm vl) (hsPs req h nm vl) := by
  unfold hsPs
  cases hb : h.beh
  · have hr : s.reg = false := r.reg.trans hb
    rw [Bool.false_or]
    by_cases hq : nm = kPath
    · subst hq
      have hpp := pp0 req s vl hr
      have hpp2 : psPseudo req s kPath vl = _ := hpp
      rw [hpp2]
      cases req
      · have hpse : pseOk false kPath = false := by decide
        rw [hpse]
        cases hh : hasP h.pm kPath
        · have h3 := r.kp
          rw [hh] at h3
          show Fit _ (if hasKey s.H kPath then none else _) _
          rw [h3]
          trivial
        · have h3 := r.kp
          rw [hh] at h3
          show Fit _ (if hasKey s.H kPath then none else _) _
          rw [h3]
          trivial
      · have hpse : pseOk true kPath = true := by decide
        rw [hpse]
        cases hh : hasP h.pm kPath
        · have h3 := r.kp
          rw [hh] at h3
          show Fit _ (if hasKey s.H kPath then none else if false == true then none else some _) _
          rw [h3]
          exact { r with
            reg := hr
            nd := putH_nodup r.nd _ _
            hd := (heads_mark r.nd (by unfold notPs; intro x; first | exact x.1 rfl | exact x.2.1 rfl | exact x.2.2.1 rfl | exact x.2.2.2 rfl) []).trans r.hd
            kp := by show hasKey (putH s.H kPath []) kPath = hasP (h.pm ++ [(kPath, vl)]) kPath; rw [hasKey_put, hasP_snoc, r.kp]
            ka := by show hasKey (putH s.H kPath []) kAuth = hasP (h.pm ++ [(kPath, vl)]) kAuth; rw [hasKey_put, hasP_snoc, r.ka]
            ks := by show hasKey (putH s.H kPath []) kScheme = hasP (h.pm ++ [(kPath, vl)]) kScheme; rw [hasKey_put, hasP_snoc, r.ks]
            kr := by show hasKey (putH s.H kPath []) kProto = hasP (h.pm ++ [(kPath, vl)]) kProto; rw [hasKey_put, hasP_snoc, r.kr]
            km := by show s.hasM = hasP (h.pm ++ [(kPath, vl)]) kMethod; rw [hasP_snoc, r.km, show (kPath == kMethod) = false from by decide, Bool.or_false]
            kt := by show s.hasS = hasP (h.pm ++ [(kPath, vl)]) kStatus; rw [hasP_snoc, r.kt, show (kPath == kStatus) = false from by decide, Bool.or_false]
            path := by show vl = id (getP (h.pm ++ [(kPath, vl)]) kPath); rw [getP_snoc_same vl hh]; rfl
            meth := by show s.meth = getP (h.pm ++ [(kPath, vl)]) kMethod; rw [getP_snoc_other vl (show kPath ≠ kMethod from by decide)]; exact r.meth
            auth := by show s.auth = getP (h.pm ++ [(kPath, vl)]) kAuth; rw [getP_snoc_other vl (show kPath ≠ kAuth from by decide)]; exact r.auth
            proto := by show s.proto = getP (h.pm ++ [(kPath, vl)]) kProto; rw [getP_snoc_other vl (show kPath ≠ kProto from by decide)]; exact r.proto
            scheme := by show s.scheme = Lib.toLowerA (getP (h.pm ++ [(kPath, vl)]) kScheme); rw [getP_snoc_other vl (show kPath ≠ kScheme from by decide)]; exact r.scheme
            status := by show s.status = getP (h.pm ++ [(kPath, vl)]) kStatus; rw [getP_snoc_other vl (show kPath ≠ kStatus from by decide)]; exact r.status
            fromL := fun q hq => (List.mem_append.1 hq).elim (r.fromL q) (fun hq => by rw [List.mem_singleton] at hq; rw [hq]; exact hpse) }
        · have h3 := r.kp
          rw [hh] at h3
          show Fit _ (if hasKey s.H kPath then none else _) _
          rw [h3]
          trivial
    · have z0 := hq
      clear hq
      by_cases hq : nm = kMethod
      · subst hq
        have hpp := pp1 req s vl hr
        have hpp2 : psPseudo req s kMethod vl = _ := hpp
        rw [hpp2]
        cases req
        · have hpse : pseOk false kMethod = false := by decide
          rw [hpse]
          cases hh : hasP h.pm kMethod
          · have h3 := r.km
            rw [hh] at h3
            show Fit _ (if s.hasM then none else _) _
            rw [h3]
            trivial
          · have h3 := r.km
            rw [hh] at h3
            show Fit _ (if s.hasM then none else _) _
            rw [h3]
            trivial
        · have hpse : pseOk true kMethod = true := by decide
          rw [hpse]
          cases hh : hasP h.pm kMethod
          · have h3 := r.km
            rw [hh] at h3
            show Fit _ (if s.hasM then none else if false == true then none else some _) _
            rw [h3]
            exact { r with
              reg := hr
              nd := r.nd
              hd := r.hd
              kp := by show hasKey s.H kPath = hasP (h.pm ++ [(kMethod, vl)]) kPath; rw [hasP_snoc, r.kp, show (kMethod == kPath) = false from by decide, Bool.or_false]
              ka := by show hasKey s.H kAuth = hasP (h.pm ++ [(kMethod, vl)]) kAuth; rw [hasP_snoc, r.ka, show (kMethod == kAuth) = false from by decide, Bool.or_false]
              ks := by show hasKey s.H kScheme = hasP (h.pm ++ [(kMethod, vl)]) kScheme; rw [hasP_snoc, r.ks, show (kMethod == kScheme) = false from by decide, Bool.or_false]
              kr := by show hasKey s.H kProto = hasP (h.pm ++ [(kMethod, vl)]) kProto; rw [hasP_snoc, r.kr, show (kMethod == kProto) = false from by decide, Bool.or_false]
              km := by show true = hasP (h.pm ++ [(kMethod, vl)]) kMethod; rw [hasP_snoc]; simp
              kt := by show s.hasS = hasP (h.pm ++ [(kMethod, vl)]) kStatus; rw [hasP_snoc, r.kt, show (kMethod == kStatus) = false from by decide, Bool.or_false]
              path := by show s.path = getP (h.pm ++ [(kMethod, vl)]) kPath; rw [getP_snoc_other vl (show kMethod ≠ kPath from by decide)]; exact r.path
              meth := by show vl = id (getP (h.pm ++ [(kMethod, vl)]) kMethod); rw [getP_snoc_same vl hh]; rfl
              auth := by show s.auth = getP (h.pm ++ [(kMethod, vl)]) kAuth; rw [getP_snoc_other vl (show kMethod ≠ kAuth from by decide)]; exact r.auth
              proto := by show s.proto = getP (h.pm ++ [(kMethod, vl)]) kProto; rw [getP_snoc_other vl (show kMethod ≠ kProto from by decide)]; exact r.proto
              scheme := by show s.scheme = Lib.toLowerA (getP (h.pm ++ [(kMethod, vl)]) kScheme); rw [getP_snoc_other vl (show kMethod ≠ kScheme from by decide)]; exact r.scheme
              status := by show s.status = getP (h.pm ++ [(kMethod, vl)]) kStatus; rw [getP_snoc_other vl (show kMethod ≠ kStatus from by decide)]; exact r.status
              fromL := fun q hq => (List.mem_append.1 hq).elim (r.fromL q) (fun hq => by rw [List.mem_singleton] at hq; rw [hq]; exact hpse) }
          · have h3 := r.km
            rw [hh] at h3
            show Fit _ (if s.hasM then none else _) _
            rw [h3]
            trivial
      · have z1 := hq
        clear hq
        by_cases hq : nm = kAuth
        · subst hq
          have hpp := pp2 req s vl hr
          have hpp2 : psPseudo req s kAuth vl = _ := hpp
          rw [hpp2]
          cases req
          · have hpse : pseOk false kAuth = false := by decide
            rw [hpse]
            cases hh : hasP h.pm kAuth
            · have h3 := r.ka
              rw [hh] at h3
              show Fit _ (if hasKey s.H kAuth then none else _) _
              rw [h3]
              trivial
            · have h3 := r.ka
              rw [hh] at h3
              show Fit _ (if hasKey s.H kAuth then none else _) _
              rw [h3]
              trivial
          · have hpse : pseOk true kAuth = true := by decide
            rw [hpse]
            cases hh : hasP h.pm kAuth
            · have h3 := r.ka
              rw [hh] at h3
              show Fit _ (if hasKey s.H kAuth then none else if false == true then none else some _) _
              rw [h3]
              exact { r with
                reg := hr
                nd := putH_nodup r.nd _ _
                hd := (heads_mark r.nd (by unfold notPs; intro x; first | exact x.1 rfl | exact x.2.1 rfl | exact x.2.2.1 rfl | exact x.2.2.2 rfl) []).trans r.hd
                kp := by show hasKey (putH s.H kAuth []) kPath = hasP (h.pm ++ [(kAuth, vl)]) kPath; rw [hasKey_put, hasP_snoc, r.kp]
                ka := by show hasKey (putH s.H kAuth []) kAuth = hasP (h.pm ++ [(kAuth, vl)]) kAuth; rw [hasKey_put, hasP_snoc, r.ka]
                ks := by show hasKey (putH s.H kAuth []) kScheme = hasP (h.pm ++ [(kAuth, vl)]) kScheme; rw [hasKey_put, hasP_snoc, r.ks]
                kr := by show hasKey (putH s.H kAuth []) kProto = hasP (h.pm ++ [(kAuth, vl)]) kProto; rw [hasKey_put, hasP_snoc, r.kr]
                km := by show s.hasM = hasP (h.pm ++ [(kAuth, vl)]) kMethod; rw [hasP_snoc, r.km, show (kAuth == kMethod) = false from by decide, Bool.or_false]
                kt := by show s.hasS = hasP (h.pm ++ [(kAuth, vl)]) kStatus; rw [hasP_snoc, r.kt, show (kAuth == kStatus) = false from by decide, Bool.or_false]
                path := by show s.path = getP (h.pm ++ [(kAuth, vl)]) kPath; rw [getP_snoc_other vl (show kAuth ≠ kPath from by decide)]; exact r.path
                meth := by show s.meth = getP (h.pm ++ [(kAuth, vl)]) kMethod; rw [getP_snoc_other vl (show kAuth ≠ kMethod from by decide)]; exact r.meth
                auth := by show vl = id (getP (h.pm ++ [(kAuth, vl)]) kAuth); rw [getP_snoc_same vl hh]; rfl
                proto := by show s.proto = getP (h.pm ++ [(kAuth, vl)]) kProto; rw [getP_snoc_other vl (show kAuth ≠ kProto from by decide)]; exact r.proto
                scheme := by show s.scheme = Lib.toLowerA (getP (h.pm ++ [(kAuth, vl)]) kScheme); rw [getP_snoc_other vl (show kAuth ≠ kScheme from by decide)]; exact r.scheme
                status := by show s.status = getP (h.pm ++ [(kAuth, vl)]) kStatus; rw [getP_snoc_other vl (show kAuth ≠ kStatus from by decide)]; exact r.status
                fromL := fun q hq => (List.mem_append.1 hq).elim (r.fromL q) (fun hq => by rw [List.mem_singleton] at hq; rw [hq]; exact hpse) }
            · have h3 := r.ka
              rw [hh] at h3
              show Fit _ (if hasKey s.H kAuth then none else _) _
              rw [h3]
              trivial
        · have z2 := hq
          clear hq
          by_cases hq : nm = kProto
          · subst hq
            have hpp := pp3 req s vl hr
            have hpp2 : psPseudo req s kProto vl = _ := hpp
            rw [hpp2]
            cases req
            · have hpse : pseOk false kProto = false := by decide
              rw [hpse]
              cases hh : hasP h.pm kProto
              · have h3 := r.kr
                rw [hh] at h3
                show Fit _ (if hasKey s.H kProto then none else _) _
                rw [h3]
                trivial
              · have h3 := r.kr
                rw [hh] at h3
                show Fit _ (if hasKey s.H kProto then none else _) _
                rw [h3]
                trivial
            · have hpse : pseOk true kProto = true := by decide
              rw [hpse]
              cases hh : hasP h.pm kProto
              · have h3 := r.kr
                rw [hh] at h3
                show Fit _ (if hasKey s.H kProto then none else if false == true then none else some _) _
                rw [h3]
                exact { r with
                  reg := hr
                  nd := putH_nodup r.nd _ _
                  hd := (heads_mark r.nd (by unfold notPs; intro x; first | exact x.1 rfl | exact x.2.1 rfl | exact x.2.2.1 rfl | exact x.2.2.2 rfl) []).trans r.hd
                  kp := by show hasKey (putH s.H kProto []) kPath = hasP (h.pm ++ [(kProto, vl)]) kPath; rw [hasKey_put, hasP_snoc, r.kp]
                  ka := by show hasKey (putH s.H kProto []) kAuth = hasP (h.pm ++ [(kProto, vl)]) kAuth; rw [hasKey_put, hasP_snoc, r.ka]
                  ks := by show hasKey (putH s.H kProto []) kScheme = hasP (h.pm ++ [(kProto, vl)]) kScheme; rw [hasKey_put, hasP_snoc, r.ks]
                  kr := by show hasKey (putH s.H kProto []) kProto = hasP (h.pm ++ [(kProto, vl)]) kProto; rw [hasKey_put, hasP_snoc, r.kr]
                  km := by show s.hasM = hasP (h.pm ++ [(kProto, vl)]) kMethod; rw [hasP_snoc, r.km, show (kProto == kMethod) = false from by decide, Bool.or_false]
                  kt := by show s.hasS = hasP (h.pm ++ [(kProto, vl)]) kStatus; rw [hasP_snoc, r.kt, show (kProto == kStatus) = false from by decide, Bool.or_false]
                  path := by show s.path = getP (h.pm ++ [(kProto, vl)]) kPath; rw [getP_snoc_other vl (show kProto ≠ kPath from by decide)]; exact r.path
                  meth := by show s.meth = getP (h.pm ++ [(kProto, vl)]) kMethod; rw [getP_snoc_other vl (show kProto ≠ kMethod from by decide)]; exact r.meth
                  auth := by show s.auth = getP (h.pm ++ [(kProto, vl)]) kAuth; rw [getP_snoc_other vl (show kProto ≠ kAuth from by decide)]; exact r.auth
                  proto := by show vl = id (getP (h.pm ++ [(kProto, vl)]) kProto); rw [getP_snoc_same vl hh]; rfl
                  scheme := by show s.scheme = Lib.toLowerA (getP (h.pm ++ [(kProto, vl)]) kScheme); rw [getP_snoc_other vl (show kProto ≠ kScheme from by decide)]; exact r.scheme
                  status := by show s.status = getP (h.pm ++ [(kProto, vl)]) kStatus; rw [getP_snoc_other vl (show kProto ≠ kStatus from by decide)]; exact r.status
                  fromL := fun q hq => (List.mem_append.1 hq).elim (r.fromL q) (fun hq => by rw [List.mem_singleton] at hq; rw [hq]; exact hpse) }
              · have h3 := r.kr
                rw [hh] at h3
                show Fit _ (if hasKey s.H kProto then none else _) _
                rw [h3]
                trivial
          · have z3 := hq
            clear hq
            by_cases hq : nm = kScheme
            · subst hq
              have hpp := pp4 req s vl hr
              have hpp2 : psPseudo req s kScheme vl = _ := hpp
              rw [hpp2]
              cases req
              · have hpse : pseOk false kScheme = false := by decide
                rw [hpse]
                cases hh : hasP h.pm kScheme
                · have h3 := r.ks
                  rw [hh] at h3
                  show Fit _ (if hasKey s.H kScheme then none else _) _
                  rw [h3]
                  trivial
                · have h3 := r.ks
                  rw [hh] at h3
                  show Fit _ (if hasKey s.H kScheme then none else _) _
                  rw [h3]
                  trivial
              · have hpse : pseOk true kScheme = true := by decide
                rw [hpse]
                cases hh : hasP h.pm kScheme
                · have h3 := r.ks
                  rw [hh] at h3
                  show Fit _ (if hasKey s.H kScheme then none else if false == true then none else some _) _
                  rw [h3]
                  exact { r with
                    reg := hr
                    nd := putH_nodup r.nd _ _
                    hd := (heads_mark r.nd (by unfold notPs; intro x; first | exact x.1 rfl | exact x.2.1 rfl | exact x.2.2.1 rfl | exact x.2.2.2 rfl) []).trans r.hd
                    kp := by show hasKey (putH s.H kScheme []) kPath = hasP (h.pm ++ [(kScheme, vl)]) kPath; rw [hasKey_put, hasP_snoc, r.kp]
                    ka := by show hasKey (putH s.H kScheme []) kAuth = hasP (h.pm ++ [(kScheme, vl)]) kAuth; rw [hasKey_put, hasP_snoc, r.ka]
                    ks := by show hasKey (putH s.H kScheme []) kScheme = hasP (h.pm ++ [(kScheme, vl)]) kScheme; rw [hasKey_put, hasP_snoc, r.ks]
                    kr := by show hasKey (putH s.H kScheme []) kProto = hasP (h.pm ++ [(kScheme, vl)]) kProto; rw [hasKey_put, hasP_snoc, r.kr]
                    km := by show s.hasM = hasP (h.pm ++ [(kScheme, vl)]) kMethod; rw [hasP_snoc, r.km, show (kScheme == kMethod) = false from by decide, Bool.or_false]
                    kt := by show s.hasS = hasP (h.pm ++ [(kScheme, vl)]) kStatus; rw [hasP_snoc, r.kt, show (kScheme == kStatus) = false from by decide, Bool.or_false]
                    path := by show s.path = getP (h.pm ++ [(kScheme, vl)]) kPath; rw [getP_snoc_other vl (show kScheme ≠ kPath from by decide)]; exact r.path
                    meth := by show s.meth = getP (h.pm ++ [(kScheme, vl)]) kMethod; rw [getP_snoc_other vl (show kScheme ≠ kMethod from by decide)]; exact r.meth
                    auth := by show s.auth = getP (h.pm ++ [(kScheme, vl)]) kAuth; rw [getP_snoc_other vl (show kScheme ≠ kAuth from by decide)]; exact r.auth
                    proto := by show s.proto = getP (h.pm ++ [(kScheme, vl)]) kProto; rw [getP_snoc_other vl (show kScheme ≠ kProto from by decide)]; exact r.proto
                    scheme := by show Lib.toLowerA vl = Lib.toLowerA (getP (h.pm ++ [(kScheme, vl)]) kScheme); rw [getP_snoc_same vl hh]
                    status := by show s.status = getP (h.pm ++ [(kScheme, vl)]) kStatus; rw [getP_snoc_other vl (show kScheme ≠ kStatus from by decide)]; exact r.status
                    fromL := fun q hq => (List.mem_append.1 hq).elim (r.fromL q) (fun hq => by rw [List.mem_singleton] at hq; rw [hq]; exact hpse) }
                · have h3 := r.ks
                  rw [hh] at h3
                  show Fit _ (if hasKey s.H kScheme then none else _) _
                  rw [h3]
                  trivial
            · have z4 := hq
              clear hq
              by_cases hq : nm = kStatus
              · subst hq
                have hpp := pp5 req s vl hr
                have hpp2 : psPseudo req s kStatus vl = _ := hpp
                rw [hpp2]
                cases req
                · have hpse : pseOk false kStatus = true := by decide
                  rw [hpse]
                  cases hh : hasP h.pm kStatus
                  · have h3 := r.kt
                    rw [hh] at h3
                    show Fit _ (if s.hasS then none else if true == false then none else some _) _
                    rw [h3]
                    exact { r with
                      reg := hr
                      nd := r.nd
                      hd := r.hd
                      kp := by show hasKey s.H kPath = hasP (h.pm ++ [(kStatus, vl)]) kPath; rw [hasP_snoc, r.kp, show (kStatus == kPath) = false from by decide, Bool.or_false]
                      ka := by show hasKey s.H kAuth = hasP (h.pm ++ [(kStatus, vl)]) kAuth; rw [hasP_snoc, r.ka, show (kStatus == kAuth) = false from by decide, Bool.or_false]
                      ks := by show hasKey s.H kScheme = hasP (h.pm ++ [(kStatus, vl)]) kScheme; rw [hasP_snoc, r.ks, show (kStatus == kScheme) = false from by decide, Bool.or_false]
                      kr := by show hasKey s.H kProto = hasP (h.pm ++ [(kStatus, vl)]) kProto; rw [hasP_snoc, r.kr, show (kStatus == kProto) = false from by decide, Bool.or_false]
                      km := by show s.hasM = hasP (h.pm ++ [(kStatus, vl)]) kMethod; rw [hasP_snoc, r.km, show (kStatus == kMethod) = false from by decide, Bool.or_false]
                      kt := by show true = hasP (h.pm ++ [(kStatus, vl)]) kStatus; rw [hasP_snoc]; simp
                      path := by show s.path = getP (h.pm ++ [(kStatus, vl)]) kPath; rw [getP_snoc_other vl (show kStatus ≠ kPath from by decide)]; exact r.path
                      meth := by show s.meth = getP (h.pm ++ [(kStatus, vl)]) kMethod; rw [getP_snoc_other vl (show kStatus ≠ kMethod from by decide)]; exact r.meth
                      auth := by show s.auth = getP (h.pm ++ [(kStatus, vl)]) kAuth; rw [getP_snoc_other vl (show kStatus ≠ kAuth from by decide)]; exact r.auth
                      proto := by show s.proto = getP (h.pm ++ [(kStatus, vl)]) kProto; rw [getP_snoc_other vl (show kStatus ≠ kProto from by decide)]; exact r.proto
                      scheme := by show s.scheme = Lib.toLowerA (getP (h.pm ++ [(kStatus, vl)]) kScheme); rw [getP_snoc_other vl (show kStatus ≠ kScheme from by decide)]; exact r.scheme
                      status := by show vl = id (getP (h.pm ++ [(kStatus, vl)]) kStatus); rw [getP_snoc_same vl hh]; rfl
                      fromL := fun q hq => (List.mem_append.1 hq).elim (r.fromL q) (fun hq => by rw [List.mem_singleton] at hq; rw [hq]; exact hpse) }
                  · have h3 := r.kt
                    rw [hh] at h3
                    show Fit _ (if s.hasS then none else _) _
                    rw [h3]
                    trivial
                · have hpse : pseOk true kStatus = false := by decide
                  rw [hpse]
                  cases hh : hasP h.pm kStatus
                  · have h3 := r.kt
                    rw [hh] at h3
                    show Fit _ (if s.hasS then none else _) _
                    rw [h3]
                    trivial
                  · have h3 := r.kt
                    rw [hh] at h3
                    show Fit _ (if s.hasS then none else _) _
                    rw [h3]
                    trivial
              · have z5 := hq
                clear hq
                have h1 : psPseudo req s nm vl = none := by unfold psPseudo; rw [if_neg (by simp [hr])]; simp [z0, z1, z2, z3, z4, z5]
                have h2 : pseOk req nm = false := by
                  unfold pseOk
                  cases req
                  · simpa using z5
                  · unfold pseNames
                    simp [z0, z1, z2, z3, z4]
                rw [h1, h2]
                cases hasP h.pm nm <;> trivial
  · have h1 : psPseudo req s nm vl = none := by unfold psPseudo; rw [if_pos (r.reg.trans hb)]
    rw [h1]
    trivial

theorem psPseudo_keeps {req : Bool} {s s' : PS} {nm vl : BS} (h : psPseudo req s nm vl = some s') : s'.hasCL = s.hasCL ∧ s'.cls = s.cls := by
  unfold psPseudo at h
  repeat' (split at h)
  all_goals first
    | (cases h; done)
    | (injection h with h; subst h; exact ⟨rfl, rfl⟩)
theorem bad_step {req : Bool} {vOk : BS × BS → Bool} {s : PS} (hb : Bad s) (p : BS × BS) : psStep req vOk s p = none ∨ ∃ s', psStep req vOk s p = some s' ∧ Bad s' := by
  obtain ⟨h1, h2, h3⟩ := hb
  cases h : psStep req vOk s p with
  | none => exact .inl rfl
  | some s' =>
    refine .inr ⟨s', rfl, ?_⟩
    unfold psStep at h
    split at h
    · cases h
    · split at h
      · obtain ⟨k1, k2⟩ := psPseudo_keeps h
        exact ⟨k1.trans h1, by rw [k2]; exact h2, by rw [k2]; exact h3⟩
      · unfold psRegular at h
        split at h
        · cases h
        · split at h
          · rw [h1] at h
            simp only [Bool.not_true, Bool.false_eq_true, if_false] at h
            split at h
            · injection h with h
              subst h
              exact ⟨rfl, h2, h3⟩
            · cases h
          · injection h with h
            subst h
            exact ⟨h1, h2, h3⟩
theorem bad_fold {req : Bool} {vOk : BS × BS → Bool} (l : List (BS × BS)) : ∀ s, Bad s → psFold req vOk s l = none ∨ ∃ s', psFold req vOk s l = some s' ∧ Bad s' := by
  induction l with
  | nil => exact fun s hb => .inr ⟨s, rfl, hb⟩
  | cons p t ih =>
    intro s hb
    have e : psFold req vOk s (p :: t) = (psStep req vOk s p).bind fun s' => psFold req vOk s' t := rfl
    rw [e]
    rcases bad_step (req := req) (vOk := vOk) hb p with h | ⟨s', h, hb'⟩
    · rw [h]; exact .inl rfl
    · rw [h]; exact ih s' hb'
theorem fit_step {req : Bool} {vOk : BS × BS → Bool} {s : PS} {h : HRS} (r : Rel req s h) (p : BS × BS) (hv : vOk p = (lowOk p.1 && valOk p.2)) : Fit req (psStep req vOk s p) (hsStep req h p) := by
  obtain ⟨nm, vl⟩ := p
  unfold psStep hsStep
  rw [hv]
  simp only
  cases lowOk nm
  · trivial
  · cases valOk vl
    · trivial
    · by_cases hn : nm = []
      · subst hn
        have h1 : psRegular s [] vl = none := by unfold psRegular regularOk nameOk; simp
        simp only [Bool.and_self, Bool.not_true, Bool.false_eq_true, if_false, beq_self_eq_true, Bool.or_true, if_true]
        have h2 : pseudoB [] = false := rfl
        rw [h2]
        simp only [Bool.false_eq_true, if_false]
        rw [h1]
        trivial
      · have hn2 : (nm == []) = false := by simpa using hn
        rw [hn2]
        simp only [Bool.and_self, Bool.not_true, Bool.or_self, Bool.false_eq_true, if_false]
        cases hp : pseudoB nm
        · simp only [Bool.false_eq_true, if_false]
          exact rel_regular r nm vl hn hp
        · simp only [if_true]
          exact rel_pseudo r nm vl
theorem fit_fold {req : Bool} {vOk : BS × BS → Bool} (l : List (BS × BS)) (hv : ∀ p ∈ l, vOk p = (lowOk p.1 && valOk p.2)) : ∀ s h, Rel req s h → Fit req (psFold req vOk s l) (hsFold req h l) := by
  induction l with
  | nil => exact fun s h r => r
  | cons p t ih =>
    intro s h r
    have e1 : psFold req vOk s (p :: t) = (psStep req vOk s p).bind fun s' => psFold req vOk s' t := rfl
    have e2 : hsFold req h (p :: t) = (hsStep req h p).bind fun h' => hsFold req h' t := rfl
    have hf := fit_step r p (hv p (List.mem_cons_self))
    have ih' := ih (fun q hq => hv q (List.mem_cons_of_mem _ hq))
    rw [e1, e2]
    cases h1 : psStep req vOk s p with
    | none =>
      rw [h1] at hf
      cases h2 : hsStep req h p with
      | none => trivial
      | some h' => rw [h2] at hf; exact hf.elim
    | some s' =>
      rw [h1] at hf
      cases h2 : hsStep req h p with
      | none =>
        rw [h2] at hf
        show Fit req (psFold req vOk s' t) none
        rcases bad_fold (req := req) (vOk := vOk) t s' hf with h3 | ⟨s3, h3, hb⟩
        · rw [h3]; trivial
        · rw [h3]; exact hb
      | some h' =>
        rw [h2] at hf
        exact ih' s' h' hf
/-- what both readings leave -/
structure RelE (s : PS) (cl : Int) (h : HRS) : Prop where
  nd : (s.H.map Prod.fst).Nodup
  hd : headsOf (dropPs s.H) = h.hd
  kp : hasKey s.H kPath = hasP h.pm kPath
  ka : hasKey s.H kAuth = hasP h.pm kAuth
  ks : hasKey s.H kScheme = hasP h.pm kScheme
  kr : hasKey s.H kProto = hasP h.pm kProto
  km : s.hasM = hasP h.pm kMethod
  kt : s.hasS = hasP h.pm kStatus
  path : s.path = getP h.pm kPath
  meth : s.meth = getP h.pm kMethod
  auth : s.auth = getP h.pm kAuth
  proto : s.proto = getP h.pm kProto
  scheme : s.scheme = Lib.toLowerA (getP h.pm kScheme)
  status : s.status = getP h.pm kStatus
  len : cl = h.len
/-- THE PLAIN LAW OF THE TWO READINGS -/
theorem both_read {req : Bool} {vOk : BS × BS → Bool} (l : List (BS × BS)) (hv : ∀ p ∈ l, vOk p = (lowOk p.1 && valOk p.2)) :
    (psAll req vOk l = none ∧ hrRead req l = none) ∨ ∃ s cl h, psAll req vOk l = some (s, cl) ∧ hrRead req l = some h ∧ RelE s cl h := by
  have hf := fit_fold (req := req) l hv {} {} (Rel.start req)
  unfold psAll hrRead
  cases h1 : psFold req vOk {} l with
  | none =>
    rw [h1] at hf
    cases h2 : hsFold req {} l with
    | none => exact .inl ⟨rfl, rfl⟩
    | some h' => rw [h2] at hf; exact hf.elim
  | some s =>
    rw [h1] at hf
    cases h2 : hsFold req {} l with
    | none =>
      rw [h2] at hf
      obtain ⟨b1, b2, b3⟩ := (hf : Bad s)
      refine .inl ⟨?_, rfl⟩
      show psEnd s = none
      unfold psEnd
      rw [if_neg b2, b3]
      rfl
    | some h =>
      rw [h2] at hf
      have r : Rel req s h := hf
      refine .inr ?_
      show ∃ s' cl h', psEnd s = some (s', cl) ∧ some (hsEnd h) = some h' ∧ RelE s' cl h'
      by_cases hc : h.ls = []
      · have hc2 : s.cls = [] := r.cls.trans hc
        refine ⟨s, -1, h, by unfold psEnd; rw [if_pos hc2], by unfold hsEnd; rw [hc]; rfl, ?_⟩
        exact ⟨r.nd, r.hd, r.kp, r.ka, r.ks, r.kr, r.km, r.kt, r.path, r.meth, r.auth, r.proto, r.scheme, r.status, (r.len0 hc).symm⟩
      · have hc2 : ¬ s.cls = [] := fun e => hc (r.cls.symm.trans e)
        obtain ⟨N, hN, hlen⟩ := r.len1 hc
        have hnp : notPs kCLength := ⟨by decide, by decide, by decide, by decide⟩
        have hK : ∀ X : BS, kCLength ≠ X → hasKey (putH s.H kCLength [s.cls]) X = hasKey s.H X := fun X hX => by
          rw [hasKey_put, show (kCLength == X) = false by simpa using hX, Bool.or_false]
        have hls : (h.ls == []) = false := by simpa using hc
        refine ⟨{ s with H := putH s.H kCLength [s.cls] }, (N : Int), { h with hd := hrAdd (setOff h.hd kCLength) kCLength h.ls }, ?_, ?_, ?_⟩
        · unfold psEnd
          rw [if_neg hc2, r.cls, hN]
          rfl
        · unfold hsEnd
          rw [hls]
          rfl
        · exact ⟨putH_nodup r.nd _ _, by show headsOf (dropPs (putH s.H kCLength [s.cls])) = _; rw [heads_setH r.nd hnp, r.hd, r.cls], (hK _ (by decide)).trans r.kp, (hK _ (by decide)).trans r.ka, (hK _ (by decide)).trans r.ks, (hK _ (by decide)).trans r.kr, r.km, r.kt, r.path, r.meth, r.auth, r.proto, r.scheme, r.status, hlen.symm⟩

theorem getP_no {m : List (BS × BS)} {k : BS} (h : hasP m k = false) : getP m k = [] := by
  unfold getP
  rw [List.find?_eq_none.2]
  · rfl
  · intro p hp
    unfold hasP at h
    exact fun e => absurd e (List.any_eq_false.1 h p hp)
/-- what the maker's lists say of their pseudo fields -/
structure Sane (pm : List (BS × BS)) : Prop where
  m_ok : getP pm kMethod = [] ∨ nameOk (getP pm kMethod) = true
  a_ok : hasAt (getP pm kAuth) = false
  p_ok : getP pm kPath = [] ∨ (Lib.hasPrefix (getP pm kPath) [47] = true ∧ uriOk (getP pm kPath) = true)
  r_ok : getP pm kProto = [] ∨ nameOk (getP pm kProto) = true
  f1 : hasP pm kScheme = true → getP pm kScheme = [] → getP pm kPath ≠ []
  f2 : hasP pm kPath = true → getP pm kPath = [] → getP pm kScheme ≠ []
  f3 : hasP pm kProto = true → getP pm kProto = [] → getP pm kMethod = kConnect ∧ getP pm kScheme ≠ []
def SameQ (a : Option RQ) (b : Option HQ) : Prop :=
  (a = none ∧ b = none) ∨ ∃ q r, a = some q ∧ b = some r ∧ q.meth = r.meth ∧ urlOf q = r.url ∧ q.proto = r.proto ∧ q.host = r.host ∧ q.uri = r.uri ∧ q.len = r.len ∧ headsOf q.H = r.hd
theorem both_requests {s : PS} {cl : Int} {h : HRS} (r : RelE s cl h) (sn : Sane h.pm) : SameQ (rqOf s cl) (hqOf h) := by
  have hau : authOf s = getP h.pm kAuth := by
    unfold authOf
    split
    · next hh =>
      simp only [Bool.and_eq_true, Bool.not_eq_true', r.ka] at hh
      exact (getP_no hh.1.2).symm
    · exact r.auth
  have hsc : (s.scheme == []) = (getP h.pm kScheme == []) := by
    rw [r.scheme]
    unfold Lib.toLowerA
    cases getP h.pm kScheme <;> rfl
  have hH : headsOf (cookH (dropPs s.H)) = hqHd h.hd := by rw [cook_heads (dropPs_nodup r.nd), r.hd]
  obtain ⟨H9, hH9⟩ : ∃ H9, cookH (dropPs s.H) = H9 := ⟨_, rfl⟩
  have hpo : getP h.pm kPath ≠ [] → pathOk s = true := fun hne => by
    unfold pathOk
    rw [r.path]
    rcases sn.p_ok with e | e
    · exact absurd e hne
    · rw [e.1]; rfl
  have huo : getP h.pm kPath ≠ [] → uriOk s.path = true := fun hne => by
    rw [r.path]
    rcases sn.p_ok with e | e
    · exact absurd e hne
    · exact e.2
  have hpa := r.path
  have hpr := r.proto
  have hm := r.meth
  have f1 := sn.f1
  have f2 := sn.f2
  have f3 := sn.f3
  have m_ok := sn.m_ok
  have r_ok := sn.r_ok
  have a_ok := sn.a_ok
  have ks := r.ks
  have kp := r.kp
  have kr := r.kr
  have hlen := r.len
  unfold rqOf hqOf hqSel
  simp only
  rw [hau, hsc, hpr, hm, hH9, a_ok]
  rw [hH9] at hH
  rw [hpa] at huo ⊢
  rw [ks, kp, kr, ← hlen]
  clear r sn hau hsc hpa hpr hm ks kp kr hlen hH9 a_ok
  obtain ⟨m, hm⟩ : ∃ m, getP h.pm kMethod = m := ⟨_, rfl⟩
  obtain ⟨pa, hpa⟩ : ∃ m, getP h.pm kPath = m := ⟨_, rfl⟩
  obtain ⟨au, hau⟩ : ∃ m, getP h.pm kAuth = m := ⟨_, rfl⟩
  obtain ⟨pr, hpr⟩ : ∃ m, getP h.pm kProto = m := ⟨_, rfl⟩
  obtain ⟨sc, hsc⟩ : ∃ m, getP h.pm kScheme = m := ⟨_, rfl⟩
  have g1 : hasP h.pm kScheme = false → sc = [] := fun e => hsc.symm.trans (getP_no e)
  have g2 : hasP h.pm kPath = false → pa = [] := fun e => hpa.symm.trans (getP_no e)
  have g3 : hasP h.pm kProto = false → pr = [] := fun e => hpr.symm.trans (getP_no e)
  rw [hm] at m_ok f3 ⊢
  rw [hpa] at f1 f2 hpo huo ⊢
  rw [hau]
  rw [hpr] at r_ok f3 ⊢
  rw [hsc] at f1 f2 f3 ⊢
  obtain ⟨hs, hhs⟩ : ∃ x, hasP h.pm kScheme = x := ⟨_, rfl⟩
  obtain ⟨hp, hhp⟩ : ∃ x, hasP h.pm kPath = x := ⟨_, rfl⟩
  obtain ⟨hr, hhr⟩ : ∃ x, hasP h.pm kProto = x := ⟨_, rfl⟩
  rw [hhs] at f1 g1 ⊢
  rw [hhp] at f2 g2 ⊢
  rw [hhr] at f3 g3 ⊢
  have hcon : (m == kConnect) = (m == [67, 79, 78, 78, 69, 67, 84]) := rfl
  rw [← hcon]
  by_cases hm0 : m = []
  · subst hm0
    refine .inl ⟨rfl, ?_⟩
    rfl
  · have hmk : nameOk m = true := m_ok.resolve_left hm0
    have hm1 : (m == []) = false := by simpa using hm0
    rw [hmk, hm1]
    simp only [Bool.not_true, Bool.false_eq_true, if_false, Bool.false_and, Bool.false_or]
    by_cases hc : m = kConnect
    · have hc1 : (m == kConnect) = true := by simpa using hc
      rw [hc1]
      by_cases hp0 : pr = []
      · subst hp0
        simp only [bne_self_eq_false, Bool.and_false, Bool.false_eq_true, if_false, if_true, Bool.not_false, Bool.true_and, Bool.not_true, Bool.false_or, Bool.false_and, Bool.and_self]
        by_cases ha0 : au = []
        · subst ha0
          refine .inl ⟨?_, ?_⟩ <;> simp
        · have ha1 : (au == []) = false := by simpa using ha0
          rw [ha1]
          cases hs
          · cases hp
            · have e1 := g1 rfl
              have e2 := g2 rfl
              subst e1 e2
              have hr0 : hr = false := by
                cases hr
                · rfl
                · exact absurd rfl (f3 rfl rfl).2
              rw [hr0]
              refine .inr ⟨_, _, rfl, rfl, rfl, ?_, rfl, rfl, rfl, rfl, hH⟩
              unfold urlOf
              rw [if_neg ha0]
              exact List.append_nil _
            · refine .inl ⟨rfl, ?_⟩
              by_cases hpz : pa = []
              · have h2 := f2 rfl hpz
                simp [h2]
              · simp [hpz]
          · refine .inl ⟨rfl, ?_⟩
            by_cases hsz : sc = []
            · have h2 := f1 rfl hsz
              simp [h2]
            · simp [hsz]
      · have hp1 : (pr != []) = true := by simpa using hp0
        have hrk : nameOk pr = true := r_ok.resolve_left hp0
        rw [hp1, hrk]
        simp only [Bool.and_self, if_true, Bool.not_true, Bool.false_or, Bool.false_and, Bool.false_eq_true, if_false, Bool.or_true, Bool.true_and]
        cases hx : (sc == [] || pa == [] || au == [])
        · have hpz : pa ≠ [] := fun e => by subst e; simp at hx
          rw [hpo hpz, huo hpz]
          refine .inr ⟨_, _, rfl, rfl, rfl, ?_, rfl, rfl, rfl, rfl, hH⟩
          rfl
        · exact .inl ⟨rfl, rfl⟩
    · have hc1 : (m == kConnect) = false := by simpa using hc
      rw [hc1]
      simp only [Bool.false_and, Bool.false_eq_true, if_false, Bool.not_false, Bool.true_or, Bool.true_and]
      cases hx : (pa == [] || au == [])
      · have hpz : pa ≠ [] := fun e => by subst e; simp at hx
        simp only [Bool.false_eq_true, if_false, Bool.false_or]
        cases hr
        · have e3 := g3 rfl
          subst e3
          rw [hpo hpz, huo hpz]
          refine .inr ⟨_, _, rfl, rfl, rfl, ?_, rfl, rfl, rfl, rfl, hH⟩
          rfl
        · have hp0 : pr ≠ [] := fun e => hc (f3 rfl e).1
          have hp1 : (pr != []) = true := by simpa using hp0
          rw [hp1]
          exact .inl ⟨rfl, rfl⟩
      · exact .inl ⟨rfl, rfl⟩

theorem pm_step {req : Bool} {h h' : HRS} {p : BS × BS} (e : hsStep req h p = some h') : (pseudoB p.1 = false ∧ h'.pm = h.pm) ∨ (hasP h.pm p.1 = false ∧ h'.pm = h.pm ++ [p]) := by
  unfold hsStep at e
  split at e
  · cases e
  · split at e
    · unfold hsPs at e
      split at e
      · cases e
      · next hh =>
        injection e with e
        subst e
        refine .inr ⟨?_, rfl⟩
        cases hx : hasP h.pm p.1
        · rfl
        · rw [hx] at hh; simp at hh
    · next hp =>
      refine .inl ⟨by simpa using hp, ?_⟩
      unfold hsRg at e
      split at e
      · cases e
      · split at e
        · injection e with e; subst e; rfl
        · split at e
          · cases e
          · split at e
            · injection e with e; subst e; rfl
            · obtain ⟨n, _, e⟩ := Option.map_eq_some_iff.1 e
              subst e
              rfl
def KeysOnce (pm : List (BS × BS)) : Prop := (pm.map Prod.fst).Nodup
theorem hasP_mem {pm : List (BS × BS)} {k : BS} : hasP pm k = true ↔ k ∈ pm.map Prod.fst := by
  unfold hasP
  rw [List.any_eq_true]
  constructor
  · rintro ⟨q, hq, e⟩
    exact List.mem_map.2 ⟨q, hq, by simpa using e⟩
  · intro hk
    obtain ⟨q, hq, rfl⟩ := List.mem_map.1 hk
    exact ⟨q, hq, by simp⟩
theorem pm_fold {req : Bool} (l : List (BS × BS)) : ∀ h h', hsFold req h l = some h' → KeysOnce h.pm → KeysOnce h'.pm ∧ (∀ q ∈ h'.pm, q ∈ h.pm ∨ q ∈ l) ∧ (∀ q ∈ h.pm, q ∈ h'.pm) ∧ ∀ q ∈ l, pseudoB q.1 = true → q ∈ h'.pm := by
  induction l with
  | nil =>
    intro h h' e hk
    injection e with e
    subst e
    exact ⟨hk, fun q hq => .inl hq, fun q hq => hq, fun q hq => by cases hq⟩
  | cons p t ih =>
    intro h h' e hk
    have e1 : hsFold req h (p :: t) = (hsStep req h p).bind fun h1 => hsFold req h1 t := rfl
    rw [e1] at e
    cases hs : hsStep req h p with
    | none => rw [hs] at e; cases e
    | some h1 =>
      rw [hs] at e
      have e : hsFold req h1 t = some h' := e
      rcases pm_step hs with ⟨hp, hpm⟩ | ⟨hno, hpm⟩
      · obtain ⟨a, b, c, d⟩ := ih h1 h' e (by unfold KeysOnce; rw [hpm]; exact hk)
        refine ⟨a, fun q hq => ?_, fun q hq => c q (by rw [hpm]; exact hq), fun q hq hq2 => ?_⟩
        · rcases b q hq with h2 | h2
          · rw [hpm] at h2; exact .inl h2
          · exact .inr (List.mem_cons_of_mem _ h2)
        · rcases List.mem_cons.1 hq with rfl | hq
          · rw [hp] at hq2; cases hq2
          · exact d q hq hq2
      · have hk1 : KeysOnce h1.pm := by
          unfold KeysOnce
          rw [hpm, List.map_append, List.nodup_append]
          refine ⟨hk, by simp, fun a ha b hb => ?_⟩
          simp only [List.map_cons, List.map_nil, List.mem_singleton] at hb
          subst hb
          rintro rfl
          rw [← hasP_mem, hno] at ha
          cases ha
        obtain ⟨a, b, c, d⟩ := ih h1 h' e hk1
        refine ⟨a, fun q hq => ?_, fun q hq => c q (by rw [hpm]; exact List.mem_append_left _ hq), fun q hq hq2 => ?_⟩
        · rcases b q hq with h2 | h2
          · rw [hpm] at h2
            rcases List.mem_append.1 h2 with h2 | h2
            · exact .inl h2
            · rw [List.mem_singleton] at h2
              rw [h2]
              exact .inr List.mem_cons_self
          · exact .inr (List.mem_cons_of_mem _ h2)
        · rcases List.mem_cons.1 hq with rfl | hq
          · exact c _ (by rw [hpm]; simp)
          · exact d q hq hq2
theorem getP_mem {pm : List (BS × BS)} {k : BS} (h : hasP pm k = true) : (k, getP pm k) ∈ pm := by
  unfold getP
  cases hf : pm.find? fun p => p.1 == k with
  | none =>
    unfold hasP at h
    obtain ⟨q, hq, e⟩ := List.any_eq_true.1 h
    exact absurd e (List.find?_eq_none.1 hf q hq)
  | some q =>
    have h1 := List.mem_of_find?_eq_some hf
    have h2 := List.find?_some hf
    have h3 : q.1 = k := by simpa using h2
    subst h3
    exact h1
theorem getP_of {pm : List (BS × BS)} (hk : KeysOnce pm) {k v : BS} (h : (k, v) ∈ pm) : getP pm k = v ∧ hasP pm k = true := by
  have h1 : hasP pm k = true := hasP_mem.2 (List.mem_map.2 ⟨_, h, rfl⟩)
  refine ⟨?_, h1⟩
  have h2 := getP_mem h1
  unfold KeysOnce at hk
  induction pm with
  | nil => cases h
  | cons a t ih =>
    rw [List.map_cons, List.nodup_cons] at hk
    unfold getP
    rw [List.find?_cons]
    rcases List.mem_cons.1 h with rfl | h
    · simp
    · have hne : (a.1 == k) = false := by
        rw [beq_eq_false_iff_ne]
        exact fun e => hk.1 (List.mem_map.2 ⟨_, h, e.symm⟩)
      rw [hne]
      have h3 : hasP t k = true := hasP_mem.2 (List.mem_map.2 ⟨_, h, rfl⟩)
      exact ih hk.2 h h3 (getP_mem h3)
/-- a list of fields that the maker of requests makes -/
structure MadeQ (l : List (BS × BS)) : Prop where
  m_ok : ∀ v, (kMethod, v) ∈ l → v = [] ∨ nameOk v = true
  a_ok : ∀ v, (kAuth, v) ∈ l → hasAt v = false
  p_ok : ∀ v, (kPath, v) ∈ l → v = [] ∨ (Lib.hasPrefix v [47] = true ∧ uriOk v = true)
  r_ok : ∀ v, (kProto, v) ∈ l → v = [] ∨ nameOk v = true
  f1 : (kScheme, []) ∈ l → ∃ v, v ≠ [] ∧ (kPath, v) ∈ l
  f2 : (kPath, []) ∈ l → ∃ v, v ≠ [] ∧ (kScheme, v) ∈ l
  f3 : (kProto, []) ∈ l → (kMethod, kConnect) ∈ l ∧ ∃ v, v ≠ [] ∧ (kScheme, v) ∈ l
theorem sane_of {l : List (BS × BS)} (m : MadeQ l) {h : HRS} (e : hrRead true l = some h) : Sane h.pm := by
  unfold hrRead at e
  obtain ⟨h0, e0, rfl⟩ := Option.map_eq_some_iff.1 e
  have hpm : (hsEnd h0).pm = h0.pm := by unfold hsEnd; split <;> rfl
  rw [hpm]
  obtain ⟨hk, hsub, _, hall⟩ := pm_fold l {} h0 e0 (by unfold KeysOnce; simp)
  have hin : ∀ k, hasP h0.pm k = true → (k, getP h0.pm k) ∈ l := fun k hx => by
    rcases hsub _ (getP_mem hx) with h1 | h1
    · cases h1
    · exact h1
  have val : ∀ (k : BS) (Q : BS → Prop), Q [] → (∀ v, (k, v) ∈ l → Q v) → Q (getP h0.pm k) := fun k Q q0 q1 => by
    cases hx : hasP h0.pm k
    · rw [getP_no hx]; exact q0
    · exact q1 _ (hin k hx)
  have at_ : ∀ k v, pseudoB k = true → (k, v) ∈ l → getP h0.pm k = v := fun k v hp hm => (getP_of hk (hall _ hm hp)).1
  exact {
    m_ok := val kMethod (fun v => v = [] ∨ nameOk v = true) (.inl rfl) m.m_ok
    a_ok := val kAuth (fun v => hasAt v = false) rfl m.a_ok
    p_ok := val kPath (fun v => v = [] ∨ (Lib.hasPrefix v [47] = true ∧ uriOk v = true)) (.inl rfl) m.p_ok
    r_ok := val kProto (fun v => v = [] ∨ nameOk v = true) (.inl rfl) m.r_ok
    f1 := fun hx h0' => by
      have h1 := hin _ hx
      rw [h0'] at h1
      obtain ⟨v, hv, hm⟩ := m.f1 h1
      rw [at_ kPath v (by decide) hm]
      exact hv
    f2 := fun hx h0' => by
      have h1 := hin _ hx
      rw [h0'] at h1
      obtain ⟨v, hv, hm⟩ := m.f2 h1
      rw [at_ kScheme v (by decide) hm]
      exact hv
    f3 := fun hx h0' => by
      have h1 := hin _ hx
      rw [h0'] at h1
      obtain ⟨h2, v, hv, hm⟩ := m.f3 h1
      exact ⟨at_ kMethod _ (by decide) h2, by rw [at_ kScheme v (by decide) hm]; exact hv⟩ }

theorem lowerB_eq (c : UInt8) : (Lib.lowerB c == c) = lowC c.toNat := by
  have hu : Lib.isUpperB c = (decide (65 ≤ c.toNat) && decide (c.toNat ≤ 90)) := by
    unfold Lib.isUpperB
    first
      | rfl
      | (simp [UInt8.le_iff_toNat_le])
  unfold Lib.lowerB lowC
  rw [hu]
  by_cases h : 65 ≤ c.toNat ∧ c.toNat ≤ 90
  · have h1 : (c + 32).toNat = c.toNat + 32 := by
      rw [UInt8.toNat_add]
      show (c.toNat + 32) % 256 = c.toNat + 32
      omega
    have h2 : c + 32 ≠ c := fun e => by rw [e] at h1; omega
    simp [h, h2]
  · have h3 : (decide (65 ≤ c.toNat) && decide (c.toNat ≤ 90)) = false := by
      rw [Bool.and_eq_false_iff]
      simp only [decide_eq_false_iff_not]
      omega
    rw [h3]
    simp
theorem lower_low (l : BS) : (Lib.toLowerA l == l) = lowOk l := by
  induction l with
  | nil => rfl
  | cons c t ih =>
    have e : (Lib.toLowerA (c :: t) == c :: t) = ((Lib.lowerB c == c) && (Lib.toLowerA t == t)) := rfl
    rw [e, ih, lowerB_eq]
    rfl
end Go.Proofs.YtgcfnhchmmkndaaGreatDoor
