/- spec.HRTrailers. -/
import Derived.Test.YtgcfnhchmmkndaaGreatDoorC1
namespace Go.Proofs.YtgcfnhchmmkndaaGreatDoor
open Go.RowKit Go.Maps
set_option linter.unusedVariables false
set_option maxRecDepth 100000

theorem rcanon_at' (l : BS) (w : World) (hs : l.length ≤ 2147483648) : Calls Tryz.prog 37 #[str l] w fun e w' => e = .returned (str (canonOut l)) ∧ Below w.heap.size w w' := by
  have := rcanon_at ⟨l.toArray⟩ w (by show l.toArray.size ≤ _; rw [List.size_toArray]; exact hs)
  simpa using this

def hrFold (l : List (BS × BS)) : List (BS × List BS) := l.foldl (fun H p => hrAdd H (canonOut p.1) p.2) []
def rtOk (p : BS × BS) : Bool := match p.1 with | [] => false | c :: _ => c.toNat != 58

theorem hrAdd_len (H : List (BS × List BS)) (k v : BS) : (hrAdd H k v).length ≤ H.length + 1 := by
  induction H with
  | nil => simp [hrAdd]
  | cons p t ih =>
    unfold hrAdd
    split
    · simpa using ih
    · split <;> simp
theorem hrAdd_items {H : List (BS × List BS)} {m : Nat} (h : ∀ q ∈ H, q.2.length ≤ m) (k v : BS) : ∀ q ∈ hrAdd H k v, q.2.length ≤ m + 1 := by
  induction H with
  | nil => intro q hq; simp [hrAdd] at hq; subst hq; simp
  | cons p t ih =>
    have ht : ∀ q ∈ t, q.2.length ≤ m := fun q hq => h q (List.mem_cons_of_mem _ hq)
    have hp := h p (List.mem_cons_self)
    intro q hq
    unfold hrAdd at hq
    split at hq
    · rcases List.mem_cons.1 hq with rfl | hq
      · exact Nat.le_succ_of_le hp
      · exact ih ht q hq
    · split at hq
      · rcases List.mem_cons.1 hq with rfl | hq
        · simpa using hp
        · exact Nat.le_succ_of_le (ht q hq)
      · rcases List.mem_cons.1 hq with rfl | hq
        · simp
        · rcases List.mem_cons.1 hq with rfl | hq
          · exact Nat.le_succ_of_le hp
          · exact Nat.le_succ_of_le (ht q hq)

def RTPost (w : World) (l : List (BS × BS)) (e : Ending) (w' : World) : Prop :=
  ∃ v es, e = .returned (.tuple #[v, .bool (l.all rtOk)]) ∧ HL w' w.heap.size v es ∧ absE es = (if l.all rtOk then hrFold l else []) ∧ Below w.heap.size w w'

/-- between the rounds -/
structure RTat (w wx : World) (l : List (BS × BS)) (k : Nat) (v : Value) (xs : List Ent) : Prop where
  hl : HL wx w.heap.size v xs
  ab : absE xs = hrFold (l.take k)
  len : xs.length ≤ k
  items : ∀ e ∈ xs, e.items.length ≤ k
  bel : Below w.heap.size w wx
  ok : (l.take k).all rtOk = true

theorem RTat.next {w wx w' : World} {l : List (BS × BS)} {k : Nat} {v v' : Value} {xs xs' : List Ent} {nm vl : BS} (h : RTat w wx l k v xs) (hk : k < l.length) (hp : l[k] = (nm, vl)) (hok : rtOk (nm, vl) = true)
    (h1 : HL w' w.heap.size v' xs') (h2 : absE xs' = hrAdd (absE xs) (canonOut nm) vl) (h3 : Below wx.heap.size wx w') : RTat w w' l (k + 1) v' xs' where
  hl := h1
  ab := by
    rw [h2, h.ab, List.take_succ_eq_append_getElem hk, hp]
    simp [hrFold]
  len := by
    have := absE_len h2
    have h4 := hrAdd_len (absE xs) (canonOut nm) vl
    have h5 : (absE xs).length = xs.length := by simp [absE]
    have := h.len
    omega
  items := fun e he => by
    have hm : (e.key, e.items) ∈ absE xs' := List.mem_map_of_mem (f := fun e : Ent => (e.key, e.items)) he
    rw [h2] at hm
    refine hrAdd_items (m := k) (fun q hq => ?_) _ _ _ hm
    obtain ⟨e2, he2, rfl⟩ := List.mem_map.1 hq
    exact h.items e2 he2
  bel := Below.next h.bel h.bel.size h3
  ok := by rw [List.take_succ_eq_append_getElem hk, hp, List.all_append, h.ok]; simp [hok]

set_option maxHeartbeats 4000000 in
theorem rt_at (A : Option Addr) (c : Nat) (l : List (BS × BS)) (w : World) (hR : Reads w w.heap.size 2 A l.length (fc l)) (hc : l.length ≤ c) (hln : l.length ≤ 900000) (hnm : ∀ p ∈ l, p.1.length ≤ 2147483648) :
    Calls Tryz.prog 17 #[.slice A l.length c] w (RTPost w l) := by
  have HR := Lib.hid hR
  have HNM := Lib.hid hnm
  clear hR hnm
  go_enter Tryz.func17, Tryz.ntmps17
  go_wp2_with fail
  go_loopw [4, 9] (fun s4 s9 wx => ∃ (k : Nat) (xs : List Ent), k ≤ l.length ∧ s9 = .int .i64 (k : Int) ∧ RTat w wx l k s4 xs) (fun _ s9 _ => l.length - (intOf s9).toNat)
  case atStart => exact ⟨0, [], by omega, rfl, HL.nil _ _, rfl, Nat.le_refl _, (fun e he => by cases he), Below.refl _ _, rfl⟩
  case round =>
    obtain ⟨k, xs, hk, rfl, hS⟩ := hrel
    obtain ⟨A4, c4, rfl⟩ := row_form hS.hl.row
    have HS := Lib.hid hS
    clear hS
    rcases Nat.lt_or_ge k l.length with hkl | hkl
    · obtain ⟨b, o, rfl, hb, hcl⟩ := reads_fields (HR.out.below HS.out.bel) (by omega)
      obtain ⟨e0, e1⟩ := hcl k hkl
      obtain ⟨⟨nm, vl⟩, hpq⟩ : ∃ pq, l[k] = pq := ⟨_, rfl⟩
      rw [hpq] at e0 e1
      simp only at e0 e1
      have hnl : nm.length ≤ 2147483648 := HNM.out (nm, vl) (hpq ▸ List.getElem_mem hkl)
      have HPQ := Lib.hid hpq
      clear hpq hcl
      have HNEXT : Hid (∀ (w' : World) (v' : Value) (xs' : List Ent), rtOk (nm, vl) = true → HL w' w.heap.size v' xs' → absE xs' = hrAdd (absE xs) (canonOut nm) vl → Below wr.heap.size wr w' → RTat w w' l (k + 1) v' xs') := Lib.hid (fun w' v' xs' h0 h1 h2 h3 => HS.out.next hkl HPQ.out h0 h1 h2 h3)
      have HBAD : Hid (rtOk (nm, vl) = false → RTPost w l (.returned (.tuple #[.slice none 0 0, .bool false])) (wr.alloc (.cells #[str nm, str vl] 42))) := Lib.hid (fun h => by
        have hall : l.all rtOk = false := by
          rw [List.all_eq_false]
          exact ⟨l[k], List.getElem_mem hkl, by rw [HPQ.out, h]; decide⟩
        exact ⟨_, [], by rw [hall], HL.nil _ _, by rw [hall]; rfl, Below.alloc HS.out.bel HS.out.bel.size _⟩)
      cases nm with
      | nil =>
        go_wp2_with fail
        go_ret2
        exact HBAD.out rfl
      | cons c0 t =>
        by_cases h58 : c0.toNat = 58
        · have hz0 : 0 < (⟨(c0 :: t).toArray⟩ : ByteArray).size := by show 0 < (c0 :: t).toArray.size; simp
          have f58 : ((((⟨(c0 :: t).toArray⟩ : ByteArray)[0]'hz0).toNat : Int) == 58) = true := by show ((c0.toNat : Int) == 58) = true; simp [h58]
          go_wp2_with fail
          go_ret2
          exact HBAD.out (by simp [rtOk, h58])
        · have hz0 : 0 < (⟨(c0 :: t).toArray⟩ : ByteArray).size := by show 0 < (c0 :: t).toArray.size; simp
          have f58 : ((((⟨(c0 :: t).toArray⟩ : ByteArray)[0]'hz0).toNat : Int) == 58) = false := by show ((c0.toNat : Int) == 58) = false; simp; omega
          clear HBAD
          have hok : rtOk (c0 :: t, vl) = true := by simp [rtOk, h58]
          have hxl : xs.length ≤ 900000 := by have := HS.out.len; omega
          have hxi : ∀ e ∈ xs, e.items.length ≤ 900000 := fun e he => by have := HS.out.items e he; omega
          have hwb : w.heap.size ≤ wr.heap.size := HS.out.bel.size
          have hlt : wr.heap.size < (wr.alloc (.cells #[str (c0 :: t), str vl] 42)).heap.size := by simp
          have q0 : (wr.alloc (.cells #[str (c0 :: t), str vl] 42)).cell? ⟨wr.heap.size, 0, none⟩ = some (str (c0 :: t)) := by simp
          have q1 : (wr.alloc (.cells #[str (c0 :: t), str vl] 42)).cell? ⟨wr.heap.size, 1, none⟩ = some (str vl) := by simp
          have hba := below_new wr (.cells #[str (c0 :: t), str vl] 42)
          have KC := fun W => rcanon_at' (c0 :: t) W hnl
          have KA := fun W (h : Below (wr.alloc (.cells #[str (c0 :: t), str vl] 42)).heap.size (wr.alloc (.cells #[str (c0 :: t), str vl] 42)) W) =>
            hradd_at (canonOut (c0 :: t)) vl w.heap.size (.slice A4 xs.length c4) xs W ((HS.out.hl.below hba).below h) (by have := h.size; omega) hxl hxi
          go_upto_region 7 with fail
          go_region_with (first
            | (go_at_call 37; refine (KC _).mono ?_; rintro e w2 ⟨rfl, hb2⟩; have hB : Below (wr.alloc (.cells #[str (c0 :: t), str vl] 42)).heap.size (wr.alloc (.cells #[str (c0 :: t), str vl] 42)) w2 := (by first | exact hb2 | exact Below.nextD (Below.refl _ _) (Nat.le_refl _) hb2); have z0 := (hB.cell (p := ⟨wr.heap.size, 0, none⟩) hlt).trans q0; have z1 := (hB.cell (p := ⟨wr.heap.size, 1, none⟩) hlt).trans q1)
            | (go_at_call 36; refine (KA _ (by assumption)).mono ?_; rintro e w3 ⟨v3, es3, rfl, hL3, hA3, hb3, hown3⟩))
          all_goals go_wp2_with fail
          all_goals exact ⟨⟨k + 1, es3, hkl, by go_num, HNEXT.out _ _ _ hok hL3 hA3 (by
            have h1 : Below wr.heap.size wr w2 := Below.next hba hba.size hB
            first | exact Below.next h1 h1.size hb3 | exact Below.nextD h1 h1.size hb3)⟩, by simp [intOf]; omega⟩
    · have e : k = l.length := by omega
      subst e
      have hall : l.all rtOk = true := by have := HS.out.ok; rwa [List.take_length] at this
      have hab : absE xs = hrFold l := by have := HS.out.ab; rwa [List.take_length] at this
      have HP : Hid (RTPost w l (.returned (.tuple #[.slice A4 xs.length c4, .bool true])) wr) := Lib.hid ⟨_, xs, by rw [hall], HS.out.hl, by rw [hall, hab]; rfl, HS.out.bel⟩
      clear hall hab
      have f1 : decide ((l.length : Int) < (l.length : Int)) = false := by simp
      go_wp2_with fail
      go_ret2
      exact HP.out
end Go.Proofs.YtgcfnhchmmkndaaGreatDoor
