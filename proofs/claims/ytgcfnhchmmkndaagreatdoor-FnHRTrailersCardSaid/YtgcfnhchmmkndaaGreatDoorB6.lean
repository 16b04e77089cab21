/- impl.heads. -/
import Derived.Test.YtgcfnhchmmkndaaGreatDoorB5
namespace Go.Proofs.YtgcfnhchmmkndaaGreatDoor
open Go.RowKit Go.Maps
set_option linter.unusedVariables false
set_option maxRecDepth 100000

set_option maxHeartbeats 2000000 in
theorem names_nil (w : World) : Calls Tryz.prog 41 #[.map none] w (NamesPost w []) := by
  have hrg := run_range_nilMap (P := Tryz.prog) w 78 9 29 Tryz.underlying78
  have hnx : ∀ ty, (Instr.next (.pointer (some ⟨w.heap.size, 0, none⟩)) false ty).run Tryz.prog (w.alloc (.mapIter none 0 #[] 0)) = _ := fun ty => run_next_nilMap w ty 0 0 #[]
  have hbel := below_new w (.mapIter none 0 #[] 0)
  obtain ⟨w1, hw1⟩ : ∃ w1 : World, (w.alloc (.mapIter none 0 #[] 0)) = w1 := ⟨_, rfl⟩
  rw [hw1] at hrg hnx hbel
  obtain ⟨it, hit⟩ : ∃ it, w.heap.size = it := ⟨_, rfl⟩
  rw [hit] at hrg hnx
  have HBel := Lib.hid hbel
  clear hbel hw1 hit
  have HSrt := Tryz.sort_Strings_none none 0 w1
  go_enter Tryz.func41, Tryz.ntmps41
  go_wp2_with fail
  refine wp_loop_rounds 1 ?_
  rw [rounds_succ]
  go_wp2_with (go_at_call 54; refine HSrt.mono ?_; rintro e w9 ⟨rfl, rfl⟩)
  go_ret
  exact ⟨none, 0, rfl, ⟨by simp [scells, sortK], fun h => by simp at h⟩, Nat.le_refl _, HBel.out⟩

def hcells (es : List Ent) : List Value := es.flatMap fun e => [str e.key, e.val]
theorem hcells_len (l : List Ent) : (hcells l).length = l.length * 2 := by
  induction l with
  | nil => rfl
  | cons p l ih => simp only [hcells, List.flatMap_cons, List.length_append, List.length_cons, List.length_nil] at ih ⊢; omega
theorem hcells_append (a b : List Ent) : hcells (a ++ b) = hcells a ++ hcells b := by simp [hcells]

/-- what an entry's slice reads as -/
structure ItemsAt (w : World) (own : Option Nat) (e : Ent) : Prop where
  ex : ∃ A c, e.val = .slice A e.items.length c ∧ Reads w w.heap.size 1 A e.items.length (scells e.items) ∧ e.items.length ≤ c ∧ (0 < e.items.length → ∀ ad, A = some ad → own ≠ some ad.block)

/-- a list of heads in memory -/
structure HL (w : World) (base : Nat) (v : Value) (es : List Ent) : Prop where
  row : w.ownsRow base 72 2 v es.length (hcells es)
  vals : ∀ e ∈ es, ItemsAt w v.ownBlock e
  lo : ∀ e ∈ es, 0 < e.items.length → ∀ g, e.val.ownBlock = some g → base ≤ g

theorem ItemsAt.grown {w w' : World} {own r : Option Nat} {e : Ent} (h : ItemsAt w own e) (g : w.grownBy w' r) (hr : 0 < e.items.length → ∀ A c ad, e.val = .slice A e.items.length c → A = some ad → r ≠ some ad.block) : ItemsAt w' own e where
  ex := by
    obtain ⟨A, c, h1, h2, h3, h4⟩ := h.ex
    refine ⟨A, c, h1, ?_, h3, h4⟩
    refine Reads.more ⟨h2.1, fun hn => ?_⟩ g.size
    obtain ⟨ad, e1, hb, hc⟩ := h2.2 hn
    refine ⟨ad, e1, hb, fun j u hu => ?_⟩
    refine (World.cell?_of_block (g.block _ ?_ ?_)).trans (hc j u hu)
    · rw [block_of_add]; exact hb
    · rw [block_of_add]; exact fun e2 => hr hn A c ad h1 e1 e2.symm
theorem HL.below {w w' : World} {base : Nat} {v : Value} {es : List Ent} (h : HL w base v es) (k : Below w.heap.size w w') : HL w' base v es where
  row := h.row.kept (grown_below k) (by cases v.ownBlock <;> simp)
  vals := fun e he => (h.vals e he).grown (grown_below k) (fun _ _ _ _ _ _ => by simp)
  lo := h.lo
theorem HL.nil (w : World) (base : Nat) : HL w base (.slice none 0 0) [] := ⟨World.ownsRow_nil _ _ _ _, fun e he => by simp at he, fun e he => by simp at he⟩
theorem HL.base {w : World} {base base' : Nat} {v : Value} {es : List Ent} (h : HL w base v es) (hb : base' ≤ base) : HL w base' v es := ⟨own_base h.row hb, h.vals, fun e he hn g hg => Nat.le_trans hb (h.lo e he hn g hg)⟩
theorem HL.grown {w w' : World} {base r : Nat} {v : Value} {es : List Ent} (h : HL w base v es) (g : w.grownBy w' (some r)) (hr : r < base) : HL w' base v es where
  row := h.row.kept g (.inr (fun e => by have := (h.row.lt _ e).1; omega))
  vals := fun e he => (h.vals e he).grown g (fun hn A c ad hv hA e2 => by
    injection e2 with e2
    have := h.lo e he hn ad.block (by rw [hv, hA]; rfl)
    omega)
  lo := h.lo

theorem info72 : (Tryz.prog.info? 72).map (fun i => (i.zero, i.size, i.bytes)) = some (some (.agg #[str [], .slice none 0 0]), 2, 40) := by kernel_rfl

/-- an append of one entry, whose slice is new or elsewhere -/
theorem HL.snoc {w w' : World} {base : Nat} {v v' : Value} {es : List Ent} {x : Ent} (h : HL w base v es) (g : w.grownBy w' v.ownBlock) (hx : ItemsAt w' v'.ownBlock x)
    (row : w'.ownsRow base 72 2 v' (es.length + 1) (hcells es ++ [str x.key, x.val])) (hat : v'.ownBlock = v.ownBlock ∨ ∃ j, v'.ownBlock = some j ∧ w.heap.size ≤ j) (hlo : 0 < x.items.length → ∀ g, x.val.ownBlock = some g → base ≤ g) : HL w' base v' (es ++ [x]) where
  lo := fun e he => by
    rcases List.mem_append.1 he with he | he
    · exact h.lo e he
    · rw [List.mem_singleton] at he
      subst he
      exact hlo
  row := by
    rw [hcells_append, List.length_append, List.length_singleton]
    exact row
  vals := fun e he => by
    rcases List.mem_append.1 he with he | he
    · obtain ⟨A, c, h1, h2, h3, h4⟩ := (h.vals e he).ex
      have := (h.vals e he).grown g (fun hn A' c' ad hv hA => by
        rw [h1] at hv
        injection hv with hv1 hv2 hv3
        subst hv1
        exact h4 hn ad hA)
      obtain ⟨A', c', h1', h2', h3', h4'⟩ := this.ex
      refine ⟨A', c', h1', h2', h3', fun hn ad e1 => ?_⟩
      rw [h1] at h1'
      injection h1' with i1 i2 i3
      subst i1
      rcases hat with ha | ⟨j, ha, hj⟩
      · rw [ha]; exact h4 hn ad e1
      · rw [ha]
        intro e2
        injection e2 with e2
        obtain ⟨ad', e3, hb, _⟩ := h2.2 hn
        rw [e1] at e3
        injection e3 with e3
        subst e3
        omega
    · rw [List.mem_singleton] at he
      subst he
      exact hx

theorem reads_strs {w : World} {B n : Nat} {A : Option Addr} {l : List BS} (h : Reads w B 1 A n (scells l)) (hn : 0 < n) :
    ∃ b o, A = some ⟨b, o, none⟩ ∧ b < B ∧ l.length = n ∧ ∀ k, (hk : k < l.length) → w.cell? ⟨b, o + k, none⟩ = some (str l[k]) := by
  obtain ⟨ad, e, hb, hc⟩ := h.2 hn
  have hl : l.length = n := by have := h.1; rw [scells_len] at this; omega
  have h0 := hc 0 (str (l[0]'(by omega))) (by simp [scells, List.getElem?_eq_getElem (show 0 < l.length by omega)])
  obtain ⟨b, o, spot⟩ := ad
  have hspot : spot = none := by simpa [Addr.add] using World.cell?_spot h0
  subst hspot
  refine ⟨b, o, e, hb, hl, fun k hk => ?_⟩
  have := hc k (str l[k]) (by simp [scells, List.getElem?_eq_getElem hk])
  rwa [Addr.add_lit] at this
theorem scells_one (l : List BS) : ∀ u ∈ scells l, u.oneCell' = true := fun u hu => by obtain ⟨b, _, rfl⟩ := List.mem_map.1 hu; rfl
theorem row_cap {w : World} {base size n c : Nat} {e : TypeId} {A : Option Addr} {xs : List Value} (h : w.ownsRow base e size (.slice A n c) n xs) : n ≤ c := by
  rcases h.2 with ⟨e1, e2⟩ | ⟨g, cap, cur, e1, _, _, e2, _⟩
  · omega
  · injection e1 with _ _ e4; omega

def HeadsPost (w : World) (H : List (BS × List BS)) (e : Ending) (w' : World) : Prop := ∃ v es, e = .returned v ∧ HL w' w.heap.size v es ∧ absE es = H ∧ Below w.heap.size w w'
/-- the names in order, each with its values -/
def headsOf (H : List (BS × List BS)) : List (BS × List BS) := (sortK (H.map Prod.fst)).map fun k => (k, getH H k)

set_option maxHeartbeats 4000000 in
theorem heads_at (base b n : Nat) (es : List Ent) (w : World) (h : Hdr w base b n es) (hn : n ≤ 900000) (hes : es.length ≤ n) (hil : ∀ e ∈ es, e.items.length ≤ 900000) : Calls Tryz.prog 35 #[.map (some b)] w (HeadsPost w (headsOf (absE es))) := by
  have KN := names_at base b n es w h hn hes
  have HH := Lib.hid h
  have HIL := Lib.hid hil
  obtain ⟨ks, hks⟩ : ∃ ks, sortK (es.map Ent.key) = ks := ⟨_, rfl⟩
  have hkl : ks.length = (es.map Ent.key).length := by rw [← hks, sortK_len]
  have HKS : Hid (headsOf (absE es) = ks.map fun k => (k, getH (absE es) k)) := Lib.hid (by
    unfold headsOf
    rw [← hks]
    unfold absE
    rw [List.map_map]
    rfl)
  have hkk : ∀ k ∈ ks, k.length ≤ 2147483648 := fun k hk => by
    rw [← hks] at hk
    obtain ⟨e, he, rfl⟩ := List.mem_map.1 ((sortK_perm _).mem_iff.1 hk)
    exact h.klen e he
  have HKK := Lib.hid hkk
  have hkn : ks.length ≤ 900000 := by rw [hkl]; simp; omega
  unfold NamesPost at KN
  rw [hks, ← hkl] at KN
  clear h hil hks hkk hkl
  go_enter Tryz.func35, Tryz.ntmps35
  go_wp2_with fail
  refine KN.mono ?_
  rintro e w1 ⟨A, c, rfl, hR, hc, hb1⟩
  have HR := Lib.hid hR
  have HB1 := Lib.hid hb1
  clear KN hR hb1
  go_wp2_with fail
  go_loopw [3, 9] (fun s3 s9 wx => ∃ (k : Nat) (v : Value) (xs : List Ent), k ≤ ks.length ∧ s9 = .int .i64 (k : Int) ∧ s3 = v ∧ HL wx w1.heap.size v xs ∧ xs.length = k ∧ absE xs = (ks.take k).map (fun k => (k, getH (absE es) k)) ∧ Below w.heap.size w wx ∧ w1.grownBy wx none) (fun _ s9 _ => ks.length - (intOf s9).toNat)
  case atStart => exact ⟨0, _, [], by omega, rfl, rfl, HL.nil _ _, rfl, rfl, HB1.out, World.grownBy.refl _ _⟩
  case round =>
    obtain ⟨k, v, xs, hk, rfl, rfl, hL, rfl, hab, hbel, hg⟩ := hrel
    obtain ⟨A3, c3, rfl⟩ := row_form hL.row
    have HL0 := Lib.hid hL
    have HAB := Lib.hid hab
    have HB := Lib.hid hbel
    have HG := Lib.hid hg
    clear hL hab hbel hg
    rcases Nat.lt_or_ge xs.length ks.length with hkl | hkl
    · obtain ⟨b1, o1, rfl, hb1, _, hcs⟩ := reads_strs (HR.out.grown HG.out (Nat.le_refl _) (fun g hg => by cases hg)) (by omega)
      have e0 := hcs xs.length hkl
      have hnk := HKK.out (ks[xs.length]) (List.getElem_mem hkl)
      obtain ⟨nk, hnke⟩ : ∃ nk, ks[xs.length] = nk := ⟨_, rfl⟩
      rw [hnke] at e0 hnk
      have HNK := Lib.hid hnke
      obtain ⟨A2, c2, items, hrun, hslot⟩ := (HH.out.below HB.out).slot nk hnk
      have hil : items.length ≤ 900000 := by
        rcases hslot.src with h | ⟨e, he, h⟩
        · rw [h]; simp
        · rw [h]; exact HIL.out e he
      have hRd := Reads.of_own hslot.row
      have hone := scells_one items
      have HSL := Lib.hid hslot
      obtain ⟨i9, hi9, hz0, hz1, hz2⟩ := info_parts info9
      clear hcs hslot hnke
      go_wp2_with (refine wpList_append_any _ rfl (.const (.slice none 0 0)) (.tmp 17) 29 rfl wr.heap.size 9 i9 (.string ⟨#[]⟩) 1 16 Tryz.underlying29 hi9 hz0 hz1 hz2 rfl (by decide) (.slice none 0 0) 0 [] rfl (World.ownsRow_nil _ _ _ _) wr.heap.size A2 items.length c2 (scells items) rfl hRd hone ?c1 ?c2 ?c3 ?_)
      case c1 => unfold maxLen; omega
      case c2 => omega
      intro v5 w5 hrow5 hg5 hat5
      obtain ⟨A5, c5, rfl⟩ := row_form hrow5
      have HROW5 := Lib.hid hrow5
      have HG5 := Lib.hid hg5
      have hg5n : wr.grownBy w5 none := hg5
      have hbel5 : Below wr.heap.size wr w5 := ⟨hg5n.os, hg5n.tape, hg5n.output, hg5n.size, fun j hj => hg5n.block j hj (by simp)⟩
      have HL5 := Lib.hid (HL0.out.below hbel5)
      have HB5 := Lib.hid hbel5
      have hrow6 := HL5.out.row.alloc (.cells #[str nk, .slice A5 items.length c5] 72)
      obtain ⟨i7, hi7, hy0, hy1, hy2⟩ := info_parts info72
      have hz5 := hbel5.size
      have hws := HB.out.size
      have hw1 := HG.out.size
      clear hrow5 hg5 hat5 hg5n hbel5 hRd hrun hi9 hz0 hz1 hz2
      go_wp2_with (at_builtin; refine wpList_append_own_at _ rfl (.tmp 13) (.tmp 20) 28 rfl w1.heap.size 72 i7 (.agg #[str [], .slice none 0 0]) 2 40 Tryz.underlying28 hi7 hy0 hy1 hy2 rfl (by decide) _ xs.length (hcells xs) rfl hrow6 ⟨w5.heap.size, 0, none⟩ 1 1 [str nk, .slice A5 items.length c5] rfl rfl ?d1 ?d2 ?d3 ?d4 ?d5 ?_)
      case d1 => exact cells_new w5 [str nk, .slice A5 items.length c5] 72
      case d2 => intro u hu; simp only [List.mem_cons, List.mem_nil_iff, or_false] at hu; rcases hu with rfl | rfl <;> rfl
      case d3 => unfold maxLen; omega
      case d4 => omega
      case d5 => simp; omega
      intro v9 w9 hrow9 hg9 _ hat9
      obtain ⟨A9, c9, rfl⟩ := row_form hrow9
      have hgA : w5.grownBy w9 (Value.slice A3 xs.length c3).ownBlock := (World.grownBy_alloc w5 _ _).trans hg9
      have hrowB : ∀ g, (Value.slice A3 xs.length c3).ownBlock = some g → w1.heap.size ≤ g ∧ g < wr.heap.size := fun g hg => HL0.out.row.lt g hg
      have HX : ItemsAt w9 (Value.slice A9 (xs.length + 1) c9).ownBlock ⟨nk, .slice A5 items.length c5, items⟩ := ⟨A5, c5, rfl, by
          have hR5 := Reads.of_own HROW5.out
          refine Reads.more ⟨hR5.1, fun hn => ?_⟩ hgA.size
          obtain ⟨ad, e1, hb, hc⟩ := hR5.2 hn
          refine ⟨ad, e1, hb, fun j u hu => ?_⟩
          refine (World.cell?_of_block (hgA.block _ ?_ ?_)).trans (hc j u hu)
          · rw [block_of_add]; exact hb
          · rw [block_of_add]
            intro e2
            have h1 := (HROW5.out.lt ad.block (by rw [e1]; rfl)).1
            have h2 := (hrowB _ e2.symm).2
            omega, row_cap HROW5.out, fun hn ad e1 e2 => by
          have h1 := HROW5.out.lt ad.block (by rw [e1]; rfl)
          rcases hat9 with h | h
          · rw [h] at e2
            have h2 := (hrowB _ e2).2
            omega
          · rw [h] at e2
            injection e2 with e2
            have h3 : (w5.alloc (.cells #[str nk, .slice A5 items.length c5] 72)).heap.size = w5.heap.size + 1 := by simp
            omega⟩
      have hL9 : HL w9 w1.heap.size (.slice A9 (xs.length + 1) c9) (xs ++ [⟨nk, .slice A5 items.length c5, items⟩]) := HL5.out.snoc hgA HX hrow9 (by
        rcases hat9 with h | h
        · exact .inl h
        · exact .inr ⟨_, h, by simp⟩) (fun hn g hg => by have := (HROW5.out.lt g hg).1; omega)
      have HL9 := Lib.hid hL9
      have HB9 := Lib.hid ((HB.out.trans (HB5.out.mono HB.out.size)).grown hgA (by omega) (fun g hg => Nat.le_trans HB1.out.size (hrowB g hg).1))
      have HGET := Lib.hid HSL.out.get
      have hg9' : w1.grownBy w9 none := by
        have h1 := HG.out.trans (grown_below HB5.out)
        exact ⟨hgA.os.trans h1.os, hgA.tape.trans h1.tape, hgA.output.trans h1.output, Nat.le_trans h1.size hgA.size, fun j hj hne => by
          have := h1.block j hj hne
          rw [← this]
          refine hgA.block j (Nat.lt_of_lt_of_le hj h1.size) (fun e => ?_)
          have := (hrowB j e.symm).1
          omega⟩
      have HG9 := Lib.hid hg9'
      clear hg9' hL9 HX hgA hrow9 hg9 hat9 hrow6 hi7 hy0 hy1 hy2
      go_wp2_with fail
      refine ⟨⟨xs.length + 1, _, _, hkl, by go_num, rfl, HL9.out, by simp, ?_, HB9.out, HG9.out⟩, by simp [intOf]; omega⟩
      rw [List.take_succ_eq_append_getElem hkl, List.map_append, HNK.out, ← HAB.out]
      show (xs ++ [_]).map _ = xs.map _ ++ _
      rw [List.map_append]
      simp [HGET.out]
    · have e : xs.length = ks.length := by omega
      have hLf := HL0.out
      rw [e] at hLf
      rw [e]
      have HLF := Lib.hid hLf
      have HE := Lib.hid e
      clear e hLf
      have f1 : decide ((ks.length : Int) < (ks.length : Int)) = false := by simp
      go_wp2_with fail
      go_ret
      exact ⟨.slice A3 ks.length c3, xs, rfl, HLF.out.base HB1.out.size, by rw [HAB.out, HE.out, List.take_length, HKS.out], HB.out⟩
end Go.Proofs.YtgcfnhchmmkndaaGreatDoor
