/- hrMade.byte. -/
import Derived.Test.YtgcfnhchmmkndaaGreatDoorC3
import Derived.Test.YtgcfnhchmmkndaaGreatDoorE1
namespace Go.Proofs.YtgcfnhchmmkndaaGreatDoor
open Go.RowKit
set_option linter.unusedVariables false
set_option maxRecDepth 100000

/-- the maker's state: a block that holds what is left of the argument's bytes -/
structure Mk (w : World) (mb K : Nat) : Prop where
  st : ∃ A n c bs, w.cell? ⟨mb, 0, none⟩ = some (.slice A n c) ∧ Reads w K 1 A n (bcells bs) ∧ n ≤ c ∧ n ≤ 2147483647
  fz : w.frozen? ⟨mb, 0, none⟩ = false
  ge : K ≤ mb
  lt : mb < w.heap.size

section
variable {w w' : World} {mb K : Nat}
theorem Mk.below (h : Mk w mb K) (k : Below w.heap.size w w') : Mk w' mb K where
  st := by
    obtain ⟨A, n, c, bs, h1, h2, h3, h4⟩ := h.st
    exact ⟨A, n, c, bs, (k.cell h.lt).trans h1, h2.keep (fun p hp => k.cell (by have := h.ge; have := h.lt; omega)), h3, h4⟩
  fz := (k.frozen h.lt).trans h.fz
  ge := h.ge
  lt := Nat.lt_of_lt_of_le h.lt k.size
theorem Mk.grown {row : Nat} (h : Mk w mb K) (g : w.grownBy w' (some row)) (hr : K ≤ row) (hne : mb ≠ row) : Mk w' mb K where
  st := by
    obtain ⟨A, n, c, bs, h1, h2, h3, h4⟩ := h.st
    exact ⟨A, n, c, bs, g.cell h1 (by simpa using hne), h2.grown g (by have := h.ge; have := h.lt; omega) (fun k hk => by injection hk with hk; omega), h3, h4⟩
  fz := (g.frozen_far ⟨mb, 0, none⟩ h.lt (by simpa using hne)).trans h.fz
  ge := h.ge
  lt := Nat.lt_of_lt_of_le h.lt g.size
theorem Mk.sets {A : Option Addr} {n c : Nat} {bs : List UInt8} (h : Mk w mb K) (hr : Reads w K 1 A n (bcells bs)) (hc : n ≤ c) (hn : n ≤ 2147483647) : Mk (w.setCell ⟨mb, 0, none⟩ (.slice A n c)) mb K where
  st := by
    obtain ⟨A0, n0, c0, bs0, h1, _⟩ := h.st
    exact ⟨A, n, c, bs, World.cell?_setCell_same _ _ _ h1, hr.setCell h.ge _, hc, hn⟩
  fz := by simpa using h.fz
  ge := h.ge
  lt := by simpa using h.lt
theorem grown_refl (w : World) (row : Option Nat) : w.grownBy w row := World.grownBy.refl w row
end

def BytePost (w : World) (mb K : Nat) (e : Ending) (w' : World) : Prop :=
  ∃ c : Nat, c < 256 ∧ e = .returned (.int .i64 (c : Int)) ∧ Mk w' mb K ∧ w.grownBy w' (some mb)

theorem reads_tail {w : World} {K n b o : Nat} {bs : List UInt8} (h : Reads w K 1 (some ⟨b, o, none⟩) n (bcells bs)) (hn : 0 < n) : Reads w K 1 (some ⟨b, o + 1, none⟩) (n - 1) (bcells bs.tail) := by
  obtain ⟨b', o', e, hb, hl, hc⟩ := h.byte hn
  injection e with e
  injection e with e1 e2
  subst e1 e2
  refine ⟨by rw [bcells_length, List.length_tail]; omega, fun h0 => ⟨_, rfl, hb, fun j u hu => ?_⟩⟩
  have hj : j + 1 < bs.length := by
    have := (List.getElem?_eq_some_iff.1 hu).1
    rw [bcells_length, List.length_tail] at this
    omega
  have hu2 : u = .int .u8 ((bs[j + 1]).toNat : Int) := by
    unfold bcells at hu
    rw [List.getElem?_map, List.getElem?_tail, List.getElem?_eq_getElem hj] at hu
    simpa using hu.symm
  rw [Addr.add_lit, hu2, show o + 1 + j = o + (j + 1) by omega]
  exact hc (j + 1) hj
theorem reads_zero (w : World) (K : Nat) (A : Option Addr) : Reads w K 1 A 0 (bcells []) := ⟨by simp [bcells], fun h => absurd h (by omega)⟩

set_option maxHeartbeats 1000000 in
theorem byte_at (mb K : Nat) (w : World) (h : Mk w mb K) : Calls Tryz.prog 15 #[.pointer (some ⟨mb, 0, none⟩)] w (BytePost w mb K) := by
  have HM := Lib.hid h
  obtain ⟨⟨A, n, c, bs, h1, h2, h3, h4⟩, fz, ge, lt⟩ := h
  rcases Nat.eq_zero_or_pos n with h0 | hn
  · subst h0
    go_enter Tryz.func15, Tryz.ntmps15
    go_wp2_with fail
    go_ret
    exact ⟨0, by omega, rfl, HM.out, grown_refl _ _⟩
  · obtain ⟨b, o, rfl, hb, hl, hc⟩ := h2.byte hn
    obtain ⟨x, h00⟩ : ∃ x : UInt8, w.cell? ⟨b, o, none⟩ = some (.int .u8 (x.toNat : Int)) := ⟨_, hc 0 (by omega)⟩
    have hlt : x.toNat < 256 := x.toNat_lt
    have hne : ((n : Int) == 0) = false := by simp; omega
    have hn' : (0 : Int) < (n : Int) := by omega
    have hT := Lib.hid (reads_tail h2 hn)
    have hH := Lib.hid h2
    clear hc hl h2
    by_cases hc1 : c = 1
    · subst hc1
      obtain rfl : n = 1 := by omega
      go_enter Tryz.func15, Tryz.ntmps15
      go_wp2_with fail
      go_ret
      exact ⟨_, hlt, rfl, HM.out.sets (reads_zero w K _) (by omega) (by omega), grown_set _ _ _ _⟩
    · go_enter Tryz.func15, Tryz.ntmps15
      go_wp2_with fail
      go_ret
      exact ⟨_, hlt, rfl, HM.out.sets hT.out (by omega) (by omega), grown_set _ _ _ _⟩

def BytePost2 (w : World) (mb K : Nat) (e : Ending) (w' : World) : Prop :=
  ∃ c : Nat, c < 256 ∧ e = .returned (.int .i64 (c : Int)) ∧ Mk w' mb K ∧ w.grownBy w' (some mb) ∧ w'.heap.size = w.heap.size

set_option maxHeartbeats 1000000 in
theorem byte_at2 (mb K : Nat) (w : World) (h : Mk w mb K) : Calls Tryz.prog 15 #[.pointer (some ⟨mb, 0, none⟩)] w (BytePost2 w mb K) := by
  have HM := Lib.hid h
  obtain ⟨⟨A, n, c, bs, h1, h2, h3, h4⟩, fz, ge, lt⟩ := h
  rcases Nat.eq_zero_or_pos n with h0 | hn
  · subst h0
    go_enter Tryz.func15, Tryz.ntmps15
    go_wp2_with fail
    go_ret
    exact ⟨0, by omega, rfl, HM.out, grown_refl _ _, rfl⟩
  · obtain ⟨b, o, rfl, hb, hl, hc⟩ := h2.byte hn
    obtain ⟨x, h00⟩ : ∃ x : UInt8, w.cell? ⟨b, o, none⟩ = some (.int .u8 (x.toNat : Int)) := ⟨_, hc 0 (by omega)⟩
    have hlt : x.toNat < 256 := x.toNat_lt
    have hne : ((n : Int) == 0) = false := by simp; omega
    have hn' : (0 : Int) < (n : Int) := by omega
    have hT := Lib.hid (reads_tail h2 hn)
    have hH := Lib.hid h2
    clear hc hl h2
    by_cases hc1 : c = 1
    · subst hc1
      obtain rfl : n = 1 := by omega
      go_enter Tryz.func15, Tryz.ntmps15
      go_wp2_with fail
      go_ret
      exact ⟨_, hlt, rfl, HM.out.sets (reads_zero w K _) (by omega) (by omega), grown_set _ _ _ _, by simp⟩
    · go_enter Tryz.func15, Tryz.ntmps15
      go_wp2_with fail
      go_ret
      exact ⟨_, hlt, rfl, HM.out.sets hT.out (by omega) (by omega), grown_set _ _ _ _, by simp⟩
open Go.RowKit Go.Maps

def nmF : Nat → BS
  | 0 => [120, 45, 97]
  | 1 => [120, 45, 98]
  | 2 => [103, 114, 112, 99, 45, 115, 116, 97, 116, 117, 115]
  | _ => [120, 45, 111, 110, 101, 45, 116, 119, 111]
theorem Mk.drew {w : World} {mb K : Nat} (h : Mk w mb K) : Mk w.drew mb K := ⟨h.st, h.fz, h.ge, h.lt⟩
theorem Mk.al {w : World} {mb K : Nat} {o : Obj} (h : Mk w mb K) : Mk (w.alloc o) mb K := h.below (below_new _ _)
theorem far_rule {W W' : World} {mb : Nat} (hg : W.grownBy W' (some mb)) : ∀ b o, (W.cell? ⟨b, o, none⟩).isSome = true → ¬ b = mb → W'.cell? ⟨b, o, none⟩ = W.cell? ⟨b, o, none⟩ := fun b o h1 h2 => by
  obtain ⟨v, hv⟩ := Option.isSome_iff_exists.1 h1
  exact hg.cell_far ⟨b, o, none⟩ (World.block_lt_of_cell? W _ hv) (by simp [h2])
theorem al_rule : ∀ (W : World) (o : Obj) (b off : Nat), (W.cell? ⟨b, off, none⟩).isSome = true → (W.alloc o).cell? ⟨b, off, none⟩ = W.cell? ⟨b, off, none⟩ := fun W o b off h => by
  obtain ⟨v, hv⟩ := Option.isSome_iff_exists.1 h
  exact (bka hv).trans hv.symm
theorem nm_list : ∀ (i : Nat) (h : i < [Value.string { data := #[120, 45, 97] }, Value.string { data := #[120, 45, 98] }, Value.string { data := #[103, 114, 112, 99, 45, 115, 116, 97, 116, 117, 115] }, Value.string { data := #[120, 45, 111, 110, 101, 45, 116, 119, 111] }].length),
    [Value.string { data := #[120, 45, 97] }, Value.string { data := #[120, 45, 98] }, Value.string { data := #[103, 114, 112, 99, 45, 115, 116, 97, 116, 117, 115] }, Value.string { data := #[120, 45, 111, 110, 101, 45, 116, 119, 111] }][i]'h = str (nmF i) := fun i h => by
  match i, h with
  | 0, _ => rfl
  | 1, _ => rfl
  | 2, _ => rfl
  | 3, _ => rfl
/-- the names in a block -/
def NM (W : World) (nb : Nat) : Prop := ∀ i, i < 4 → W.cell? ⟨nb, i, none⟩ = some (str (nmF i))
theorem NM.drew {W : World} {nb : Nat} (h : NM W nb) : NM W.drew nb := h
theorem NM.al {W : World} {nb : Nat} {o : Obj} (h : NM W nb) : NM (W.alloc o) nb := fun i hi => bka (h i hi)
theorem cell_far2 {W W' : World} {mb b o : Nat} {v : Value} (h : W.cell? ⟨b, o, none⟩ = some v) (hg : W.grownBy W' (some mb)) (hne : ¬ b = mb) : W'.cell? ⟨b, o, none⟩ = some v := (hg.cell_far ⟨b, o, none⟩ (World.block_lt_of_cell? W _ h) (by simp [hne])).trans h
theorem NM.far {W W' : World} {mb nb : Nat} (h : NM W nb) (hg : W.grownBy W' (some mb)) (hne : ¬ nb = mb) : ∀ i, i < 4 → W'.cell? ⟨nb, i, none⟩ = some (str (nmF i)) := fun i hi => cell_far2 (h i hi) hg hne
theorem one_new (X : World) (x : Value) (t : TypeId) : (X.alloc (.cells #[x] t)).cell? ⟨X.heap.size, 0, none⟩ = some x := by
  have h := cells_new X [x] t 0 x rfl
  rwa [Addr.add_lit, Nat.zero_add] at h
theorem al_size (W : World) (o : Obj) : (W.alloc o).heap.size = W.heap.size + 1 := by simp
theorem nm_new (W : World) (i : Nat) (hi : i < 4) : (W.alloc (.cells #[Value.string { data := #[120, 45, 97] }, Value.string { data := #[120, 45, 98] }, Value.string { data := #[103, 114, 112, 99, 45, 115, 116, 97, 116, 117, 115] }, Value.string { data := #[120, 45, 111, 110, 101, 45, 116, 119, 111] }] 9)).cell? ⟨W.heap.size, i, none⟩ = some (str (nmF i)) := by
  have h := cells_new W [Value.string { data := #[120, 45, 97] }, Value.string { data := #[120, 45, 98] }, Value.string { data := #[103, 114, 112, 99, 45, 115, 116, 97, 116, 117, 115] }, Value.string { data := #[120, 45, 111, 110, 101, 45, 116, 119, 111] }] 9 i (str (nmF i)) (by
    match i, hi with
    | 0, _ => rfl
    | 1, _ => rfl
    | 2, _ => rfl
    | 3, _ => rfl)
  rwa [Addr.add_lit, Nat.zero_add] at h
def letC (j : Nat) : UInt8 := UInt8.ofNat (97 + j)
theorem conv1 (j : Nat) (hj : j < 26) (W : World) (b : Nat) (h : W.cell? ⟨b, 0, none⟩ = some (.int .u8 (97 + (j : Int)))) :
    (convert 22 9 (.slice (some ⟨b, 0, none⟩) 1 1)).run Tryz.prog W = .ok (str [letC j]) W := by
  have e : ((letC j).toNat : Int) = 97 + (j : Int) := by unfold letC; rw [UInt8.toNat_ofNat']; omega
  exact run_convert_bytes_back W 22 9 5 ⟨b, 0, none⟩ 1 [letC j] Tryz.underlying22 Tryz.underlying5 Tryz.underlying9 (fun k hk => by
    have : k = 0 := by simpa using hk
    subst this
    rw [Addr.add_lit]
    show W.cell? ⟨b, 0 + 0, none⟩ = some (.int .u8 ((letC j).toNat : Int))
    rw [e]
    exact h)
theorem tmod_nat (c m : Nat) : ((c : Int)).tmod (m : Int) = ((c % m : Nat) : Int) := by
  rw [Int.tmod_eq_emod_of_nonneg (Int.natCast_nonneg c)]
  simp
theorem info42 : (Tryz.prog.info? 42).map (fun i => (i.zero, i.size, i.bytes)) = some (some (fldV [] []), 2, 32) := by kernel_rfl

def trField (q : BS × BS) : Prop := (∃ i, i < 4 ∧ q.1 = nmF i) ∧ ∃ j, j < 26 ∧ q.2 = [118, letC j]

/-- the loop's state -/
structure FSt (w wx : World) (v : Value) (l : List (BS × BS)) : Prop where
  row : wx.ownsRow (w.heap.size + 1) 42 2 v l.length (fc l)
  mkr : Mk wx w.heap.size w.heap.size
  bel : Below w.heap.size w wx
  ok : ∀ q ∈ l, trField q

section
variable {w wx w' : World} {v : Value} {l : List (BS × BS)}
theorem FSt.al {o : Obj} (h : FSt w wx v l) : FSt w (wx.alloc o) v l := ⟨h.row.alloc _, h.mkr.al, h.bel.alloc h.bel.size _, h.ok⟩
theorem FSt.drew (h : FSt w wx v l) : FSt w wx.drew v l := ⟨h.row.drew, h.mkr.drew, h.bel.drew, h.ok⟩
theorem FSt.byte (h : FSt w wx v l) (hM : Mk w' w.heap.size w.heap.size) (g : wx.grownBy w' (some w.heap.size)) : FSt w w' v l where
  row := h.row.kept g (by
    cases hv : v.ownBlock with
    | none => exact .inl rfl
    | some k => exact .inr (by have := (h.row.lt k hv).1; intro e; injection e with e; omega))
  mkr := hM
  bel := h.bel.grown g h.bel.size (fun k hk => by injection hk with hk; omega)
  ok := h.ok
end
theorem val_eq (j : Nat) : Value.string ({ data := #[118] } ++ { data := #[letC j] }) = str [118, letC j] := by
  rw [show ({ data := #[118] } : ByteArray) = ⟨([118] : BS).toArray⟩ from rfl, show ({ data := #[letC j] } : ByteArray) = ⟨([letC j] : BS).toArray⟩ from rfl, ba_app]
  rfl
/-- one field more -/
def FNext (w : World) (l : List (BS × BS)) (v : Value) (x y : Value) (w9 : World) : Prop := ∀ nm vl, x = str nm → y = str vl → trField (nm, vl) → FSt w w9 v (l ++ [(nm, vl)])
theorem FSt.next {w X w9 : World} {A : Option Addr} {c g cap : Nat} {l : List (BS × BS)} {x y : Value} (hF : FSt w X (.slice A l.length c) l) (row : w9.ownsRow (w.heap.size + 1) 42 2 (.slice (some ⟨g, 0, none⟩) (l.length + 1) cap) (l.length + 1) (fc l ++ [x, y]))
    (hg : (X.alloc (.cells #[x, y] 42)).grownBy w9 (Value.slice A l.length c).ownBlock) : FNext w l (.slice (some ⟨g, 0, none⟩) (l.length + 1) cap) x y w9 := by
  rintro nm vl rfl rfl hok
  refine ⟨?_, ?_, ?_, fun q hq => ?_⟩
  · rw [List.length_append, fc_append]
    exact row
  · have h := hF.mkr.al (o := .cells #[str nm, str vl] 42)
    cases hv : (Value.slice A l.length c).ownBlock with
    | none => rw [hv] at hg; exact h.below ⟨hg.os, hg.tape, hg.output, hg.size, fun k hk => hg.block k hk (by simp)⟩
    | some k =>
      rw [hv] at hg
      have := (hF.row.lt k hv).1
      exact h.grown hg (by omega) (by omega)
  · exact hF.al.bel.grown hg hF.al.bel.size (fun k hk => by have := (hF.row.lt k hk).1; omega)
  · rcases List.mem_append.1 hq with hq | hq
    · exact hF.ok q hq
    · rw [List.mem_singleton] at hq
      rw [hq]
      exact hok
theorem step_app {ops : Array Oper} {o : Oper} {a : Act} {K : Act → World → Prop} {Q : Exit → Act → World → Prop} {E : Prop} (hgd : o.guard = none) (s x : Operand) (ho : o.op = .call { callee := .builtin .append, args := #[s, x], argTypes := #[26, 26] })
    {w X : World} {A : Option Addr} {c : Nat} {l : List (BS × BS)} (y z : ByteArray) (hF : FSt w X (.slice A l.length c) l) (hl : l.length ≤ 1000) (hs : a.eval s = .slice A l.length c) {H : Nat} (hH : X.heap.size = H) (hx : a.eval x = .slice (some ⟨H, 0, none⟩) 1 1)
    (h : ∀ g cap w', FNext w l (.slice (some ⟨g, 0, none⟩) (l.length + 1) cap) (.string y) (.string z) w' → K (a.put o.dst (.slice (some ⟨g, 0, none⟩) (l.length + 1) cap)) w') :
    if Region.wanted o (yielded ops a.tmps) = true then Oper.wp Tryz.prog o a (X.alloc (.cells #[.string y, .string z] 42)) K Q else E := by
  obtain ⟨i9, hi9, hz0, hz1, hz2⟩ := info_parts info42
  subst hH
  refine step_append_lies _ hgd s x 26 ho (w.heap.size + 1) 42 i9 (fldV [] []) 2 32 Tryz.underlying26 hi9 hz0 hz1 hz2 rfl (by decide) _ l.length (fc l) hs (hF.row.alloc _) ⟨X.heap.size, 0, none⟩ 1 1 [.string y, .string z] hx rfl (cells_new X [.string y, .string z] 42) (fun u hu => ?_) (by decide) (by unfold maxLen; omega) (by omega) ?_ _ rfl ?_
  · rcases List.mem_cons.1 hu with rfl | hu
    · rfl
    · rw [List.mem_singleton] at hu
      rw [hu]
      rfl
  · have := hF.mkr.lt; simp; omega
  · intro g cap w' h1 h2 h3 h4
    exact h g cap w' (hF.next h1 h2)
end Go.Proofs.YtgcfnhchmmkndaaGreatDoor
