/- laws.FnHRTrailers: the fields that it makes. -/
import Derived.Test.YtgcfnhchmmkndaaGreatDoorD5
import Derived.Test.YtgcfnhchmmkndaaGreatDoorE3
namespace Go.Proofs.YtgcfnhchmmkndaaGreatDoor
open Go.RowKit Go.Maps
set_option linter.unusedVariables false
set_option maxRecDepth 100000

def nmF : Nat → BS
  | 0 => [120, 45, 97]
  | 1 => [120, 45, 98]
  | 2 => [103, 114, 112, 99, 45, 115, 116, 97, 116, 117, 115]
  | _ => [120, 45, 111, 110, 101, 45, 116, 119, 111]
theorem Mk.drew {w : World} {mb K : Nat} (h : Mk w mb K) : Mk w.drew mb K := ⟨h.st, h.fz, h.ge, h.lt⟩
theorem Mk.al {w : World} {mb K : Nat} {o : Obj} (h : Mk w mb K) : Mk (w.alloc o) mb K := h.below (below_new _ _)
theorem far_rule {W W' : World} {mb : Nat} (hg : W.grownBy W' (some mb)) : ∀ b o, (W.cell? ⟨b, o, none⟩).isSome = true → ¬ b = mb → W'.cell? ⟨b, o, none⟩ = W.cell? ⟨b, o, none⟩ := fun b o h1 h2 => by
  obtain ⟨v, hv⟩ := Option.isSome_iff_exists.1 h1
  exact hg.cell_far ⟨b, o, none⟩ (World.block_lt_of_cell? W _ hv) (by simp [h2])
theorem al_rule : ∀ (W : World) (o : Obj) (b off : Nat), (W.cell? ⟨b, off, none⟩).isSome = true → (W.alloc o).cell? ⟨b, off, none⟩ = W.cell? ⟨b, off, none⟩ := fun W o b off h => by
  obtain ⟨v, hv⟩ := Option.isSome_iff_exists.1 h
  exact (bka hv).trans hv.symm
theorem nm_list : ∀ (i : Nat) (h : i < [Value.string { data := #[120, 45, 97] }, Value.string { data := #[120, 45, 98] }, Value.string { data := #[103, 114, 112, 99, 45, 115, 116, 97, 116, 117, 115] }, Value.string { data := #[120, 45, 111, 110, 101, 45, 116, 119, 111] }].length),
    [Value.string { data := #[120, 45, 97] }, Value.string { data := #[120, 45, 98] }, Value.string { data := #[103, 114, 112, 99, 45, 115, 116, 97, 116, 117, 115] }, Value.string { data := #[120, 45, 111, 110, 101, 45, 116, 119, 111] }][i]'h = str (nmF i) := fun i h => by
  match i, h with
  | 0, _ => rfl
  | 1, _ => rfl
  | 2, _ => rfl
  | 3, _ => rfl
/-- the names in a block -/
def NM (W : World) (nb : Nat) : Prop := ∀ i, i < 4 → W.cell? ⟨nb, i, none⟩ = some (str (nmF i))
theorem NM.drew {W : World} {nb : Nat} (h : NM W nb) : NM W.drew nb := h
theorem NM.al {W : World} {nb : Nat} {o : Obj} (h : NM W nb) : NM (W.alloc o) nb := fun i hi => bka (h i hi)
theorem cell_far2 {W W' : World} {mb b o : Nat} {v : Value} (h : W.cell? ⟨b, o, none⟩ = some v) (hg : W.grownBy W' (some mb)) (hne : ¬ b = mb) : W'.cell? ⟨b, o, none⟩ = some v := (hg.cell_far ⟨b, o, none⟩ (World.block_lt_of_cell? W _ h) (by simp [hne])).trans h
theorem NM.far {W W' : World} {mb nb : Nat} (h : NM W nb) (hg : W.grownBy W' (some mb)) (hne : ¬ nb = mb) : ∀ i, i < 4 → W'.cell? ⟨nb, i, none⟩ = some (str (nmF i)) := fun i hi => cell_far2 (h i hi) hg hne
theorem one_new (X : World) (x : Value) (t : TypeId) : (X.alloc (.cells #[x] t)).cell? ⟨X.heap.size, 0, none⟩ = some x := by
  have h := cells_new X [x] t 0 x rfl
  rwa [Addr.add_lit, Nat.zero_add] at h
theorem al_size (W : World) (o : Obj) : (W.alloc o).heap.size = W.heap.size + 1 := by simp
theorem nm_new (W : World) (i : Nat) (hi : i < 4) : (W.alloc (.cells #[Value.string { data := #[120, 45, 97] }, Value.string { data := #[120, 45, 98] }, Value.string { data := #[103, 114, 112, 99, 45, 115, 116, 97, 116, 117, 115] }, Value.string { data := #[120, 45, 111, 110, 101, 45, 116, 119, 111] }] 9)).cell? ⟨W.heap.size, i, none⟩ = some (str (nmF i)) := by
  have h := cells_new W [Value.string { data := #[120, 45, 97] }, Value.string { data := #[120, 45, 98] }, Value.string { data := #[103, 114, 112, 99, 45, 115, 116, 97, 116, 117, 115] }, Value.string { data := #[120, 45, 111, 110, 101, 45, 116, 119, 111] }] 9 i (str (nmF i)) (by
    match i, hi with
    | 0, _ => rfl
    | 1, _ => rfl
    | 2, _ => rfl
    | 3, _ => rfl)
  rwa [Addr.add_lit, Nat.zero_add] at h
def letC (j : Nat) : UInt8 := UInt8.ofNat (97 + j)
theorem conv1 (j : Nat) (hj : j < 26) (W : World) (b : Nat) (h : W.cell? ⟨b, 0, none⟩ = some (.int .u8 (97 + (j : Int)))) :
    (convert 22 9 (.slice (some ⟨b, 0, none⟩) 1 1)).run Tryz.prog W = .ok (str [letC j]) W := by
  have e : ((letC j).toNat : Int) = 97 + (j : Int) := by unfold letC; rw [UInt8.toNat_ofNat']; omega
  exact run_convert_bytes_back W 22 9 5 ⟨b, 0, none⟩ 1 [letC j] Tryz.underlying22 Tryz.underlying5 Tryz.underlying9 (fun k hk => by
    have : k = 0 := by simpa using hk
    subst this
    rw [Addr.add_lit]
    show W.cell? ⟨b, 0 + 0, none⟩ = some (.int .u8 ((letC j).toNat : Int))
    rw [e]
    exact h)
theorem tmod_nat (c m : Nat) : ((c : Int)).tmod (m : Int) = ((c % m : Nat) : Int) := by
  rw [Int.tmod_eq_emod_of_nonneg (Int.natCast_nonneg c)]
  simp
theorem info42 : (Tryz.prog.info? 42).map (fun i => (i.zero, i.size, i.bytes)) = some (some (fldV [] []), 2, 32) := by kernel_rfl

def trField (q : BS × BS) : Prop := (∃ i, i < 4 ∧ q.1 = nmF i) ∧ ∃ j, j < 26 ∧ q.2 = [118, letC j]

/-- the loop's state -/
structure FSt (w wx : World) (v : Value) (l : List (BS × BS)) : Prop where
  row : wx.ownsRow (w.heap.size + 1) 42 2 v l.length (fc l)
  mkr : Mk wx w.heap.size w.heap.size
  bel : Below w.heap.size w wx
  ok : ∀ q ∈ l, trField q

section
variable {w wx w' : World} {v : Value} {l : List (BS × BS)}
theorem FSt.al {o : Obj} (h : FSt w wx v l) : FSt w (wx.alloc o) v l := ⟨h.row.alloc _, h.mkr.al, h.bel.alloc h.bel.size _, h.ok⟩
theorem FSt.drew (h : FSt w wx v l) : FSt w wx.drew v l := ⟨h.row.drew, h.mkr.drew, h.bel.drew, h.ok⟩
theorem FSt.byte (h : FSt w wx v l) (hM : Mk w' w.heap.size w.heap.size) (g : wx.grownBy w' (some w.heap.size)) : FSt w w' v l where
  row := h.row.kept g (by
    cases hv : v.ownBlock with
    | none => exact .inl rfl
    | some k => exact .inr (by have := (h.row.lt k hv).1; intro e; injection e with e; omega))
  mkr := hM
  bel := h.bel.grown g h.bel.size (fun k hk => by injection hk with hk; omega)
  ok := h.ok
end
theorem val_eq (j : Nat) : Value.string ({ data := #[118] } ++ { data := #[letC j] }) = str [118, letC j] := by
  rw [show ({ data := #[118] } : ByteArray) = ⟨([118] : BS).toArray⟩ from rfl, show ({ data := #[letC j] } : ByteArray) = ⟨([letC j] : BS).toArray⟩ from rfl, ba_app]
  rfl
/-- one field more -/
def FNext (w : World) (l : List (BS × BS)) (v : Value) (x y : Value) (w9 : World) : Prop := ∀ nm vl, x = str nm → y = str vl → trField (nm, vl) → FSt w w9 v (l ++ [(nm, vl)])
theorem FSt.next {w X w9 : World} {A : Option Addr} {c g cap : Nat} {l : List (BS × BS)} {x y : Value} (hF : FSt w X (.slice A l.length c) l) (row : w9.ownsRow (w.heap.size + 1) 42 2 (.slice (some ⟨g, 0, none⟩) (l.length + 1) cap) (l.length + 1) (fc l ++ [x, y]))
    (hg : (X.alloc (.cells #[x, y] 42)).grownBy w9 (Value.slice A l.length c).ownBlock) : FNext w l (.slice (some ⟨g, 0, none⟩) (l.length + 1) cap) x y w9 := by
  rintro nm vl rfl rfl hok
  refine ⟨?_, ?_, ?_, fun q hq => ?_⟩
  · rw [List.length_append, fc_append]
    exact row
  · have h := hF.mkr.al (o := .cells #[str nm, str vl] 42)
    cases hv : (Value.slice A l.length c).ownBlock with
    | none => rw [hv] at hg; exact h.below ⟨hg.os, hg.tape, hg.output, hg.size, fun k hk => hg.block k hk (by simp)⟩
    | some k =>
      rw [hv] at hg
      have := (hF.row.lt k hv).1
      exact h.grown hg (by omega) (by omega)
  · exact hF.al.bel.grown hg hF.al.bel.size (fun k hk => by have := (hF.row.lt k hk).1; omega)
  · rcases List.mem_append.1 hq with hq | hq
    · exact hF.ok q hq
    · rw [List.mem_singleton] at hq
      rw [hq]
      exact hok
theorem step_app {ops : Array Oper} {o : Oper} {a : Act} {K : Act → World → Prop} {Q : Exit → Act → World → Prop} {E : Prop} (hgd : o.guard = none) (s x : Operand) (ho : o.op = .call { callee := .builtin .append, args := #[s, x], argTypes := #[26, 26] })
    {w X : World} {A : Option Addr} {c : Nat} {l : List (BS × BS)} (y z : ByteArray) (hF : FSt w X (.slice A l.length c) l) (hl : l.length ≤ 1000) (hs : a.eval s = .slice A l.length c) {H : Nat} (hH : X.heap.size = H) (hx : a.eval x = .slice (some ⟨H, 0, none⟩) 1 1)
    (h : ∀ g cap w', FNext w l (.slice (some ⟨g, 0, none⟩) (l.length + 1) cap) (.string y) (.string z) w' → K (a.put o.dst (.slice (some ⟨g, 0, none⟩) (l.length + 1) cap)) w') :
    if Region.wanted o (yielded ops a.tmps) = true then Oper.wp Tryz.prog o a (X.alloc (.cells #[.string y, .string z] 42)) K Q else E := by
  obtain ⟨i9, hi9, hz0, hz1, hz2⟩ := info_parts info42
  subst hH
  refine step_append_lies _ hgd s x 26 ho (w.heap.size + 1) 42 i9 (fldV [] []) 2 32 Tryz.underlying26 hi9 hz0 hz1 hz2 rfl (by decide) _ l.length (fc l) hs (hF.row.alloc _) ⟨X.heap.size, 0, none⟩ 1 1 [.string y, .string z] hx rfl (cells_new X [.string y, .string z] 42) (fun u hu => ?_) (by decide) (by unfold maxLen; omega) (by omega) ?_ _ rfl ?_
  · rcases List.mem_cons.1 hu with rfl | hu
    · rfl
    · rw [List.mem_singleton] at hu
      rw [hu]
      rfl
  · have := hF.mkr.lt; simp; omega
  · intro g cap w' h1 h2 h3 h4
    exact h g cap w' (hF.next h1 h2)
end Go.Proofs.YtgcfnhchmmkndaaGreatDoor
