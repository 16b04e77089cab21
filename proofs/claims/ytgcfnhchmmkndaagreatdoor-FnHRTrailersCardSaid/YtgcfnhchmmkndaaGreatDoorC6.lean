/- What parseHeaders computes; its state in memory. -/
import Derived.Test.YtgcfnhchmmkndaaGreatDoorC5
namespace Go.Proofs.YtgcfnhchmmkndaaGreatDoor
open Go.RowKit Go.Maps
set_option linter.unusedVariables false
set_option maxRecDepth 100000

abbrev kPath : BS := [58, 112, 97, 116, 104]
abbrev kMethod : BS := [58, 109, 101, 116, 104, 111, 100]
abbrev kAuth : BS := [58, 97, 117, 116, 104, 111, 114, 105, 116, 121]
abbrev kProto : BS := [58, 112, 114, 111, 116, 111, 99, 111, 108]
abbrev kScheme : BS := [58, 115, 99, 104, 101, 109, 101]
abbrev kStatus : BS := [58, 115, 116, 97, 116, 117, 115]
abbrev kLength : BS := [99, 111, 110, 116, 101, 110, 116, 45, 108, 101, 110, 103, 116, 104]
abbrev kCLength : BS := [67, 111, 110, 116, 101, 110, 116, 45, 76, 101, 110, 103, 116, 104]

structure PS where
  path : BS := []
  meth : BS := []
  auth : BS := []
  scheme : BS := []
  status : BS := []
  proto : BS := []
  H : AL := []
  reg : Bool := false
  hasCL : Bool := false
  hasM : Bool := false
  hasS : Bool := false
  cls : BS := []

def hasKey (H : AL) (k : BS) : Bool := H.any fun p => p.1 == k

def psPseudo (req : Bool) (s : PS) (nm vl : BS) : Option PS :=
  if s.reg then none
  else if nm = kPath then if req && !hasKey s.H kPath then some { s with path := vl, H := putH s.H kPath [] } else none
  else if nm = kMethod then if req && !s.hasM then some { s with meth := vl, hasM := true } else none
  else if nm = kAuth then if req && !hasKey s.H kAuth then some { s with auth := vl, H := putH s.H kAuth [] } else none
  else if nm = kProto then if req && !hasKey s.H kProto then some { s with proto := vl, H := putH s.H kProto [] } else none
  else if nm = kScheme then if req && !hasKey s.H kScheme then some { s with scheme := Lib.toLowerA vl, H := putH s.H kScheme [] } else none
  else if nm = kStatus then if !req && !s.hasS then some { s with status := vl, hasS := true } else none
  else none
def psRegular (s : PS) (nm vl : BS) : Option PS :=
  if !regularOk nm vl then none
  else if nm = kLength then (if !s.hasCL then some { s with reg := true, hasCL := true, cls := vl } else if s.cls = vl then some { s with reg := true } else none)
  else some { s with reg := true, H := addH s.H (canonL nm) vl }
def psStep (req : Bool) (vOk : BS × BS → Bool) (s : PS) (p : BS × BS) : Option PS :=
  if !vOk p then none else if pseudoB p.1 then psPseudo req s p.1 p.2 else psRegular s p.1 p.2
def psFold (req : Bool) (vOk : BS × BS → Bool) : PS → List (BS × BS) → Option PS
  | s, [] => some s
  | s, p :: t => (psStep req vOk s p).bind fun s' => psFold req vOk s' t

def digitB (c : UInt8) : Bool := decide (48 ≤ c.toNat ∧ c.toNat ≤ 57)
def decN (l : BS) : Nat := l.foldl (fun n c => n * 10 + (c.toNat - 48)) 0
def parseCL (l : BS) : Option Nat := if l.all digitB && !l.isEmpty && decide (decN l < 9223372036854775808) then some (decN l) else none
def psEnd (s : PS) : Option (PS × Int) := if s.cls = [] then some (s, -1) else (parseCL s.cls).map fun n => ({ s with H := putH s.H kCLength [s.cls] }, (n : Int))
def psAll (req : Bool) (vOk : BS × BS → Bool) (l : List (BS × BS)) : Option (PS × Int) := (psFold req vOk {} l).bind psEnd

/-- the header's struct -/
def hcl (s : PS) (cl : Int) (m : Value) : List Value := [str s.path, str s.meth, str s.auth, str s.scheme, str s.status, str s.proto, .int .i64 cl, m]

structure PSt (w wx : World) (Bx m : Nat) (rest : List (BS × BS)) (n : Nat) (es : List Ent) (s : PS) (cl : Int) : Prop where
  feed : Feed wx Bx rest
  hdr : Hdr wx (w.heap.size + 3) (w.heap.size + 1) n es
  abs : absE es = s.H
  hn : n ≤ m
  items : ∀ e ∈ es, e.items.length ≤ m
  g : w.grownBy wx (some Bx)
  ge : w.heap.size + 3 ≤ wx.heap.size
  cells : ∀ j v, (hcl s cl (.map (some (w.heap.size + 1))))[j]? = some v → wx.cell? ⟨w.heap.size + 2, j, none⟩ = some v
  fz : ∀ j, wx.frozen? ⟨w.heap.size + 2, j, none⟩ = false
  rcells : ∀ j v, (hcl {} 0 (.map none))[j]? = some v → wx.cell? ⟨w.heap.size, j, none⟩ = some v
  rfz : ∀ j, wx.frozen? ⟨w.heap.size, j, none⟩ = false

section
variable {w wx w' : World} {Bx m n : Nat} {rest : List (BS × BS)} {es : List Ent} {s : PS} {cl : Int}
theorem PSt.below (h : PSt w wx Bx m rest n es s cl) (k : Below wx.heap.size wx w') : PSt w w' Bx m rest n es s cl where
  feed := h.feed.cut k h.feed.lt
  hdr := h.hdr.below k
  abs := h.abs
  hn := h.hn
  items := h.items
  g := h.g.trans ((grown_below k).but _)
  ge := Nat.le_trans h.ge k.size
  cells := fun j v hv => (k.cell (p := ⟨w.heap.size + 2, j, none⟩) (by have := h.ge; dsimp only; omega)).trans (h.cells j v hv)
  fz := fun j => (k.frozen (p := ⟨w.heap.size + 2, j, none⟩) (by have := h.ge; dsimp only; omega)).trans (h.fz j)
  rcells := fun j v hv => (k.cell (p := ⟨w.heap.size, j, none⟩) (by have := h.ge; dsimp only; omega)).trans (h.rcells j v hv)
  rfz := fun j => (k.frozen (p := ⟨w.heap.size, j, none⟩) (by have := h.ge; dsimp only; omega)).trans (h.rfz j)
theorem PSt.read {t : List (BS × BS)} (h : PSt w wx Bx m rest n es s cl) (hB : Bx < w.heap.size) (hf : Feed w' Bx t) (g : wx.grownBy w' (some Bx)) : PSt w w' Bx m t n es s cl where
  feed := hf
  hdr := h.hdr.kept g (by simp; omega) (fun e he => by
    cases hv : e.val.ownBlock with
    | none => exact .inl rfl
    | some j => exact .inr (by have := (h.hdr.above e he j hv).1; simp; omega))
  abs := h.abs
  hn := h.hn
  items := h.items
  g := h.g.trans g
  ge := Nat.le_trans h.ge g.size
  cells := fun j v hv => (World.cell?_of_block (g.block (w.heap.size + 2) (by have := h.ge; omega) (by simp; omega))).trans (h.cells j v hv)
  fz := fun j => (World.frozen?_of_block (g.block (w.heap.size + 2) (by have := h.ge; omega) (by simp; omega))).trans (h.fz j)
  rcells := fun j v hv => (World.cell?_of_block (g.block w.heap.size (by have := h.ge; omega) (by simp; omega))).trans (h.rcells j v hv)
  rfz := fun j => (World.frozen?_of_block (g.block w.heap.size (by have := h.ge; omega) (by simp; omega))).trans (h.rfz j)
/-- a change of the map -/
theorem PSt.turn {n' m' : Nat} {es' : List Ent} {H' : AL} (h : PSt w wx Bx m rest n es s cl) (hB : Bx < w.heap.size) (hh : Hdr w' (w.heap.size + 3) (w.heap.size + 1) n' es') (ha : absE es' = H') (hn' : n' ≤ m') (hi' : ∀ e ∈ es', e.items.length ≤ m')
    (k : Off (w.heap.size + 3) (w.heap.size + 1) wx w') : PSt w w' Bx m' rest n' es' { s with H := H' } cl where
  feed := by
    obtain ⟨A, c, h1, h2, h3⟩ := h.feed.st
    exact ⟨⟨A, c, (k.cell (p := ⟨Bx, 0, none⟩) (by dsimp only; omega) (by dsimp only; omega)).trans h1, h2.keep (fun p hp => k.cell (by omega) (by omega)), h3⟩, (k.frozen (p := ⟨Bx, 0, none⟩) (by dsimp only; omega) (by dsimp only; omega)).trans h.feed.fz, Nat.lt_of_lt_of_le h.feed.lt k.size⟩
  hdr := hh
  abs := ha
  hn := hn'
  items := hi'
  g := ⟨k.os.trans h.g.os, k.tape.trans h.g.tape, k.output.trans h.g.output, Nat.le_trans h.g.size k.size, fun j hj hne => (k.block j (by omega) (by omega)).trans (h.g.block j hj hne)⟩
  ge := Nat.le_trans h.ge k.size
  cells := fun j v hv => (k.cell (p := ⟨w.heap.size + 2, j, none⟩) (by dsimp only; omega) (by dsimp only; omega)).trans (h.cells j v hv)
  fz := fun j => (k.frozen (p := ⟨w.heap.size + 2, j, none⟩) (by dsimp only; omega) (by dsimp only; omega)).trans (h.fz j)
  rcells := fun j v hv => (k.cell (p := ⟨w.heap.size, j, none⟩) (by dsimp only; omega) (by dsimp only; omega)).trans (h.rcells j v hv)
  rfz := fun j => (k.frozen (p := ⟨w.heap.size, j, none⟩) (by dsimp only; omega) (by dsimp only; omega)).trans (h.rfz j)
/-- a store in the struct -/
theorem PSt.set {s' : PS} {cl' : Int} {i : Nat} {u : Value} (h : PSt w wx Bx m rest n es s cl) (hB : Bx < w.heap.size) (hi : i < 8) (hs : hcl s' cl' (.map (some (w.heap.size + 1))) = (hcl s cl (.map (some (w.heap.size + 1)))).set i u) (hH : s'.H = s.H) :
    PSt w (wx.setCell ⟨w.heap.size + 2, i, none⟩ u) Bx m rest n es s' cl' where
  feed := by
    obtain ⟨A, c, h1, h2, h3⟩ := h.feed.st
    refine ⟨⟨A, c, ?_, h2.setCell (by show Bx ≤ w.heap.size + 2; omega) u, h3⟩, ?_, ?_⟩
    · rw [World.cell?_setCell_other _ _ _ _ (by simp)]; exact h1
    · simpa using h.feed.fz
    · simpa using h.feed.lt
  hdr := h.hdr.kept (grown_set wx (w.heap.size + 2) i u) (by simp) (fun e he => by
    cases hv : e.val.ownBlock with
    | none => exact .inl rfl
    | some j => exact .inr (by have := (h.hdr.above e he j hv).1; simp; omega))
  abs := by rw [hH]; exact h.abs
  hn := h.hn
  items := h.items
  g := by
    have k := grown_set wx (w.heap.size + 2) i u
    exact ⟨k.os.trans h.g.os, k.tape.trans h.g.tape, k.output.trans h.g.output, Nat.le_trans h.g.size k.size, fun j hj hne => (k.block j (by have := h.ge; omega) (by simp; omega)).trans (h.g.block j hj hne)⟩
  ge := by simpa using h.ge
  cells := fun j v hv => by
    rw [hs] at hv
    by_cases e : j = i
    · subst e
      have hold : ∃ v0, (hcl s cl (.map (some (w.heap.size + 1))))[j]? = some v0 := ⟨_, List.getElem?_eq_getElem (by simpa [hcl] using hi)⟩
      obtain ⟨v0, h0⟩ := hold
      rw [World.cell?_setCell_same _ _ _ (h.cells j v0 h0)]
      rw [List.getElem?_set_self (by simpa [hcl] using hi)] at hv
      exact hv
    · rw [World.cell?_setCell_other _ _ _ _ (by simp)]
      rw [List.getElem?_set_ne (by omega)] at hv
      exact h.cells j v hv
  fz := fun j => by simpa using h.fz j
  rcells := fun j v hv => by
    rw [World.cell?_setCell_other _ _ _ _ (by simp)]
    exact h.rcells j v hv
  rfz := fun j => by simpa using h.rfz j
end
end Go.Proofs.YtgcfnhchmmkndaaGreatDoor
