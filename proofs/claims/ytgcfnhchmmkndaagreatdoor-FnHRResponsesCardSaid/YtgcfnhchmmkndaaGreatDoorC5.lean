/- Header.Add, Set, Get and delete, with what stays of the blocks ahead. -/
import Derived.Test.YtgcfnhchmmkndaaGreatDoorC3
import Derived.Deep.MidRow
namespace Go.Proofs.YtgcfnhchmmkndaaGreatDoor
open Go.RowKit Go.Maps
set_option linter.unusedVariables false
set_option maxRecDepth 100000

/-- the blocks below base are as they were, but for block b -/
structure Off (base b : Nat) (w w' : World) : Prop where
  os : w'.os = w.os
  tape : w'.tape = w.tape
  output : w'.output = w.output
  size : w.heap.size ≤ w'.heap.size
  block : ∀ j, j < base → j ≠ b → w'.heap[j]? = w.heap[j]?
theorem Off.refl (base b : Nat) (w : World) : Off base b w w := ⟨rfl, rfl, rfl, Nat.le_refl _, fun _ _ _ => rfl⟩
theorem Off.trans {base b : Nat} {w w' w'' : World} (h : Off base b w w') (k : Off base b w' w'') : Off base b w w'' :=
  ⟨k.os.trans h.os, k.tape.trans h.tape, k.output.trans h.output, Nat.le_trans h.size k.size, fun j hj hne => (k.block j hj hne).trans (h.block j hj hne)⟩
theorem Off.of_below {base b : Nat} {w w' : World} (k : Below w.heap.size w w') (hb : base ≤ w.heap.size) : Off base b w w' := ⟨k.os, k.tape, k.output, k.size, fun j hj _ => k.block j (by omega)⟩
theorem Off.of_grown {base b : Nat} {w w' : World} {r : Option Nat} (g : w.grownBy w' r) (hr : ∀ g, r = some g → base ≤ g) (hb : base ≤ w.heap.size) : Off base b w w' :=
  ⟨g.os, g.tape, g.output, g.size, fun j hj _ => g.block j (by omega) (fun e => by have := hr j e.symm; omega)⟩
theorem Off.of_map {base b : Nat} {w w' : World} (g : w.grownBy w' (some b)) (hb : base ≤ w.heap.size) : Off base b w w' :=
  ⟨g.os, g.tape, g.output, g.size, fun j hj hne => g.block j (by omega) (fun e => hne (by injection e))⟩
theorem Off.grown {base b : Nat} {w w' w'' : World} {r : Option Nat} (h : Off base b w w') (g : w'.grownBy w'' r) (hr : ∀ g, r = some g → base ≤ g) (hb : base ≤ w'.heap.size) : Off base b w w'' := h.trans (Off.of_grown g hr hb)
theorem Off.map {base b : Nat} {w w' w'' : World} (h : Off base b w w') (g : w'.grownBy w'' (some b)) (hb : base ≤ w'.heap.size) : Off base b w w'' := h.trans (Off.of_map g hb)
theorem Off.cell {base b : Nat} {w w' : World} (h : Off base b w w') {p : Addr} (hp : p.block < base) (hne : p.block ≠ b) : w'.cell? p = w.cell? p := World.cell?_of_block (h.block _ hp hne)
theorem Off.frozen {base b : Nat} {w w' : World} (h : Off base b w w') {p : Addr} (hp : p.block < base) (hne : p.block ≠ b) : w'.frozen? p = w.frozen? p := World.frozen?_of_block (h.block _ hp hne)

def AddPost2 (w : World) (base b n : Nat) (es : List Ent) (k v : BS) (e : Ending) (w' : World) : Prop :=
  ∃ es', e = .returned (.tuple #[]) ∧ Hdr w' base b (n + 1) es' ∧ absE es' = addH (absE es) k v ∧ Off base b w w'

set_option maxHeartbeats 4000000 in
theorem add_at2 (key value : BS) (base b n : Nat) (es : List Ent) (w : World) (h : Hdr w base b n es) (hk : key.length ≤ 2147483648) (hn : n < 1000000) (hlen : ∀ e ∈ es, e.items.length ≤ 1000000) (hbase : base ≤ w.heap.size) :
    Calls Tryz.prog 71 #[.map (some b), str key, str value] w (AddPost2 w base b n es (canonL key) value) := by
  have HH := Lib.hid h
  have KC := canon_at ⟨key.toArray⟩ w (by show key.toArray.size ≤ _; simpa using hk)
  have hlt := h.lt
  clear h
  obtain ⟨i9, hi9, hz0, hz1, hz2⟩ := info_parts info9
  go_enter Tryz.func71, Tryz.ntmps71
  go_wp2_with fail
  refine KC.mono ?_
  rintro e w1 ⟨rfl, hb1⟩
  have HH1 := Lib.hid (HH.out.below hb1)
  have HB1 := Lib.hid hb1
  obtain ⟨A, c, items, hrun, hslot⟩ := HH1.out.slot (canonL key) (by rw [canonL_len]; exact hk)
  have HS := Lib.hid hslot
  have hil : items.length ≤ 1000000 := by
    rcases hslot.src with h | ⟨e, he, h⟩
    · rw [h]; simp
    · rw [h]; exact hlen e he
  clear hlen
  have hrow := hslot.row.alloc (.cells #[str value] 9)
  clear hb1 hslot
  go_wp2_with (at_builtin; refine wpList_append_own_at _ rfl (.tmp 12) (.tmp 14) 29 rfl base 9 i9 (.string ⟨#[]⟩) 1 16 Tryz.underlying29 hi9 hz0 hz1 hz2 rfl (by decide) _ items.length (scells items) rfl hrow ⟨w1.heap.size, 0, none⟩ 1 1 [str value] rfl rfl ?c1 ?c2 ?c3 ?c4 ?c5 ?_)
  case c1 => exact cells_new w1 [str value] 9
  case c2 => intro u hu; rw [List.mem_singleton] at hu; rw [hu]; rfl
  case c3 => unfold maxLen; omega
  case c4 => omega
  case c5 => have := HB1.out.size; simp; omega
  intro v9 w9 hown9 hg9 _ hat9
  have hg : w1.grownBy w9 (Value.slice A items.length c).ownBlock := (World.grownBy_alloc w1 _ _).trans hg9
  have hsc : scells items ++ [str value] = scells (items ++ [value]) := by simp [scells]
  have hle : items.length + 1 = (items ++ [value]).length := by simp
  rw [hsc, hle] at hown9
  obtain ⟨w2, hrun2, hH2, hg2⟩ := HH1.out.put hg HS.out.ne ⟨canonL key, v9, items ++ [value]⟩ HS.out.other hown9 (by
    rcases hat9 with h | h
    · exact .inr (.inl h)
    · exact .inr (.inr ⟨_, h, by simp⟩)) (by rw [canonL_len]; exact hk) hn
  have HH2 := Lib.hid hH2
  have hb2 : Off base b w w2 := ((Off.of_below HB1.out hbase).grown hg (fun k hk => (HS.out.row.lt k hk).1) (by have := HB1.out.size; omega)).map hg2 (by have := HB1.out.size; have := hg.size; omega)
  have HB2 := Lib.hid hb2
  have HSG := Lib.hid HS.out.get
  simp only at hrun2
  clear hH2 hb2 hown9 hg9 hat9 hg hg2 hrow hrun hsc hle HS
  go_wp2_with fail
  go_end0
  exact ⟨_, rfl, HH2.out, by rw [absE_put, addH, HSG.out], HB2.out⟩

def SetPost (w : World) (base b n : Nat) (es : List Ent) (k v : BS) (e : Ending) (w' : World) : Prop :=
  ∃ es', e = .returned (.tuple #[]) ∧ Hdr w' base b (n + 1) es' ∧ absE es' = putH (absE es) k [v] ∧ Off base b w w'

theorem row_one (w : World) (v : BS) (base : Nat) (hb : base ≤ w.heap.size) : (w.alloc (.cells #[str v] 9)).ownsRow base 9 1 (.slice (some ⟨w.heap.size, 0, none⟩) 1 1) [v].length (scells [v]) :=
  ⟨rfl, .inr ⟨w.heap.size, 1, #[str v], rfl, hb, by unfold World.alloc; exact Array.getElem?_push_size, Nat.le_refl _, by unfold maxLen; omega, rfl, rfl⟩⟩

set_option maxHeartbeats 4000000 in
theorem set_at (key value : BS) (base b n : Nat) (es : List Ent) (w : World) (h : Hdr w base b n es) (hk : key.length ≤ 2147483648) (hn : n < 1000000) (hbase : base ≤ w.heap.size) :
    Calls Tryz.prog 61 #[.map (some b), str key, str value] w (SetPost w base b n es (canonL key) value) := by
  have KC := canon_at' key w hk
  have HH := Lib.hid h
  clear h
  go_enter Tryz.func61, Tryz.ntmps61
  go_wp2_with fail
  refine KC.mono ?_
  rintro e w1 ⟨rfl, hb1⟩
  have HH1 := HH.out.below hb1
  have hs1 := hb1.size
  have g := World.grownBy_alloc w1 (.cells #[str value] 9) none
  obtain ⟨w2, hrun2, hH2, hg2⟩ := HH1.put g (by simp) ⟨canonL key, .slice (some ⟨w1.heap.size, 0, none⟩) 1 1, [value]⟩ (fun e _ _ => by cases hv : e.val.ownBlock <;> simp) (row_one w1 value base (by omega)) (.inr (.inr ⟨w1.heap.size, rfl, Nat.le_refl _⟩)) (by rw [canonL_len]; exact hk) hn
  have HP : Hid (SetPost w base b n es (canonL key) value (.returned (.tuple #[])) w2) := Lib.hid ⟨_, rfl, hH2, absE_put _ _, (Off.of_below (Below.alloc hb1 hs1 (.cells #[str value] 9)) hbase).map hg2 (by simp; omega)⟩
  simp only at hrun2
  clear hH2 hg2 g HH1 HH KC hb1
  go_wp2_with fail
  go_end0
  exact HP.out

set_option maxHeartbeats 4000000 in
theorem get_at (key : BS) (base b n : Nat) (es : List Ent) (w : World) (h : Hdr w base b n es) (hk : key.length ≤ 2147483648) :
    Calls Tryz.prog 59 #[.map (some b), str key] w fun e w' => e = .returned (str ((getH (absE es) (canonL key)).headD [])) ∧ Below w.heap.size w w' := by
  have KC := canon_at' key w hk
  have HH := Lib.hid h
  clear h
  go_enter Tryz.func59, Tryz.ntmps59
  go_wp2_with fail
  refine KC.mono ?_
  rintro e w1 ⟨rfl, hb1⟩
  obtain ⟨A, c, items, hrun, hslot⟩ := (HH.out.below hb1).slot (canonL key) (by rw [canonL_len]; exact hk)
  have HG := Lib.hid hslot.get
  cases items with
  | nil =>
    have HB := Lib.hid hb1
    clear hslot hb1
    go_wp2_with fail
    go_ret
    exact ⟨by rw [HG.out]; rfl, HB.out⟩
  | cons x t =>
    obtain ⟨b1, o1, rfl, _, _, g1⟩ := reads_strs (Reads.of_own hslot.row) (by simp)
    have e0 := g1 0 (by simp)
    have HB := Lib.hid hb1
    have hpos : (0 : Int) < ((x :: t).length : Int) := by simp
    simp only [List.getElem_cons_zero, Nat.add_zero] at e0
    clear hslot hb1 g1
    go_wp2_with fail
    go_ret
    exact ⟨by rw [HG.out]; rfl, HB.out⟩

def delH (l : List (BS × List BS)) (k : BS) : List (BS × List BS) := l.filter fun p => p.1 != k
theorem Hdr.del {w : World} {base b n : Nat} {es : List Ent} (h : Hdr w base b n es) (k : BS) (hk : k.length ≤ 2147483648) (ty : TypeId) :
    ∃ w', (Builtin.delete_ #[78, 9] ty #[.map (some b), str k]).run Tryz.prog w = .ok (.tuple #[]) w' ∧ Hdr w' base b n (es.filter fun e => e.key != k) ∧ w.grownBy w' (some b) := by
  obtain ⟨D, hD, hh, ha⟩ := h.own
  obtain ⟨w', hrun, hD', ht⟩ := hD.drop law9 Tryz.underlying78 (key9 k hk) ty
  have g := ht.grown
  refine ⟨w', hrun, ⟨⟨_, hD', fun q => ?_, fun e he z => ?_⟩, ?_, fun e he => ?_, h.apart.filter _, h.lb, fun e he => h.klen e (List.mem_filter.1 he).1⟩, g⟩
  · by_cases e : q = k
    · subst e
      rw [has_del_same]
      symm
      rw [List.any_eq_false]
      intro e he
      simpa using (List.mem_filter.1 he).2
    · rw [has_del_other (by intro e2; injection e2 with e2; exact e e2), hh, Bool.eq_iff_iff]
      simp only [List.any_eq_true, List.mem_filter, beq_iff_eq, bne_iff_ne]
      constructor
      · rintro ⟨x, hx, rfl⟩; exact ⟨x, ⟨hx, e⟩, rfl⟩
      · rintro ⟨x, ⟨hx, _⟩, rfl⟩; exact ⟨x, hx, rfl⟩
  · have hm := List.mem_filter.1 he
    rw [atKey_del_other (by intro e2; injection e2 with e2; simpa [e2] using hm.2)]
    exact ha e hm.1 z
  · exact (h.nd.sublist ((List.filter_sublist).map _))
  · have hm := List.mem_filter.1 he
    have hr := h.rows e hm.1
    refine hr.kept g ?_
    cases hv : e.val.ownBlock with
    | none => exact .inl rfl
    | some j => exact .inr (fun e2 => by injection e2 with e2; have := (hr.lt j hv).1; have := h.lb; omega)
theorem absE_del (es : List Ent) (k : BS) : absE (es.filter fun e => e.key != k) = delH (absE es) k := by
  unfold absE delH
  rw [List.filter_map]
  rfl

abbrev kPath : BS := [58, 112, 97, 116, 104]
abbrev kMethod : BS := [58, 109, 101, 116, 104, 111, 100]
abbrev kAuth : BS := [58, 97, 117, 116, 104, 111, 114, 105, 116, 121]
abbrev kProto : BS := [58, 112, 114, 111, 116, 111, 99, 111, 108]
abbrev kScheme : BS := [58, 115, 99, 104, 101, 109, 101]
abbrev kStatus : BS := [58, 115, 116, 97, 116, 117, 115]
abbrev kLength : BS := [99, 111, 110, 116, 101, 110, 116, 45, 108, 101, 110, 103, 116, 104]
abbrev kCLength : BS := [67, 111, 110, 116, 101, 110, 116, 45, 76, 101, 110, 103, 116, 104]

structure PS where
  path : BS := []
  meth : BS := []
  auth : BS := []
  scheme : BS := []
  status : BS := []
  proto : BS := []
  H : AL := []
  reg : Bool := false
  hasCL : Bool := false
  hasM : Bool := false
  hasS : Bool := false
  cls : BS := []

def hasKey (H : AL) (k : BS) : Bool := H.any fun p => p.1 == k

def psPseudo (req : Bool) (s : PS) (nm vl : BS) : Option PS :=
  if s.reg then none
  else if nm = kPath then if req && !hasKey s.H kPath then some { s with path := vl, H := putH s.H kPath [] } else none
  else if nm = kMethod then if req && !s.hasM then some { s with meth := vl, hasM := true } else none
  else if nm = kAuth then if req && !hasKey s.H kAuth then some { s with auth := vl, H := putH s.H kAuth [] } else none
  else if nm = kProto then if req && !hasKey s.H kProto then some { s with proto := vl, H := putH s.H kProto [] } else none
  else if nm = kScheme then if req && !hasKey s.H kScheme then some { s with scheme := Lib.toLowerA vl, H := putH s.H kScheme [] } else none
  else if nm = kStatus then if !req && !s.hasS then some { s with status := vl, hasS := true } else none
  else none
def psRegular (s : PS) (nm vl : BS) : Option PS :=
  if !regularOk nm vl then none
  else if nm = kLength then (if !s.hasCL then some { s with reg := true, hasCL := true, cls := vl } else if s.cls = vl then some { s with reg := true } else none)
  else some { s with reg := true, H := addH s.H (canonL nm) vl }
def psStep (req : Bool) (vOk : BS × BS → Bool) (s : PS) (p : BS × BS) : Option PS :=
  if !vOk p then none else if pseudoB p.1 then psPseudo req s p.1 p.2 else psRegular s p.1 p.2
def psFold (req : Bool) (vOk : BS × BS → Bool) : PS → List (BS × BS) → Option PS
  | s, [] => some s
  | s, p :: t => (psStep req vOk s p).bind fun s' => psFold req vOk s' t

def digitB (c : UInt8) : Bool := decide (48 ≤ c.toNat ∧ c.toNat ≤ 57)
def decN (l : BS) : Nat := l.foldl (fun n c => n * 10 + (c.toNat - 48)) 0
def parseCL (l : BS) : Option Nat := if l.all digitB && !l.isEmpty && decide (decN l < 9223372036854775808) then some (decN l) else none
def psEnd (s : PS) : Option (PS × Int) := if s.cls = [] then some (s, -1) else (parseCL s.cls).map fun n => ({ s with H := putH s.H kCLength [s.cls] }, (n : Int))
def psAll (req : Bool) (vOk : BS × BS → Bool) (l : List (BS × BS)) : Option (PS × Int) := (psFold req vOk {} l).bind psEnd

/-- the header's struct -/
def hcl (s : PS) (cl : Int) (m : Value) : List Value := [str s.path, str s.meth, str s.auth, str s.scheme, str s.status, str s.proto, .int .i64 cl, m]

structure PSt (w wx : World) (Bx m : Nat) (rest : List (BS × BS)) (n : Nat) (es : List Ent) (s : PS) (cl : Int) : Prop where
  feed : Feed wx Bx rest
  hdr : Hdr wx (w.heap.size + 3) (w.heap.size + 1) n es
  abs : absE es = s.H
  hn : n ≤ m
  items : ∀ e ∈ es, e.items.length ≤ m
  g : w.grownBy wx (some Bx)
  ge : w.heap.size + 3 ≤ wx.heap.size
  cells : ∀ j v, (hcl s cl (.map (some (w.heap.size + 1))))[j]? = some v → wx.cell? ⟨w.heap.size + 2, j, none⟩ = some v
  fz : ∀ j, wx.frozen? ⟨w.heap.size + 2, j, none⟩ = false
  rcells : ∀ j v, (hcl {} 0 (.map none))[j]? = some v → wx.cell? ⟨w.heap.size, j, none⟩ = some v
  rfz : ∀ j, wx.frozen? ⟨w.heap.size, j, none⟩ = false

section
variable {w wx w' : World} {Bx m n : Nat} {rest : List (BS × BS)} {es : List Ent} {s : PS} {cl : Int}
theorem PSt.below (h : PSt w wx Bx m rest n es s cl) (k : Below wx.heap.size wx w') : PSt w w' Bx m rest n es s cl where
  feed := h.feed.cut k h.feed.lt
  hdr := h.hdr.below k
  abs := h.abs
  hn := h.hn
  items := h.items
  g := h.g.trans ((grown_below k).but _)
  ge := Nat.le_trans h.ge k.size
  cells := fun j v hv => (k.cell (p := ⟨w.heap.size + 2, j, none⟩) (by have := h.ge; dsimp only; omega)).trans (h.cells j v hv)
  fz := fun j => (k.frozen (p := ⟨w.heap.size + 2, j, none⟩) (by have := h.ge; dsimp only; omega)).trans (h.fz j)
  rcells := fun j v hv => (k.cell (p := ⟨w.heap.size, j, none⟩) (by have := h.ge; dsimp only; omega)).trans (h.rcells j v hv)
  rfz := fun j => (k.frozen (p := ⟨w.heap.size, j, none⟩) (by have := h.ge; dsimp only; omega)).trans (h.rfz j)
theorem PSt.read {t : List (BS × BS)} (h : PSt w wx Bx m rest n es s cl) (hB : Bx < w.heap.size) (hf : Feed w' Bx t) (g : wx.grownBy w' (some Bx)) : PSt w w' Bx m t n es s cl where
  feed := hf
  hdr := h.hdr.kept g (by simp; omega) (fun e he => by
    cases hv : e.val.ownBlock with
    | none => exact .inl rfl
    | some j => exact .inr (by have := (h.hdr.above e he j hv).1; simp; omega))
  abs := h.abs
  hn := h.hn
  items := h.items
  g := h.g.trans g
  ge := Nat.le_trans h.ge g.size
  cells := fun j v hv => (World.cell?_of_block (g.block (w.heap.size + 2) (by have := h.ge; omega) (by simp; omega))).trans (h.cells j v hv)
  fz := fun j => (World.frozen?_of_block (g.block (w.heap.size + 2) (by have := h.ge; omega) (by simp; omega))).trans (h.fz j)
  rcells := fun j v hv => (World.cell?_of_block (g.block w.heap.size (by have := h.ge; omega) (by simp; omega))).trans (h.rcells j v hv)
  rfz := fun j => (World.frozen?_of_block (g.block w.heap.size (by have := h.ge; omega) (by simp; omega))).trans (h.rfz j)
/-- a change of the map -/
theorem PSt.turn {n' m' : Nat} {es' : List Ent} {H' : AL} (h : PSt w wx Bx m rest n es s cl) (hB : Bx < w.heap.size) (hh : Hdr w' (w.heap.size + 3) (w.heap.size + 1) n' es') (ha : absE es' = H') (hn' : n' ≤ m') (hi' : ∀ e ∈ es', e.items.length ≤ m')
    (k : Off (w.heap.size + 3) (w.heap.size + 1) wx w') : PSt w w' Bx m' rest n' es' { s with H := H' } cl where
  feed := by
    obtain ⟨A, c, h1, h2, h3⟩ := h.feed.st
    exact ⟨⟨A, c, (k.cell (p := ⟨Bx, 0, none⟩) (by dsimp only; omega) (by dsimp only; omega)).trans h1, h2.keep (fun p hp => k.cell (by omega) (by omega)), h3⟩, (k.frozen (p := ⟨Bx, 0, none⟩) (by dsimp only; omega) (by dsimp only; omega)).trans h.feed.fz, Nat.lt_of_lt_of_le h.feed.lt k.size⟩
  hdr := hh
  abs := ha
  hn := hn'
  items := hi'
  g := ⟨k.os.trans h.g.os, k.tape.trans h.g.tape, k.output.trans h.g.output, Nat.le_trans h.g.size k.size, fun j hj hne => (k.block j (by omega) (by omega)).trans (h.g.block j hj hne)⟩
  ge := Nat.le_trans h.ge k.size
  cells := fun j v hv => (k.cell (p := ⟨w.heap.size + 2, j, none⟩) (by dsimp only; omega) (by dsimp only; omega)).trans (h.cells j v hv)
  fz := fun j => (k.frozen (p := ⟨w.heap.size + 2, j, none⟩) (by dsimp only; omega) (by dsimp only; omega)).trans (h.fz j)
  rcells := fun j v hv => (k.cell (p := ⟨w.heap.size, j, none⟩) (by dsimp only; omega) (by dsimp only; omega)).trans (h.rcells j v hv)
  rfz := fun j => (k.frozen (p := ⟨w.heap.size, j, none⟩) (by dsimp only; omega) (by dsimp only; omega)).trans (h.rfz j)
/-- a store in the struct -/
theorem PSt.set {s' : PS} {cl' : Int} {i : Nat} {u : Value} (h : PSt w wx Bx m rest n es s cl) (hB : Bx < w.heap.size) (hi : i < 8) (hs : hcl s' cl' (.map (some (w.heap.size + 1))) = (hcl s cl (.map (some (w.heap.size + 1)))).set i u) (hH : s'.H = s.H) :
    PSt w (wx.setCell ⟨w.heap.size + 2, i, none⟩ u) Bx m rest n es s' cl' where
  feed := by
    obtain ⟨A, c, h1, h2, h3⟩ := h.feed.st
    refine ⟨⟨A, c, ?_, h2.setCell (by show Bx ≤ w.heap.size + 2; omega) u, h3⟩, ?_, ?_⟩
    · rw [World.cell?_setCell_other _ _ _ _ (by simp)]; exact h1
    · simpa using h.feed.fz
    · simpa using h.feed.lt
  hdr := h.hdr.kept (grown_set wx (w.heap.size + 2) i u) (by simp) (fun e he => by
    cases hv : e.val.ownBlock with
    | none => exact .inl rfl
    | some j => exact .inr (by have := (h.hdr.above e he j hv).1; simp; omega))
  abs := by rw [hH]; exact h.abs
  hn := h.hn
  items := h.items
  g := by
    have k := grown_set wx (w.heap.size + 2) i u
    exact ⟨k.os.trans h.g.os, k.tape.trans h.g.tape, k.output.trans h.g.output, Nat.le_trans h.g.size k.size, fun j hj hne => (k.block j (by have := h.ge; omega) (by simp; omega)).trans (h.g.block j hj hne)⟩
  ge := by simpa using h.ge
  cells := fun j v hv => by
    rw [hs] at hv
    by_cases e : j = i
    · subst e
      have hold : ∃ v0, (hcl s cl (.map (some (w.heap.size + 1))))[j]? = some v0 := ⟨_, List.getElem?_eq_getElem (by simpa [hcl] using hi)⟩
      obtain ⟨v0, h0⟩ := hold
      rw [World.cell?_setCell_same _ _ _ (h.cells j v0 h0)]
      rw [List.getElem?_set_self (by simpa [hcl] using hi)] at hv
      exact hv
    · rw [World.cell?_setCell_other _ _ _ _ (by simp)]
      rw [List.getElem?_set_ne (by omega)] at hv
      exact h.cells j v hv
  fz := fun j => by simpa using h.fz j
  rcells := fun j v hv => by
    rw [World.cell?_setCell_other _ _ _ _ (by simp)]
    exact h.rcells j v hv
  rfz := fun j => by simpa using h.rfz j
end

structure PIn (w : World) (p : Addr) (Bx : Nat) (vOk : BS × BS → Bool) (l : List (BS × BS)) : Prop where
  size : trSize l ≤ 1048576
  scheme : ∀ q ∈ l, q.1 = kScheme → ascii q.2 = true
  val : ∀ q ∈ l, ∀ W, Env W p → w.grownBy W (some Bx) → Calls Tryz.prog 68 #[fldV q.1 q.2] W (ErrPost W (vOk q))

def CLPost (w : World) (s : BS) (e : Ending) (w' : World) : Prop :=
  ∃ v ev, e = .returned (.tuple #[.int .u64 v, ev]) ∧ Below w.heap.size w w' ∧ (∀ n, parseCL s = some n → v = (n : Int) ∧ ev = .nilIface) ∧ (parseCL s = none → ∃ t x, ev = .iface t x)

def HPost (w : World) (req : Bool) (vOk : BS × BS → Bool) (l : List (BS × BS)) (Bx : Nat) (e : Ending) (w' : World) : Prop :=
  ∃ v ev, e = .returned (.tuple #[v, ev]) ∧ w.grownBy w' (some Bx) ∧ ErrV (psAll req vOk l).isSome ev ∧
    (∀ s cl, psAll req vOk l = some (s, cl) → ∃ n es, v = .agg (hcl s cl (.map (some (w.heap.size + 1)))).toArray ∧ Hdr w' (w.heap.size + 3) (w.heap.size + 1) n es ∧ absE es = s.H ∧ n ≤ l.length + 1 ∧ (∀ e ∈ es, e.items.length ≤ l.length + 1) ∧ w.heap.size + 3 ≤ w'.heap.size) ∧
    (psAll req vOk l = none → v = .agg (hcl {} 0 (.map none)).toArray)

theorem getElem_eight {α : Type} {f : Nat → Prop} (h0 : f 0) (h1 : f 1) (h2 : f 2) (h3 : f 3) (h4 : f 4) (h5 : f 5) (h6 : f 6) (h7 : f 7) : ∀ j, j < 8 → f j := by
  intro j hj
  match j, hj with
  | 0, _ => exact h0
  | 1, _ => exact h1
  | 2, _ => exact h2
  | 3, _ => exact h3
  | 4, _ => exact h4
  | 5, _ => exact h5
  | 6, _ => exact h6
  | 7, _ => exact h7

def startW (w : World) : World := ((w.alloc (.cells #[str [], str [], str [], str [], str [], str [], .int .i64 0, .map none] 115)).alloc (.map #[] 0)).alloc (.cells #[str [], str [], str [], str [], str [], str [], .int .i64 0, .map (some (w.heap.size + 1))] 115)
theorem PSt.start (w : World) (Bx : Nat) (l : List (BS × BS)) (hF : Feed w Bx l) : PSt w (startW w) Bx 0 l 0 [] {} 0 where
  feed := by
    have h1 := hF.cut (below_new w (.cells #[str [], str [], str [], str [], str [], str [], .int .i64 0, .map none] 115)) hF.lt
    have h2 := h1.cut (below_new _ (.map #[] 0)) h1.lt
    exact h2.cut (below_new _ _) h2.lt
  hdr := by
    have h := (Hdr.made (w.alloc (.cells #[str [], str [], str [], str [], str [], str [], .int .i64 0, .map none] 115))).below (below_new _ (.cells #[str [], str [], str [], str [], str [], str [], .int .i64 0, .map (some (w.heap.size + 1))] 115))
    have e : (w.alloc (.cells #[str [], str [], str [], str [], str [], str [], .int .i64 0, .map none] 115)).heap.size = w.heap.size + 1 := by simp
    rw [e] at h
    exact ⟨h.own, h.nd, (fun e he => by cases he), List.Pairwise.nil, by omega, (fun e he => by cases he)⟩
  abs := rfl
  hn := Nat.le_refl _
  items := fun e he => by cases he
  g := ((World.grownBy_alloc w _ _).trans (World.grownBy_alloc _ _ _)).trans (World.grownBy_alloc _ _ _)
  ge := by simp [startW]
  cells := fun j v hv => by
    have h := cells_new ((w.alloc (.cells #[str [], str [], str [], str [], str [], str [], .int .i64 0, .map none] 115)).alloc (.map #[] 0)) (hcl {} 0 (.map (some (w.heap.size + 1)))) 115 j v hv
    rw [Addr.add_lit, Nat.zero_add] at h
    rw [← h]
    simp [startW, hcl]
  fz := fun j => World.frozen?_alloc_at _ _ _ _ (by simp)
  rcells := fun j v hv => by
    have h := cells_new w (hcl {} 0 (.map none)) 115 j v hv
    rw [Addr.add_lit, Nat.zero_add] at h
    have k : Below (w.heap.size + 1) (w.alloc (.cells (hcl {} 0 (.map none)).toArray 115)) (startW w) := by
      have h1 := below_new w (.cells (hcl {} 0 (.map none)).toArray 115)
      have h2 := below_new (w.alloc (.cells (hcl {} 0 (.map none)).toArray 115)) (.map #[] 0)
      have e : (w.alloc (.cells (hcl {} 0 (.map none)).toArray 115)).heap.size = w.heap.size + 1 := by simp
      rw [e] at h2
      exact h2.alloc (by simp) _
    exact (k.cell (p := ⟨w.heap.size, j, none⟩) (by dsimp only; omega)).trans h
  rfz := fun j => (World.frozen?_alloc_past _ _ _ (by simp; omega)).trans ((World.frozen?_alloc_past _ _ _ (by simp)).trans (World.frozen?_alloc_at _ _ _ _ rfl))

/-- the eight stores of a struct -/
def put8 (wx : World) (B : Nat) (s : PS) (cl : Int) (m : Value) : World :=
  (((((((wx.setCell ⟨B, 0, none⟩ (str s.path)).setCell ⟨B, 1, none⟩ (str s.meth)).setCell ⟨B, 2, none⟩ (str s.auth)).setCell ⟨B, 3, none⟩ (str s.scheme)).setCell ⟨B, 4, none⟩ (str s.status)).setCell ⟨B, 5, none⟩ (str s.proto)).setCell ⟨B, 6, none⟩ (.int .i64 cl)).setCell ⟨B, 7, none⟩ m
theorem put8_grown (wx : World) (B : Nat) (s : PS) (cl : Int) (m : Value) : wx.grownBy (put8 wx B s cl m) (some B) :=
  (((((((grown_set wx B 0 _).trans (grown_set _ B 1 _)).trans (grown_set _ B 2 _)).trans (grown_set _ B 3 _)).trans (grown_set _ B 4 _)).trans (grown_set _ B 5 _)).trans (grown_set _ B 6 _)).trans (grown_set _ B 7 _)
theorem cs_same {w : World} {B i : Nat} {v v0 : Value} (h : w.cell? ⟨B, i, none⟩ = some v0) : (w.setCell ⟨B, i, none⟩ v).cell? ⟨B, i, none⟩ = some v := World.cell?_setCell_same _ _ _ h
theorem cs_other {w : World} {B i j : Nat} {v x : Value} (hne : i ≠ j) (h : w.cell? ⟨B, j, none⟩ = some x) : (w.setCell ⟨B, i, none⟩ v).cell? ⟨B, j, none⟩ = some x := (World.cell?_setCell_other _ _ _ _ (by simp)).trans h
theorem put8_wipe (w : World) (B : Nat) : ((((((((w.setCell ⟨B, 0, none⟩ (Value.string { data := #[] })).setCell ⟨B, 1, none⟩ (Value.string { data := #[] })).setCell ⟨B, 2, none⟩ (Value.string { data := #[] })).setCell ⟨B, 3, none⟩ (Value.string { data := #[] })).setCell ⟨B, 4, none⟩ (Value.string { data := #[] })).setCell ⟨B, 5, none⟩ (Value.string { data := #[] })).setCell ⟨B, 6, none⟩ (Value.int IntKind.i64 0)).setCell ⟨B, 7, none⟩ (Value.map none)) = put8 w B {} 0 (.map none) := rfl
theorem put8_cell (wx : World) (B : Nat) (s : PS) (cl : Int) (m : Value) (h : ∀ j, j < 8 → ∃ v, wx.cell? ⟨B, j, none⟩ = some v) : ∀ j v, (hcl s cl m)[j]? = some v → (put8 wx B s cl m).cell? ⟨B, j, none⟩ = some v := by
  obtain ⟨v0, h0⟩ := h 0 (by omega)
  obtain ⟨v1, h1⟩ := h 1 (by omega)
  obtain ⟨v2, h2⟩ := h 2 (by omega)
  obtain ⟨v3, h3⟩ := h 3 (by omega)
  obtain ⟨v4, h4⟩ := h 4 (by omega)
  obtain ⟨v5, h5⟩ := h 5 (by omega)
  obtain ⟨v6, h6⟩ := h 6 (by omega)
  obtain ⟨v7, h7⟩ := h 7 (by omega)
  intro j v hv
  have hj : j < 8 := (List.getElem?_eq_some_iff.1 hv).1
  unfold put8
  match j, hj, hv with
  | 0, _, hv => have e : str s.path = v := Option.some.inj hv; rw [← e]; exact cs_other (by decide) (cs_other (by decide) (cs_other (by decide) (cs_other (by decide) (cs_other (by decide) (cs_other (by decide) (cs_other (by decide) (cs_same (h0))))))))
  | 1, _, hv => have e : str s.meth = v := Option.some.inj hv; rw [← e]; exact cs_other (by decide) (cs_other (by decide) (cs_other (by decide) (cs_other (by decide) (cs_other (by decide) (cs_other (by decide) (cs_same (cs_other (by decide) (h1))))))))
  | 2, _, hv => have e : str s.auth = v := Option.some.inj hv; rw [← e]; exact cs_other (by decide) (cs_other (by decide) (cs_other (by decide) (cs_other (by decide) (cs_other (by decide) (cs_same (cs_other (by decide) (cs_other (by decide) (h2))))))))
  | 3, _, hv => have e : str s.scheme = v := Option.some.inj hv; rw [← e]; exact cs_other (by decide) (cs_other (by decide) (cs_other (by decide) (cs_other (by decide) (cs_same (cs_other (by decide) (cs_other (by decide) (cs_other (by decide) (h3))))))))
  | 4, _, hv => have e : str s.status = v := Option.some.inj hv; rw [← e]; exact cs_other (by decide) (cs_other (by decide) (cs_other (by decide) (cs_same (cs_other (by decide) (cs_other (by decide) (cs_other (by decide) (cs_other (by decide) (h4))))))))
  | 5, _, hv => have e : str s.proto = v := Option.some.inj hv; rw [← e]; exact cs_other (by decide) (cs_other (by decide) (cs_same (cs_other (by decide) (cs_other (by decide) (cs_other (by decide) (cs_other (by decide) (cs_other (by decide) (h5))))))))
  | 6, _, hv => have e : Value.int .i64 cl = v := Option.some.inj hv; rw [← e]; exact cs_other (by decide) (cs_same (cs_other (by decide) (cs_other (by decide) (cs_other (by decide) (cs_other (by decide) (cs_other (by decide) (cs_other (by decide) (h6))))))))
  | 7, _, hv => have e : m = v := Option.some.inj hv; rw [← e]; exact cs_same (cs_other (by decide) (cs_other (by decide) (cs_other (by decide) (cs_other (by decide) (cs_other (by decide) (cs_other (by decide) (cs_other (by decide) (h7))))))))
attribute [irreducible] put8
theorem PSt.rex {w wx : World} {Bx m n : Nat} {rest : List (BS × BS)} {es : List Ent} {s : PS} {cl : Int} (h : PSt w wx Bx m rest n es s cl) : ∀ j, j < 8 → ∃ v, wx.cell? ⟨w.heap.size, j, none⟩ = some v := fun j hj =>
  ⟨_, h.rcells j _ (List.getElem?_eq_getElem (by simpa [hcl] using hj))⟩
theorem PSt.fail {w wx : World} {Bx m n : Nat} {rest : List (BS × BS)} {es : List Ent} {s : PS} {cl : Int} {req : Bool} {vOk : BS × BS → Bool} {l : List (BS × BS)} (h : PSt w wx Bx m rest n es s cl) (hn : psAll req vOk l = none) (ev : Value) (he : ErrV false ev) :
    HPost w req vOk l Bx (.returned (.tuple #[.agg (hcl {} 0 (.map none)).toArray, ev])) (put8 wx w.heap.size {} 0 (.map none)) :=
  ⟨.agg (hcl {} 0 (.map none)).toArray, ev, rfl, ⟨(put8_grown wx w.heap.size {} 0 (.map none)).os.trans h.g.os, (put8_grown wx w.heap.size {} 0 (.map none)).tape.trans h.g.tape, (put8_grown wx w.heap.size {} 0 (.map none)).output.trans h.g.output, Nat.le_trans h.g.size (put8_grown wx w.heap.size {} 0 (.map none)).size, fun j hj hne => ((put8_grown wx w.heap.size {} 0 (.map none)).block j (by have := h.g.size; omega) (by simp; omega)).trans (h.g.block j hj hne)⟩,
    by rw [hn]; exact he, (fun s cl hs => by rw [hn] at hs; cases hs), fun _ => rfl⟩
theorem new_at' (s : ByteArray) (w : World) : Calls Tryz.prog 57 #[.string s] w fun e w' => ∃ q : Addr, e = .returned (.iface 136 (.pointer (some q))) ∧ Below w.heap.size w w' :=
  (new_at s w).mono fun e w' h => ⟨_, h.1, h.2⟩
theorem PSt.weak {w wx : World} {Bx m m' n : Nat} {rest : List (BS × BS)} {es : List Ent} {s : PS} {cl : Int} (h : PSt w wx Bx m rest n es s cl) (hm : m ≤ m') : PSt w wx Bx m' rest n es s cl :=
  { h with hn := Nat.le_trans h.hn hm, items := fun e he => Nat.le_trans (h.items e he) hm }
theorem PSt.flags {w wx : World} {Bx m n : Nat} {rest : List (BS × BS)} {es : List Ent} {s s' : PS} {cl : Int} (h : PSt w wx Bx m rest n es s cl) (h1 : hcl s' cl (.map (some (w.heap.size + 1))) = hcl s cl (.map (some (w.heap.size + 1)))) (h2 : s'.H = s.H) : PSt w wx Bx m rest n es s' cl :=
  ⟨h.feed, h.hdr, by rw [h2]; exact h.abs, h.hn, h.items, h.g, h.ge, by rw [h1]; exact h.cells, h.fz, h.rcells, h.rfz⟩
theorem PSt.done {w wx : World} {Bx m n : Nat} {rest : List (BS × BS)} {es : List Ent} {s : PS} {cl : Int} {req : Bool} {vOk : BS × BS → Bool} {l : List (BS × BS)} (h : PSt w wx Bx m rest n es s cl) (hm : m ≤ l.length + 1) (hs : psAll req vOk l = some (s, cl)) :
    HPost w req vOk l Bx (.returned (.tuple #[.agg (hcl s cl (.map (some (w.heap.size + 1)))).toArray, .nilIface])) (put8 wx w.heap.size s cl (.map (some (w.heap.size + 1)))) := by
  have g8 := put8_grown wx w.heap.size s cl (.map (some (w.heap.size + 1)))
  refine ⟨_, _, rfl, ⟨g8.os.trans h.g.os, g8.tape.trans h.g.tape, g8.output.trans h.g.output, Nat.le_trans h.g.size g8.size, fun j hj hne => (g8.block j (by have := h.g.size; omega) (by simp; omega)).trans (h.g.block j hj hne)⟩, by rw [hs]; rfl, fun s' cl' he => ?_, fun he => by rw [hs] at he; cases he⟩
  rw [hs] at he
  injection he with he
  injection he with h1 h2
  subst h1 h2
  refine ⟨n, es, rfl, h.hdr.kept g8 (by simp) (fun e he => ?_), h.abs, Nat.le_trans h.hn hm, (fun e he => Nat.le_trans (h.items e he) hm), Nat.le_trans h.ge g8.size⟩
  cases hv : e.val.ownBlock with
  | none => exact .inl rfl
  | some j => exact .inr (by have := (h.hdr.above e he j hv).1; simp; omega)
theorem put8_fold (w : World) (B : Nat) (s : PS) (cl : Int) (m : Value) : ((((((((w.setCell ⟨B, 0, none⟩ (str s.path)).setCell ⟨B, 1, none⟩ (str s.meth)).setCell ⟨B, 2, none⟩ (str s.auth)).setCell ⟨B, 3, none⟩ (str s.scheme)).setCell ⟨B, 4, none⟩ (str s.status)).setCell ⟨B, 5, none⟩ (str s.proto)).setCell ⟨B, 6, none⟩ (Value.int IntKind.i64 cl)).setCell ⟨B, 7, none⟩ m) = put8 w B s cl m := by unfold put8; rfl
theorem items_put {es : List Ent} {m : Nat} (h : ∀ e ∈ es, e.items.length ≤ m) {k : BS} {v : Value} : ∀ e ∈ putEnt es ⟨k, v, []⟩, e.items.length ≤ m + 1 := fun e he => by
  rcases putEnt_mem he with rfl | ⟨he, _⟩
  · simp
  · exact Nat.le_succ_of_le (h e he)
theorem no_key {es : List Ent} {H : AL} {k : BS} (ha : absE es = H) (h : hasKey H k = false) : ∀ e ∈ es, e.key ≠ k := by
  intro e he e2
  unfold hasKey at h
  rw [List.any_eq_false] at h
  refine h (e.key, e.items) ?_ (by simpa using e2)
  rw [← ha]
  exact List.mem_map_of_mem (f := fun e : Ent => (e.key, e.items)) he
theorem has_key {es : List Ent} {H : AL} {k : BS} (ha : absE es = H) (h : hasKey H k = true) : ∃ e ∈ es, e.key = k := by
  unfold hasKey at h
  obtain ⟨q, hq, hk⟩ := List.any_eq_true.1 h
  rw [← ha] at hq
  obtain ⟨e, he, rfl⟩ := List.mem_map.1 hq
  exact ⟨e, he, by simpa using hk⟩

theorem put8_H (w : World) (B : Nat) (s : PS) (H' : AL) (cl : Int) (m : Value) : put8 w B { s with H := H' } cl m = put8 w B s cl m := by unfold put8; rfl
def SwRel (w wx : World) (req : Bool) (Bx k : Nat) (rest : List (BS × BS)) (s : PS) (nm vl : BS) (s13 s14 s19 s20 : Value) : Prop :=
  ∃ (n : Nat) (es : List Ent) (s' : PS) (dup isr : Bool), s13 = .bool s'.hasM ∧ s14 = .bool s'.hasS ∧ s19 = .bool isr ∧ s20 = .bool dup ∧ PSt w wx Bx (k + 1) rest n es s' 0 ∧ s'.reg = s.reg ∧ s'.hasCL = s.hasCL ∧ s'.cls = s.cls ∧
    psPseudo req s nm vl = if dup then none else if isr == req then none else some s'
theorem Hdr.look_anyC {w : World} {base b n : Nat} {es : List Ent} (h : Hdr w base b n es) (k : BS) (hk : k.length ≤ 2147483648) :
    ∃ v, (Instr.lookup 78 (.map (some b)) (str k) true).run Tryz.prog w = .ok (.tuple #[v, .bool (hasKey (absE es) k)]) w := by
  cases hd : hasKey (absE es) k
  · exact ⟨_, h.look_ok_no k hk (no_key rfl hd)⟩
  · obtain ⟨e, he, rfl⟩ := has_key rfl hd
    exact ⟨_, h.look_ok e he⟩
theorem info115 : (Tryz.prog.info? 115).map (·.size) = some 8 := by kernel_rfl
theorem und115 : ∃ d, Tryz.prog.underlying 115 = some d ∧ d.isRow = true := ⟨_, Tryz.underlying115, rfl⟩
theorem put8_cells (w : World) (B : Nat) (s : PS) (cl : Int) (m : Value) : w.setCells B 0 (hcl s cl m) = put8 w B s cl m := by unfold put8 hcl; rfl
theorem wpList_store8 {ops : Array Oper} {rest : List Oper} {op : Oper} {a : Act} {w : World} {Q : Exit → Act → World → Prop} (hgd : op.guard = none) (y : Operand) (ho : op.op = .store 115 (.tmp 8) y) (B : Nat) (s : PS) (cl : Int) (m : Value)
    (hx : a.eval (.tmp 8) = .pointer (some ⟨B, 0, none⟩)) (hy : a.eval y = .agg (hcl s cl m).toArray) (ht : w.there B 0 8) (hm : m.oneCell' = true) (h : wpList Tryz.prog ops Q rest (a.put op.dst undef) (put8 w B s cl m)) : wpList Tryz.prog ops Q (op :: rest) a w := by
  refine wpList_store_mid hgd 115 (.tmp 8) y ho B 0 (hcl s cl m).toArray hx hy ht info115 (all_oneCell_toArray fun v hv => ?_) ?_
  · simp only [hcl, List.mem_cons, List.not_mem_nil, or_false] at hv
    rcases hv with rfl | rfl | rfl | rfl | rfl | rfl | rfl | rfl
    all_goals first | rfl | exact hm
  · rw [List.toList_toArray, put8_cells]
    exact h
theorem wpList_load8 {ops : Array Oper} {rest : List Oper} {op : Oper} {a : Act} {w : World} {Q : Exit → Act → World → Prop} (hgd : op.guard = none) (ho : op.op = .load 115 (.tmp 10)) (B : Nat) (s : PS) (cl : Int) (m : Value)
    (hx : a.eval (.tmp 10) = .pointer (some ⟨B, 0, none⟩)) (hc : ∀ j v, (hcl s cl m)[j]? = some v → w.cell? ⟨B, j, none⟩ = some v) (h : wpList Tryz.prog ops Q rest (a.put op.dst (.agg (hcl s cl m).toArray)) w) : wpList Tryz.prog ops Q (op :: rest) a w := by
  obtain ⟨d, h1, h2⟩ := und115
  exact wpList_load_mid hgd 115 (.tmp 10) ho B 0 hx (hcl s cl m) d (fun j v hv => by rw [Nat.zero_add]; exact hc j v hv) h1 h2 info115 h
theorem PSt.there {w wx : World} {Bx m n : Nat} {rest : List (BS × BS)} {es : List Ent} {s : PS} {cl : Int} (h : PSt w wx Bx m rest n es s cl) : wx.there w.heap.size 0 8 := fun j hj => by
  obtain ⟨v, hv⟩ := h.rex j hj
  rw [Nat.zero_add]
  exact ⟨by rw [hv]; rfl, h.rfz j⟩
end Go.Proofs.YtgcfnhchmmkndaaGreatDoor
