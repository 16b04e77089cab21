/- bytes.NewReader, (*bytes.Reader).ReadByte and Len, quicvarint.Read and impl.VNRead: what they answer for any bytes. -/
import Derived.Test.YtpegafbcfpedoaaDoorT3
import Derived.Handy
namespace Go.Proofs.YtpegafbcfpedoaaDoor
open Go.RowKit
set_option linter.unusedVariables false

/-- block g is just the cells cs of element type t, none frozen -/
def Blk (w : World) (g : Nat) (t : TypeId) (cs : Array Value) : Prop := w.heap[g]? = some (.cells cs t (0, 0))
section
variable {w w' : World} {g : Nat} {t : TypeId} {cs : Array Value}
theorem Blk.lt (h : Blk w g t cs) : g < w.heap.size := by
  rcases Nat.lt_or_ge g w.heap.size with hlt | hge
  · exact hlt
  · unfold Blk at h; rw [Array.getElem?_eq_none hge] at h; cases h
theorem Blk.cell (h : Blk w g t cs) (i : Nat) : w.cell? ⟨g, i, none⟩ = cs[i]? := cell_of_row w g i cs t (0, 0) h
theorem Blk.frozen (h : Blk w g t cs) (i : Nat) : w.frozen? ⟨g, i, none⟩ = false := by
  unfold Blk at h
  simp [World.frozen?, h]
theorem Blk.new (w : World) (t : TypeId) (cs : Array Value) : Blk (w.alloc (.cells cs t)) w.heap.size t cs := heap_alloc_new w _
theorem Blk.drew (h : Blk w g t cs) : Blk w.drew g t cs := h
theorem Blk.drewN (h : Blk w g t cs) (n : Nat) : Blk (w.drewN n) g t cs := h
theorem Blk.alloc (h : Blk w g t cs) (o : Obj) : Blk (w.alloc o) g t cs := (Below.heap_alloc w o g h.lt).trans h
theorem Blk.set_ (h : Blk w g t cs) (i : Nat) (u : Value) : Blk (w.setCell ⟨g, i, none⟩ u) g t (cs.setIfInBounds i u) := by
  unfold Blk at h ⊢
  simp [World.setCell, Array.getElem?_modify, h]
theorem Blk.far (h : Blk w g t cs) {p : Addr} (hp : g ≠ p.block) (u : Value) : Blk (w.setCell p u) g t cs := (Below.heap_setCell w p u g hp).trans h
theorem Blk.below {B : Nat} (h : Blk w g t cs) (hb : Below B w w') (hg : g < B) : Blk w' g t cs := (hb.block g hg).trans h
theorem Blk.grown {row : Option Nat} (h : Blk w g t cs) (hb : w.grownBy w' row) (hg : some g ≠ row) : Blk w' g t cs := (hb.block g h.lt hg).trans h
end

theorem only_refl (w : World) (row : Option Nat) : w.grownBy w row := ⟨rfl, rfl, rfl, Nat.le_refl _, fun _ _ _ => rfl⟩
theorem only_drewN {a w : World} {row : Option Nat} (h : a.grownBy w row) (n : Nat) : a.grownBy (w.drewN n) row := ⟨h.os, h.tape, h.output, h.size, h.block⟩
theorem only_drew {a w : World} {row : Option Nat} (h : a.grownBy w row) : a.grownBy w.drew row := ⟨h.os, h.tape, h.output, h.size, h.block⟩
theorem only_alloc {a w : World} {row : Option Nat} (h : a.grownBy w row) (o : Obj) : a.grownBy (w.alloc o) row :=
  ⟨h.os, h.tape, h.output, Nat.le_trans h.size (by simp), fun i hi hne => (Below.heap_alloc w o i (Nat.lt_of_lt_of_le hi h.size)).trans (h.block i hi hne)⟩
theorem only_setCell {a w : World} {g : Nat} (h : a.grownBy w (some g)) {p : Addr} (hp : p.block = g ∨ a.heap.size ≤ p.block) (u : Value) : a.grownBy (w.setCell p u) (some g) :=
  ⟨h.os, h.tape, h.output, by simpa [World.setCell] using h.size, fun i hi hne => (Below.heap_setCell w p u i (by
    rintro rfl
    rcases hp with hp | hp
    · exact hne (by rw [hp])
    · omega)).trans (h.block i hi hne)⟩

theorem newReader (A : Option Addr) (n c : Nat) (w : World) :
    Calls Tryd.prog 18 #[.slice A n c] w fun e w' => e = .returned (.pointer (some ⟨w.heap.size, 0, none⟩)) ∧ w.alloc (.cells #[.slice A n c, .int .i64 0, .int .i64 (-1)] 59) = w' := by
  go_enter Tryd.func18, Tryd.ntmps18
  go_wp2
  go_ret
  exact ⟨rfl, rfl⟩

/-- the reader in block r stands before byte k of the n bytes at A -/
def Rd (w : World) (r : Nat) (A : Option Addr) (n c k : Nat) : Prop := ∃ p : Int, Blk w r 59 #[.slice A n c, .int .i64 k, .int .i64 p]

/-- a byte was read -/
def RBok (w : World) (r : Nat) (A : Option Addr) (n c k : Nat) (x : UInt8) (e : Ending) (w' : World) : Prop :=
  e = .returned (.tuple #[.int .u8 x.toNat, .nilIface]) ∧ Rd w' r A n c (k + 1) ∧ w.grownBy w' (some r)
/-- there was none left -/
def RBend (w : World) (r : Nat) (A : Option Addr) (n c k : Nat) (er : Value) (e : Ending) (w' : World) : Prop :=
  e = .returned (.tuple #[.int .u8 0, er]) ∧ Rd w' r A n c k ∧ w.grownBy w' (some r)

theorem readByte_ok (r b o n c k : Nat) (x : UInt8) (w : World) (hrd : Rd w r (some ⟨b, o, none⟩) n c k) (hk : k < n) (hn : n ≤ 1099511627776) (hbr : ¬ b = r) (hc : w.cell? ⟨b, o + k, none⟩ = some (.int .u8 (x.toNat : Int))) :
    Calls Tryd.prog 40 #[.pointer (some ⟨r, 0, none⟩)] w (RBok w r (some ⟨b, o, none⟩) n c k x) := by
  obtain ⟨p, hblk⟩ := hrd
  have f0 := hblk.frozen 0; have f1 := hblk.frozen 1; have f2 := hblk.frozen 2
  have c0 : w.cell? ⟨r, 0, none⟩ = some (.slice (some ⟨b, o, none⟩) n c) := by rw [hblk.cell]; rfl
  have c1 : w.cell? ⟨r, 1, none⟩ = some (.int .i64 k) := by rw [hblk.cell]; rfl
  have c2 : w.cell? ⟨r, 2, none⟩ = some (.int .i64 p) := by rw [hblk.cell]; rfl
  have hge : ¬ ((n : Int) ≤ (k : Int)) := by omega
  have hlt' : (k : Int) < (n : Int) := by omega
  have HB := Lib.hid hblk
  clear hblk
  go_enter Tryd.func40, Tryd.ntmps40
  go_wp2
  go_quiet (fail)
  go_wp2
  go_quiet (fail)
  go_wp2
  go_ret2
  refine ⟨rfl, ⟨-1, ?_⟩, ?_⟩
  · exact ((HB.out.set_ 2 (.int .i64 (-1))).set_ 1 (.int .i64 ((k : Int) + 1)))
  · repeat (first | exact only_refl _ _ | refine only_drewN ?_ _ | refine only_drew ?_ | refine only_setCell ?_ (.inl rfl) _)

theorem readByte_end (r n c k : Nat) (A : Option Addr) (w : World) (t0 : TypeId) (v0 : Value) (g0 : w.cell? ⟨0, 0, none⟩ = some (.iface t0 v0)) (h0r : ¬ 0 = r) (hrd : Rd w r A n c k) (hk : n ≤ k) (hn : k ≤ 1099511627776) :
    Calls Tryd.prog 40 #[.pointer (some ⟨r, 0, none⟩)] w (RBend w r A n c k (.iface t0 v0)) := by
  obtain ⟨p, hblk⟩ := hrd
  have f0 := hblk.frozen 0; have f1 := hblk.frozen 1; have f2 := hblk.frozen 2
  have c0 : w.cell? ⟨r, 0, none⟩ = some (.slice A n c) := by rw [hblk.cell]; rfl
  have c1 : w.cell? ⟨r, 1, none⟩ = some (.int .i64 k) := by rw [hblk.cell]; rfl
  have c2 : w.cell? ⟨r, 2, none⟩ = some (.int .i64 p) := by rw [hblk.cell]; rfl
  have hge : (n : Int) ≤ (k : Int) := by omega
  have g0' : (w.setCell ⟨r, 2, none⟩ (.int .i64 (-1))).cell? ⟨0, 0, none⟩ = some (.iface t0 v0) := (World.cell?_setCell_other w _ _ _ (by simp)).trans g0
  have HB := Lib.hid hblk
  clear hblk
  go_enter Tryd.func40, Tryd.ntmps40
  go_wp2
  go_quiet (fail)
  go_wp2
  go_quiet (fail)
  go_wp2
  go_ret2
  refine ⟨rfl, ⟨-1, ?_⟩, ?_⟩
  · exact HB.out.set_ 2 (.int .i64 (-1))
  · repeat (first | exact only_refl _ _ | refine only_drewN ?_ _ | refine only_drew ?_ | refine only_setCell ?_ (.inl rfl) _)

theorem readerLen (r n c k : Nat) (A : Option Addr) (w : World) (hrd : Rd w r A n c k) (hk : k ≤ n) (hn : n ≤ 1099511627776) :
    Calls Tryd.prog 20 #[.pointer (some ⟨r, 0, none⟩)] w fun e w' => e = .returned (.int .i64 ((n - k : Nat) : Int)) ∧ Below w.heap.size w w' := by
  obtain ⟨p, hblk⟩ := hrd
  have c0 : w.cell? ⟨r, 0, none⟩ = some (.slice A n c) := by rw [hblk.cell]; rfl
  have c1 : w.cell? ⟨r, 1, none⟩ = some (.int .i64 k) := by rw [hblk.cell]; rfl
  have w1 : IntKind.i64.wrap ((n : Int) - (k : Int)) = ((n - k : Nat) : Int) := by rw [IntWalk.i64_in _ (by omega)]; omega
  have W1 := Lib.hid w1
  clear hblk w1
  by_cases hlt : k < n
  · have h1 : ¬ (n : Int) ≤ (k : Int) := by omega
    go_enter Tryd.func20, Tryd.ntmps20
    go_wp2
    go_quiet (fail)
    go_wp2
    go_quiet (fail)
    go_wp2
    go_ret
    exact ⟨congrArg (fun z => Ending.returned (Value.int .i64 z)) (by omega), below_drewN' (below_drewN' (Below.refl _ _) _) _⟩
  · have h1 : (n : Int) ≤ (k : Int) := by omega
    go_enter Tryd.func20, Tryd.ntmps20
    go_wp2
    go_quiet (fail)
    go_wp2
    go_ret
    exact ⟨congrArg (fun z => Ending.returned (Value.int .i64 z)) (by omega), below_drewN' (Below.refl _ _) _⟩

/-- where a reading of numbers stands: before byte k -/
def St (w w1 : World) (B r : Nat) (A : Option Addr) (n c : Nat) (bs : List UInt8) (t0 : TypeId) (v0 : Value) (k : Nat) : Prop :=
  Rd w1 r A n c k ∧ Reads w1 B 1 A n (bcells bs) ∧ w1.cell? ⟨0, 0, none⟩ = some (.iface t0 v0) ∧ w.grownBy w1 (some r) ∧ B ≤ w1.heap.size
def RB (w : World) (B r : Nat) (A : Option Addr) (n c : Nat) (bs : List UInt8) (t0 : TypeId) (v0 : Value) (k : Nat) (e : Ending) (w2 : World) : Prop :=
  (∃ x : UInt8, bs[k]? = some x ∧ e = .returned (.tuple #[.int .u8 x.toNat, .nilIface]) ∧ St w w2 B r A n c bs t0 v0 (k + 1)) ∨
  (bs.length ≤ k ∧ e = .returned (.tuple #[.int .u8 0, .iface t0 v0]) ∧ St w w2 B r A n c bs t0 v0 k)

theorem rb {w w1 : World} {B r : Nat} {A : Option Addr} {n c : Nat} {bs : List UInt8} {t0 : TypeId} {v0 : Value} {k : Nat} (hs : St w w1 B r A n c bs t0 v0 k) (hk : k ≤ n) (hn : n ≤ 1099511627776)
    (hB : B ≤ r) (h0 : ¬ 0 = r) : Calls Tryd.prog 40 #[.pointer (some ⟨r, 0, none⟩)] w1 (RB w B r A n c bs t0 v0 k) := by
  obtain ⟨hrd, hr, g0, hg, hz⟩ := hs
  have hl : bs.length = n := by have := hr.1; rw [bcells_length] at this; omega
  have after : ∀ w2, w1.grownBy w2 (some r) → ∀ j, Rd w2 r A n c j → St w w2 B r A n c bs t0 v0 j := fun w2 hg2 j hrd2 =>
    ⟨hrd2, hr.grown hg2 hz (fun g e => by injection e with e; omega), (World.cell?_of_block (hg2.block 0 (World.block_lt_of_cell? w1 _ g0) (by simp; omega))).trans g0, World.grownBy.trans hg hg2, Nat.le_trans hz hg2.size⟩
  by_cases hlt : k < n
  · obtain ⟨b, o, rfl, hb, _, hc⟩ := hr.byte (by omega)
    refine (readByte_ok r b o n c k (bs[k]'(by omega)) w1 hrd hlt hn (by omega) (hc k (by omega))).mono fun e w2 h => ?_
    exact .inl ⟨_, List.getElem?_eq_getElem (by omega), h.1, after w2 h.2.2 _ h.2.1⟩
  · refine (readByte_end r n c k A w1 t0 v0 g0 h0 hrd (by omega) (by omega)).mono fun e w2 h => ?_
    exact .inr ⟨by omega, h.1, after w2 h.2.2 _ h.2.1⟩

theorem u8_and192 (x : UInt8) : bits .and .u8 (x.toNat : Int) 192 = ((x.toNat / 64 * 64 : Nat) : Int) := by
  have hx := x.toNat_lt
  have h1 := (bits_nat .u8 8 (by decide) (fun n h0 h1 => IntWalk.u8_in n (by omega)) x.toNat 192 (by omega) (by omega)).1
  rw [show ((192 : Nat) : Int) = 192 from rfl] at h1
  rw [h1]
  have key : ∀ a : Fin 256, a.val &&& 192 = a.val / 64 * 64 := by decide +kernel
  exact congrArg Nat.cast (key ⟨x.toNat, by omega⟩)

/-- what Read answers of the bytes from k on -/
def RV (w : World) (B r : Nat) (A : Option Addr) (n c : Nat) (bs : List UInt8) (t0 : TypeId) (v0 : Value) (k : Nat) (e : Ending) (w2 : World) : Prop :=
  (vnUsed (bs.drop k) ≠ 0 ∧ e = .returned (.tuple #[.int .u64 (vnNum (bs.drop k)), .nilIface]) ∧ St w w2 B r A n c bs t0 v0 (k + vnUsed (bs.drop k))) ∨
  (vnUsed (bs.drop k) = 0 ∧ e = .returned (.tuple #[.int .u64 0, .iface t0 v0]) ∧ ∃ j, j ≤ n ∧ St w w2 B r A n c bs t0 v0 j)

theorem drop_cons' {bs : List UInt8} {k : Nat} {x : UInt8} (h : bs[k]? = some x) : bs.drop k = x :: bs.drop (k + 1) := by
  obtain ⟨hk, rfl⟩ := List.getElem?_eq_some_iff.1 h
  exact List.drop_eq_getElem_cons hk
theorem RV.short {w w2 : World} {B r : Nat} {A : Option Addr} {n c : Nat} {bs : List UInt8} {t0 : TypeId} {v0 : Value} {k j q : Nat} {x : UInt8} (hx : bs[k]? = some x) (hq : x.toNat / 64 = q) (hs : bs.length < k + 2 ^ q)
    (hj : j ≤ n) (h : St w w2 B r A n c bs t0 v0 j) : RV w B r A n c bs t0 v0 k (.returned (.tuple #[.int .u64 0, .iface t0 v0])) w2 := by
  refine .inr ⟨?_, rfl, j, hj, h⟩
  obtain ⟨hk, _⟩ := List.getElem?_eq_some_iff.1 hx
  rw [drop_cons' hx, vnUsed, if_pos (by rw [hq]; simp; omega)]
theorem RV.ok {w w2 : World} {B r : Nat} {A : Option Addr} {n c : Nat} {bs : List UInt8} {t0 : TypeId} {v0 : Value} {k q m : Nat} {z : Int} {x : UInt8} (hx : bs[k]? = some x) (hq : x.toNat / 64 = q) (hm : 2 ^ q = m) (hs : k + m ≤ bs.length)
    (hz : z = (vnVal (bs.drop k) m : Nat)) (h : St w w2 B r A n c bs t0 v0 (k + m)) : RV w B r A n c bs t0 v0 k (.returned (.tuple #[.int .u64 z, .nilIface])) w2 := by
  obtain ⟨hk, _⟩ := List.getElem?_eq_some_iff.1 hx
  have hu : vnUsed (bs.drop k) = m := by rw [drop_cons' hx, vnUsed, if_neg (by rw [hq]; simp; omega), hq, hm]
  have hp : 0 < m := by rw [← hm]; exact Nat.two_pow_pos q
  refine .inl ⟨by omega, ?_, by rw [hu]; exact h⟩
  rw [vnNum_of _ _ hu (by omega), hz]

set_option maxHeartbeats 2000000 in
set_option maxRecDepth 100000 in
theorem read_q0 {w w1 : World} {B r : Nat} {A : Option Addr} {n c : Nat} {bs : List UInt8} {t0 : TypeId} {v0 : Value} {k : Nat} (hs : St w w1 B r A n c bs t0 v0 k) (hk : k < n) (hn : n ≤ 1099511627776)
    (hB : B ≤ r) (h0 : ¬ 0 = r) (x : UInt8) (hx : bs[k]? = some x) (hq : x.toNat / 64 = 0) : Calls Tryd.prog 19 #[.iface 47 (.pointer (some ⟨r, 0, none⟩))] w1 (RV w B r A n c bs t0 v0 k) := by
  have hl : bs.length = n := by have := hs.2.1.1; rw [bcells_length] at this; omega
  have hA : bits .and .u8 (x.toNat : Int) 192 = 0 := by rw [u8_and192, hq]; rfl
  have hlt := x.toNat_lt
  have HX := Lib.hid hx
  have HQ := Lib.hid hq
  have HL := Lib.hid hl
  clear hq hl
  go_enter Tryd.func19, Tryd.ntmps19
  go_wp2_with fail
  refine (rb hs (by omega) hn hB h0).mono ?_
  rintro e w2 (⟨x', hx', rfl, hs2⟩ | ⟨h, rfl, hs2⟩)
  rotate_left
  · exfalso; have := HL.out; omega
  obtain rfl : x' = x := Option.some.inj (hx'.symm.trans hx)
  clear hx hx'
  have hw1 : wrap64 1 = 1 := IntWalk.wrap64_in 1 (by omega)
  go_wp2_with fail
  go_ret2
  refine RV.ok HX.out HQ.out (m := 1) rfl (by have := HL.out; omega) ?_ hs2
  rw [drop_cons' HX.out]
  simp [vnVal, Lib.beFrom]

set_option maxHeartbeats 2000000 in
set_option maxRecDepth 100000 in
theorem read_q1 {w w1 : World} {B r : Nat} {A : Option Addr} {n c : Nat} {bs : List UInt8} {t0 : TypeId} {v0 : Value} {k : Nat} (hs : St w w1 B r A n c bs t0 v0 k) (hk : k < n) (hn : n ≤ 1099511627776)
    (hB : B ≤ r) (h0 : ¬ 0 = r) (x : UInt8) (hx : bs[k]? = some x) (hq : x.toNat / 64 = 1) : Calls Tryd.prog 19 #[.iface 47 (.pointer (some ⟨r, 0, none⟩))] w1 (RV w B r A n c bs t0 v0 k) := by
  have hl : bs.length = n := by have := hs.2.1.1; rw [bcells_length] at this; omega
  have hA : bits .and .u8 (x.toNat : Int) 192 = 64 := by rw [u8_and192, hq]; rfl
  have hlt := x.toNat_lt
  have HX := Lib.hid hx
  have HQ := Lib.hid hq
  have HL := Lib.hid hl
  clear hq hl
  go_enter Tryd.func19, Tryd.ntmps19
  go_wp2_with fail
  refine (rb hs (by omega) hn hB h0).mono ?_
  rintro e w2 (⟨x', hx', rfl, hs2⟩ | ⟨h, rfl, hs2⟩)
  rotate_left
  · exfalso; have := HL.out; omega
  obtain rfl : x' = x := Option.some.inj (hx'.symm.trans hx)
  clear hx hx'
  have hw2 : wrap64 2 = 2 := IntWalk.wrap64_in 2 (by omega)
  go_wp2_with fail
  refine (rb hs2 (by have := HL.out;  omega) hn hB h0).mono ?_
  rintro e w3 (⟨x1, hx1, rfl, hs3⟩ | ⟨h, rfl, hs3⟩)
  rotate_left
  · go_wp2_with fail
    go_ret2
    exact RV.short HX.out HQ.out (by omega) (by have := HL.out;  omega) hs3
  have l1 := x1.toNat_lt
  have HX1 := Lib.hid hx1
  have b1 : k + 1 < n := by obtain ⟨h, _⟩ := List.getElem?_eq_some_iff.1 hx1; have := HL.out; omega
  clear hx1
  go_wp2_with fail
  go_ret2
  refine RV.ok HX.out HQ.out (m := 2) rfl (by have := HL.out; omega) ?_ hs3
  rw [drop_cons' HX.out, drop_cons' HX1.out]
  simp [vnVal, Lib.beFrom]
  omega

set_option maxHeartbeats 2000000 in
set_option maxRecDepth 100000 in
theorem read_q2 {w w1 : World} {B r : Nat} {A : Option Addr} {n c : Nat} {bs : List UInt8} {t0 : TypeId} {v0 : Value} {k : Nat} (hs : St w w1 B r A n c bs t0 v0 k) (hk : k < n) (hn : n ≤ 1099511627776)
    (hB : B ≤ r) (h0 : ¬ 0 = r) (x : UInt8) (hx : bs[k]? = some x) (hq : x.toNat / 64 = 2) : Calls Tryd.prog 19 #[.iface 47 (.pointer (some ⟨r, 0, none⟩))] w1 (RV w B r A n c bs t0 v0 k) := by
  have hl : bs.length = n := by have := hs.2.1.1; rw [bcells_length] at this; omega
  have hA : bits .and .u8 (x.toNat : Int) 192 = 128 := by rw [u8_and192, hq]; rfl
  have hlt := x.toNat_lt
  have HX := Lib.hid hx
  have HQ := Lib.hid hq
  have HL := Lib.hid hl
  clear hq hl
  go_enter Tryd.func19, Tryd.ntmps19
  go_wp2_with fail
  refine (rb hs (by omega) hn hB h0).mono ?_
  rintro e w2 (⟨x', hx', rfl, hs2⟩ | ⟨h, rfl, hs2⟩)
  rotate_left
  · exfalso; have := HL.out; omega
  obtain rfl : x' = x := Option.some.inj (hx'.symm.trans hx)
  clear hx hx'
  have hw4 : wrap64 4 = 4 := IntWalk.wrap64_in 4 (by omega)
  go_wp2_with fail
  refine (rb hs2 (by have := HL.out;  omega) hn hB h0).mono ?_
  rintro e w3 (⟨x1, hx1, rfl, hs3⟩ | ⟨h, rfl, hs3⟩)
  rotate_left
  · go_wp2_with fail
    go_ret2
    exact RV.short HX.out HQ.out (by omega) (by have := HL.out;  omega) hs3
  have l1 := x1.toNat_lt
  have HX1 := Lib.hid hx1
  have b1 : k + 1 < n := by obtain ⟨h, _⟩ := List.getElem?_eq_some_iff.1 hx1; have := HL.out; omega
  clear hx1
  go_wp2_with fail
  refine (rb hs3 (by have := HL.out;  omega) hn hB h0).mono ?_
  rintro e w4 (⟨x2, hx2, rfl, hs4⟩ | ⟨h, rfl, hs4⟩)
  rotate_left
  · go_wp2_with fail
    go_ret2
    exact RV.short HX.out HQ.out (by omega) (by have := HL.out;  omega) hs4
  have l2 := x2.toNat_lt
  have HX2 := Lib.hid hx2
  have b2 : k + 2 < n := by obtain ⟨h, _⟩ := List.getElem?_eq_some_iff.1 hx2; have := HL.out; omega
  clear hx2
  go_wp2_with fail
  refine (rb hs4 (by have := HL.out;  omega) hn hB h0).mono ?_
  rintro e w5 (⟨x3, hx3, rfl, hs5⟩ | ⟨h, rfl, hs5⟩)
  rotate_left
  · go_wp2_with fail
    go_ret2
    exact RV.short HX.out HQ.out (by omega) (by have := HL.out;  omega) hs5
  have l3 := x3.toNat_lt
  have HX3 := Lib.hid hx3
  have b3 : k + 3 < n := by obtain ⟨h, _⟩ := List.getElem?_eq_some_iff.1 hx3; have := HL.out; omega
  clear hx3
  go_wp2_with fail
  go_ret2
  refine RV.ok HX.out HQ.out (m := 4) rfl (by have := HL.out; omega) ?_ hs5
  rw [drop_cons' HX.out, drop_cons' HX1.out, drop_cons' HX2.out, drop_cons' HX3.out]
  simp [vnVal, Lib.beFrom]
  omega

set_option maxHeartbeats 2000000 in
set_option maxRecDepth 100000 in
theorem read_q3 {w w1 : World} {B r : Nat} {A : Option Addr} {n c : Nat} {bs : List UInt8} {t0 : TypeId} {v0 : Value} {k : Nat} (hs : St w w1 B r A n c bs t0 v0 k) (hk : k < n) (hn : n ≤ 1099511627776)
    (hB : B ≤ r) (h0 : ¬ 0 = r) (x : UInt8) (hx : bs[k]? = some x) (hq : x.toNat / 64 = 3) : Calls Tryd.prog 19 #[.iface 47 (.pointer (some ⟨r, 0, none⟩))] w1 (RV w B r A n c bs t0 v0 k) := by
  have hl : bs.length = n := by have := hs.2.1.1; rw [bcells_length] at this; omega
  have hA : bits .and .u8 (x.toNat : Int) 192 = 192 := by rw [u8_and192, hq]; rfl
  have hlt := x.toNat_lt
  have HX := Lib.hid hx
  have HQ := Lib.hid hq
  have HL := Lib.hid hl
  clear hq hl
  go_enter Tryd.func19, Tryd.ntmps19
  go_wp2_with fail
  refine (rb hs (by omega) hn hB h0).mono ?_
  rintro e w2 (⟨x', hx', rfl, hs2⟩ | ⟨h, rfl, hs2⟩)
  rotate_left
  · exfalso; have := HL.out; omega
  obtain rfl : x' = x := Option.some.inj (hx'.symm.trans hx)
  clear hx hx'
  have hw8 : wrap64 8 = 8 := IntWalk.wrap64_in 8 (by omega)
  go_wp2_with fail
  refine (rb hs2 (by have := HL.out;  omega) hn hB h0).mono ?_
  rintro e w3 (⟨x1, hx1, rfl, hs3⟩ | ⟨h, rfl, hs3⟩)
  rotate_left
  · go_wp2_with fail
    go_ret2
    exact RV.short HX.out HQ.out (by omega) (by have := HL.out;  omega) hs3
  have l1 := x1.toNat_lt
  have HX1 := Lib.hid hx1
  have b1 : k + 1 < n := by obtain ⟨h, _⟩ := List.getElem?_eq_some_iff.1 hx1; have := HL.out; omega
  clear hx1
  go_wp2_with fail
  refine (rb hs3 (by have := HL.out;  omega) hn hB h0).mono ?_
  rintro e w4 (⟨x2, hx2, rfl, hs4⟩ | ⟨h, rfl, hs4⟩)
  rotate_left
  · go_wp2_with fail
    go_ret2
    exact RV.short HX.out HQ.out (by omega) (by have := HL.out;  omega) hs4
  have l2 := x2.toNat_lt
  have HX2 := Lib.hid hx2
  have b2 : k + 2 < n := by obtain ⟨h, _⟩ := List.getElem?_eq_some_iff.1 hx2; have := HL.out; omega
  clear hx2
  go_wp2_with fail
  refine (rb hs4 (by have := HL.out;  omega) hn hB h0).mono ?_
  rintro e w5 (⟨x3, hx3, rfl, hs5⟩ | ⟨h, rfl, hs5⟩)
  rotate_left
  · go_wp2_with fail
    go_ret2
    exact RV.short HX.out HQ.out (by omega) (by have := HL.out;  omega) hs5
  have l3 := x3.toNat_lt
  have HX3 := Lib.hid hx3
  have b3 : k + 3 < n := by obtain ⟨h, _⟩ := List.getElem?_eq_some_iff.1 hx3; have := HL.out; omega
  clear hx3
  go_wp2_with fail
  refine (rb hs5 (by have := HL.out;  omega) hn hB h0).mono ?_
  rintro e w6 (⟨x4, hx4, rfl, hs6⟩ | ⟨h, rfl, hs6⟩)
  rotate_left
  · go_wp2_with fail
    go_ret2
    exact RV.short HX.out HQ.out (by omega) (by have := HL.out;  omega) hs6
  have l4 := x4.toNat_lt
  have HX4 := Lib.hid hx4
  have b4 : k + 4 < n := by obtain ⟨h, _⟩ := List.getElem?_eq_some_iff.1 hx4; have := HL.out; omega
  clear hx4
  go_wp2_with fail
  refine (rb hs6 (by have := HL.out;  omega) hn hB h0).mono ?_
  rintro e w7 (⟨x5, hx5, rfl, hs7⟩ | ⟨h, rfl, hs7⟩)
  rotate_left
  · go_wp2_with fail
    go_ret2
    exact RV.short HX.out HQ.out (by omega) (by have := HL.out;  omega) hs7
  have l5 := x5.toNat_lt
  have HX5 := Lib.hid hx5
  have b5 : k + 5 < n := by obtain ⟨h, _⟩ := List.getElem?_eq_some_iff.1 hx5; have := HL.out; omega
  clear hx5
  go_wp2_with fail
  refine (rb hs7 (by have := HL.out;  omega) hn hB h0).mono ?_
  rintro e w8 (⟨x6, hx6, rfl, hs8⟩ | ⟨h, rfl, hs8⟩)
  rotate_left
  · go_wp2_with fail
    go_ret2
    exact RV.short HX.out HQ.out (by omega) (by have := HL.out;  omega) hs8
  have l6 := x6.toNat_lt
  have HX6 := Lib.hid hx6
  have b6 : k + 6 < n := by obtain ⟨h, _⟩ := List.getElem?_eq_some_iff.1 hx6; have := HL.out; omega
  clear hx6
  go_wp2_with fail
  refine (rb hs8 (by have := HL.out;  omega) hn hB h0).mono ?_
  rintro e w9 (⟨x7, hx7, rfl, hs9⟩ | ⟨h, rfl, hs9⟩)
  rotate_left
  · go_wp2_with fail
    go_ret2
    exact RV.short HX.out HQ.out (by omega) (by have := HL.out;  omega) hs9
  have l7 := x7.toNat_lt
  have HX7 := Lib.hid hx7
  have b7 : k + 7 < n := by obtain ⟨h, _⟩ := List.getElem?_eq_some_iff.1 hx7; have := HL.out; omega
  clear hx7
  go_wp2_with fail
  go_ret2
  refine RV.ok HX.out HQ.out (m := 8) rfl (by have := HL.out; omega) ?_ hs9
  rw [drop_cons' HX.out, drop_cons' HX1.out, drop_cons' HX2.out, drop_cons' HX3.out, drop_cons' HX4.out, drop_cons' HX5.out, drop_cons' HX6.out, drop_cons' HX7.out]
  simp [vnVal, Lib.beFrom]
  omega

theorem read_any {w w1 : World} {B r : Nat} {A : Option Addr} {n c : Nat} {bs : List UInt8} {t0 : TypeId} {v0 : Value} {k : Nat} (hs : St w w1 B r A n c bs t0 v0 k) (hk : k ≤ n) (hn : n ≤ 1099511627776)
    (hB : B ≤ r) (h0 : ¬ 0 = r) : Calls Tryd.prog 19 #[.iface 47 (.pointer (some ⟨r, 0, none⟩))] w1 (RV w B r A n c bs t0 v0 k) := by
  have hl : bs.length = n := by have := hs.2.1.1; rw [bcells_length] at this; omega
  by_cases h : k < n
  · have hx : bs[k]? = some (bs[k]'(by omega)) := List.getElem?_eq_getElem (by omega)
    have hlt := (bs[k]'(by omega)).toNat_lt
    rcases (show (bs[k]'(by omega)).toNat / 64 = 0 ∨ (bs[k]'(by omega)).toNat / 64 = 1 ∨ (bs[k]'(by omega)).toNat / 64 = 2 ∨ (bs[k]'(by omega)).toNat / 64 = 3 by omega) with hq | hq | hq | hq
    · exact read_q0 hs h hn hB h0 _ hx hq
    · exact read_q1 hs h hn hB h0 _ hx hq
    · exact read_q2 hs h hn hB h0 _ hx hq
    · exact read_q3 hs h hn hB h0 _ hx hq
  · have hd : bs.drop k = [] := List.drop_eq_nil_of_le (by omega)
    have hu : vnUsed (bs.drop k) = 0 := by rw [hd]; rfl
    have HU := Lib.hid hu
    clear hu hd hl
    go_enter Tryd.func19, Tryd.ntmps19
    go_wp2_with fail
    refine (rb hs (by omega) hn hB h0).mono ?_
    rintro e w2 (⟨x', hx', rfl, hs2⟩ | ⟨h, rfl, hs2⟩)
    · exfalso
      obtain ⟨h', _⟩ := List.getElem?_eq_some_iff.1 hx'
      have := hs.2.1.1; rw [bcells_length] at this; omega
    · go_wp2_with fail
      go_ret2
      exact .inr ⟨HU.out, rfl, k, hk, hs2⟩
end Go.Proofs.YtpegafbcfpedoaaDoor
