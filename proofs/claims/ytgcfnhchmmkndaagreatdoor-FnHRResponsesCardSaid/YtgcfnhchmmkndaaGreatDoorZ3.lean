/- impl.HResponseOf. -/
import Derived.Test.YtgcfnhchmmkndaaGreatDoorZ2
namespace Go.Proofs.YtgcfnhchmmkndaaGreatDoor
open Go.RowKit Go.Maps
set_option linter.unusedVariables false
set_option maxRecDepth 100000

def okv (wx : World) (B : Nat) : Value := (wx.cell? ⟨B, 0, none⟩).getD .nilIface
def SR (w : World) (rb base b N B : Nat) (es : List Ent) (x : RS) (wx : World) : Prop := wx.cell? ⟨rb, 1, none⟩ = some (.int .i64 (decN x.st : Int)) ∧ wx.cell? ⟨rb, 0, none⟩ = some (str x.st) ∧ wx.cell? ⟨rb, 6, none⟩ = some (.int .i64 x.len) ∧ wx.cell? ⟨rb, 4, none⟩ = some (.map (some b)) ∧ wx.cell? ⟨rb, 8, none⟩ = some (.map none) ∧ wx.cell? ⟨B, 0, none⟩ = some (okv wx B) ∧ wx.frozen? ⟨B, 0, none⟩ = false ∧ Hdr wx base b N es ∧ Below B w wx
section
variable {w wx w' : World} {rb base b N B : Nat} {es : List Ent} {x : RS}
theorem okv_is {W : World} {B : Nat} {v : Value} (h : W.cell? ⟨B, 0, none⟩ = some v) : W.cell? ⟨B, 0, none⟩ = some (okv W B) := by unfold okv; rw [h]; rfl
theorem SR.below (h : SR w rb base b N B es x wx) (k : Below wx.heap.size wx w') : SR w rb base b N B es x w' := by
  obtain ⟨h1, h2, h3, h4, h5, h6, h7, h8, h9⟩ := h
  have hB := World.block_lt_of_cell? wx _ h6
  exact ⟨bk k h1, bk k h2, bk k h3, bk k h4, bk k h5, okv_is (bk k h6), (k.frozen hB).trans h7, h8.below k, Below.next h9 (Nat.le_of_lt hB) k⟩
theorem SR.open (h : SR w rb base b N B es x wx) : wx.cell? ⟨rb, 1, none⟩ = some (.int .i64 (decN x.st : Int)) ∧ wx.cell? ⟨rb, 0, none⟩ = some (str x.st) ∧ wx.cell? ⟨rb, 6, none⟩ = some (.int .i64 x.len) ∧ wx.cell? ⟨rb, 4, none⟩ = some (.map (some b)) ∧ wx.cell? ⟨rb, 8, none⟩ = some (.map none) ∧ wx.cell? ⟨B, 0, none⟩ = some (okv wx B) ∧ wx.frozen? ⟨B, 0, none⟩ = false ∧ Hdr wx base b N es ∧ Below B w wx := h
theorem SR.drew (h : SR w rb base b N B es x wx) : SR w rb base b N B es x wx.drew := by
  obtain ⟨h1, h2, h3, h4, h5, h6, h7, h8, h9⟩ := h
  exact ⟨h1, h2, h3, h4, h5, h6, h7, h8.drew, h9.drew⟩
theorem SR.put (h : SR w rb base b N B es x wx) (h1 : B < rb) (h2 : rb < base ∧ rb < b) (v : Value) : SR w rb base b N B es x (wx.setCell ⟨B, 0, none⟩ v) := by
  obtain ⟨k1, k2, k3, k4, k5, k6, k7, k8, k9⟩ := h
  have o : ∀ j u, wx.cell? ⟨rb, j, none⟩ = some u → (wx.setCell ⟨B, 0, none⟩ v).cell? ⟨rb, j, none⟩ = some u := fun j u hu => (World.cell?_setCell_other _ _ _ _ (by intro e; injection e with e; omega)).trans hu
  exact ⟨o _ _ k1, o _ _ k2, o _ _ k3, o _ _ k4, o _ _ k5, okv_is (cs1 k6), by simpa using k7, k8.setB (grown_set wx B 0 v) (by omega) (by omega), k9.setCell (Nat.le_refl _) v⟩
end
def HResPost (w : World) (r : Option RS) (e : Ending) (w' : World) : Prop := match r with
  | none => e = .returned (.tuple #[.int .i64 0, str [], .int .i64 0, .slice none 0 0, .slice none 0 0, .bool false]) ∧ Below w.heap.size w w'
  | some x => ∃ v es tA tc, e = .returned (.tuple #[.int .i64 (decN x.st : Int), str x.st, .int .i64 x.len, v, .slice tA 0 tc, .bool true]) ∧ HL w' w.heap.size v es ∧ absE es = headsOf x.H ∧ Below w.heap.size w w'
/-- what is asked of the reading of a list of fields -/
def ResOk (G : World → Prop) (p : Addr) (l : List (BS × BS)) (m : Nat) (r : Option RS) : Prop :=
  ∀ (W : World) (A : Option Addr) (c : Nat), Reads W W.heap.size 2 A l.length (fc l) → l.length ≤ c → Env W p → G W → Calls Tryz.prog 40 #[.slice A l.length c, .int .i64 1048576] W (ROf2 W m r)
def SFin (w : World) (x : RS) (s2 s3 s4 s5 s6 : Value) (wx : World) : Prop :=
  s2 = .int .i64 (decN x.st : Int) ∧ s3 = str x.st ∧ s4 = .int .i64 x.len ∧ ∃ (A3 : Option Addr) (k3 : Nat) (es3 : List Ent) (A4 : Option Addr) (c4 : Nat), s5 = .slice A3 es3.length k3 ∧ s6 = .slice A4 0 c4 ∧ HL wx (w.heap.size + 1) s5 es3 ∧ absE es3 = headsOf x.H ∧ Below w.heap.size w wx ∧ wx.cell? ⟨w.heap.size, 0, none⟩ = some (.bool true)
theorem SFin.made {w W W0 : World} {x : RS} {rb base' b N base : Nat} {es : List Ent} {A3 A4 : Option Addr} {k3 c4 : Nat} {es3 : List Ent} (hL : HL W0 base (.slice A3 es3.length k3) es3) (hb : w.heap.size + 1 ≤ base) (hA : absE es3 = headsOf x.H) (k : Below W0.heap.size W0 W) (y : SR w rb base' b N w.heap.size es x W) :
    SFin w x (.int .i64 (decN x.st : Int)) (str x.st) (.int .i64 x.len) (.slice A3 es3.length k3) (.slice A4 0 c4) (W.setCell ⟨w.heap.size, 0, none⟩ (.bool true)) :=
  ⟨rfl, rfl, rfl, A3, k3, es3, A4, c4, rfl, rfl, ((hL.below k).grown (grown_set W w.heap.size 0 _) (by omega)).base hb, hA, y.2.2.2.2.2.2.2.2.setCell (Nat.le_refl _) _, cs1 y.2.2.2.2.2.1⟩
set_option maxHeartbeats 16000000 in
theorem hres_at (G : World → Prop) (A : Option Addr) (c m : Nat) (l : List (BS × BS)) (p : Addr) (r : Option RS) (w : World) (hR : Reads w w.heap.size 2 A l.length (fc l)) (hl : l.length ≤ 32768) (hE : Env w p) (hm : m ≤ 900000) (hK : ResOk G p l m r) (hq : ∀ x, r = some x → x.H.length ≤ 900000) (hg : ∀ W, Below w.heap.size w W → G W) :
    Calls Tryz.prog 20 #[.slice A l.length c] w (HResPost w r) := by
  have hb := below_new w (.cells #[.bool false] 4)
  have KF := fields_at A c l (w.alloc (.cells #[.bool false] 4)) ((hR.alloc (Nat.le_refl _) _).more hb.size) (by omega)
  have HB := Lib.hid hb
  have HE := Lib.hid (hE.cut hb hE.ge)
  have HK := Lib.hid hK
  have HQ := Lib.hid hq
  have HGG := Lib.hid hg
  clear hb hR hE hK hq hg
  go_enter_defers Tryz.func20, Tryz.ntmps20
  go_wp2_with fail
  refine KF.mono ?_
  rintro e w1 ⟨A1, c1, rfl, hrow1, hb1⟩
  have HB1 := Lib.hid (Below.next HB.out HB.out.size hb1)
  have R0 : Hid (w1.cell? ⟨w.heap.size, 0, none⟩ = some (.bool false)) := Lib.hid ((hb1.cell (p := ⟨w.heap.size, 0, none⟩) (by simp)).trans (by simp))
  have G0 : Hid (w1.frozen? ⟨w.heap.size, 0, none⟩ = false) := Lib.hid ((hb1.frozen (p := ⟨w.heap.size, 0, none⟩) (by simp)).trans (by simp))
  have hlt1 : w.heap.size < w1.heap.size := by have := hb1.size; simp at this; omega
  have KT := HK.out w1 A1 c1 (Reads.of_own hrow1) (row_cap hrow1) (HE.out.cut hb1 HE.out.ge) (HGG.out w1 HB1.out)
  clear hrow1 hb1 KF
  go_wp2_with fail
  refine KT.mono ?_
  rintro e w2 ⟨v, ev, rfl, hb2, hev, h1⟩
  have HB2 := Lib.hid (Below.next HB1.out HB1.out.size hb2)
  have x0 := (hb2.cell (p := ⟨w.heap.size, 0, none⟩) hlt1).trans R0.out
  have y0 := (hb2.frozen (p := ⟨w.heap.size, 0, none⟩) hlt1).trans G0.out
  have hlt2 : w.heap.size < w2.heap.size := Nat.lt_of_lt_of_le hlt1 hb2.size
  have H1 := Lib.hid h1
  clear hb2 h1 KT
  cases r with
  | none =>
    obtain ⟨p3, rfl⟩ := hev
    have HF := Lib.hid (HB2.out.setCell (p := ⟨w.heap.size, 0, none⟩) (Nat.le_refl _) (.bool false))
    have HC := Lib.hid (cs1 (v := .bool false) x0)
    go_wp2_with fail
    refine leaves_cons (f := 25) (args := #[.pointer (some ⟨w.heap.size, 0, none⟩)]) (by simp) (by simp [go_sem]) ?_
    refine (caught_idle ⟨w.heap.size, 0, none⟩ _).mono ?_
    rintro e u' w'' ⟨rfl, rfl, rfl⟩
    have hbc := HC.out
    exact ⟨_, (show _ = Result.ok (Value.tuple #[.int .i64 0, str [], .int .i64 0, .slice none 0 0, .slice none 0 0, .bool false]) _ by simp [results, Tryz.results20, go_sem, hbc]), rfl, HF.out⟩
  | some x =>
    obtain rfl : ev = .nilIface := hev
    obtain ⟨rfl, b, n, base, es, hRA⟩ := H1.out x rfl
    have hqb := HQ.out x rfl
    obtain ⟨N, hN⟩ : ∃ N, max n es.length = N := ⟨_, rfl⟩
    have hes : es.length ≤ 900000 := by rw [absE_len hRA.abs]; exact hqb
    have hN1 : N ≤ 900000 := by have := hRA.hn; omega
    have hN2 : es.length ≤ N := by omega
    have HIL : Hid (∀ e ∈ es, e.items.length ≤ 900000) := Lib.hid fun e he => by have := hRA.items e he; omega
    have S0 : SR w w1.heap.size base b N w.heap.size es x w2 := ⟨hRA.c1, hRA.c0, hRA.c6, hRA.c4, hRA.c8, okv_is x0, y0, hRA.hdr.wide (n' := N) (by omega), HB2.out⟩
    have hlo := hRA.lo
    have HA := Lib.hid hRA.abs
    clear hRA hqb hN hes x0 y0
    go_upto_region 5 with fail
    go_cut [2, 3, 4, 5, 6] from 18 to 39 (fun s2 s3 s4 s5 s6 wx => SFin w x s2 s3 s4 s5 s6 wx)
    case first =>
      go_region_held3 (fun wx => wx.cell? ⟨w1.heap.size, 1, none⟩ = some (.int .i64 (decN x.st : Int)) ∧ wx.cell? ⟨w1.heap.size, 0, none⟩ = some (str x.st) ∧ wx.cell? ⟨w1.heap.size, 6, none⟩ = some (.int .i64 x.len) ∧ wx.cell? ⟨w1.heap.size, 4, none⟩ = some (.map (some b)) ∧ wx.cell? ⟨w1.heap.size, 8, none⟩ = some (.map none) ∧ wx.cell? ⟨w.heap.size, 0, none⟩ = some (okv wx w.heap.size) ∧ wx.frozen? ⟨w.heap.size, 0, none⟩ = false ∧ Hdr wx base b N es ∧ Below w.heap.size w wx)
        (first
          | with_reducible exact SR.open S0.drew
          | with_reducible exact SR.open S0
          | with_reducible exact SR.open y3
          | with_reducible exact SR.open y4
          | with_reducible exact SR.open (y3.put hlt1 hlo _)
          | with_reducible exact SR.open (y4.put hlt1 hlo _))
        (first
          | (go_at_call 35; refine (heads_at base b N es _ (by go_split_ands; assumption) hN1 hN2 HIL.out).mono ?_; rintro e w3 ⟨v3, es3, rfl, hL3, hA3, hb3⟩; obtain ⟨A3, c3, rfl⟩ := row_form hL3.row; have y3 := SR.below (w := w) (rb := w1.heap.size) (base := base) (b := b) (N := N) (B := w.heap.size) (es := es) (x := x) (by unfold SR; go_split_ands; (refine ⟨?_, ?_, ?_, ?_, ?_, ?_, ?_, ?_, ?_⟩ <;> assumption)) hb3; have HL3 := Lib.hid hL3; have HB3 := Lib.hid hb3; clear hL3 hb3)
          | (go_at_call 41; refine (names_nil _).mono ?_; rintro e w4 ⟨A4, c4, rfl, hR4, hc4, hb4⟩; have y4 := SR.below (w := w) (rb := w1.heap.size) (base := base) (b := b) (N := N) (B := w.heap.size) (es := es) (x := x) (by unfold SR; go_split_ands; (refine ⟨?_, ?_, ?_, ?_, ?_, ?_, ?_, ?_, ?_⟩ <;> assumption)) hb4; have HB4 := Lib.hid hb4; clear hR4 hb4))
      all_goals go_wp2_with fail
      all_goals go_meet
      exact SFin.made HL3.out (by first | omega | (simp; done) | (simp; omega)) (hA3.trans (by rw [HA.out])) HB4.out y4
    case rest =>
      obtain ⟨rfl, rfl, rfl, A3, k3, es3, A4, c4, rfl, rfl, hL, hA3, hB, hC⟩ := hcut
      have HL3 := Lib.hid hL
      have HA3 := Lib.hid hA3
      have HBF := Lib.hid hB
      have HCF := Lib.hid hC
      clear hL hA3 hB hC
      go_wp2_with fail
      refine leaves_cons (f := 25) (args := #[.pointer (some ⟨w.heap.size, 0, none⟩)]) (by simp) (by simp [go_sem]) ?_
      refine (caught_idle ⟨w.heap.size, 0, none⟩ _).mono ?_
      rintro e u' w'' ⟨rfl, rfl, rfl⟩
      have hbc := HCF.out
      exact ⟨_, (show _ = Result.ok (Value.tuple #[.int .i64 (decN x.st : Int), str x.st, .int .i64 x.len, .slice A3 es3.length k3, .slice A4 0 c4, .bool true]) _ by simp [results, Tryz.results20, go_sem, hbc]), _, es3, A4, c4, rfl, HL3.out.base (by omega), HA3.out, HBF.out⟩
end Go.Proofs.YtgcfnhchmmkndaaGreatDoor
