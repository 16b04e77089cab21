/- impl.QPRead on the one block of the awakening. -/
import Derived.Test.YtdgpfgbocacgeaaDoorS5
namespace Go.Proofs.YtdgpfgbocacgeaaDoor
open Go.RowKit
set_option linter.unusedVariables false

def lenV : Value → Nat | .slice _ n _ => n | _ => 0
abbrev M : Value := .string ⟨#[58, 109, 101, 116, 104, 111, 100]⟩
abbrev G : Value := .string ⟨#[71, 69, 84]⟩

/-- Ahead of the loop's rounds: nothing read yet, or the one field read. -/
def Rel (K : Nat) (W : World) (p1 p2 q d b cap : Nat) (dv : Value) (v : Value) (w : World) : Prop :=
  Below K W w ∧ ((v = .slice none 0 0 ∧ St w p1 p2 q d b 0 dv false false (.slice (some ⟨b, 0, none⟩) 3 cap)) ∨
  (∃ g c' A c, v = .slice (some ⟨g, 0, none⟩) 1 c' ∧ St w p1 p2 q d b 0 dv true true (.slice A 0 c) ∧ K ≤ g ∧ g < w.heap.size ∧ w.cell? ⟨g, 0, none⟩ = some M ∧ w.cell? ⟨g, 1, none⟩ = some G))

theorem three0 (u x y : Value) (z : Array Value) : (#[u, x, y] ++ z)[0]? = some u := by simp [Array.getElem?_append]
theorem three1 (u x y : Value) (z : Array Value) : (#[u, x, y] ++ z)[1]? = some x := by simp [Array.getElem?_append]
theorem three2 (u x y : Value) (z : Array Value) : (#[u, x, y] ++ z)[2]? = some y := by simp [Array.getElem?_append]

theorem under40 : Tryd.prog.underlying 61 = some (.interface (Tryd.prog.methodsAt 61)) := by kernel_rfl
theorem eql_nil_left (v : Value) (w : World) : (binOp .eql 61 .nilIface (.iface 75 v)).run Tryd.prog w = .ok (.bool false) w := run_eql_iface_nil_left w 75 v under40
set_option maxRecDepth 100000 in
theorem eql_same (a : Addr) (w : World) : (binOp .eql 61 (.iface 75 (.pointer (some a))) (.iface 75 (.pointer (some a)))).run Tryd.prog w = .ok (.bool true) w :=
  run_eql_iface_ptr_same w a under40 rfl rfl rfl rfl
theorem below3 (w : World) (x y z : Obj) : Below w.heap.size w (((w.alloc x).alloc y).alloc z).drew :=
  ((((Below.refl w.heap.size w).alloc (Nat.le_refl _) x).alloc (by simp) y).alloc (by simp; omega) z).drew

set_option maxRecDepth 100000 in
theorem qpread_awake (b : Nat) (w : World) (hlt : b < w.heap.size) (x0 : w.cell? ⟨b, 0, none⟩ = some (.int .u8 0)) (x1 : w.cell? ⟨b, 1, none⟩ = some (.int .u8 0)) (x2 : w.cell? ⟨b, 2, none⟩ = some (.int .u8 209))
    (p0 : Addr) (hg : w.cell? ⟨0, 0, none⟩ = some (.iface 75 (.pointer (some p0)))) :
    Calls Tryd.prog 12 #[.slice (some ⟨b, 0, none⟩) 3 3] w fun e w' =>
      (∃ g c', e = .returned (.tuple #[.slice (some ⟨g, 0, none⟩) 1 c', .string ⟨#[]⟩, .bool true]) ∧ w.heap.size ≤ g ∧ w'.cell? ⟨g, 0, none⟩ = some M ∧ w'.cell? ⟨g, 1, none⟩ = some G) ∧ Below w.heap.size w w' := by
  go_enter_defers Tryd.func12, Tryd.ntmps12
  go_wp2_with (first | (go_at_call 20; go_in))
  have hc3 := grownCap_ge w 3 0 5
  unfold grownCap at hc3
  generalize (Question.appendCap 3 0 5).cut (w.tape w.drawn (Question.appendCap 3 0 5)) = cap at hc3 ⊢
  refine (decode_awake (w.heap.size + 1 + 1) cap ⟨w.heap.size + 1, 0, none⟩ _ ?_ ?_ ?_ ?_).mono ?_
  · simp
  · simp
    exact (World.cell?_alloc_at _ _ _ _ (by simp)).trans (three0 _ _ _ _)
  · simp
    exact (World.cell?_alloc_at _ _ _ _ (by simp)).trans (three1 _ _ _ _)
  · simp
    exact (World.cell?_alloc_at _ _ _ _ (by simp)).trans (three2 _ _ _ _)
  rintro e W ⟨p1, p2, q, d, rfl, H, AP, hp1, hp2, hq, hb⟩
  have hz := hb.size
  simp at hp1 hp2 hq hz
  have hB : Below w.heap.size w W := (((((Below.refl w.heap.size w).alloc (Nat.le_refl _) (.cells #[.bool false] 4)).alloc (by simp) (.cells #[] 65)).alloc (by simp; try omega)
    (.cells (#[.int .u8 0, .int .u8 0, .int .u8 209] ++ Builtin.zeroCells #[.int .u8 0] (cap - 3)) 5)).drew).trans (hb.mono (by simp; try omega))
  have hBo : Below (w.heap.size + 1) (w.alloc (.cells #[.bool false] 4)) W := ((((Below.refl (w.heap.size + 1) (w.alloc (.cells #[.bool false] 4))).alloc (by simp) (.cells #[] 65)).alloc (by simp)
    (.cells (#[.int .u8 0, .int .u8 0, .int .u8 209] ++ Builtin.zeroCells #[.int .u8 0] (cap - 3)) 5)).drew).trans (hb.mono (by simp; try omega))
  have k1 : W.cell? ⟨w.heap.size, 0, none⟩ = some (.bool false) := (hBo.cell (by simp)).trans (by simp)
  have k2 : W.frozen? ⟨w.heap.size, 0, none⟩ = false := (hBo.frozen (by simp)).trans (by simp)
  have k3 : W.cell? ⟨0, 0, none⟩ = some (.iface 75 (.pointer (some p0))) := (hB.cell (World.block_lt_of_cell? w _ hg)).trans hg
  have HB := Lib.hid hB
  have HH := Lib.hid H
  clear hB hBo hb H x0 x1 x2 hg
  go_wp2_with fail
  go_loopw [2] (fun v wr => Rel (w.heap.size + 1) W p1 p2 q d (w.heap.size + 1 + 1) cap (.pointer (some ⟨w.heap.size + 1, 0, none⟩)) v wr) (fun v _ => 1 - lenV v)
  case atStart => exact ⟨Below.refl _ _, .inl ⟨rfl, HH.out⟩⟩
  case round =>
    obtain ⟨hbK, ⟨rfl, HS⟩ | ⟨g, c', A, c, rfl, HS, hgK, hgl, m0, m1⟩⟩ := hrel
    · have HBK := Lib.hid hbK
      clear hbK
      go_wp2_with fail
      refine (decode1_first (w.heap.size + 1) p1 p2 q d _ 0 cap _ _ HS AP hc3 (by omega) (by omega) (by omega)).mono ?_
      rintro e w2 ⟨rfl, ⟨A, c1, HS2⟩, hb2⟩
      have hbs := HBK.out.trans hb2
      have k4 : w2.cell? ⟨0, 0, none⟩ = some (.iface 75 (.pointer (some p0))) := (hbs.cell (by simp)).trans k3
      have HBS := Lib.hid hbs
      have HS3 := Lib.hid HS2
      clear hbs hb2 HS2 HS k1 k2 k3 HH
      have k5 := cell?_alloc_old (.cells #[.string ⟨#[58, 109, 101, 116, 104, 111, 100]⟩, .string ⟨#[71, 69, 84]⟩] 59) k4
      unfold rowV
      have e1 := eql_nil_left
      go_wp2_with fail
      refine ⟨⟨HBS.out.trans ((below3 w2 _ _ _).mono ?_), .inr ⟨_, _, A, c1, rfl, HS3.out.below (below3 w2 _ _ _), ?_, ?_, ?_, ?_⟩⟩, by simp [lenV]⟩
      · have := HBS.out.size; omega
      · have := HBS.out.size; omega
      · simp
      · simp
        exact (World.cell?_alloc_at _ _ _ _ (by simp)).trans (by simp [Array.getElem?_append])
      · simp
        exact (World.cell?_alloc_at _ _ _ _ (by simp)).trans (by simp [Array.getElem?_append])
    · have k4 : wr.cell? ⟨0, 0, none⟩ = some (.iface 75 (.pointer (some p0))) := (hbK.cell (by simp)).trans k3
      have o1 : wr.cell? ⟨w.heap.size, 0, none⟩ = some (.bool false) := (hbK.cell (by simp)).trans k1
      have o2 : wr.frozen? ⟨w.heap.size, 0, none⟩ = false := (hbK.frozen (by simp)).trans k2
      have hwr := hbK.size
      have HBK := Lib.hid hbK
      clear hbK k1 k2 k3
      go_wp2_with fail
      refine (decode1_end wr.heap.size p1 p2 q d _ 0 c _ A wr HS (Nat.le_refl _) 75 _ k4 (by omega)).mono ?_
      rintro e w2 ⟨rfl, hb2⟩
      have hbs := HBK.out.trans (hb2.mono (by omega))
      have k5 := cell?_alloc_old (.cells #[.string ⟨#[]⟩, .string ⟨#[]⟩] 59) ((hb2.cell (World.block_lt_of_cell? wr _ k4)).trans k4)
      have o3 := cell?_alloc_old (.cells #[.string ⟨#[]⟩, .string ⟨#[]⟩] 59) ((hb2.cell (p := ⟨w.heap.size, 0, none⟩) (by simp; omega)).trans o1)
      have o4 : (w2.alloc (.cells #[.string ⟨#[]⟩, .string ⟨#[]⟩] 59)).frozen? ⟨w.heap.size, 0, none⟩ = false := by
        have h2 := hb2.size
        rw [(below_new w2 _).frozen (by simp; omega)]
        exact (hb2.frozen (p := ⟨w.heap.size, 0, none⟩) (by simp; omega)).trans o2
      have n0 := cell?_alloc_old (.cells #[.string ⟨#[]⟩, .string ⟨#[]⟩] 59) ((hb2.cell (p := ⟨g, 0, none⟩) hgl).trans m0)
      have n1 := cell?_alloc_old (.cells #[.string ⟨#[]⟩, .string ⟨#[]⟩] 59) ((hb2.cell (p := ⟨g, 1, none⟩) hgl).trans m1)
      have hbn := hbs.trans ((below_new w2 (.cells #[.string ⟨#[]⟩, .string ⟨#[]⟩] 59)).mono (show w.heap.size + 1 ≤ w2.heap.size by have := hb2.size; omega))
      have HN0 := Lib.hid n0
      have HN1 := Lib.hid n1
      have HBN := Lib.hid hbn
      clear n0 n1 hbn hb2 hbs o1 o2 m0 m1 k4 HS HBK HH
      have e1 := eql_same
      go_wp2_with fail
      refine leaves_cons (f := 19) (args := #[.pointer (some ⟨w.heap.size, 0, none⟩)]) (by simp) (by simp [go_sem]) ?_
      refine (caught_idle ⟨w.heap.size, 0, none⟩ _).mono ?_
      rintro e u' w'' ⟨rfl, rfl, rfl⟩
      have k6 := World.cell?_setCell_same _ ⟨w.heap.size, 0, none⟩ (.bool true) o3
      refine ⟨_, by simp [results, Tryd.results12, go_sem, k6], ⟨g, c', rfl, by omega, ?_, ?_⟩, ?_⟩
      · rw [cell_other _ _ _ _ (by simp; omega)]; exact HN0.out
      · rw [cell_other _ _ _ _ (by simp; omega)]; exact HN1.out
      · exact (HB.out.trans (HBN.out.mono (by omega))).setCell (Nat.le_refl _) _
end Go.Proofs.YtdgpfgbocacgeaaDoor
