/- impl.VNRead: what it answers for any bytes. -/
import Derived.Test.YtpegafbcfpedoaaDoorT4
namespace Go.Proofs.YtpegafbcfpedoaaDoor
open Go.RowKit
set_option linter.unusedVariables false

/-- what VNRead answers -/
def VR (n : Nat) (bs : List UInt8) (e : Ending) : Prop :=
  (vnUsed bs ≠ 0 ∧ e = .returned (.tuple #[.int .u64 (vnNum bs), .int .i64 ((n - vnUsed bs : Nat) : Int), .bool true])) ∨
  (vnUsed bs = 0 ∧ ∃ j : Nat, e = .returned (.tuple #[.int .u64 0, .int .i64 (j : Int), .bool false]))

theorem St.next {w w1 w2 : World} {B r : Nat} {A : Option Addr} {n c : Nat} {bs : List UInt8} {t0 : TypeId} {v0 : Value} {k : Nat} (hs : St w w1 B r A n c bs t0 v0 k) (hb : Below w1.heap.size w1 w2) : St w w2 B r A n c bs t0 v0 k := by
  obtain ⟨⟨p, hrd⟩, hr, g0, hg, hz⟩ := hs
  exact ⟨⟨p, hrd.below hb hrd.lt⟩, (hr.more hz).below hb |>.keep (fun _ _ => rfl) |> fun h => hr.keep (fun p hp => hb.cell (by omega)), (hb.cell (World.block_lt_of_cell? w1 _ g0)).trans g0,
    ⟨hb.os.trans hg.os, hb.tape.trans hg.tape, hb.output.trans hg.output, Nat.le_trans hg.size hb.size, fun i hi hn => (hb.block i (Nat.lt_of_lt_of_le hi hg.size)).trans (hg.block i hi hn)⟩, Nat.le_trans hz hb.size⟩

theorem vnread_any (A : Option Addr) (n c : Nat) (bs : List UInt8) (w : World) (hr : Reads w w.heap.size 1 A n (bcells bs)) (hn : n ≤ 1099511627776) (t0 : TypeId) (v0 : Value)
    (g0 : w.cell? ⟨0, 0, none⟩ = some (.iface t0 v0)) :
    Calls Tryd.prog 8 #[.slice A n c] w fun e w' => VR n bs e ∧ Below w.heap.size w w' := by
  have hz0 : 0 < w.heap.size := World.block_lt_of_cell? w _ g0
  have hst : St (w.alloc (Obj.cells #[Value.bool false] 4)) ((w.alloc (Obj.cells #[Value.bool false] 4)).alloc (.cells #[.slice A n c, .int .i64 0, .int .i64 (-1)] 59)) w.heap.size (w.heap.size + 1) A n c bs t0 v0 0 := by
    refine ⟨⟨-1, ?_⟩, (hr.alloc (Nat.le_refl _) _).alloc (by simp) _, cell?_alloc_old _ (cell?_alloc_old _ g0), World.grownBy_alloc _ _ _, by simp; omega⟩
    have := Blk.new (w.alloc (Obj.cells #[Value.bool false] 4)) 59 #[.slice A n c, .int .i64 0, .int .i64 (-1)]
    simpa using this
  have HS := Lib.hid hst
  have HR := Lib.hid hr
  clear hst hr g0
  go_enter_defers Tryd.func8, Tryd.ntmps8
  go_wp2_with fail
  refine (newReader A n c _).mono ?_
  rintro e w1 ⟨rfl, rfl⟩
  go_wp2_with fail
  refine (read_any HS.out (Nat.zero_le _) hn (Nat.le_succ _) (by omega)).mono ?_
  rintro e w2 (⟨hu, rfl, hs2⟩ | ⟨hu, rfl, j, hj, hs2⟩)
  · have hul : 0 + vnUsed (bs.drop 0) ≤ n := by have h1 := vnUsed_le bs; have h2 := HR.out.1; rw [bcells_length] at h2; rw [List.drop_zero]; omega
    obtain ⟨hrd, _, _, hg, hz⟩ := hs2
    have k1 : w2.cell? ⟨w.heap.size, 0, none⟩ = some (.bool false) := (World.cell?_of_block (hg.block w.heap.size (by simp) (by simp))).trans (by simp)
    have k2 : w2.frozen? ⟨w.heap.size, 0, none⟩ = false := (World.frozen?_of_block (hg.block w.heap.size (by simp) (by simp))).trans (by simp)
    have hz2 : w.heap.size < w2.heap.size := World.block_lt_of_cell? w2 _ k1
    have hb2 : Below w.heap.size w w2 := (((Below.refl w.heap.size w).alloc (Nat.le_refl _) _)).grown hg (by simp) (fun k e => by injection e with e; omega)
    have K1 := Lib.hid k1
    have K2 := Lib.hid k2
    clear k1 k2 HR
    go_wp2_with fail
    refine (readerLen (w.heap.size + 1) n c _ A w2 hrd hul hn).mono ?_
    rintro e w3 ⟨rfl, hb3⟩
    have k1 : w3.cell? ⟨w.heap.size, 0, none⟩ = some (.bool false) := (hb3.cell (p := ⟨w.heap.size, 0, none⟩) hz2).trans K1.out
    have k2 : w3.frozen? ⟨w.heap.size, 0, none⟩ = false := (hb3.frozen (p := ⟨w.heap.size, 0, none⟩) hz2).trans K2.out
    go_wp2
    go_region
    go_wp2
    refine leaves_cons (f := 16) (args := #[.pointer (some ⟨w.heap.size, 0, none⟩)]) (by simp) (by simp [go_sem]) ?_
    refine (caught_idle ⟨w.heap.size, 0, none⟩ _).mono ?_
    rintro e u' w'' ⟨rfl, rfl, rfl⟩
    have k3 := World.cell?_setCell_same w3 ⟨w.heap.size, 0, none⟩ (.bool true) k1
    refine ⟨_, by simp [results, Tryd.results8, go_sem, k3]; rfl, .inl ⟨hu, by simp⟩, ?_⟩
    exact Below.drew ((hb2.trans (hb3.mono (by omega))).setCell (Nat.le_refl _) _)
  · obtain ⟨hrd, _, _, hg, hz⟩ := hs2
    have k1 : w2.cell? ⟨w.heap.size, 0, none⟩ = some (.bool false) := (World.cell?_of_block (hg.block w.heap.size (by simp) (by simp))).trans (by simp)
    have k2 : w2.frozen? ⟨w.heap.size, 0, none⟩ = false := (World.frozen?_of_block (hg.block w.heap.size (by simp) (by simp))).trans (by simp)
    have hz2 : w.heap.size < w2.heap.size := World.block_lt_of_cell? w2 _ k1
    have hb2 : Below w.heap.size w w2 := (((Below.refl w.heap.size w).alloc (Nat.le_refl _) _)).grown hg (by simp) (fun k e => by injection e with e; omega)
    have K1 := Lib.hid k1
    have K2 := Lib.hid k2
    clear k1 k2 HR
    go_wp2_with fail
    refine (readerLen (w.heap.size + 1) n c _ A w2 hrd hj hn).mono ?_
    rintro e w3 ⟨rfl, hb3⟩
    have k1 : w3.cell? ⟨w.heap.size, 0, none⟩ = some (.bool false) := (hb3.cell (p := ⟨w.heap.size, 0, none⟩) hz2).trans K1.out
    have k2 : w3.frozen? ⟨w.heap.size, 0, none⟩ = false := (hb3.frozen (p := ⟨w.heap.size, 0, none⟩) hz2).trans K2.out
    go_wp2
    go_region
    go_wp2
    refine leaves_cons (f := 16) (args := #[.pointer (some ⟨w.heap.size, 0, none⟩)]) (by simp) (by simp [go_sem]) ?_
    refine (caught_idle ⟨w.heap.size, 0, none⟩ _).mono ?_
    rintro e u' w'' ⟨rfl, rfl, rfl⟩
    have k3 := World.cell?_setCell_same w3 ⟨w.heap.size, 0, none⟩ (.bool false) k1
    refine ⟨_, by simp [results, Tryd.results8, go_sem, k3]; rfl, .inr ⟨hu, _, rfl⟩, ?_⟩
    exact Below.drew ((hb2.trans (hb3.mono (by omega))).setCell (Nat.le_refl _) _)
end Go.Proofs.YtpegafbcfpedoaaDoor
