/- impl.VNAppend, VNLen, VNWith, bytes.Equal, bytes.Clone and laws.vnAwake. -/
import Derived.Test.YtpegafbcfpedoaaDoorT8
import Derived.Laws.BytesArg
namespace Go.Proofs.YtpegafbcfpedoaaDoor
open Go.RowKit
set_option linter.unusedVariables false

theorem strOf_bytes (bs : List UInt8) : strOfNums (bs.map fun b => (b.toNat : Int)) = ⟨bs.toArray⟩ := by
  unfold strOfNums
  rw [List.map_map]
  have : (fun n : Int => UInt8.ofNat n.toNat) ∘ (fun b : UInt8 => (b.toNat : Int)) = id := by
    funext b
    simp
  rw [this, List.map_id]
theorem Reads.convert {w : World} {B n : Nat} {A : Option Addr} {bs : List UInt8} (h : Reads w B 1 A n (bcells bs)) (c : Nat) :
    (Go.convert 22 9 (.slice A n c)).run Tryd.prog w = .ok (.string ⟨bs.toArray⟩) w := by
  have hl : bs.length = n := by have := h.1; rw [bcells_length] at this; omega
  have hs := Tryd.underlying22
  have he := Tryd.underlying5
  have hd := Tryd.underlying9
  rcases Nat.eq_zero_or_pos n with hn | hn
  · subst hn
    obtain rfl : bs = [] := List.eq_nil_of_length_eq_zero hl
    rw [run_convert_bytes_string w 22 9 5 A 0 c hs he hd]
    rcases A with _ | a
    · simp [Conv.bytesToString]; rfl
    · have := run_bytesToString (P := Tryd.prog) w a 0 c [] (by simpa using run_loadCells_list (P := Tryd.prog) w a [] (by simp))
      simp only [List.foldl_nil] at this
      rw [this]; rfl
  · obtain ⟨b, o, rfl, _, _, hc⟩ := h.byte hn
    have := run_convert_bytes_arg (P := Tryd.prog) w 22 5 hs he b o n c (bs.map fun b => (b.toNat : Int)) (by simpa using hl) (fun i hi => by
      rw [hc i (by omega)]
      simp [List.getD, List.getElem?_eq_getElem (show i < bs.length by omega)]) 9 hd
    rw [this, strOf_bytes]

theorem equal_any (A A2 : Option Addr) (n c n2 c2 B B2 : Nat) (xs ys : List UInt8) (w : World) (h1 : Reads w B 1 A n (bcells xs)) (h2 : Reads w B2 1 A2 n2 (bcells ys)) :
    Calls Tryd.prog 12 #[.slice A n c, .slice A2 n2 c2] w fun e w' => e = .returned (.bool (xs == ys)) ∧ w = w' := by
  have k1 := h1.convert c
  have k2 := h2.convert c2
  clear h1 h2
  go_enter Tryd.func12, Tryd.ntmps12
  go_wp2
  go_ret
  exact ⟨rfl, rfl⟩

/-- what VNAppend and VNWith answer: a row of the call's own, and that all is well -/
def Made (w : World) (n : Nat) (xs : List Value) (e : Ending) (w' : World) : Prop :=
  ∃ v', e = .returned (.tuple #[v', .bool true]) ∧ w'.ownsRow w.heap.size 5 1 v' n xs ∧ Below w.heap.size w w'

theorem ownsRow_less {w : World} {base base' : Nat} {v : Value} {n : Nat} {xs : List Value} (h : w.ownsRow base 5 1 v n xs) (hb : base' ≤ base) : w.ownsRow base' 5 1 v n xs := by
  refine ⟨h.1, ?_⟩
  rcases h.2 with h2 | ⟨g, cap, cur, hv, hg, r⟩
  · exact .inl h2
  · exact .inr ⟨g, cap, cur, hv, by omega, r⟩

theorem vnappend_any (i : Nat) (w : World) (h : i < 4611686018427387904) : Calls Tryd.prog 10 #[.int .u64 i] w (Made w (vnLen i) (bcells (vnBytes i (vnLen i)))) := by
  have hc := append_any (w.heap.size + 1) (.slice none 0 0) 0 [] i (w.alloc (.cells #[.bool false] 4)) (World.ownsRow_nil _ _ _ _) (by simp) (by omega) h
  have HC := Lib.hid hc
  clear hc
  go_enter_defers Tryd.func10, Tryd.ntmps10
  go_wp2_with fail
  refine HC.out.mono ?_
  rintro e w1 ⟨v', rfl, hown, hg, -⟩
  have hb : Below w.heap.size w w1 := ((Below.refl w.heap.size w).alloc (Nat.le_refl _) _).grown hg (by simp) (fun k e => by cases e)
  have k1 : w1.cell? ⟨w.heap.size, 0, none⟩ = some (.bool false) := (World.cell?_of_block (hg.block w.heap.size (by simp) (by simp [Value.ownBlock]))).trans (by simp)
  have k2 : w1.frozen? ⟨w.heap.size, 0, none⟩ = false := (World.frozen?_of_block (hg.block w.heap.size (by simp) (by simp [Value.ownBlock]))).trans (by simp)
  have HO := Lib.hid hown
  clear hown hg
  go_wp2
  refine leaves_cons (f := 16) (args := #[.pointer (some ⟨w.heap.size, 0, none⟩)]) (by simp) (by simp [go_sem]) ?_
  refine (caught_idle ⟨w.heap.size, 0, none⟩ _).mono ?_
  rintro e u' w'' ⟨rfl, rfl, rfl⟩
  have k3 := World.cell?_setCell_same w1 ⟨w.heap.size, 0, none⟩ (.bool true) k1
  refine ⟨_, by simp [results, Tryd.results10, go_sem, k3], v', rfl, ?_, hb.setCell (Nat.le_refl _) _⟩
  have := ownsRow_less (ownsRow_setCell_below HO.out (a := ⟨w.heap.size, 0, none⟩) (by simp) (.bool true)) (Nat.le_succ w.heap.size)
  simpa using this

theorem vnlen2_any (i : Nat) (w : World) (h : i < 4611686018427387904) : Calls Tryd.prog 11 #[.int .u64 i] w fun e w' => e = .returned (.tuple #[.int .i64 (vnLen i), .bool true]) ∧ Below w.heap.size w w' := by
  have HC := Lib.hid (len_any i (w.alloc (.cells #[.bool false] 4)) h)
  go_enter_defers Tryd.func11, Tryd.ntmps11
  go_wp2_with fail
  refine HC.out.mono ?_
  rintro e w1 ⟨rfl, rfl⟩
  go_wp2
  refine leaves_cons (f := 16) (args := #[.pointer (some ⟨w.heap.size, 0, none⟩)]) (by simp) (by simp [go_sem]) ?_
  refine (caught_idle ⟨w.heap.size, 0, none⟩ _).mono ?_
  rintro e u' w'' ⟨rfl, rfl, rfl⟩
  refine ⟨_, by simp [results, Tryd.results11, go_sem], rfl, (Below.refl _ _).alloc (Nat.le_refl _) _⟩

theorem vnwith_of (i L : Nat) (w : World) (hc : ∀ w1, Calls Tryd.prog 23 #[.slice none 0 0, .int .u64 i, .int .i64 L] w1 (New w1 L (bcells (vnBytes i L)))) :
    Calls Tryd.prog 14 #[.int .u64 i, .int .i64 L] w (Made w L (bcells (vnBytes i L))) := by
  have HC := Lib.hid (hc (w.alloc (.cells #[.bool false] 4)))
  clear hc
  go_enter_defers Tryd.func14, Tryd.ntmps14
  go_wp2_with fail
  refine HC.out.mono ?_
  rintro e w1 ⟨v', rfl, hown, hg⟩
  have hz : w.heap.size < (w.alloc (.cells #[.bool false] 4)).heap.size := by simp
  have hb : Below w.heap.size w w1 := ((Below.refl w.heap.size w).alloc (Nat.le_refl _) _).trans (hg.mono (by simp))
  have k1 : w1.cell? ⟨w.heap.size, 0, none⟩ = some (.bool false) := (hg.cell (p := ⟨w.heap.size, 0, none⟩) hz).trans (by simp)
  have k2 : w1.frozen? ⟨w.heap.size, 0, none⟩ = false := (hg.frozen (p := ⟨w.heap.size, 0, none⟩) hz).trans (by simp)
  have HO := Lib.hid hown
  clear hown hg hz
  go_wp2
  refine leaves_cons (f := 16) (args := #[.pointer (some ⟨w.heap.size, 0, none⟩)]) (by simp) (by simp [go_sem]) ?_
  refine (caught_idle ⟨w.heap.size, 0, none⟩ _).mono ?_
  rintro e u' w'' ⟨rfl, rfl, rfl⟩
  have k3 := World.cell?_setCell_same w1 ⟨w.heap.size, 0, none⟩ (.bool true) k1
  refine ⟨_, by simp [results, Tryd.results14, go_sem, k3], v', rfl, ?_, hb.setCell (Nat.le_refl _) _⟩
  exact ownsRow_less (ownsRow_setCell_below HO.out (a := ⟨w.heap.size, 0, none⟩) (by simp) (.bool true)) (by simp)

theorem withlen_eq (i L : Nat) (w : World) (h : i < 4611686018427387904) (hL : vnLen i = L) (h4 : L = 1 ∨ L = 2 ∨ L = 4 ∨ L = 8) : Calls Tryd.prog 23 #[.slice none 0 0, .int .u64 i, .int .i64 L] w (New w L (bcells (vnBytes i L))) := by
  have h1 := len_any i w h
  have h2 := append_any w.heap.size (.slice none 0 0) 0 [] i w (World.ownsRow_nil _ _ _ _) (Nat.le_refl _) (by omega) h
  rw [hL] at h1 h2
  have H1 := Lib.hid h1
  have H2 := Lib.hid h2
  clear h1 h2 hL
  rcases h4 with rfl | rfl | rfl | rfl
  all_goals
    go_enter Tryd.func23, Tryd.ntmps23
    go_wp2_with (first | (go_at_call 22; refine H1.out.mono ?_; rintro e w' ⟨rfl, rfl⟩))
    refine H2.out.mono ?_
    rintro e w1 ⟨v', rfl, hown, hg, -⟩
    have HO := Lib.hid hown
    have HB := Lib.hid ((Below.refl w.heap.size w).grown hg (Nat.le_refl _) (fun k e => by cases e))
    clear hown hg
    go_wp2
    go_ret
    exact ⟨_, rfl, own_eq HO.out (by omega) (by simp), HB.out⟩

theorem vnwith_any (i L : Nat) (w : World) (h : i < 4611686018427387904) (h4 : L = 1 ∨ L = 2 ∨ L = 4 ∨ L = 8) (hle : vnLen i ≤ L) : Calls Tryd.prog 14 #[.int .u64 i, .int .i64 L] w (Made w L (bcells (vnBytes i L))) := by
  refine vnwith_of i L w fun w1 => ?_
  by_cases hL : vnLen i = L
  · exact withlen_eq i L w1 h hL h4
  · rcases h4 with rfl | rfl | rfl | rfl
    · rcases vnLen_cases i with ⟨e, h1⟩ | ⟨e, h1, h2⟩ | ⟨e, h1, h2⟩ | ⟨e, h1⟩ <;> omega
    · rcases vnLen_cases i with ⟨e, h1⟩ | ⟨e, h1, h2⟩ | ⟨e, h1, h2⟩ | ⟨e, h1⟩
      · exact with_1_2 i w1 (by omega)
      all_goals omega
    · rcases vnLen_cases i with ⟨e, h1⟩ | ⟨e, h1, h2⟩ | ⟨e, h1, h2⟩ | ⟨e, h1⟩
      · exact with_1_4 i w1 (by omega)
      · exact with_2_4 i w1 h1 (by omega)
      all_goals omega
    · rcases vnLen_cases i with ⟨e, h1⟩ | ⟨e, h1, h2⟩ | ⟨e, h1, h2⟩ | ⟨e, h1⟩
      · exact with_1_8 i w1 (by omega)
      · exact with_2_8 i w1 h1 (by omega)
      · exact with_4_8 i w1 h1 (by omega)
      · omega

theorem clone_own (v : Value) (n : Nat) (bs : List UInt8) (w : World) (base : Nat) (hown : w.ownsRow base 5 1 v n (bcells bs)) (hn : n ≤ 1099511627776) (h0 : 0 < n) :
    Calls Tryd.prog 15 #[v] w (New w n (bcells bs)) := by
  obtain ⟨i0, hi0, hz0, hz1, hz2⟩ := info_parts info5
  obtain ⟨g, cap, rfl, hb, hlt⟩ := hown.form h0
  have q22 : ∀ (w : World) (a : Option Addr) (n c n' c' : Nat), (binOp .eql 22 (.slice a n c) (.slice none n' c')).run Tryd.prog w = .ok (.bool a.isNone) w := fun w a n c n' c' => Lib.run_eql_slice_nil w _ _ a n c n' c' Tryd.underlying22
  go_enter Tryd.func15, Tryd.ntmps15
  go_wp2_with (first | (at_builtin; refine wpList_append_own_at _ rfl (.tmp 5) (.tmp 6) 22 rfl w.heap.size 5 i0 _ 1 1 Tryd.underlying22 hi0 hz0 hz1 hz2 rfl (by omega) _ 0 [] rfl (World.ownsRow_lit w #[] 0 (Nat.le_refl _) (by simp [maxLen]) rfl) ⟨g, 0, none⟩ n cap (bcells bs) rfl (by rw [hown.1]) ((hown.alloc _).cells rfl) (by simp [bcells, Value.oneCell']) (by simp only [maxLen]; omega) (by omega) (by simp) ?_; intro v' w1 hown1 hg1 _ hat))
  go_ret
  refine ⟨_, rfl, own_eq hown1 (by omega) (by simp), ?_⟩
  exact ((Below.refl w.heap.size w).alloc (Nat.le_refl _) _).grown hg1 (by simp) (fun k e => by cases e; exact Nat.le_refl _)

theorem vnawake (w : World) (t0 : TypeId) (v0 : Value) (g0 : w.cell? ⟨0, 0, none⟩ = some (.iface t0 v0)) :
    Calls Tryd.prog 5 #[] w fun e w' => e = .returned (.bool true) ∧ Below w.heap.size w w' := by
  have HC := Lib.hid (vnappend_any 15293 w (by omega))
  go_enter Tryd.func5, Tryd.ntmps5
  go_wp2_with fail
  refine HC.out.mono ?_
  rintro e w1 ⟨v1, rfl, hown1, hb1⟩
  obtain ⟨g, cap, rfl, hg0, hg1⟩ := hown1.form (by decide)
  have k0 : w1.cell? ⟨0, 0, none⟩ = some (.iface t0 v0) := (hb1.cell (p := ⟨0, 0, none⟩) (World.block_lt_of_cell? w _ g0)).trans g0
  have hz1 := hb1.size
  have hr2 : Reads (w1.alloc (.cells #[.int .u8 123, .int .u8 189, .int .u8 9] 5)) (w1.heap.size + 1) 1 (some ⟨w1.heap.size, 0, none⟩) 3 (bcells [123, 189, 9]) := by
    have := Reads.of_own (World.ownsRow_lit (base := w1.heap.size) (size := 1) (e := 5) w1 #[.int .u8 123, .int .u8 189, .int .u8 9] 3 (Nat.le_refl _) (by simp [maxLen]) rfl)
    simpa [bcells] using this
  have HR := Lib.hid (vnread_any _ 3 3 [123, 189, 9] (w1.alloc (.cells #[.int .u8 123, .int .u8 189, .int .u8 9] 5)) (by simpa using hr2) (by omega) t0 v0 (cell?_alloc_old _ k0))
  have HO := Lib.hid hown1
  clear hown1 hr2
  go_wp2_with fail
  refine HR.out.mono ?_
  rintro e w2 ⟨hv, hb2⟩
  have he : e = .returned (.tuple #[.int .u64 15293, .int .i64 1, .bool true]) := by
    rcases hv with ⟨hu, rfl⟩ | ⟨hu, _⟩
    · rfl
    · exact absurd hu (by decide)
  subst he
  clear hv
  have hz2 := hb2.size
  have hr3 : Reads (w2.alloc (.cells #[.int .u8 123, .int .u8 189] 5)) w1.heap.size 1 (some ⟨g, 0, none⟩) 2 (bcells [123, 189]) := by
    have h1 : Reads w1 w1.heap.size 1 (some ⟨g, 0, none⟩) 2 (bcells [123, 189]) := Reads.of_own HO.out
    have h2 : Reads w2 w1.heap.size 1 (some ⟨g, 0, none⟩) 2 (bcells [123, 189]) := (h1.alloc (Nat.le_refl _) _).keep (fun p hp => hb2.cell (by simp; omega))
    exact h2.alloc (by simp at hz2; omega) _
  have hr4 : Reads (w2.alloc (.cells #[.int .u8 123, .int .u8 189] 5)) (w2.heap.size + 1) 1 (some ⟨w2.heap.size, 0, none⟩) 2 (bcells [123, 189]) := by
    have := Reads.of_own (World.ownsRow_lit (base := w2.heap.size) (size := 1) (e := 5) w2 #[.int .u8 123, .int .u8 189] 2 (Nat.le_refl _) (by simp [maxLen]) rfl)
    simpa [bcells] using this
  have HE := Lib.hid (equal_any _ _ 2 cap 2 2 _ _ [123, 189] [123, 189] _ hr3 hr4)
  clear hr3 hr4
  go_wp2_with fail
  refine HE.out.mono ?_
  rintro e w3 ⟨rfl, rfl⟩
  go_wp2
  go_ret
  refine ⟨rfl, Below.alloc (hb1.trans (((Below.refl w1.heap.size w1).alloc (Nat.le_refl _) _).trans (hb2.mono (by simp))|>.mono hz1)) (by simp at hz2; omega) _⟩
end Go.Proofs.YtpegafbcfpedoaaDoor
