/- spec.sfText: its state, at, skip. -/
import Derived.Test.YtdgpfgbocacgeaaDoorP1
import Derived.Laws.Closers25b
namespace Go.Proofs.YtdgpfgbocacgeaaDoor
open Go.RowKit
set_option linter.unusedVariables false

/-- The text's state: what is left, and whether it is odd. -/
structure Tx (w : World) (t : Nat) (s : ByteArray) (o : Bool) : Prop where
  s0 : w.cell? ⟨t, 0, none⟩ = some (.string s)
  o0 : w.cell? ⟨t, 1, none⟩ = some (.bool o)
  fs : w.frozen? ⟨t, 0, none⟩ = false
  fo : w.frozen? ⟨t, 1, none⟩ = false
  lt : t < w.heap.size

section
variable {w w' : World} {t : Nat} {s s' : ByteArray} {o o' : Bool}
theorem Tx.below (h : Tx w t s o) (k : Below w.heap.size w w') : Tx w' t s o where
  s0 := (k.cell h.lt).trans h.s0
  o0 := (k.cell h.lt).trans h.o0
  fs := (k.frozen h.lt).trans h.fs
  fo := (k.frozen h.lt).trans h.fo
  lt := Nat.lt_of_lt_of_le h.lt k.size
theorem Tx.sets (h : Tx w t s o) (s' : ByteArray) : Tx (w.setCell ⟨t, 0, none⟩ (.string s')) t s' o where
  s0 := World.cell?_setCell_same _ _ _ h.s0
  o0 := (World.cell?_setCell_other _ _ _ _ (by simp)).trans h.o0
  fs := by simpa using h.fs
  fo := by simpa using h.fo
  lt := by simpa using h.lt
theorem Tx.seto (h : Tx w t s o) (o' : Bool) : Tx (w.setCell ⟨t, 1, none⟩ (.bool o')) t s o' where
  s0 := (World.cell?_setCell_other _ _ _ _ (by simp)).trans h.s0
  o0 := World.cell?_setCell_same _ _ _ h.o0
  fs := by simpa using h.fs
  fo := by simpa using h.fo
  lt := by simpa using h.lt
theorem grown_refl (w : World) (row : Option Nat) : w.grownBy w row := World.grownBy.refl w row
theorem grown_set (w : World) (t i : Nat) (v : Value) : w.grownBy (w.setCell ⟨t, i, none⟩ v) (some t) :=
  ⟨rfl, rfl, rfl, by simp, fun k hk hne => Below.heap_setCell w _ v k (fun e => hne (by rw [e]))⟩
end

def headB (s : ByteArray) : UInt8 := s.data.toList.headD 0
theorem cons_size {s : ByteArray} {c : UInt8} {r : List UInt8} (h : s.data.toList = c :: r) : 0 < s.size := by rw [← len_eq, h]; simp
theorem cons_ne {s : ByteArray} {c : UInt8} {r : List UInt8} (h : s.data.toList = c :: r) : s ≠ ByteArray.empty := by
  rintro rfl
  have h0 := cons_size h
  exact absurd h0 (by decide)
theorem cons_toList {s : ByteArray} {c : UInt8} {r : List UInt8} (h : s.data.toList = c :: r) : ¬ s.toList = [] := by rw [toList_nil_iff_emptyBytes]; exact cons_ne h
theorem cons_isEmpty {s : ByteArray} {c : UInt8} {r : List UInt8} (h : s.data.toList = c :: r) : s.toList.isEmpty = false := by simpa using cons_toList h
theorem cons_get {s : ByteArray} {c : UInt8} {r : List UInt8} (h : s.data.toList = c :: r) (h' : 0 < s.size) : s[0]'h' = c := by
  rw [← get_eq s 0 h']
  simp [h]
theorem drop_eq (s : ByteArray) (k : Nat) : (s.extract k s.size).data.toList = s.data.toList.drop k := by
  have e : (s.extract k s.size).data = s.data.extract k s.size := by
    rw [ByteArray.data_extract]
  rw [e, Array.toList_extract, List.extract_eq_take_drop]
  rw [List.take_of_length_le]
  simp
theorem cons_rest {s : ByteArray} {c : UInt8} {r : List UInt8} (h : s.data.toList = c :: r) : (s.extract 1 s.size).data.toList = r := by rw [drop_eq, h]; rfl
theorem cons_less {s : ByteArray} {c : UInt8} {r : List UInt8} (h : s.data.toList = c :: r) : (s.extract 1 s.size).size < s.size := by
  have h1 := len_eq (s.extract 1 s.size)
  have h2 := len_eq s
  rw [cons_rest h] at h1
  rw [h] at h2
  simp only [List.length_cons] at h2
  omega
theorem nil_empty {s : ByteArray} (h : s.data.toList = []) : s = ByteArray.empty := by
  apply ByteArray.ext
  exact Array.toList_eq_nil_iff.1 h

set_option maxRecDepth 100000 in
theorem at_at (t : Nat) (s : ByteArray) (o : Bool) (w : World) (T : Tx w t s o) : Calls Tryd.prog 9 #[.pointer (some ⟨t, 0, none⟩)] w fun e w' => e = .returned (vb (headB s)) ∧ w' = w := by
  obtain ⟨s0, o0, fs, fo, lt⟩ := T
  rcases h : s.data.toList with _ | ⟨c, r⟩
  · obtain rfl := nil_empty h
    clear h
    go_enter Tryd.func9, Tryd.ntmps9
    go_wp2
    go_ret
    exact ⟨rfl, rfl⟩
  · have f1 := cons_size h
    have f2 := cons_ne h
    have f3 := cons_toList h
    have f4 := cons_isEmpty h
    have f5 := cons_get h f1
    have hh : headB s = c := by simp [headB, h]
    rw [hh]
    clear h hh
    go_enter Tryd.func9, Tryd.ntmps9
    go_wp2
    go_ret
    exact ⟨rfl, rfl⟩

/-- How much of the text is left: what a loop on it counts by. -/
def textLen (t : Nat) (w : World) : Nat := match w.cell? ⟨t, 0, none⟩ with | some (.string s) => s.size | _ => 0
theorem Tx.len {w : World} {t : Nat} {s : ByteArray} {o : Bool} (h : Tx w t s o) : textLen t w = s.size := by unfold textLen; rw [h.s0]

def RelSkip (t : Nat) (tabs o : Bool) (s : ByteArray) (w : World) (wr : World) : Prop :=
  ∃ s' pre, Tx wr t s' o ∧ w.grownBy wr (some t) ∧ s.data.toList = pre ++ s'.data.toList ∧ ∀ c ∈ pre, c = 32 ∨ (tabs = true ∧ c = 9)

theorem skip_step {t : Nat} {tabs o : Bool} {s s' : ByteArray} {w wr : World} {pre : List UInt8} {c : UInt8} {r : List UInt8} (T : Tx wr t s' o) (hg : w.grownBy wr (some t)) (hs : s.data.toList = pre ++ s'.data.toList)
    (hp : ∀ c ∈ pre, c = 32 ∨ (tabs = true ∧ c = 9)) (h : s'.data.toList = c :: r) (hc : c = 32 ∨ (tabs = true ∧ c = 9)) :
    RelSkip t tabs o s w (wr.setCell ⟨t, 0, none⟩ (.string (s'.extract 1 s'.size))) ∧ textLen t (wr.setCell ⟨t, 0, none⟩ (.string (s'.extract 1 s'.size))) < s'.size := by
  have T2 := T.sets (s'.extract 1 s'.size)
  refine ⟨⟨_, pre ++ [c], T2, hg.trans (grown_set _ _ _ _), ?_, ?_⟩, ?_⟩
  · rw [hs, cons_rest h, h]; simp
  · intro x hx
    rcases List.mem_append.1 hx with hx | hx
    · exact hp x hx
    · obtain rfl : x = c := by simpa using hx
      exact hc
  · rw [T2.len]; exact cons_less h

set_option maxRecDepth 100000 in
theorem skip_at (t : Nat) (tabs : Bool) (s : ByteArray) (o : Bool) (w : World) (T : Tx w t s o) :
    Calls Tryd.prog 7 #[.pointer (some ⟨t, 0, none⟩), .bool tabs] w fun e w' => e = .returned (.tuple #[]) ∧ RelSkip t tabs o s w w' := by
  go_enter Tryd.func7, Tryd.ntmps7
  go_wp2
  go_loopw [4] (fun _ wr => RelSkip t tabs o s w wr) (fun _ wr => textLen t wr)
  case atStart => exact ⟨s, [], T, grown_refl _ _, rfl, by simp⟩
  case round =>
    obtain ⟨s', pre, T', hg, hs, hp⟩ := hrel
    rw [T'.len]
    have HT := T'
    obtain ⟨s0, o0, fs, fo, lt⟩ := T'
    rcases h : s'.data.toList with _ | ⟨c, r⟩
    · obtain rfl := nil_empty h
      clear h
      go_wp2
      exact ⟨rfl, .tuple #[], by simp [results, Tryd.results7], rfl, _, pre, HT, hg, hs, hp⟩
    · have f1 := cons_size h
      have f2 := cons_ne h
      have f3 := cons_toList h
      have f4 := cons_isEmpty h
      have f5 := cons_get h f1
      have H := Lib.hid h
      have HS := Lib.hid hs
      have HP := Lib.hid hp
      clear hs hp
      by_cases hc : c = 32
      · have f6 : ((s'[0].toNat : Int) == 32) = true := by rw [f5, hc]; rfl
        clear h f5
        go_wp2
        exact skip_step HT hg HS.out HP.out H.out (.inl hc)
      · have f6 : ((s'[0].toNat : Int) == 32) = false := by
          rw [f5]
          exact (u8_eq c 32).trans (by simpa using hc)
        cases tabs
        · clear h f5
          go_wp2
          exact ⟨rfl, .tuple #[], by simp [results, Tryd.results7], rfl, _, pre, HT, hg, HS.out, HP.out⟩
        · by_cases hd : c = 9
          · have f7 : ((s'[0].toNat : Int) == 9) = true := by rw [f5, hd]; rfl
            clear h f5
            go_wp2
            exact skip_step HT hg HS.out HP.out H.out (.inr ⟨rfl, hd⟩)
          · have f7 : ((s'[0].toNat : Int) == 9) = false := by
              rw [f5]
              exact (u8_eq c 9).trans (by simpa using hd)
            clear h f5
            go_wp2
            exact ⟨rfl, .tuple #[], by simp [results, Tryd.results7], rfl, _, pre, HT, hg, HS.out, fun c hc => (HP.out c hc).imp id fun h => ⟨rfl, h.2⟩⟩
end Go.Proofs.YtdgpfgbocacgeaaDoor
