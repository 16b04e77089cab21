/- http3.ids: the comparison, the sort at a row of its own. -/
import Derived.Test.YtpegafbcfpedoaaH7
import Derived.Test.YtpegafbcfpedoaaSort
import Derived.Maps.RangeWalk
import Derived.Deep.QuietTactic
import Derived.Sort.LotA
namespace Go.Proofs.Ytpegafbcfpedoaa
open Go.RowKit Go.Maps Go.Shelf Go.Lib
set_option linter.unusedVariables false
set_option maxRecDepth 100000

set_option maxHeartbeats 2000000 in
theorem less_at (blk off c Bs size : Nat) (W : World) (G : Nat → Int) (hs : W.cell? ⟨Bs, 0, none⟩ = some (.slice (some ⟨blk, off, none⟩) size c))
    (hc : ∀ t, t < size → W.cell? ⟨blk, off + t, none⟩ = some (.int .u64 (G t))) (i j : Nat) (hi : i < size) (hj : j < size) (hsz : size < 4611686018427387904) :
    Calls Try.prog 28 #[.int .i64 i, .int .i64 j, .pointer (some ⟨Bs, 0, none⟩)] W fun e w' => e = .returned (.bool (decide (G i < G j))) ∧ ∃ q, w' = W.drewN q := by
  have ci := hc i hi
  have cj := hc j hj
  go_enter Try.func28, Try.ntmps28
  go_wp2
  go_quiet (fail)
  go_wp2
  go_ret
  exact ⟨rfl, nq, rfl⟩

noncomputable def siT : TypeInfo := (Try.prog.info? 43).get (by kernel_rfl)
noncomputable def siE : TypeInfo := (Try.prog.info? 26).get (by kernel_rfl)
theorem siK (n : Nat) (h2 : 2 ≤ n) : Lib.swapperK n siE 11 = 5 := by
  have a : siE.hasPointers = false := by kernel_rfl
  have b : siE.bytes = 8 := by kernel_rfl
  have c : (n == 0) = false := by simp; omega
  have d : (n == 1) = false := by simp; omega
  simp [Lib.swapperK, a, b, c, d]

/-- the numbers of a list, as the sort's row -/
def irow (ds : List Nat) : Array Int := (ds.map fun (d : Nat) => (d : Int)).toArray
theorem irow_size (ds : List Nat) : (irow ds).size = ds.length := by simp [irow]
theorem irow_at (ds : List Nat) (j : Nat) (hj : j < ds.length) : (irow ds)[j]! = (ds[j] : Int) := by
  rw [getElem!_pos (irow ds) j (by simpa [irow] using hj)]
  simp [irow]

def asc (ds : List Nat) : Prop := ds.Pairwise (· < ·)
/-- a sorted row that is a permutation of ds, ds without a number twice: the numbers in order -/
theorem sorted_row (ds qs : List Nat) (hp : qs.Perm ds) (hq : asc qs) (d' : Array Int) (hP : Sort.PermIn 0 (irow ds).size (irow ds) d') (hS : Sort.SortedIn Sort.ltInt 0 (irow ds).size d') : d' = irow qs := by
  obtain ⟨hsz, _, hperm⟩ := hP
  rw [Array.extract_size, ← hsz, Array.extract_size] at hperm
  have : d'.toList = (irow qs).toList := by
    refine List.Perm.eq_of_pairwise (le := fun x y => x ≤ y) ?_ ?_ ?_ ?_
    · intro a b _ _ h1 h2
      exact Int.le_antisymm h1 h2
    · rw [List.pairwise_iff_getElem]
      intro i j hi hj hij
      have hi' : i < d'.size := by simpa using hi
      have hj' : j < d'.size := by simpa using hj
      have := hS i j (Nat.zero_le _) hij (by omega)
      rw [getElem!_pos d' j hj', getElem!_pos d' i hi'] at this
      simpa [Sort.ltInt] using this
    · show List.Pairwise _ (qs.map fun (d : Nat) => (d : Int))
      rw [List.pairwise_map]
      exact hq.imp fun h => by omega
    · refine hperm.trans ?_
      show (ds.map fun (d : Nat) => (d : Int)).Perm (qs.map fun (d : Nat) => (d : Int))
      exact hp.symm.map _
  exact Array.ext' this

set_option maxHeartbeats 2000000 in
/-- sort.Slice at a row of 2 to 12 numbers, by the closure over the cell C that holds the row's slice. -/
theorem sort_at (g c C : Nat) (ds qs : List Nat) (w : World) (h2 : 2 ≤ ds.length) (h12 : ds.length ≤ 12) (hp : qs.Perm ds) (hq : asc qs) (hg : g < w.heap.size) (hC : C < w.heap.size) (hgC : C ≠ g)
    (hc : w.cell? ⟨C, 0, none⟩ = some (.slice (some ⟨g, 0, none⟩) ds.length c)) (hr : ∀ j, (hj : j < ds.length) → w.cell? ⟨g, j, none⟩ = some (un ds[j]) ∧ w.frozen? ⟨g, j, none⟩ = false) :
    Calls Try.prog 27 #[.iface 43 (.slice (some ⟨g, 0, none⟩) ds.length c), .func (.func 28) #[] #[.pointer (some ⟨C, 0, none⟩)]] w fun e w' =>
      e = .returned (.tuple #[]) ∧ w.grownBy w' (some g) ∧ ∀ j, (hj : j < qs.length) → w'.cell? ⟨g, j, none⟩ = some (un qs[j]) := by
  have hH : Sort.Holds (Value.int .u64) w g 0 (irow ds) := by
    intro j hj
    rw [irow_size] at hj
    rw [irow_at ds j hj, Nat.zero_add]
    exact hr j hj
  have hless : LessReads Try.prog 28 #[.pointer (some ⟨C, 0, none⟩)] (Value.int .u64) Sort.ltInt g 0 (irow ds).size w := by
    intro m os dk hs i j hi hj
    have hHg : Sort.Holds (Value.int .u64) (Sort.grow (Sort.ahead w m) os) g 0 (irow ds) := Sort.holds_grow _ _ _ g 0 (irow ds) hg (Sort.holds_ahead _ _ _ _ _ _ hH)
    have e : sortWorld (Value.int .u64) w g 0 m dk os = Sort.putRow (Value.int .u64) (Sort.grow (Sort.ahead w m) os) g 0 dk := by
      unfold sortWorld; rw [Sort.putRow_grow _ (Sort.ahead w m) _ g _ _ hg]
    have hn := irow_size ds
    refine less_at g 0 c C (irow ds).size _ (fun t => dk[t]!) ?_ (fun t ht => ?_) i j hi hj (by omega)
    · rw [e, Sort.cell?_putRow_other _ _ g 0 dk _ (Or.inl hgC), Sort.cell?_grow _ _ _ hC, hn]
      exact hc
    · rw [e]; exact Sort.cell?_putRow _ _ g 0 _ dk hHg hs t (by omega)
  have hS := Any.sort_Slice_small_sorted Try.laysGg6 43 26 siT siE (by kernel_rfl) (by kernel_rfl) (by kernel_rfl) (by kernel_rfl) 11 (fun _ => by kernel_rfl) (by kernel_rfl) (fun _ => by kernel_rfl) (Value.int .u64) (fun _ => rfl) Sort.ltInt Sort.swo_ltInt 28 _
    (enters_of Try.func28 (by kernel_rfl) rfl) g 0 c (irow ds) (by rw [irow_size]; exact h2) (by rw [irow_size]; exact h12) 38 (by rw [siK _ (by rw [irow_size]; exact h2)]; kernel_rfl) true
    (fun args W => run_callFunc_extern Try.func38 (by kernel_rfl) (by kernel_rfl) (by kernel_rfl) (e := Extern.ReflectliteSwapper.swap true) (by kernel_rfl) args W) _ hless hH hg
  change Calls Try.prog 27 _ _ _ at hS
  rw [irow_size] at hS
  refine hS.mono ?_
  rintro e w' ⟨he, d', n, os, hP, hSo, rfl⟩
  rw [← irow_size ds] at hP hSo
  have hd := sorted_row ds qs hp hq d' hP hSo
  subst hd
  have hlen : qs.length = ds.length := hp.length_eq
  refine ⟨he, ⟨rfl, rfl, rfl, by simp, fun k hk hne => ?_⟩, fun j hj => ?_⟩
  · rw [Sort.heap_grow_old _ _ (by simpa using hk)]
    have hne' : g ≠ k := fun e => hne (by rw [e])
    show (w.heap.modify g _)[k]? = w.heap[k]?
    rw [Array.getElem?_modify, if_neg hne']
  · rw [Sort.cell?_grow _ _ _ (by simpa using hg)]
    have := Sort.cell?_putRow (Value.int .u64) (Sort.ahead w n) g 0 (irow ds) (irow qs) (Sort.holds_ahead _ _ _ _ _ _ hH) (by rw [irow_size, irow_size, hlen]) j (by rw [irow_size]; exact hj)
    rw [irow_at qs j hj, Nat.zero_add] at this
    exact this
end Go.Proofs.Ytpegafbcfpedoaa
