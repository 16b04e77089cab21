/- What the rows' arguments and listed variables give a walk: a slice of bytes that came in reads as a list of bytes; io.EOF is a pointer's error, httpguts.isTokenTable is the table of tokens; the rows' witness. -/
import Derived.Test.YtgcfnhchmmkndaaGreatDoorRows
import Derived.Test.YtgcfnhchmmkndaaGreatDoorB3
import Derived.ProofKit
import Derived.LaidMore
import Derived.Lay
import Derived.OpenShut
import Derived.OpenVars
import Derived.ChangeOld
import Derived.ChangeMaps5
import Derived.Stop.Joined
import Derived.Stop.LaidErr
import Derived.Lib.LaidTab
namespace Go.Proofs.YtgcfnhchmmkndaaGreatDoor
open Go.ChangeShapes Go.WideShapes Go.ChangeAt Go.RowKit
open Go.ChangeMaps (open_string shut_string)

theorem own : ownKnob Tryz.prog.godebug = none := by kernel_rfl
theorem laidOut : laidOutB Tryz.prog = true := by kernel_rfl
theorem gEOF : Tryz.prog.globalNamed "io.EOF" = some 0 := by kernel_rfl
theorem gTok : Tryz.prog.globalNamed "given.example/pub-heliostat/pub/httpguts.isTokenTable" = some 2 := by kernel_rfl
theorem tEOF : (Tryz.prog.globals[0]?).map (·.type) = some 63 := by kernel_rfl
theorem tTok : (Tryz.prog.globals[2]?).map (·.type) = some 152 := by kernel_rfl
theorem cells138 : Tryz.prog.cellsOf 138 = 1 := by kernel_rfl
theorem cells9 : Tryz.prog.cellsOf 9 = 1 := by kernel_rfl
theorem cells152 : Tryz.prog.cellsOf 152 = 256 := by kernel_rfl
theorem cells4 : Tryz.prog.cellsOf 4 = 1 := by kernel_rfl
theorem star : "*" ++ "errors.errorString" = "*errors.errorString" := by decide
theorem row136 (u : TypeId) (h : Tryz.prog.typeName? 3 u = some "*errors.errorString") : u = 136 :=
  typeName_ptr_named (nm := "errors.errorString") (by rw [star]; kernel_rfl) (by kernel_rfl) (by decide) u (by rw [star]; exact h)

def laidR : List (String × DataW Unit) := Rows.fnHRTrailersRow.laid
theorem laidR_req : laidR = Rows.fnHRRequestsRow.laid := rfl
theorem laidR_ord : laidR = Rows.fnHROrderRow.laid := rfl
theorem laidR_res : laidR = Rows.fnHRResponsesRow.laid := rfl

theorem laidMet_at {P : Program} {W : World} : ∀ {l : List (String × DataW Unit)} (k : Nat), laidMet P l W → laidMet P (l.drop k) W
  | _, 0, h => h
  | [], _ + 1, h => h
  | _ :: _, k + 1, h => laidMet_at k h.tail

def boolData {H : Type} (bs : List Bool) : DataW H := .agg (bs.map fun z => .lit (.bool z))
theorem cells_of_bools {H : Type} {enc : TypeId × Value → H} {P : Program} {w : World} {base : Nat} {sp : Nat → Bool} {held : Bool} {fuel : Nat} {t e : TypeId} {n : Nat} {cs : List Value} {bs : List Bool} {p : List MemPlace}
    (ht : P.underlying t = some (.array n e)) (he : P.underlying e = some .bool) (hce : P.cellsOf e = 1) (hct : P.cellsOf t = n)
    (h : DataW.trod enc P w base sp held fuel t cs = some (boolData bs, p)) : cs = bs.map fun z => Value.bool z := by
  cases fuel with
  | zero => simp [DataW.trod] at h
  | succ fuel =>
    simp only [DataW.trod, ht, hce, hct, Nat.mul_one] at h
    split at h
    · rename_i hl
      obtain ⟨xs, hm, hx⟩ := Option.map_eq_some_iff.1 h
      have hxs : xs.map (·.1) = bs.map fun z => (DataW.lit (.bool z) : DataW H) := by
        have := congrArg Prod.fst hx
        simpa [boolData] using this
      have hxl : xs.length = n := by simpa using Lib.mapM_length hm
      have hzl : bs.length = n := by
        have := congrArg List.length hxs
        simp at this
        omega
      apply List.ext_getElem?
      intro i
      by_cases hi : i < n
      · obtain ⟨b, hb, hf⟩ := Lib.mapM_at hm i i (by simp [hi])
        obtain ⟨z, hc, rfl⟩ := DataW.trod_bool he hf
        have h1 : cs[i]? = some (.bool z) := by
          have := congrArg (·[0]?) hc
          simpa [List.getElem?_take, List.getElem?_drop] using this
        have h2 : (xs.map (·.1))[i]? = some (DataW.lit (.bool z) : DataW H) := by simp [hb]
        rw [hxs] at h2
        simp only [List.getElem?_map, Option.map_eq_some_iff, DataW.lit.injEq, Lit.bool.injEq] at h2
        obtain ⟨z', hz', rfl⟩ := h2
        simp [h1, hz']
      · rw [List.getElem?_eq_none (by omega), List.getElem?_eq_none (by simp; omega)]
    · cases h
def tokBools : List Bool := (List.range 256).map tokN
theorem tok_data : (Rows.laid_given_example_pub_heliostat_pub_httpguts_isTokenTable : DataW Unit) = boolData tokBools := by kernel_rfl
theorem tok_of {W : World} {rest : List (String × DataW Unit)} (h : laidMet Tryz.prog (("given.example/pub-heliostat/pub/httpguts.isTokenTable", boolData tokBools) :: rest) W) : TokTab W := by
  obtain ⟨ps, ⟨g', t', cs, fuel, p, q, hg', ht', hvar, hd, _, _⟩, _⟩ := h
  obtain rfl := Option.some.inj (gTok.symm.trans hg')
  obtain rfl := Option.some.inj (tTok.symm.trans ht')
  have hc := cells_of_bools Tryz.underlying152 Tryz.underlying4 cells4 cells152 hd
  intro c hlt
  rw [World.var?_cell gTok hvar c, ← Array.getElem?_toList, hc]
  simp [tokBools, hlt]

theorem of_laid {W : World} (h : laidMetH Tryz.prog laidR W) : ∃ p, EofAt W p ∧ TokTab W := by
  rw [MakeChecks.laidMetH_plain _ _ _ (by kernel_rfl)] at h
  have h6 : laidMet Tryz.prog (("io.EOF", Rows.laid_io_EOF) :: ("given.example/pub-heliostat/pub/httpguts.isTokenTable", Rows.laid_given_example_pub_heliostat_pub_httpguts_isTokenTable) :: laidR.drop 8) W := laidMet_at 6 h
  obtain ⟨a, s, hv, _⟩ := laid_sentinel (r := _) h6 gEOF tEOF Tryz.underlying63 row136 Tryz.underlying136 Tryz.underlying138 rfl rfl Tryz.underlying9 cells138 cells9
  refine ⟨_, by simpa [EofAt] using World.var?_cell gEOF hv 0, ?_⟩
  have h7 := h6.tail
  rw [tok_data] at h7
  exact tok_of h7

/-- the bytes that a list of numbers is -/
def bytesOf (zs : List Int) : List UInt8 := zs.map fun z => UInt8.ofNat z.toNat
theorem bcells_bytesOf (zs : List Int) (h : ∀ z ∈ zs, (Lit.int .u8 z).wf = true) : bcells (bytesOf zs) = zs.map (Value.int .u8) := by
  unfold bcells bytesOf
  rw [List.map_map]
  refine List.map_congr_left fun z hz => ?_
  have hb := h z hz
  have h0 : 0 ≤ z ∧ z ≤ 255 := by simpa [Lit.wf, IntKind.min, IntKind.max, IntKind.bits, IntKind.signed] using hb
  simp [UInt8.toNat_ofNat']
  omega

theorem reads_of_open {W : World} {x : Addr} {l : Nat} {zs : List Int} (hl : l ≤ zs.length) (hcell : ∀ i, i < zs.length → W.cell? (x.add i) = some (.int .u8 (zs.getD i 0))) (hw : ∀ n ∈ zs, (Lit.int .u8 n).wf = true) :
    Reads W W.heap.size 1 (some x) l (bcells (bytesOf (zs.take l))) := by
  rw [bcells_bytesOf _ (fun z hz => hw z (List.mem_of_mem_take hz))]
  refine ⟨by simp; omega, fun h0 => ⟨x, rfl, ?_, fun j u hj => ?_⟩⟩
  · have := World.block_lt_of_cell? W _ (hcell 0 (by omega))
    rwa [block_of_add] at this
  · have hjl : j < l := by
      have := (List.getElem?_eq_some_iff.1 hj).1
      simp at this; omega
    rw [hcell j (by omega)]
    rw [List.getElem?_map, List.getElem?_take_of_lt hjl] at hj
    simp [List.getD, List.getElem?_eq_getElem (show j < zs.length by omega)] at hj ⊢
    exact hj
theorem vars_length {H : Type} {enc : TypeId × Value → H} {P : Program} {W : World} {sp : Nat → Bool} :
    ∀ {ns : List String} {gs : List (DataW H)} {ps : List MemPlace}, DataW.TrodVars enc P W sp ns gs ps → gs.length = ns.length
  | [], [], _, _ => rfl
  | [], _ :: _, _, h => h.elim
  | _ :: _, [], _, h => h.elim
  | n :: ns, d :: ds, ps, h => by
    obtain ⟨g, t, cs, fuel, p, q, _, _, _, _, hs, _⟩ := h
    simp [vars_length hs]

noncomputable def startR (os : Os) : World := World.laidAll Tryz.prog os laidR
theorem startR_met (os : Os) (args : Array Value) : laidMetH Tryz.prog laidR ((startR os).forCall (fun _ _ => 0) ⟨#[], args, []⟩).memory := by
  rw [MakeChecks.laidMetH_plain _ _ _ (by kernel_rfl)]
  exact laidMet_laidAll _ (by kernel_rfl) (by kernel_rfl)
end Go.Proofs.YtgcfnhchmmkndaaGreatDoor
