/- what the listed variables say of strconv's two errors. -/
import Derived.Test.YtgcfnhchmmkndaaGreatDoorRow
import Derived.Test.YtgcfnhchmmkndaaGreatDoorX1
import Derived.Test.YtgcfnhchmmkndaaGreatDoorL8
import Derived.PinnedBridge
import Derived.Lib.LaidCase
import Derived.Lib.LaidU8
import Derived.Shelf.Strings.CaseAny
namespace Go.Proofs.YtgcfnhchmmkndaaGreatDoor
open Go.ChangeShapes Go.WideShapes Go.ChangeAt Go.RowKit
set_option maxRecDepth 100000

theorem gRange : Tryz.prog.globalNamed "strconv.ErrRange" = some 4 := by kernel_rfl
theorem gSyntax : Tryz.prog.globalNamed "strconv.ErrSyntax" = some 3 := by kernel_rfl
theorem tRange : (Tryz.prog.globals[4]?).map (·.type) = some 63 := by kernel_rfl
theorem tSyntax : (Tryz.prog.globals[3]?).map (·.type) = some 63 := by kernel_rfl
theorem err_laid {W : World} (h : laidMetH Tryz.prog laidR W) : ErrC W := by
  rw [MakeChecks.laidMetH_plain _ _ _ (by kernel_rfl)] at h
  have h4 : laidMet Tryz.prog (("strconv.ErrRange", Rows.laid_strconv_ErrRange) :: laidR.drop 5) W := laidMet_at 4 h
  have h5 : laidMet Tryz.prog (("strconv.ErrSyntax", Rows.laid_strconv_ErrSyntax) :: laidR.drop 6) W := laidMet_at 5 h
  obtain ⟨a, s, hv, _⟩ := laid_sentinel (r := _) h4 gRange tRange Tryz.underlying63 row136 Tryz.underlying136 Tryz.underlying138 rfl rfl Tryz.underlying9 cells138 cells9
  obtain ⟨b, t, hw, _⟩ := laid_sentinel (r := _) h5 gSyntax tSyntax Tryz.underlying63 row136 Tryz.underlying136 Tryz.underlying138 rfl rfl Tryz.underlying9 cells138 cells9
  exact ⟨⟨_, by simpa using World.var?_cell gSyntax hw 0, .inr ⟨_, _, rfl⟩⟩, ⟨_, by simpa using World.var?_cell gRange hv 0, .inr ⟨_, _, rfl⟩⟩⟩
open Go.ChangeShapes Go.WideShapes Go.ChangeAt Go.RowKit Go.Lib
set_option linter.unusedVariables false

/-- unicode's three tables -/
def CaseC (w : World) : Prop := CaseVar 5 caseA w ∧ Utf8Tabs 7 8 w
theorem CaseC.keep {w w' : World} (h : CaseC w) (k : ∀ a v, w.cell? a = some v → w'.cell? a = some v) : CaseC w' := by
  obtain ⟨⟨R, oR, cap, h1, h2⟩, h3, h4⟩ := h
  exact ⟨⟨R, oR, cap, k _ _ h1, fun i hi => ⟨k _ _ (h2 i hi).1, k _ _ (h2 i hi).2.1, k _ _ (h2 i hi).2.2.1, k _ _ (h2 i hi).2.2.2.1, k _ _ (h2 i hi).2.2.2.2⟩⟩, fun c hc => k _ _ (h3 c hc), fun i hi => ⟨k _ _ (h4 i hi).1, k _ _ (h4 i hi).2⟩⟩
theorem CaseC.below {w w' : World} (h : CaseC w) (k : Below w.heap.size w w') : CaseC w' := h.keep fun a v hc => (k.cell (World.block_lt_of_cell? w a hc)).trans hc
theorem CaseC.grown {W w' : World} {o : Obj} (h : CaseC W) (g : (W.alloc o).grownBy w' (some W.heap.size)) : CaseC w' := h.keep fun a v hc => by
  have hlt := World.block_lt_of_cell? W a hc
  exact (g.cell_far a (by simp; omega) (by intro e; injection e with e; omega)).trans (((below_new W o).cell hlt).trans hc)
theorem lower_any (l : BS) (w : World) (hs : l.length ≤ 2147483648) (hC : CaseC w) : Calls Tryz.prog 74 #[str l] w fun e w' => e = .returned (str (toLowerD l)) ∧ Below w.heap.size w w' := by
  have := Any.strings_ToLower_any Tryz.lays159 Tryz.Builder_Extra_159 ⟨l.toArray⟩ w (by show l.toArray.size < _; simp; omega) hC.1 hC.2
  rw [show (⟨l.toArray⟩ : ByteArray).data.toList = l from List.toList_toArray ..] at this
  exact this
set_option maxHeartbeats 4000000 in
theorem validate_any (name value : BS) (w : World) (hn : name.length ≤ 2147483648) (hv : value.length ≤ 2147483648) (hC : CaseC w) :
    Calls Tryz.prog 68 #[fldV name value] w (ErrPost w ((toLowerD name == name) && valOk value)) := by
  have KL := fun W (k : Below w.heap.size w W) => lower_any name W hn (hC.below k)
  have KV := fun w => value_at' value w hv
  obtain ⟨low, hlow⟩ : ∃ low, toLowerD name = low := ⟨_, rfl⟩
  rw [hlow] at KL ⊢
  obtain ⟨vo, hvo⟩ : ∃ vo, valOk value = vo := ⟨_, rfl⟩
  rw [hvo] at KV ⊢
  obtain ⟨ne, hne⟩ : ∃ ne, (low == name) = ne := ⟨_, rfl⟩
  rw [hne]
  clear hlow hvo hC
  have x0 : (w.alloc (.cells #[str name, str value] 103)).cell? ⟨w.heap.size, 0, none⟩ = some (str name) := by simp
  have x1 : (w.alloc (.cells #[str name, str value] 103)).cell? ⟨w.heap.size, 1, none⟩ = some (str value) := by simp
  have X0 := Lib.hid x0
  have X1 := Lib.hid x1
  have hlt : w.heap.size < (w.alloc (.cells #[str name, str value] 103)).heap.size := by simp
  have HB := Lib.hid (below_new w (.cells #[str name, str value] 103))
  have HKL := Lib.hid KL
  have HNE := Lib.hid hne
  clear x0 x1 KL
  go_enter Tryz.func68, Tryz.ntmps68
  go_upto_region 1 with fail
  go_cut [8] (fun s8 wx => s8 = .bool (!ne) ∧ wx.cell? ⟨w.heap.size, 1, none⟩ = some (str value) ∧ Below w.heap.size w wx)
  case first =>
    go_wp2_with fail
    go_region_with (go_at_call 74; refine (HKL.out _ (by first | exact HB.out | exact HB.out.drew)).mono ?_; rintro e w5 ⟨rfl, hb5⟩; have c0 := (hb5.cell (p := ⟨w.heap.size, 0, none⟩) hlt).trans X0.out; have c1 := (hb5.cell (p := ⟨w.heap.size, 1, none⟩) hlt).trans X1.out)
    all_goals go_wp2_with fail
    all_goals go_meet
    all_goals first
      | exact ⟨rfl, c1, Below.nextD HB.out (Nat.le_of_lt hlt) hb5⟩
      | exact ⟨rfl, c1, Below.next HB.out (Nat.le_of_lt hlt) hb5⟩
  case rest =>
    obtain ⟨rfl, hc1, hb⟩ := hcut
    have HB2 := Lib.hid hb
    clear hb hne hlt
    cases ne
    · go_wp2_with fail
      refine (new_at _ _).mono ?_
      rintro e w6 ⟨rfl, hb6⟩
      go_wp2_with fail
      go_ret
      exact ErrPost.no (Below.next HB2.out HB2.out.size hb6)
    · cases vo
      · go_wp2_with ((with_reducible refine (KV _).mono ?_); rintro e w6 ⟨rfl, rfl⟩)
        refine (new_at _ _).mono ?_
        rintro e w6 ⟨rfl, hb6⟩
        go_wp2_with fail
        go_ret
        exact ErrPost.no (Below.next HB2.out HB2.out.size hb6)
      · go_wp2_with ((with_reducible refine (KV _).mono ?_); rintro e w6 ⟨rfl, rfl⟩)
        go_ret
        exact ErrPost.yes HB2.out
theorem xe_lower : toLowerD [120, 195, 169] = [120, 195, 169] := by kernel_rfl
/-- what is asked of a field's name and value -/
def vOkQ (q : BS × BS) : Bool := lowOk q.1 && valOk q.2
theorem validate_fld (q : BS × BS) (hq : fldQ q) (w : World) (hC : CaseC w) : Calls Tryz.prog 68 #[fldV q.1 q.2] w (ErrPost w (vOkQ q)) := by
  have hl := hq.len
  rcases hq.name with e | e
  · have h := validate_any q.1 q.2 w (by omega) (by omega) hC
    have e2 : ((toLowerD q.1 == q.1) && valOk q.2) = vOkQ q := by
      unfold vOkQ
      rw [e, xe_lower]
      rfl
    rw [e2] at h
    exact h
  · have h := validate_at q.1 q.2 w (by omega) (by omega) e
    have e2 : fieldOk q.1 q.2 = vOkQ q := by
      unfold fieldOk vOkQ
      rw [lower_low]
    rw [e2] at h
    exact h
theorem caseX : CaseExtra Tryz.prog Tryz.lays159_ren := ⟨by kernel_rfl, by kernel_rfl, by kernel_rfl, by kernel_rfl, by kernel_rfl, by kernel_rfl⟩
theorem u8X : U8Extra Tryz.prog Tryz.lays159_ren := ⟨by kernel_rfl, by kernel_rfl, by kernel_rfl, by kernel_rfl, by kernel_rfl, by kernel_rfl, by kernel_rfl⟩
theorem acc_eq : (Rows.laid_unicode_utf8_acceptRanges : DataW Unit) = acceptData := by kernel_rfl
theorem case_laid {W : World} (h : laidMetH Tryz.prog laidR W) : CaseC W := by
  rw [MakeChecks.laidMetH_plain _ _ _ (by kernel_rfl)] at h
  have r1 : VarReads Tryz.prog W "unicode.CaseRanges" Rows.laid_unicode_CaseRanges := laidMet.reads h (by simp [laidR, Rows.fnHRTrailersRow])
  have r2 : VarReads Tryz.prog W "unicode/utf8.first" Rows.laid_unicode_utf8_first := laidMet.reads h (by simp [laidR, Rows.fnHRTrailersRow])
  have r3 : VarReads Tryz.prog W "unicode/utf8.acceptRanges" Rows.laid_unicode_utf8_acceptRanges := laidMet.reads h (by simp [laidR, Rows.fnHRTrailersRow])
  rw [show Rows.laid_unicode_CaseRanges = caseData from Pinned.caseRanges_eq] at r1
  rw [show Rows.laid_unicode_utf8_first = firstData from Pinned.utf8First_eq] at r2
  rw [acc_eq] at r3
  have h1 := caseVar_of_reads (ρ := Tryz.lays159_ren) { Tryz.lays159 with } (by kernel_rfl) caseX r1
  have h2 := utf8Tabs_of_reads (ρ := Tryz.lays159_ren) { Tryz.lays159 with } u8X r2 r3
  exact ⟨h1, h2⟩
end Go.Proofs.YtgcfnhchmmkndaaGreatDoor
