/-
  DERIVED. GIVEN WITH THE SEED: THE CARDS: each row of YtpegafbcfpedoaaDoorRows.lean that lists a variable, with what it lists TIED to the program's text (the seventh form; the later family's looks); each row that meets fmt, with fmt's text TOLD by the authors' own Lean function (tested against real Go, not proved from fmt's source: count such statements apart). THE CARD IS WHAT COUNTS. Prove the row's statement (the work); the ties are given (YtpegafbcfpedoaaDoorTie.lean); close each card by the builder's one call (the guide's Derived/Test/ToyasCard.lean, 'card_holds'). Laid BY PROGRAM, IN A SANDBOX (cutbox-door.mjs). By AI agents, Wed Nov 11 2026. No macro, syntax, notation, axiom, sorry.
-/
import Derived.Test.YtpegafbcfpedoaaDoorRows
import GoSem.ClaimSeven
namespace Go.Proofs.YtpegafbcfpedoaaDoor
namespace Rows

/-- THE TIED CARD OF 'laws.FnVNAny'. -/
def fnVNAnyCard : Claim7 := { stood := { row := fnVNAnyRow, standIns := [], harness := (true, "005374a10552fb87480a0480588e0bca33fd4159805a089f0417b7a2571211ac"), looks := false }, kinds := [], alts := [], laidByText := true, laidKinds := [.sentinel, .sentinel], laidTests := true, laidLooks := .later }
def FnVNAnyCardSaid : Prop := Claim7.holds Tryd.pinned (.plain (OpenSpec.ofChange fnVNAnySpec)) fnVNAnyCard

/-- THE TIED CARD OF 'laws.FnVNWritten'. -/
def fnVNWrittenCard : Claim7 := { stood := { row := fnVNWrittenRow, standIns := [], harness := (true, "005374a10552fb87480a0480588e0bca33fd4159805a089f0417b7a2571211ac"), looks := false }, kinds := [], alts := [], laidByText := true, laidKinds := [.sentinel, .sentinel], laidTests := true, laidLooks := .later }
def FnVNWrittenCardSaid : Prop := Claim7.holds Tryd.pinned (.plain (OpenSpec.ofChange fnVNWrittenSpec)) fnVNWrittenCard

/-- THE SECOND FORM's CARD OF 'laws.FnVNAny'. -/
def fnVNAnyUptoCard : Claim7 := { stood := { row := fnVNAnyUptoRow, standIns := [], harness := (true, "005374a10552fb87480a0480588e0bca33fd4159805a089f0417b7a2571211ac"), looks := false }, kinds := [], alts := [], laidByText := true, laidKinds := [.sentinel, .sentinel], laidTests := true, laidLooks := .later }
def FnVNAnyUptoCardSaid : Prop := Claim7.holds Tryd.pinned (.plain (OpenSpec.upto fnVNAnySpec)) fnVNAnyUptoCard

/-- THE SECOND FORM's CARD OF 'laws.FnVNWritten'. -/
def fnVNWrittenUptoCard : Claim7 := { stood := { row := fnVNWrittenUptoRow, standIns := [], harness := (true, "005374a10552fb87480a0480588e0bca33fd4159805a089f0417b7a2571211ac"), looks := false }, kinds := [], alts := [], laidByText := true, laidKinds := [.sentinel, .sentinel], laidTests := true, laidLooks := .later }
def FnVNWrittenUptoCardSaid : Prop := Claim7.holds Tryd.pinned (.plain (OpenSpec.upto fnVNWrittenSpec)) fnVNWrittenUptoCard
end Rows
end Go.Proofs.YtpegafbcfpedoaaDoor
