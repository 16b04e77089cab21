/-
  DERIVED. GIVEN WITH THE SEED: THE CARDS: each row of YtdgpfgbocacgeaaDoorRows.lean that lists a variable, with what it lists TIED to the program's text (the seventh form; the later family's looks); each row that meets fmt, with fmt's text TOLD by the authors' own Lean function (tested against real Go, not proved from fmt's source: count such statements apart). THE CARD IS WHAT COUNTS. Prove the row's statement (the work); the ties are given (YtdgpfgbocacgeaaDoorTie.lean); close each card by the builder's one call (the guide's Derived/Test/ToyasCard.lean, 'card_holds'). Laid BY PROGRAM, IN A SANDBOX (cutbox-door.mjs). By AI agents, Wed Nov 11 2026. No macro, syntax, notation, axiom, sorry.
-/
import Derived.Test.YtdgpfgbocacgeaaDoorRows
import GoSem.ClaimSeven
namespace Go.Proofs.YtdgpfgbocacgeaaDoor
namespace Rows

/-- THE TIED CARD OF 'laws.FnH3Priority'. -/
def fnH3PriorityCard : Claim7 := { stood := { row := fnH3PriorityRow, standIns := [], harness := (true, "54b4eeac0edf120d34e76fd7d686daebb85cd77cc316df56f068dc839a86e647"), looks := true }, kinds := [], alts := [], laidByText := true, laidKinds := [.sentinel, .data], laidTests := true, laidLooks := .later }
def FnH3PriorityCardSaid : Prop := Claim7.holds Tryd.pinned (.plain (OpenSpec.ofChange fnH3PrioritySpec)) fnH3PriorityCard

/-- THE SECOND FORM's CARD OF 'laws.FnH3Priority'. -/
def fnH3PriorityUptoCard : Claim7 := { stood := { row := fnH3PriorityUptoRow, standIns := [], harness := (true, "54b4eeac0edf120d34e76fd7d686daebb85cd77cc316df56f068dc839a86e647"), looks := true }, kinds := [], alts := [], laidByText := true, laidKinds := [.sentinel, .data], laidTests := true, laidLooks := .later }
def FnH3PriorityUptoCardSaid : Prop := Claim7.holds Tryd.pinned (.plain (OpenSpec.upto fnH3PrioritySpec)) fnH3PriorityUptoCard
end Rows
end Go.Proofs.YtdgpfgbocacgeaaDoor
