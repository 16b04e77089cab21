/-
  DERIVED. GIVEN WITH THE SEED: THE CARDS: each row of YtgbflmhijkkaiaaDoorRows.lean that lists a variable, with what it lists TIED to the program's text (the seventh form; the later family's looks); each row that meets fmt, with fmt's text TOLD by the authors' own Lean function (tested against real Go, not proved from fmt's source: count such statements apart). THE CARD IS WHAT COUNTS. Prove the row's statement (the work); the ties are given (YtgbflmhijkkaiaaDoorTie.lean); close each card by the builder's one call (the guide's Derived/Test/ToyasCard.lean, 'card_holds'). Laid BY PROGRAM, IN A SANDBOX (cutbox-door.mjs). By AI agents, Wed Nov 11 2026. No macro, syntax, notation, axiom, sorry.
-/
import Derived.Test.YtgbflmhijkkaiaaDoorRows
import GoSem.ClaimSeven
namespace Go.Proofs.YtgbflmhijkkaiaaDoor
namespace Rows

/-- THE TIED CARD OF 'laws.FnQPPseudo'. -/
def fnQPPseudoCard : Claim7 := { stood := { row := fnQPPseudoRow, standIns := [], harness := (true, "d56d60d57b5ba3c435d6fe806b36636053ca227f0a01ff1a5b9b6ef3f66a177c"), looks := true }, kinds := [], alts := [], laidByText := true, laidKinds := [.sentinel, .sentinel, .sentinel, .sentinel, .sentinel, .data, .data, .sentinel, .sentinel], laidTests := true, laidLooks := .later }
def FnQPPseudoCardSaid : Prop := Claim7.holds Tryd.pinned (.plain (OpenSpec.ofChange fnQPPseudoSpec)) fnQPPseudoCard

/-- THE SECOND FORM's CARD OF 'laws.FnQPPseudo'. -/
def fnQPPseudoUptoCard : Claim7 := { stood := { row := fnQPPseudoUptoRow, standIns := [], harness := (true, "d56d60d57b5ba3c435d6fe806b36636053ca227f0a01ff1a5b9b6ef3f66a177c"), looks := true }, kinds := [], alts := [], laidByText := true, laidKinds := [.sentinel, .sentinel, .sentinel, .sentinel, .sentinel, .data, .data, .sentinel, .sentinel], laidTests := true, laidLooks := .later }
def FnQPPseudoUptoCardSaid : Prop := Claim7.holds Tryd.pinned (.plain (OpenSpec.upto fnQPPseudoSpec)) fnQPPseudoUptoCard
end Rows
end Go.Proofs.YtgbflmhijkkaiaaDoor
