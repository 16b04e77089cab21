/-
  DERIVED. GIVEN WITH THE SEED: THE CARDS: each row of YtgcfnhchmmkndaaGreatDoorRows.lean that lists a variable, with what it lists TIED to the program's text (the seventh form; the later family's looks); each row that meets fmt, with fmt's text TOLD by the authors' own Lean function (tested against real Go, not proved from fmt's source: count such statements apart). THE CARD IS WHAT COUNTS. Prove the row's statement (the work); the ties are given (YtgcfnhchmmkndaaGreatDoorTie.lean); close each card by the builder's one call (the guide's Derived/Test/ToyasCard.lean, 'card_holds'). Laid BY PROGRAM, IN A SANDBOX (cutbox-door.mjs). By AI agents, Wed Nov 11 2026. No macro, syntax, notation, axiom, sorry.
-/
import Derived.Test.YtgcfnhchmmkndaaGreatDoorRows
import GoSem.ClaimSeven
namespace Go.Proofs.YtgcfnhchmmkndaaGreatDoor
namespace Rows

/-- THE TIED CARD OF 'laws.FnHRRequests'. -/
def fnHRRequestsCard : Claim7 := { stood := { row := fnHRRequestsRow, standIns := [], harness := (true, "5e7a4dde1abc56aa37676b13e87a7888a1daffc73975f45cd14cf2162b7de7bf"), looks := true }, kinds := [], alts := [], laidByText := true, laidKinds := [.data, .data, .data, .data, .sentinel, .sentinel, .sentinel, .data, .sentinel, .pinned, .pinned], laidTests := true, laidLooks := .later }
def FnHRRequestsCardSaid : Prop := Claim7.holds Tryz.pinned (.plain (OpenSpec.ofChange fnHRRequestsSpec)) fnHRRequestsCard

/-- THE TIED CARD OF 'laws.FnHROrder'. -/
def fnHROrderCard : Claim7 := { stood := { row := fnHROrderRow, standIns := [], harness := (true, "5e7a4dde1abc56aa37676b13e87a7888a1daffc73975f45cd14cf2162b7de7bf"), looks := true }, kinds := [], alts := [], laidByText := true, laidKinds := [.data, .data, .data, .data, .sentinel, .sentinel, .sentinel, .data, .sentinel, .pinned, .pinned], laidTests := true, laidLooks := .later }
def FnHROrderCardSaid : Prop := Claim7.holds Tryz.pinned (.plain (OpenSpec.ofChange fnHROrderSpec)) fnHROrderCard

/-- THE TIED CARD OF 'laws.FnHRTrailers'. -/
def fnHRTrailersCard : Claim7 := { stood := { row := fnHRTrailersRow, standIns := [], harness := (true, "5e7a4dde1abc56aa37676b13e87a7888a1daffc73975f45cd14cf2162b7de7bf"), looks := true }, kinds := [], alts := [], laidByText := true, laidKinds := [.data, .data, .data, .data, .sentinel, .sentinel, .sentinel, .data, .sentinel, .pinned, .pinned], laidTests := true, laidLooks := .later }
def FnHRTrailersCardSaid : Prop := Claim7.holds Tryz.pinned (.plain (OpenSpec.ofChange fnHRTrailersSpec)) fnHRTrailersCard

/-- THE TIED CARD OF 'laws.FnHRResponses'. -/
def fnHRResponsesCard : Claim7 := { stood := { row := fnHRResponsesRow, standIns := [], harness := (true, "5e7a4dde1abc56aa37676b13e87a7888a1daffc73975f45cd14cf2162b7de7bf"), looks := true }, kinds := [], alts := [], laidByText := true, laidKinds := [.data, .data, .data, .data, .sentinel, .sentinel, .sentinel, .data, .sentinel, .pinned, .pinned], laidTests := true, laidLooks := .later }
def FnHRResponsesCardSaid : Prop := Claim7.holds Tryz.pinned (.plain (OpenSpec.ofChange fnHRResponsesSpec)) fnHRResponsesCard

/-- THE SECOND FORM's CARD OF 'laws.FnHRRequests'. -/
def fnHRRequestsUptoCard : Claim7 := { stood := { row := fnHRRequestsUptoRow, standIns := [], harness := (true, "5e7a4dde1abc56aa37676b13e87a7888a1daffc73975f45cd14cf2162b7de7bf"), looks := true }, kinds := [], alts := [], laidByText := true, laidKinds := [.data, .data, .data, .data, .sentinel, .sentinel, .sentinel, .data, .sentinel, .pinned, .pinned], laidTests := true, laidLooks := .later }
def FnHRRequestsUptoCardSaid : Prop := Claim7.holds Tryz.pinned (.plain (OpenSpec.upto fnHRRequestsSpec)) fnHRRequestsUptoCard

/-- THE SECOND FORM's CARD OF 'laws.FnHROrder'. -/
def fnHROrderUptoCard : Claim7 := { stood := { row := fnHROrderUptoRow, standIns := [], harness := (true, "5e7a4dde1abc56aa37676b13e87a7888a1daffc73975f45cd14cf2162b7de7bf"), looks := true }, kinds := [], alts := [], laidByText := true, laidKinds := [.data, .data, .data, .data, .sentinel, .sentinel, .sentinel, .data, .sentinel, .pinned, .pinned], laidTests := true, laidLooks := .later }
def FnHROrderUptoCardSaid : Prop := Claim7.holds Tryz.pinned (.plain (OpenSpec.upto fnHROrderSpec)) fnHROrderUptoCard

/-- THE SECOND FORM's CARD OF 'laws.FnHRTrailers'. -/
def fnHRTrailersUptoCard : Claim7 := { stood := { row := fnHRTrailersUptoRow, standIns := [], harness := (true, "5e7a4dde1abc56aa37676b13e87a7888a1daffc73975f45cd14cf2162b7de7bf"), looks := true }, kinds := [], alts := [], laidByText := true, laidKinds := [.data, .data, .data, .data, .sentinel, .sentinel, .sentinel, .data, .sentinel, .pinned, .pinned], laidTests := true, laidLooks := .later }
def FnHRTrailersUptoCardSaid : Prop := Claim7.holds Tryz.pinned (.plain (OpenSpec.upto fnHRTrailersSpec)) fnHRTrailersUptoCard

/-- THE SECOND FORM's CARD OF 'laws.FnHRResponses'. -/
def fnHRResponsesUptoCard : Claim7 := { stood := { row := fnHRResponsesUptoRow, standIns := [], harness := (true, "5e7a4dde1abc56aa37676b13e87a7888a1daffc73975f45cd14cf2162b7de7bf"), looks := true }, kinds := [], alts := [], laidByText := true, laidKinds := [.data, .data, .data, .data, .sentinel, .sentinel, .sentinel, .data, .sentinel, .pinned, .pinned], laidTests := true, laidLooks := .later }
def FnHRResponsesUptoCardSaid : Prop := Claim7.holds Tryz.pinned (.plain (OpenSpec.upto fnHRResponsesSpec)) fnHRResponsesUptoCard
end Rows
end Go.Proofs.YtgcfnhchmmkndaaGreatDoor
