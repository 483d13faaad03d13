/-
  DERIVED. GIVEN WITH THE SEED: THE CARDS: each row of YbulkcomeDoorRows.lean that lists a variable, with what it lists TIED to the program's text (the seventh form; the later family's looks); each row that meets fmt, with fmt's text TOLD by the authors' own Lean function (tested against real Go, not proved from fmt's source: count such statements apart). THE CARD IS WHAT COUNTS. Prove the row's statement (the work); the ties are given (YbulkcomeDoorTie.lean); close each card by the builder's one call (the guide's Derived/Test/ToyasCard.lean, 'card_holds'). Laid BY PROGRAM, IN A SANDBOX (cutbox-door.mjs). By AI agents, Wed Nov 11 2026. No macro, syntax, notation, axiom, sorry.
-/
import Derived.Test.YbulkcomeDoorRows
import GoSem.ClaimSeven
namespace Go.Proofs.YbulkcomeDoor
namespace Rows

/-- THE TIED CARD OF 'phaseweave.LawS4515ANodes'. -/
def lawS4515ANodesCard : Claim7 := { stood := { row := lawS4515ANodesRow, standIns := [], harness := (true, "f20f7ef3aeb237c825f23c7a0f80b598d22ce8bdb904e1f3c852b8392c522c99"), looks := false }, kinds := [], alts := [], laidByText := true, laidKinds := [.data, .data, .data], laidTests := true, laidLooks := .later }
def LawS4515ANodesCardSaid : Prop := Claim7.holds Ybad.pinned (.plain (OpenSpec.ofChange lawS4515ANodesSpec)) lawS4515ANodesCard

/-- THE TIED CARD OF 'phaseweave.LawS4515AWeight'. -/
def lawS4515AWeightCard : Claim7 := { stood := { row := lawS4515AWeightRow, standIns := [], harness := (true, "f20f7ef3aeb237c825f23c7a0f80b598d22ce8bdb904e1f3c852b8392c522c99"), looks := false }, kinds := [], alts := [], laidByText := true, laidKinds := [.data, .data, .data], laidTests := true, laidLooks := .later }
def LawS4515AWeightCardSaid : Prop := Claim7.holds Ybad.pinned (.plain (OpenSpec.ofChange lawS4515AWeightSpec)) lawS4515AWeightCard
end Rows
end Go.Proofs.YbulkcomeDoor
