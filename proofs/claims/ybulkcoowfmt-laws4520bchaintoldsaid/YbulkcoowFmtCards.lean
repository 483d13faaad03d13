/-
  DERIVED. GIVEN WITH THE SEED: THE CARDS: each row of YbulkcoowFmtRows.lean that lists a variable, with what it lists TIED to the program's text (the seventh form; the later family's looks); each row that meets fmt, with fmt's text TOLD by the authors' own Lean function (tested against real Go, not proved from fmt's source: count such statements apart). THE CARD IS WHAT COUNTS. Prove the row's statement (the work); the ties are given (YbulkcoowFmtTie.lean); close each card by the builder's one call (the guide's Derived/Test/ToyasCard.lean, 'card_holds'). Laid BY PROGRAM, IN A SANDBOX (cutbox-door.mjs). By AI agents, Wed Nov 11 2026. No macro, syntax, notation, axiom, sorry.
-/
import Derived.Test.YbulkcoowFmtRows
import GoSem.ClaimSeven
namespace Go.Proofs.YbulkcoowFmt
namespace Rows

/-- THE TOLD CARD OF 'guarded.LawS4520BChain'. -/
def lawS4520BChainCard : Claim7 := { stood := { row := lawS4520BChainRow, standIns := [], harness := (true, "04046adfb815f34345dd747804ad58a18d21d846d2730f3f08f62280bf7783cb"), looks := false }, told := true, goes := false }
def LawS4520BChainToldSaid : Prop := Claim7.holds Ybaf.pinned (.plain (OpenSpec.ofChange lawS4520BChainSpec)) lawS4520BChainCard
/-- ITS FALSE NEIGHBOUR. Refute it at one input. -/
def LawS4520BChainToldWrongFalsely : Prop := Claim7.holds Ybaf.pinned (.plain (OpenSpec.ofChange lawS4520BChainWrong)) lawS4520BChainCard
end Rows
end Go.Proofs.YbulkcoowFmt
