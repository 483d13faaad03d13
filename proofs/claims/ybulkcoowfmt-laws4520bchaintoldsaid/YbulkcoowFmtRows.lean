/-
  No cell of these rows narrows 'for every input' (looked for: loops, veiled, ifaces, maps, wideKeys, modest, calm, conditions, laid).
  DERIVED. THE GIVEN ROWS OF THIS SEAT. 1 by the template 'for every input the law returns true; each argument reads behind the call as it read before'; 0 by the template 'total and deterministic' (their statements: YbulkcoowFmtTotals.lean).
  GIVEN WITH THE SEED: the statements are not yours to turn. If you find one false, say at which input.
  Laid BY PROGRAM, IN A SANDBOX (cutbox-rows.mjs): the forced cells as the released guide's own fill.sh prints them over the translation 9f961f46b63ec7bd… (all of the seat's roots in one cut). By AI agents, Wed Nov 11 2026. No macro, syntax, notation, axiom, sorry.
-/
import Derived.Test.YbulkcoowFmtChecked
import GoSem.Claim
import GoSem.ClaimJoined
import GoSem.ClaimMapViews
import Derived.JoinedTies
import Derived.KernelRfl
namespace Go.Proofs.YbulkcoowFmt
/- THE CELL 'sum', in the pinned program and in every row, IS THE sha256 OF THE DUMP (.gsa) THAT YbulkcoowFmtProg.lean LOADS. Nothing in Lean hashes anything: it is a label: what it is worth is what the hold of that sum in a sandbox is worth. -/
noncomputable def Ybaf.pinned : Pinned := { name := "ybulkcoowfmt", sum := "9f961f46b63ec7bd0559ea325be111b45c06e314a53be8444a0a8f0a31396b5e", checked := Ybaf.checked }
namespace Rows
def none {H : Type} : Left H := { results := [], args := [] }

/-- 'guarded.LawS4520BChain': WHATEVER THE INPUT: true; the input reads as it did. -/
def lawS4520BChainSpec : ChangeSpec := { name := "lawS4520BChain", fn := fun _ => fun
  | [d1, d2] => { results := [.lit (.bool true)], args := [d1, d2] }
  | _ => none }
def lawS4520BChainRow : OpenClaim := { program := "ybulkcoowfmt", sum := "9f961f46b63ec7bd0559ea325be111b45c06e314a53be8444a0a8f0a31396b5e", func := "example.com/concordat/concordat/guarded.LawS4520BChain", spec := "lawS4520BChain", stops := ["fmt.Sprintf, its operands' methods called"], inPlace := ["fmt.Sprintf"], unfollowed := true, recurses := true, apart := false }
/-- NO THEOREM (fmt's text is open here; it may be false): for the released tool's asking of the row's closed facts alone. THE STATEMENT IS 'LawS4520BChainToldSaid' (YbulkcoowFmtCards.lean). -/
def LawS4520BChainFormAsk : Prop := lawS4520BChainRow.holds Ybaf.pinned (OpenSpec.ofChange lawS4520BChainSpec)

/-- ITS FALSE NEIGHBOUR: 'it returns false'. Refute it at one input. -/
def lawS4520BChainWrong : ChangeSpec := { name := "lawS4520BChain", fn := fun _ => fun
  | [d1, d2] => { results := [.lit (.bool false)], args := [d1, d2] }
  | _ => none }
def LawS4520BChainWrongFormAsk : Prop := lawS4520BChainRow.holds Ybaf.pinned (OpenSpec.ofChange lawS4520BChainWrong)

end Rows
end Go.Proofs.YbulkcoowFmt
