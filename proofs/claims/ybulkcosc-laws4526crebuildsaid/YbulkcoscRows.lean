/-
  No cell of these rows narrows 'for every input' (looked for: loops, veiled, ifaces, maps, wideKeys, modest, calm, conditions, laid).
  DERIVED. THE GIVEN ROWS OF THIS SEAT. 1 by the template 'for every input the law returns true; each argument reads behind the call as it read before'; 0 by the template 'total and deterministic' (their statements: YbulkcoscTotals.lean).
  GIVEN WITH THE SEED: the statements are not yours to turn. If you find one false, say at which input.
  Laid BY PROGRAM, IN A SANDBOX (cutbox-rows.mjs): the forced cells as the released guide's own fill.sh prints them over the translation 53b00658db9274bd… (all of the seat's roots in one cut). By AI agents, Wed Nov 11 2026. No macro, syntax, notation, axiom, sorry.
-/
import Derived.Test.YbulkcoscChecked
import GoSem.Claim
import GoSem.ClaimJoined
import GoSem.ClaimMapViews
import Derived.JoinedTies
import Derived.KernelRfl
namespace Go.Proofs.Ybulkcosc
/- THE CELL 'sum', in the pinned program and in every row, IS THE sha256 OF THE DUMP (.gsa) THAT YbulkcoscProg.lean LOADS. Nothing in Lean hashes anything: it is a label: what it is worth is what the hold of that sum in a sandbox is worth. -/
noncomputable def Yba.pinned : Pinned := { name := "ybulkcosc", sum := "53b00658db9274bd4b2002dba163634bbefb12ce496936997a8a1b5143831544", checked := Yba.checked }
namespace Rows
def none {H : Type} : Left H := { results := [], args := [] }

/-- 'hashed.LawS4526CRebuild': WHATEVER THE INPUT: true; the input reads as it did. -/
def lawS4526CRebuildSpec : ChangeSpec := { name := "lawS4526CRebuild", fn := fun _ => fun
  | [d1, d2, d3, d4] => { results := [.lit (.bool true)], args := [d1, d2, d3, d4] }
  | _ => none }
def lawS4526CRebuildRow : OpenClaim := { program := "ybulkcosc", sum := "53b00658db9274bd4b2002dba163634bbefb12ce496936997a8a1b5143831544", func := "example.com/isolith/isolith/internal/hashed.LawS4526CRebuild", spec := "lawS4526CRebuild", inPlace := ["sync/atomic.StoreUint64", "sync/atomic.StorePointer", "sync/atomic.LoadPointer", "sync/atomic.LoadUint64"], apart := false }
def LawS4526CRebuildSaid : Prop := lawS4526CRebuildRow.holds Yba.pinned (OpenSpec.ofChange lawS4526CRebuildSpec)

/-- ITS FALSE NEIGHBOUR: 'it returns false'. Refute it at one input. -/
def lawS4526CRebuildWrong : ChangeSpec := { name := "lawS4526CRebuild", fn := fun _ => fun
  | [d1, d2, d3, d4] => { results := [.lit (.bool false)], args := [d1, d2, d3, d4] }
  | _ => none }
def LawS4526CRebuildWrongFalsely : Prop := lawS4526CRebuildRow.holds Yba.pinned (OpenSpec.ofChange lawS4526CRebuildWrong)

end Rows
end Go.Proofs.Ybulkcosc
