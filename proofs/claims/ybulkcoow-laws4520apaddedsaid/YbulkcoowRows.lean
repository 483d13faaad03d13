/-
  No cell of these rows narrows 'for every input' (looked for: loops, veiled, ifaces, maps, wideKeys, modest, calm, conditions, laid).
  DERIVED. THE GIVEN ROWS OF THIS SEAT. 2 by the template 'for every input the law returns true; each argument reads behind the call as it read before'; 0 by the template 'total and deterministic' (their statements: YbulkcoowTotals.lean).
  GIVEN WITH THE SEED: the statements are not yours to turn. If you find one false, say at which input.
  Laid BY PROGRAM, IN A SANDBOX (cutbox-rows.mjs): the forced cells as the released guide's own fill.sh prints them over the translation 2351913dee4eb2a9… (all of the seat's roots in one cut). By AI agents, Wed Nov 11 2026. No macro, syntax, notation, axiom, sorry.
-/
import Derived.Test.YbulkcoowChecked
import GoSem.Claim
import GoSem.ClaimJoined
import GoSem.ClaimMapViews
import Derived.JoinedTies
import Derived.KernelRfl
namespace Go.Proofs.Ybulkcoow
/- THE CELL 'sum', in the pinned program and in every row, IS THE sha256 OF THE DUMP (.gsa) THAT YbulkcoowProg.lean LOADS. Nothing in Lean hashes anything: it is a label: what it is worth is what the hold of that sum in a sandbox is worth. -/
noncomputable def Yba.pinned : Pinned := { name := "ybulkcoow", sum := "2351913dee4eb2a9825437d96b20c48f1e71c1c06f111c62dc0b8b77a56c69bd", checked := Yba.checked }
namespace Rows
def none {H : Type} : Left H := { results := [], args := [] }

/-- 'concordat.LawS4520AExact': WHATEVER THE INPUT: true; the input reads as it did. -/
def lawS4520AExactSpec : ChangeSpec := { name := "lawS4520AExact", fn := fun _ => fun
  | [d1, d2] => { results := [.lit (.bool true)], args := [d1, d2] }
  | _ => none }
def lawS4520AExactRow : OpenClaim := { program := "ybulkcoow", sum := "2351913dee4eb2a9825437d96b20c48f1e71c1c06f111c62dc0b8b77a56c69bd", func := "example.com/concordat/concordat.LawS4520AExact", spec := "lawS4520AExact", named := ["encoding/binary.LittleEndian"], plainKeys := false, apart := false }
def LawS4520AExactSaid : Prop := lawS4520AExactRow.holds Yba.pinned (OpenSpec.ofChange lawS4520AExactSpec)

/-- ITS FALSE NEIGHBOUR: 'it returns false'. Refute it at one input. -/
def lawS4520AExactWrong : ChangeSpec := { name := "lawS4520AExact", fn := fun _ => fun
  | [d1, d2] => { results := [.lit (.bool false)], args := [d1, d2] }
  | _ => none }
def LawS4520AExactWrongFalsely : Prop := lawS4520AExactRow.holds Yba.pinned (OpenSpec.ofChange lawS4520AExactWrong)

/-- 'concordat.LawS4520APadded': WHATEVER THE INPUT: true; the input reads as it did. -/
def lawS4520APaddedSpec : ChangeSpec := { name := "lawS4520APadded", fn := fun _ => fun
  | [d1, d2, d3] => { results := [.lit (.bool true)], args := [d1, d2, d3] }
  | _ => none }
def lawS4520APaddedRow : OpenClaim := { program := "ybulkcoow", sum := "2351913dee4eb2a9825437d96b20c48f1e71c1c06f111c62dc0b8b77a56c69bd", func := "example.com/concordat/concordat.LawS4520APadded", spec := "lawS4520APadded", named := ["encoding/binary.LittleEndian"], plainKeys := false, apart := false }
def LawS4520APaddedSaid : Prop := lawS4520APaddedRow.holds Yba.pinned (OpenSpec.ofChange lawS4520APaddedSpec)

/-- ITS FALSE NEIGHBOUR: 'it returns false'. Refute it at one input. -/
def lawS4520APaddedWrong : ChangeSpec := { name := "lawS4520APadded", fn := fun _ => fun
  | [d1, d2, d3] => { results := [.lit (.bool false)], args := [d1, d2, d3] }
  | _ => none }
def LawS4520APaddedWrongFalsely : Prop := lawS4520APaddedRow.holds Yba.pinned (OpenSpec.ofChange lawS4520APaddedWrong)

end Rows
end Go.Proofs.Ybulkcoow
