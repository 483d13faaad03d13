/-
  No cell of these rows narrows 'for every input' (looked for: loops, veiled, ifaces, maps, wideKeys, modest, calm, conditions, laid).
  DERIVED. THE GIVEN ROWS OF THIS SEAT. 3 by the template 'for every input the law returns true; each argument reads behind the call as it read before'; 0 by the template 'total and deterministic' (their statements: YbulkcomeTotals.lean).
  GIVEN WITH THE SEED: the statements are not yours to turn. If you find one false, say at which input.
  Laid BY PROGRAM, IN A SANDBOX (cutbox-rows.mjs): the forced cells as the released guide's own fill.sh prints them over the translation 3c80ff31244015a6… (all of the seat's roots in one cut). By AI agents, Wed Nov 11 2026. No macro, syntax, notation, axiom, sorry.
-/
import Derived.Test.YbulkcomeChecked
import GoSem.Claim
import GoSem.ClaimJoined
import GoSem.ClaimMapViews
import Derived.JoinedTies
import Derived.KernelRfl
namespace Go.Proofs.Ybulkcome
/- THE CELL 'sum', in the pinned program and in every row, IS THE sha256 OF THE DUMP (.gsa) THAT YbulkcomeProg.lean LOADS. Nothing in Lean hashes anything: it is a label: what it is worth is what the hold of that sum in a sandbox is worth. -/
noncomputable def Yba.pinned : Pinned := { name := "ybulkcome", sum := "3c80ff31244015a62a99d0f4ba96cb4bc24d4af841eb49e2cfcc2438dbfc6c8f", checked := Yba.checked }
namespace Rows
def none {H : Type} : Left H := { results := [], args := [] }

/-- 'phaseweave.LawS4515BFiles': WHATEVER THE INPUT: true; the input reads as it did. -/
def lawS4515BFilesSpec : ChangeSpec := { name := "lawS4515BFiles", fn := fun _ => fun
  | [d1, d2, d3, d4, d5, d6] => { results := [.lit (.bool true)], args := [d1, d2, d3, d4, d5, d6] }
  | _ => none }
def lawS4515BFilesRow : OpenClaim := { program := "ybulkcome", sum := "3c80ff31244015a62a99d0f4ba96cb4bc24d4af841eb49e2cfcc2438dbfc6c8f", func := "example.com/phaseweave/phaseweave.LawS4515BFiles", spec := "lawS4515BFiles", inPlace := ["math.Float64bits"], unfollowed := true, recurses := true, apart := false }
def LawS4515BFilesSaid : Prop := lawS4515BFilesRow.holds Yba.pinned (OpenSpec.ofChange lawS4515BFilesSpec)

/-- ITS FALSE NEIGHBOUR: 'it returns false'. Refute it at one input. -/
def lawS4515BFilesWrong : ChangeSpec := { name := "lawS4515BFiles", fn := fun _ => fun
  | [d1, d2, d3, d4, d5, d6] => { results := [.lit (.bool false)], args := [d1, d2, d3, d4, d5, d6] }
  | _ => none }
def LawS4515BFilesWrongFalsely : Prop := lawS4515BFilesRow.holds Yba.pinned (OpenSpec.ofChange lawS4515BFilesWrong)

/-- 'phaseweave.LawS4515CExact': WHATEVER THE INPUT: true; the input reads as it did. -/
def lawS4515CExactSpec : ChangeSpec := { name := "lawS4515CExact", fn := fun _ => fun
  | [d1, d2] => { results := [.lit (.bool true)], args := [d1, d2] }
  | _ => none }
def lawS4515CExactRow : OpenClaim := { program := "ybulkcome", sum := "3c80ff31244015a62a99d0f4ba96cb4bc24d4af841eb49e2cfcc2438dbfc6c8f", func := "example.com/phaseweave/phaseweave.LawS4515CExact", spec := "lawS4515CExact", inPlace := ["math.Float64frombits", "math.Float64bits"], apart := false }
def LawS4515CExactSaid : Prop := lawS4515CExactRow.holds Yba.pinned (OpenSpec.ofChange lawS4515CExactSpec)

/-- ITS FALSE NEIGHBOUR: 'it returns false'. Refute it at one input. -/
def lawS4515CExactWrong : ChangeSpec := { name := "lawS4515CExact", fn := fun _ => fun
  | [d1, d2] => { results := [.lit (.bool false)], args := [d1, d2] }
  | _ => none }
def LawS4515CExactWrongFalsely : Prop := lawS4515CExactRow.holds Yba.pinned (OpenSpec.ofChange lawS4515CExactWrong)

/-- 'phaseweave.LawS4515COrder': WHATEVER THE INPUT: true; the input reads as it did. -/
def lawS4515COrderSpec : ChangeSpec := { name := "lawS4515COrder", fn := fun _ => fun
  | [d1, d2, d3] => { results := [.lit (.bool true)], args := [d1, d2, d3] }
  | _ => none }
def lawS4515COrderRow : OpenClaim := { program := "ybulkcome", sum := "3c80ff31244015a62a99d0f4ba96cb4bc24d4af841eb49e2cfcc2438dbfc6c8f", func := "example.com/phaseweave/phaseweave.LawS4515COrder", spec := "lawS4515COrder", inPlace := ["math.Float64frombits"], apart := false }
def LawS4515COrderSaid : Prop := lawS4515COrderRow.holds Yba.pinned (OpenSpec.ofChange lawS4515COrderSpec)

/-- ITS FALSE NEIGHBOUR: 'it returns false'. Refute it at one input. -/
def lawS4515COrderWrong : ChangeSpec := { name := "lawS4515COrder", fn := fun _ => fun
  | [d1, d2, d3] => { results := [.lit (.bool false)], args := [d1, d2, d3] }
  | _ => none }
def LawS4515COrderWrongFalsely : Prop := lawS4515COrderRow.holds Yba.pinned (OpenSpec.ofChange lawS4515COrderWrong)

end Rows
end Go.Proofs.Ybulkcome
