/-
  NARROWER THAN 'FOR EVERY INPUT', by the rows' own cells (each row's printed sentence says how): LawS4515ANodes: laid · LawS4515AWeight: laid.
  DERIVED. THE GIVEN ROWS OF THIS SEAT. 2 by the template 'for every input the law returns true; each argument reads behind the call as it read before'; 0 by the template 'total and deterministic' (their statements: YbulkcomeDoorTotals.lean).
  GIVEN WITH THE SEED: the statements are not yours to turn. If you find one false, say at which input.
  Laid BY PROGRAM, IN A SANDBOX (cutbox-rows.mjs): the forced cells as the released guide's own fill.sh prints them over the translation 44ab0afe46d56861… (all of the seat's roots in one cut). By AI agents, Wed Nov 11 2026. No macro, syntax, notation, axiom, sorry.
-/
import Derived.Test.YbulkcomeDoorChecked
import GoSem.Claim
import GoSem.ClaimJoined
import GoSem.ClaimMapViews
import Derived.JoinedTies
import Derived.KernelRfl
namespace Go.Proofs.YbulkcomeDoor
/- THE CELL 'sum', in the pinned program and in every row, IS THE sha256 OF THE DUMP (.gsa) THAT YbulkcomeDoorProg.lean LOADS. Nothing in Lean hashes anything: it is a label: what it is worth is what the hold of that sum in a sandbox is worth. -/
noncomputable def Ybad.pinned : Pinned := { name := "ybulkcomedoor", sum := "44ab0afe46d56861baf657f1e64abdc856951a4624a19445d274e135f6d86b40", checked := Ybad.checked }
namespace Rows
def none {H : Type} : Left H := { results := [], args := [] }

/- WHAT THE LISTED PACKAGE-LEVEL VARIABLES READ AS WHEN THE CALL BEGINS. Each datum BY PROGRAM (the guide's laid-datum.mjs) off the statement by which the dump's own 'gosem.cut.vars' lays the variable. In a bare row this is a premise. The card (YbulkcomeDoorCards.lean) ties it to the program's text. -/
def laid_example_com_phaseweave_phaseweave_kronrodNodes {H : Type} : DataW H := .agg [.lit (.float .f64 4607105455625144753), .lit (.float .f64 4606724023625998889), .lit (.float .f64 4605965225734814526), .lit (.float .f64 4604854338687574486), .lit (.float .f64 4603454224055794212), .lit (.float .f64 4600982676207959394), .lit (.float .f64 4596654262258109559), .lit (.float .f64 0)]
def laid_example_com_phaseweave_phaseweave_kronrodWeights {H : Type} : DataW H := .agg [.lit (.float .f64 4582267877898679408), .lit (.float .f64 4589210685060899268), .lit (.float .f64 4592215336686195910), .lit (.float .f64 4594235588034881729), .lit (.float .f64 4595257057281867100), .lit (.float .f64 4596026122630074033), .lit (.float .f64 4596533493192498392), .lit (.float .f64 4596715409830775055)]
def laid_example_com_phaseweave_phaseweave_gaussWeights {H : Type} : DataW H := .agg [.lit (.float .f64 4593833207853641047), .lit (.float .f64 4598710344305444420), .lit (.float .f64 4600550058610600765), .lit (.float .f64 4601200903213297574)]

/-- 'phaseweave.LawS4515ANodes': WHATEVER THE INPUT: true; the input reads as it did. -/
def lawS4515ANodesSpec : ChangeSpec := { name := "lawS4515ANodes", vars := ["example.com/phaseweave/phaseweave.kronrodNodes", "example.com/phaseweave/phaseweave.kronrodWeights", "example.com/phaseweave/phaseweave.gaussWeights"], fn := fun _ => fun
  | [d1, d2, g1, g2, g3] => { results := [.lit (.bool true)], args := [d1, d2], vars := [g1, g2, g3] }
  | _ => none }
def lawS4515ANodesRow : OpenClaim := { program := "ybulkcomedoor", sum := "44ab0afe46d56861baf657f1e64abdc856951a4624a19445d274e135f6d86b40", func := "example.com/phaseweave/phaseweave.LawS4515ANodes", spec := "lawS4515ANodes", inPlace := ["math.Float64bits", "math.Float64frombits"], unfollowed := true, recurses := true, named := ["example.com/phaseweave/phaseweave.kronrodNodes", "example.com/phaseweave/phaseweave.kronrodWeights", "example.com/phaseweave/phaseweave.gaussWeights"], apart := false, laid := [("example.com/phaseweave/phaseweave.kronrodNodes", laid_example_com_phaseweave_phaseweave_kronrodNodes), ("example.com/phaseweave/phaseweave.kronrodWeights", laid_example_com_phaseweave_phaseweave_kronrodWeights), ("example.com/phaseweave/phaseweave.gaussWeights", laid_example_com_phaseweave_phaseweave_gaussWeights)] }
def LawS4515ANodesSaid : Prop := lawS4515ANodesRow.holds Ybad.pinned (OpenSpec.ofChange lawS4515ANodesSpec)

/-- ITS FALSE NEIGHBOUR: 'it returns false'. Refute it at one input. -/
def lawS4515ANodesWrong : ChangeSpec := { name := "lawS4515ANodes", vars := ["example.com/phaseweave/phaseweave.kronrodNodes", "example.com/phaseweave/phaseweave.kronrodWeights", "example.com/phaseweave/phaseweave.gaussWeights"], fn := fun _ => fun
  | [d1, d2, g1, g2, g3] => { results := [.lit (.bool false)], args := [d1, d2], vars := [g1, g2, g3] }
  | _ => none }
def LawS4515ANodesWrongFalsely : Prop := lawS4515ANodesRow.holds Ybad.pinned (OpenSpec.ofChange lawS4515ANodesWrong)

/-- 'phaseweave.LawS4515AWeight': WHATEVER THE INPUT: true; the input reads as it did. -/
def lawS4515AWeightSpec : ChangeSpec := { name := "lawS4515AWeight", vars := ["example.com/phaseweave/phaseweave.kronrodWeights", "example.com/phaseweave/phaseweave.gaussWeights", "example.com/phaseweave/phaseweave.kronrodNodes"], fn := fun _ => fun
  | [d1, d2, d3, d4, g1, g2, g3] => { results := [.lit (.bool true)], args := [d1, d2, d3, d4], vars := [g1, g2, g3] }
  | _ => none }
def lawS4515AWeightRow : OpenClaim := { program := "ybulkcomedoor", sum := "44ab0afe46d56861baf657f1e64abdc856951a4624a19445d274e135f6d86b40", func := "example.com/phaseweave/phaseweave.LawS4515AWeight", spec := "lawS4515AWeight", inPlace := ["math.Float64bits", "math.Float64frombits"], unfollowed := true, recurses := true, named := ["example.com/phaseweave/phaseweave.kronrodWeights", "example.com/phaseweave/phaseweave.gaussWeights", "example.com/phaseweave/phaseweave.kronrodNodes"], apart := false, laid := [("example.com/phaseweave/phaseweave.kronrodNodes", laid_example_com_phaseweave_phaseweave_kronrodNodes), ("example.com/phaseweave/phaseweave.kronrodWeights", laid_example_com_phaseweave_phaseweave_kronrodWeights), ("example.com/phaseweave/phaseweave.gaussWeights", laid_example_com_phaseweave_phaseweave_gaussWeights)] }
def LawS4515AWeightSaid : Prop := lawS4515AWeightRow.holds Ybad.pinned (OpenSpec.ofChange lawS4515AWeightSpec)

/-- ITS FALSE NEIGHBOUR: 'it returns false'. Refute it at one input. -/
def lawS4515AWeightWrong : ChangeSpec := { name := "lawS4515AWeight", vars := ["example.com/phaseweave/phaseweave.kronrodWeights", "example.com/phaseweave/phaseweave.gaussWeights", "example.com/phaseweave/phaseweave.kronrodNodes"], fn := fun _ => fun
  | [d1, d2, d3, d4, g1, g2, g3] => { results := [.lit (.bool false)], args := [d1, d2, d3, d4], vars := [g1, g2, g3] }
  | _ => none }
def LawS4515AWeightWrongFalsely : Prop := lawS4515AWeightRow.holds Ybad.pinned (OpenSpec.ofChange lawS4515AWeightWrong)

end Rows
end Go.Proofs.YbulkcomeDoor
