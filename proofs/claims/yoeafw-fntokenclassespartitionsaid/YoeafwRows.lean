/-
  No cell of these rows narrows 'for every input' (looked for: loops, veiled, ifaces, maps, wideKeys, modest, calm, conditions, laid).
  DERIVED. THE GIVEN ROWS OF THIS SEAT. 2 by the template 'for every input the law returns true; each argument reads behind the call as it read before'; 0 by the template 'total and deterministic' (their statements: YoeafwTotals.lean).
  GIVEN WITH THE SEED: the statements are not yours to turn. If you find one false, say at which input.
  Laid BY PROGRAM, IN A SANDBOX (cutbox-rows.mjs): the forced cells as the released guide's own fill.sh prints them over the translation 36d3d4572446d9f7… (all of the seat's roots in one cut). By AI agents, Wed Nov 11 2026. No macro, syntax, notation, axiom, sorry.
-/
import Derived.Test.YoeafwChecked
import GoSem.Claim
import GoSem.ClaimJoined
import GoSem.ClaimMapViews
import Derived.JoinedTies
import Derived.KernelRfl
namespace Go.Proofs.Yoeafw
/- THE CELL 'sum', in the pinned program and in every row, IS THE sha256 OF THE DUMP (.gsa) THAT YoeafwProg.lean LOADS. Nothing in Lean hashes anything: it is a label: what it is worth is what the hold of that sum in a sandbox is worth. -/
noncomputable def Eafg.pinned : Pinned := { name := "yoeafw", sum := "36d3d4572446d9f7ef886ced420f2ec7a001088182ae7e6ebb62666b7e6828b5", checked := Eafg.checked }
namespace Rows
def none {H : Type} : Left H := { results := [], args := [] }

/-- 'zzlaws_token_b1.FnIsLiteralCaseTable': WHATEVER THE INPUT: true; the input reads as it did. -/
def fnIsLiteralCaseTableSpec : ChangeSpec := { name := "fnIsLiteralCaseTable", fn := fun _ => fun
  | [d] => { results := [.lit (.bool true)], args := [d] }
  | _ => none }
def fnIsLiteralCaseTableRow : OpenClaim := { program := "yoeafw", sum := "36d3d4572446d9f7ef886ced420f2ec7a001088182ae7e6ebb62666b7e6828b5", func := "github.com/d5/tengo/v2/zzlaws_token_b1.FnIsLiteralCaseTable", spec := "fnIsLiteralCaseTable", apart := false }
def FnIsLiteralCaseTableSaid : Prop := fnIsLiteralCaseTableRow.holds Eafg.pinned (OpenSpec.ofChange fnIsLiteralCaseTableSpec)

/-- ITS FALSE NEIGHBOUR: 'it returns false'. Refute it at one input. -/
def fnIsLiteralCaseTableWrong : ChangeSpec := { name := "fnIsLiteralCaseTable", fn := fun _ => fun
  | [d] => { results := [.lit (.bool false)], args := [d] }
  | _ => none }
def FnIsLiteralCaseTableWrongFalsely : Prop := fnIsLiteralCaseTableRow.holds Eafg.pinned (OpenSpec.ofChange fnIsLiteralCaseTableWrong)

/-- 'zzlaws_token_b1.FnTokenClassesPartition': WHATEVER THE INPUT: true; the input reads as it did. -/
def fnTokenClassesPartitionSpec : ChangeSpec := { name := "fnTokenClassesPartition", fn := fun _ => fun
  | [d] => { results := [.lit (.bool true)], args := [d] }
  | _ => none }
def fnTokenClassesPartitionRow : OpenClaim := { program := "yoeafw", sum := "36d3d4572446d9f7ef886ced420f2ec7a001088182ae7e6ebb62666b7e6828b5", func := "github.com/d5/tengo/v2/zzlaws_token_b1.FnTokenClassesPartition", spec := "fnTokenClassesPartition", apart := false }
def FnTokenClassesPartitionSaid : Prop := fnTokenClassesPartitionRow.holds Eafg.pinned (OpenSpec.ofChange fnTokenClassesPartitionSpec)

/-- ITS FALSE NEIGHBOUR: 'it returns false'. Refute it at one input. -/
def fnTokenClassesPartitionWrong : ChangeSpec := { name := "fnTokenClassesPartition", fn := fun _ => fun
  | [d] => { results := [.lit (.bool false)], args := [d] }
  | _ => none }
def FnTokenClassesPartitionWrongFalsely : Prop := fnTokenClassesPartitionRow.holds Eafg.pinned (OpenSpec.ofChange fnTokenClassesPartitionWrong)

end Rows
end Go.Proofs.Yoeafw
