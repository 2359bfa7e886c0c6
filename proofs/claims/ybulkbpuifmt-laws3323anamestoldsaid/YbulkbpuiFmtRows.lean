/-
  NARROWER THAN 'FOR EVERY INPUT', by the rows' own cells (each row's printed sentence says how): LawS3323ANames: laid.
  DERIVED. THE GIVEN ROWS OF THIS SEAT. 1 by the template 'for every input the law returns true; each argument reads behind the call as it read before'; 0 by the template 'total and deterministic' (their statements: YbulkbpuiFmtTotals.lean).
  GIVEN WITH THE SEED: the statements are not yours to turn. If you find one false, say at which input.
  Laid BY PROGRAM, IN A SANDBOX (cutbox-rows.mjs): the forced cells as the released guide's own fill.sh prints them over the translation f869dda0ecc641b7… (all of the seat's roots in one cut). By AI agents, Wed Nov 11 2026. No macro, syntax, notation, axiom, sorry.
-/
import Derived.Test.YbulkbpuiFmtChecked
import GoSem.Claim
import GoSem.ClaimJoined
import GoSem.ClaimMapViews
import Derived.JoinedTies
import Derived.KernelRfl
namespace Go.Proofs.YbulkbpuiFmt
/- THE CELL 'sum', in the pinned program and in every row, IS THE sha256 OF THE DUMP (.gsa) THAT YbulkbpuiFmtProg.lean LOADS. Nothing in Lean hashes anything: it is a label: what it is worth is what the hold of that sum in a sandbox is worth. -/
noncomputable def Ybaf.pinned : Pinned := { name := "ybulkbpuifmt", sum := "f869dda0ecc641b72d6aab1dd63c8df259374bd531739c0f33517a3f06877b81", checked := Ybaf.checked }
namespace Rows
def none {H : Type} : Left H := { results := [], args := [] }

/- WHAT THE LISTED PACKAGE-LEVEL VARIABLES READ AS WHEN THE CALL BEGINS. Each datum BY PROGRAM (the guide's laid-datum.mjs) off the statement by which the dump's own 'gosem.cut.vars' lays the variable. In a bare row this is a premise. The card (YbulkbpuiFmtCards.lean) ties it to the program's text. -/
def laid_example_com_treelatch_treelatch_ops {H : Type} : DataW H := .agg [.agg [.lit (.string []), .lit (.bool false)], .agg [.lit (.string [108, 111, 99, 107]), .lit (.bool true)], .agg [.lit (.string [117, 110, 108, 111, 99, 107]), .lit (.bool true)], .agg [.lit (.string [119, 114, 105, 116, 101]), .lit (.bool true)], .agg [.lit (.string [99, 111, 109, 109, 105, 116]), .lit (.bool false)], .agg [.lit (.string [97, 98, 111, 114, 116]), .lit (.bool false)], .agg [.lit (.string [97, 100, 100]), .lit (.bool true)], .agg [.lit (.string [114, 101, 109, 111, 118, 101]), .lit (.bool true)]]

/-- 'treelatch.LawS3323ANames': WHATEVER THE INPUT: true; the input reads as it did. -/
def lawS3323ANamesSpec : ChangeSpec := { name := "lawS3323ANames", vars := ["example.com/treelatch/treelatch.ops"], fn := fun _ => fun
  | [d, g1] => { results := [.lit (.bool true)], args := [d], vars := [g1] }
  | _ => none }
def lawS3323ANamesRow : OpenClaim := { program := "ybulkbpuifmt", sum := "f869dda0ecc641b72d6aab1dd63c8df259374bd531739c0f33517a3f06877b81", func := "example.com/treelatch/treelatch.LawS3323ANames", spec := "lawS3323ANames", stops := ["fmt.Sprintf, its operands' methods called"], inPlace := ["fmt.Sprintf"], unfollowed := true, recurses := true, named := ["example.com/treelatch/treelatch.ops"], apart := false, laid := [("example.com/treelatch/treelatch.ops", laid_example_com_treelatch_treelatch_ops)] }
/-- NO THEOREM (fmt's text is open here; it may be false): for the released tool's asking of the row's closed facts alone. THE STATEMENT IS 'LawS3323ANamesToldSaid' (YbulkbpuiFmtCards.lean). -/
def LawS3323ANamesFormAsk : Prop := lawS3323ANamesRow.holds Ybaf.pinned (OpenSpec.ofChange lawS3323ANamesSpec)

/-- ITS FALSE NEIGHBOUR: 'it returns false'. Refute it at one input. -/
def lawS3323ANamesWrong : ChangeSpec := { name := "lawS3323ANames", vars := ["example.com/treelatch/treelatch.ops"], fn := fun _ => fun
  | [d, g1] => { results := [.lit (.bool false)], args := [d], vars := [g1] }
  | _ => none }
def LawS3323ANamesWrongFormAsk : Prop := lawS3323ANamesRow.holds Ybaf.pinned (OpenSpec.ofChange lawS3323ANamesWrong)

end Rows
end Go.Proofs.YbulkbpuiFmt
