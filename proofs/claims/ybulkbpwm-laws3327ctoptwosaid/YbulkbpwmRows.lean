/-
  No cell of these rows narrows 'for every input' (looked for: loops, veiled, ifaces, maps, wideKeys, modest, calm, conditions, laid).
  DERIVED. THE GIVEN ROWS OF THIS SEAT. 4 by the template 'for every input the law returns true; each argument reads behind the call as it read before'; 0 by the template 'total and deterministic' (their statements: YbulkbpwmTotals.lean).
  GIVEN WITH THE SEED: the statements are not yours to turn. If you find one false, say at which input.
  Laid BY PROGRAM, IN A SANDBOX (cutbox-rows.mjs): the forced cells as the released guide's own fill.sh prints them over the translation 1ff57b028cadf642… (all of the seat's roots in one cut). By AI agents, Wed Nov 11 2026. No macro, syntax, notation, axiom, sorry.
-/
import Derived.Test.YbulkbpwmChecked
import GoSem.Claim
import GoSem.ClaimJoined
import GoSem.ClaimMapViews
import Derived.JoinedTies
import Derived.KernelRfl
namespace Go.Proofs.Ybulkbpwm
/- THE CELL 'sum', in the pinned program and in every row, IS THE sha256 OF THE DUMP (.gsa) THAT YbulkbpwmProg.lean LOADS. Nothing in Lean hashes anything: it is a label: what it is worth is what the hold of that sum in a sandbox is worth. -/
noncomputable def Yba.pinned : Pinned := { name := "ybulkbpwm", sum := "1ff57b028cadf642c98c7f56a599f06e23ab20448a86b3c769a36edfc2b73311", checked := Yba.checked }
namespace Rows
def none {H : Type} : Left H := { results := [], args := [] }

/-- 'quorumsmith.LawS3327AModel': WHATEVER THE INPUT: true; the input reads as it did. -/
def lawS3327AModelSpec : ChangeSpec := { name := "lawS3327AModel", fn := fun _ => fun
  | [d1, d2] => { results := [.lit (.bool true)], args := [d1, d2] }
  | _ => none }
def lawS3327AModelRow : OpenClaim := { program := "ybulkbpwm", sum := "1ff57b028cadf642c98c7f56a599f06e23ab20448a86b3c769a36edfc2b73311", func := "example.com/quorumsmith/quorumsmith.LawS3327AModel", spec := "lawS3327AModel", apart := false }
def LawS3327AModelSaid : Prop := lawS3327AModelRow.holds Yba.pinned (OpenSpec.ofChange lawS3327AModelSpec)

/-- ITS FALSE NEIGHBOUR: 'it returns false'. Refute it at one input. -/
def lawS3327AModelWrong : ChangeSpec := { name := "lawS3327AModel", fn := fun _ => fun
  | [d1, d2] => { results := [.lit (.bool false)], args := [d1, d2] }
  | _ => none }
def LawS3327AModelWrongFalsely : Prop := lawS3327AModelRow.holds Yba.pinned (OpenSpec.ofChange lawS3327AModelWrong)

/-- 'quorumsmith.LawS3327AStrict': WHATEVER THE INPUT: true; the input reads as it did. -/
def lawS3327AStrictSpec : ChangeSpec := { name := "lawS3327AStrict", fn := fun _ => fun
  | [d1, d2] => { results := [.lit (.bool true)], args := [d1, d2] }
  | _ => none }
def lawS3327AStrictRow : OpenClaim := { program := "ybulkbpwm", sum := "1ff57b028cadf642c98c7f56a599f06e23ab20448a86b3c769a36edfc2b73311", func := "example.com/quorumsmith/quorumsmith.LawS3327AStrict", spec := "lawS3327AStrict", apart := false }
def LawS3327AStrictSaid : Prop := lawS3327AStrictRow.holds Yba.pinned (OpenSpec.ofChange lawS3327AStrictSpec)

/-- ITS FALSE NEIGHBOUR: 'it returns false'. Refute it at one input. -/
def lawS3327AStrictWrong : ChangeSpec := { name := "lawS3327AStrict", fn := fun _ => fun
  | [d1, d2] => { results := [.lit (.bool false)], args := [d1, d2] }
  | _ => none }
def LawS3327AStrictWrongFalsely : Prop := lawS3327AStrictRow.holds Yba.pinned (OpenSpec.ofChange lawS3327AStrictWrong)

/-- 'quorumsmith.LawS3327APrefix': WHATEVER THE INPUT: true; the input reads as it did. -/
def lawS3327APrefixSpec : ChangeSpec := { name := "lawS3327APrefix", fn := fun _ => fun
  | [d1, d2] => { results := [.lit (.bool true)], args := [d1, d2] }
  | _ => none }
def lawS3327APrefixRow : OpenClaim := { program := "ybulkbpwm", sum := "1ff57b028cadf642c98c7f56a599f06e23ab20448a86b3c769a36edfc2b73311", func := "example.com/quorumsmith/quorumsmith.LawS3327APrefix", spec := "lawS3327APrefix", apart := false }
def LawS3327APrefixSaid : Prop := lawS3327APrefixRow.holds Yba.pinned (OpenSpec.ofChange lawS3327APrefixSpec)

/-- ITS FALSE NEIGHBOUR: 'it returns false'. Refute it at one input. -/
def lawS3327APrefixWrong : ChangeSpec := { name := "lawS3327APrefix", fn := fun _ => fun
  | [d1, d2] => { results := [.lit (.bool false)], args := [d1, d2] }
  | _ => none }
def LawS3327APrefixWrongFalsely : Prop := lawS3327APrefixRow.holds Yba.pinned (OpenSpec.ofChange lawS3327APrefixWrong)

/-- 'quorumsmith.LawS3327CTopTwo': WHATEVER THE INPUT: true; the input reads as it did. -/
def lawS3327CTopTwoSpec : ChangeSpec := { name := "lawS3327CTopTwo", fn := fun _ => fun
  | [d1, d2, d3, d4, d5, d6, d7] => { results := [.lit (.bool true)], args := [d1, d2, d3, d4, d5, d6, d7] }
  | _ => none }
def lawS3327CTopTwoRow : OpenClaim := { program := "ybulkbpwm", sum := "1ff57b028cadf642c98c7f56a599f06e23ab20448a86b3c769a36edfc2b73311", func := "example.com/quorumsmith/quorumsmith.LawS3327CTopTwo", spec := "lawS3327CTopTwo", apart := false }
def LawS3327CTopTwoSaid : Prop := lawS3327CTopTwoRow.holds Yba.pinned (OpenSpec.ofChange lawS3327CTopTwoSpec)

/-- ITS FALSE NEIGHBOUR: 'it returns false'. Refute it at one input. -/
def lawS3327CTopTwoWrong : ChangeSpec := { name := "lawS3327CTopTwo", fn := fun _ => fun
  | [d1, d2, d3, d4, d5, d6, d7] => { results := [.lit (.bool false)], args := [d1, d2, d3, d4, d5, d6, d7] }
  | _ => none }
def LawS3327CTopTwoWrongFalsely : Prop := lawS3327CTopTwoRow.holds Yba.pinned (OpenSpec.ofChange lawS3327CTopTwoWrong)

end Rows
end Go.Proofs.Ybulkbpwm
