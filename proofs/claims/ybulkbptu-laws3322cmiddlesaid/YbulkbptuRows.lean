/-
  No cell of these rows narrows 'for every input' (looked for: loops, veiled, ifaces, maps, wideKeys, modest, calm, conditions, laid).
  DERIVED. THE GIVEN ROWS OF THIS SEAT. 3 by the template 'for every input the law returns true; each argument reads behind the call as it read before'; 0 by the template 'total and deterministic' (their statements: YbulkbptuTotals.lean).
  GIVEN WITH THE SEED: the statements are not yours to turn. If you find one false, say at which input.
  Laid BY PROGRAM, IN A SANDBOX (cutbox-rows.mjs): the forced cells as the released guide's own fill.sh prints them over the translation 5bc5273581a725f9… (all of the seat's roots in one cut). By AI agents, Wed Nov 11 2026. No macro, syntax, notation, axiom, sorry.
-/
import Derived.Test.YbulkbptuChecked
import GoSem.Claim
import GoSem.ClaimJoined
import GoSem.ClaimMapViews
import Derived.JoinedTies
import Derived.KernelRfl
namespace Go.Proofs.Ybulkbptu
/- THE CELL 'sum', in the pinned program and in every row, IS THE sha256 OF THE DUMP (.gsa) THAT YbulkbptuProg.lean LOADS. Nothing in Lean hashes anything: it is a label: what it is worth is what the hold of that sum in a sandbox is worth. -/
noncomputable def Yba.pinned : Pinned := { name := "ybulkbptu", sum := "5bc5273581a725f97164fee9f295998c67545ded64e992b3d346d66d76feeed0", checked := Yba.checked }
namespace Rows
def none {H : Type} : Left H := { results := [], args := [] }

/-- 'diff.LawS3322AModel': WHATEVER THE INPUT: true; the input reads as it did. -/
def lawS3322AModelSpec : ChangeSpec := { name := "lawS3322AModel", fn := fun _ => fun
  | [d1, d2, d3, d4, d5] => { results := [.lit (.bool true)], args := [d1, d2, d3, d4, d5] }
  | _ => none }
def lawS3322AModelRow : OpenClaim := { program := "ybulkbptu", sum := "5bc5273581a725f97164fee9f295998c67545ded64e992b3d346d66d76feeed0", func := "example.com/draftline/draftline/internal/diff.LawS3322AModel", spec := "lawS3322AModel", apart := false }
def LawS3322AModelSaid : Prop := lawS3322AModelRow.holds Yba.pinned (OpenSpec.ofChange lawS3322AModelSpec)

/-- ITS FALSE NEIGHBOUR: 'it returns false'. Refute it at one input. -/
def lawS3322AModelWrong : ChangeSpec := { name := "lawS3322AModel", fn := fun _ => fun
  | [d1, d2, d3, d4, d5] => { results := [.lit (.bool false)], args := [d1, d2, d3, d4, d5] }
  | _ => none }
def LawS3322AModelWrongFalsely : Prop := lawS3322AModelRow.holds Yba.pinned (OpenSpec.ofChange lawS3322AModelWrong)

/-- 'diff.LawS3322CMiddle': WHATEVER THE INPUT: true; the input reads as it did. -/
def lawS3322CMiddleSpec : ChangeSpec := { name := "lawS3322CMiddle", fn := fun _ => fun
  | [d1, d2, d3, d4] => { results := [.lit (.bool true)], args := [d1, d2, d3, d4] }
  | _ => none }
def lawS3322CMiddleRow : OpenClaim := { program := "ybulkbptu", sum := "5bc5273581a725f97164fee9f295998c67545ded64e992b3d346d66d76feeed0", func := "example.com/draftline/draftline/internal/diff.LawS3322CMiddle", spec := "lawS3322CMiddle", unfollowed := true, recurses := true, apart := false }
def LawS3322CMiddleSaid : Prop := lawS3322CMiddleRow.holds Yba.pinned (OpenSpec.ofChange lawS3322CMiddleSpec)

/-- ITS FALSE NEIGHBOUR: 'it returns false'. Refute it at one input. -/
def lawS3322CMiddleWrong : ChangeSpec := { name := "lawS3322CMiddle", fn := fun _ => fun
  | [d1, d2, d3, d4] => { results := [.lit (.bool false)], args := [d1, d2, d3, d4] }
  | _ => none }
def LawS3322CMiddleWrongFalsely : Prop := lawS3322CMiddleRow.holds Yba.pinned (OpenSpec.ofChange lawS3322CMiddleWrong)

/-- 'diff.LawS3322CGiveUp': WHATEVER THE INPUT: true; the input reads as it did. -/
def lawS3322CGiveUpSpec : ChangeSpec := { name := "lawS3322CGiveUp", fn := fun _ => fun
  | [d1, d2, d3] => { results := [.lit (.bool true)], args := [d1, d2, d3] }
  | _ => none }
def lawS3322CGiveUpRow : OpenClaim := { program := "ybulkbptu", sum := "5bc5273581a725f97164fee9f295998c67545ded64e992b3d346d66d76feeed0", func := "example.com/draftline/draftline/internal/diff.LawS3322CGiveUp", spec := "lawS3322CGiveUp", unfollowed := true, recurses := true, apart := false }
def LawS3322CGiveUpSaid : Prop := lawS3322CGiveUpRow.holds Yba.pinned (OpenSpec.ofChange lawS3322CGiveUpSpec)

/-- ITS FALSE NEIGHBOUR: 'it returns false'. Refute it at one input. -/
def lawS3322CGiveUpWrong : ChangeSpec := { name := "lawS3322CGiveUp", fn := fun _ => fun
  | [d1, d2, d3] => { results := [.lit (.bool false)], args := [d1, d2, d3] }
  | _ => none }
def LawS3322CGiveUpWrongFalsely : Prop := lawS3322CGiveUpRow.holds Yba.pinned (OpenSpec.ofChange lawS3322CGiveUpWrong)

end Rows
end Go.Proofs.Ybulkbptu
