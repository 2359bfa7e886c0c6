/-
  No cell of these rows narrows 'for every input' (looked for: loops, veiled, ifaces, maps, wideKeys, modest, calm, conditions, laid).
  DERIVED. THE GIVEN ROWS OF THIS SEAT. 1 by the template 'for every input the law returns true; each argument reads behind the call as it read before'; 0 by the template 'total and deterministic' (their statements: YbulkbpuiTotals.lean).
  GIVEN WITH THE SEED: the statements are not yours to turn. If you find one false, say at which input.
  Laid BY PROGRAM, IN A SANDBOX (cutbox-rows.mjs): the forced cells as the released guide's own fill.sh prints them over the translation 76d721eaf9cc7d61… (all of the seat's roots in one cut). By AI agents, Wed Nov 11 2026. No macro, syntax, notation, axiom, sorry.
-/
import Derived.Test.YbulkbpuiChecked
import GoSem.Claim
import GoSem.ClaimJoined
import GoSem.ClaimMapViews
import Derived.JoinedTies
import Derived.KernelRfl
namespace Go.Proofs.Ybulkbpui
/- THE CELL 'sum', in the pinned program and in every row, IS THE sha256 OF THE DUMP (.gsa) THAT YbulkbpuiProg.lean LOADS. Nothing in Lean hashes anything: it is a label: what it is worth is what the hold of that sum in a sandbox is worth. -/
noncomputable def Yba.pinned : Pinned := { name := "ybulkbpui", sum := "76d721eaf9cc7d614d09fbed58bcc2b6e282f0cb80898d73f94e17ab3342496f", checked := Yba.checked }
namespace Rows
def none {H : Type} : Left H := { results := [], args := [] }

/-- 'treelatch.LawS3323BLock': WHATEVER THE INPUT: true; the input reads as it did. -/
def lawS3323BLockSpec : ChangeSpec := { name := "lawS3323BLock", fn := fun _ => fun
  | [d1, d2, d3, d4, d5, d6, d7, d8, d9] => { results := [.lit (.bool true)], args := [d1, d2, d3, d4, d5, d6, d7, d8, d9] }
  | _ => none }
def lawS3323BLockRow : OpenClaim := { program := "ybulkbpui", sum := "76d721eaf9cc7d614d09fbed58bcc2b6e282f0cb80898d73f94e17ab3342496f", func := "example.com/treelatch/treelatch.LawS3323BLock", spec := "lawS3323BLock", apart := false }
def LawS3323BLockSaid : Prop := lawS3323BLockRow.holds Yba.pinned (OpenSpec.ofChange lawS3323BLockSpec)

/-- ITS FALSE NEIGHBOUR: 'it returns false'. Refute it at one input. -/
def lawS3323BLockWrong : ChangeSpec := { name := "lawS3323BLock", fn := fun _ => fun
  | [d1, d2, d3, d4, d5, d6, d7, d8, d9] => { results := [.lit (.bool false)], args := [d1, d2, d3, d4, d5, d6, d7, d8, d9] }
  | _ => none }
def LawS3323BLockWrongFalsely : Prop := lawS3323BLockRow.holds Yba.pinned (OpenSpec.ofChange lawS3323BLockWrong)

end Rows
end Go.Proofs.Ybulkbpui
