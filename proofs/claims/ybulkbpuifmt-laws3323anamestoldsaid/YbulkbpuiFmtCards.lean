/-
  DERIVED. GIVEN WITH THE SEED: THE CARDS: each row of YbulkbpuiFmtRows.lean that lists a variable, with what it lists TIED to the program's text (the seventh form; the later family's looks); each row that meets fmt, with fmt's text TOLD by the authors' own Lean function (tested against real Go, not proved from fmt's source: count such statements apart). THE CARD IS WHAT COUNTS. Prove the row's statement (the work); the ties are given (YbulkbpuiFmtTie.lean); close each card by the builder's one call (the guide's Derived/Test/ToyasCard.lean, 'card_holds'). Laid BY PROGRAM, IN A SANDBOX (cutbox-door.mjs). By AI agents, Wed Nov 11 2026. No macro, syntax, notation, axiom, sorry.
-/
import Derived.Test.YbulkbpuiFmtRows
import GoSem.ClaimSeven
namespace Go.Proofs.YbulkbpuiFmt
namespace Rows

/-- THE TOLD AND TIED CARD OF 'treelatch.LawS3323ANames'. -/
def lawS3323ANamesCard : Claim7 := { stood := { row := lawS3323ANamesRow, standIns := [], harness := (true, "016a44cd9ea006f7f5ae88ba992e70f40420adecc62b68c31080ac55405f9a74"), looks := false }, told := true, laidByText := true, laidKinds := [.data], laidTests := true, laidLooks := .later, goes := false }
def LawS3323ANamesToldSaid : Prop := Claim7.holds Ybaf.pinned (.plain (OpenSpec.ofChange lawS3323ANamesSpec)) lawS3323ANamesCard
/-- ITS FALSE NEIGHBOUR. Refute it at one input. -/
def LawS3323ANamesToldWrongFalsely : Prop := Claim7.holds Ybaf.pinned (.plain (OpenSpec.ofChange lawS3323ANamesWrong)) lawS3323ANamesCard
end Rows
end Go.Proofs.YbulkbpuiFmt
