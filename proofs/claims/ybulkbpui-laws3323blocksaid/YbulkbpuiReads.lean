import Derived.Test.YbulkbpuiSmall
import Derived.Deep.QuietTactic
import Derived.RegionTactic
namespace Go.Proofs.Ybulkbpui
open Go.ChangeShapes Go.WideShapes Go.ChangeAt Go.RowKit
open Go.Maps
set_option linter.unusedVariables false

set_option maxRecDepth 100000 in
set_option maxHeartbeats 1000000 in
theorem newReads_any (cb tb nT t f : Nat) (ev : Int) (st sf : ByteArray) (w : World) (ht : t < nT) (hf : f < nT) (hn : nT ≤ 2000)
    (c1 : w.cell? ⟨cb, 1, none⟩ = some (.int .i64 ev)) (c3 : w.cell? ⟨cb, 3, none⟩ = some (.slice (some ⟨tb, 0, none⟩) nT nT))
    (d1 : w.cell? ⟨tb, t * 8, none⟩ = some (.string st)) (d2 : w.cell? ⟨tb, f * 8, none⟩ = some (.string sf)) :
    Calls Yba.prog 9 #[.pointer (some ⟨cb, 0, none⟩), .int .i64 t, .int .i64 f] w fun e w' => e = .returned (.pointer (some ⟨w.heap.size, 0, none⟩)) ∧ ∃ q, w' = (w.drewN q).alloc (.cells #[.int .i64 ev, .string st, .string sf] 53) := by
  go_enter Yba.func9, Yba.ntmps9
  go_wp2
  go_region
  go_wp2
  go_ret
  exact ⟨rfl, 1, rfl⟩
end Go.Proofs.Ybulkbpui
