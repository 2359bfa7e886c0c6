import Derived.Test.YbulkbpwmMem
import Derived.WalkSpells
import Derived.Deep.QuietTactic
import Derived.BigQuiet
namespace Go.Proofs.Ybulkbpwm
open Go.ChangeShapes Go.WideShapes Go.ChangeAt Go.RowKit
set_option linter.unusedVariables false

theorem info47 : (Yba.prog.info? 47).map (fun i => (i.zero, i.size, i.bytes)) = some (some (.int .u64 0), 1, 8) := by kernel_rfl
theorem info5 : (Yba.prog.info? 5).map (fun i => (i.zero, i.size, i.bytes)) = some (some (.int .u8 0), 1, 1) := by kernel_rfl
theorem info3 : (Yba.prog.info? 3).map (fun i => (i.zero, i.size, i.bytes)) = some (some (.int .i64 0), 1, 8) := by kernel_rfl

/-- A copy of 'len' integers in new memory. -/
def CloneEnd (k : IntKind) (len : Nat) (F : Nat → Int) (w : World) (e : Ending) (w' : World) : Prop :=
  ∃ g cap, e = .returned (.slice (some ⟨g, 0, none⟩) len cap) ∧ w.heap.size ≤ g ∧ len ≤ cap ∧ (∀ i, i < len → w'.cell? ⟨g, i, none⟩ = some (.int k (F i))) ∧ Below w.heap.size w w'

theorem ownsRow_empty (w : World) (t : TypeId) (base : Nat) (hb : base ≤ w.heap.size) : (w.alloc (.cells #[] t)).ownsRow base t 1 (.slice (some ⟨w.heap.size, 0, none⟩) 0 0) 0 [] :=
  ⟨rfl, .inr ⟨_, 0, #[], rfl, hb, heap_alloc_new _ _, Nat.le_refl _, Nat.zero_le _, rfl, rfl⟩⟩

theorem list_of {k : IntKind} {len : Nat} {F : Nat → Int} {j : Nat} {u : Value} (h : ((List.range len).map fun i => Value.int k (F i))[j]? = some u) : j < len ∧ u = .int k (F j) := by
  rw [List.getElem?_map] at h
  by_cases hj : j < len
  · rw [List.getElem?_range hj] at h
    simp at h
    exact ⟨hj, h.symm⟩
  · rw [List.getElem?_eq_none (by simp; omega)] at h
    simp at h

theorem clone_end {k : IntKind} {t : TypeId} {len : Nat} {F : Nat → Int} {w w1 : World} {v' : Value} {base : Nat} (hl : 0 < len)
    (h : w1.ownsRow base t 1 v' len ((List.range len).map fun i => Value.int k (F i))) (hg : (w.alloc (.cells #[] t)).grownBy w1 (Value.ownBlock (.slice (some ⟨w.heap.size, 0, none⟩) 0 0))) (hb : w.heap.size ≤ base) :
    CloneEnd k len F w (.returned v') w1 := by
  have hB : Below w.heap.size w w1 := ((Below.refl _ w).alloc (Nat.le_refl _) _).grown hg (by simp) (fun q hq => by simp [Value.ownBlock] at hq; omega)
  have h0 := h
  rcases h.2 with ⟨_, h⟩ | ⟨g, cap, cur, rfl, hgb, hh, hc1, hc2, hc3, hc4⟩
  · omega
  · refine ⟨g, cap, rfl, by omega, by omega, fun i hi => ?_, hB⟩
    rw [h0.cellAt i (by omega), List.getElem?_map, List.getElem?_range hi]
    rfl

set_option maxHeartbeats 400000 in
theorem clone64 (b len cap : Nat) (F : Nat → Int) (w : World) (hl : 0 < len) (hlen : len ≤ 1000000) (hc : ∀ i, i < len → w.cell? ⟨b, i, none⟩ = some (.int .u64 (F i))) :
    Calls Yba.prog 17 #[.slice (some ⟨b, 0, none⟩) len cap] w (CloneEnd .u64 len F w) := by
  obtain ⟨i0, hi, hz0, hz1, hz2⟩ := info_parts info47
  have hq := fun wx => Lib.run_eql_slice_nil (P := Yba.prog) wx 36 47 (some ⟨b, 0, none⟩) len cap 0 0 Yba.underlying36
  have hblt : b < w.heap.size := World.block_lt_of_cell? _ _ (hc 0 hl)
  go_enter Yba.func17, Yba.ntmps17
  go_wp2_with (at_builtin; refine wpList_append_own _ rfl _ _ 36 rfl w.heap.size 47 i0 (.int .u64 0) 1 8 Yba.underlying36 hi hz0 hz1 hz2 rfl (by decide) _ 0 [] rfl (ownsRow_empty _ _ _ (Nat.le_refl _)) ⟨b, 0, none⟩ len cap ((List.range len).map fun i => Value.int .u64 (F i)) rfl (by simp) ?h1 ?h2 (by unfold maxLen; omega) (by omega) (by simp) ?h3)
  case h1 =>
    intro j u hj
    obtain ⟨hj1, rfl⟩ := list_of hj
    rw [add_plain, Nat.zero_add, World.cell?_alloc_past _ _ _ hblt]
    exact hc j hj1
  case h2 =>
    intro u hu
    simp at hu
    obtain ⟨a, _, rfl⟩ := hu
    rfl
  case h3 =>
    intro v' w1 hown hgrow _
    go_wp2
    go_ret
    exact clone_end hl hown hgrow (Nat.le_refl _)

set_option maxHeartbeats 400000 in
theorem clone8 (b len cap : Nat) (F : Nat → Int) (w : World) (hl : 0 < len) (hlen : len ≤ 1000000) (hc : ∀ i, i < len → w.cell? ⟨b, i, none⟩ = some (.int .u8 (F i))) :
    Calls Yba.prog 18 #[.slice (some ⟨b, 0, none⟩) len cap] w (CloneEnd .u8 len F w) := by
  obtain ⟨i0, hi, hz0, hz1, hz2⟩ := info_parts info5
  have hq := fun wx => Lib.run_eql_slice_nil (P := Yba.prog) wx 28 5 (some ⟨b, 0, none⟩) len cap 0 0 Yba.underlying28
  have hblt : b < w.heap.size := World.block_lt_of_cell? _ _ (hc 0 hl)
  go_enter Yba.func18, Yba.ntmps18
  go_wp2_with (at_builtin; refine wpList_append_own _ rfl _ _ 28 rfl w.heap.size 5 i0 (.int .u8 0) 1 1 Yba.underlying28 hi hz0 hz1 hz2 rfl (by decide) _ 0 [] rfl (ownsRow_empty _ _ _ (Nat.le_refl _)) ⟨b, 0, none⟩ len cap ((List.range len).map fun i => Value.int .u8 (F i)) rfl (by simp) ?h1 ?h2 (by unfold maxLen; omega) (by omega) (by simp) ?h3)
  case h1 =>
    intro j u hj
    obtain ⟨hj1, rfl⟩ := list_of hj
    rw [add_plain, Nat.zero_add, World.cell?_alloc_past _ _ _ hblt]
    exact hc j hj1
  case h2 =>
    intro u hu
    simp at hu
    obtain ⟨a, _, rfl⟩ := hu
    rfl
  case h3 =>
    intro v' w1 hown hgrow _
    go_wp2
    go_ret
    exact clone_end hl hown hgrow (Nat.le_refl _)

set_option maxHeartbeats 400000 in
theorem same64 (b c len cb cc : Nat) (F : Nat → Int) (w : World) (hlen : len ≤ 1000000) (hb : ∀ i, i < len → w.cell? ⟨b, i, none⟩ = some (.int .u64 (F i))) (hc : ∀ i, i < len → w.cell? ⟨c, i, none⟩ = some (.int .u64 (F i))) :
    Calls Yba.prog 22 #[.slice (some ⟨b, 0, none⟩) len cb, .slice (some ⟨c, 0, none⟩) len cc] w fun e w' => e = .returned (.bool true) ∧ ∃ n, w' = w.drewN n := by
  go_enter Yba.func22, Yba.ntmps22
  go_wp2
  go_loopw [13] (fun iv wr => ∃ i : Nat, i ≤ len ∧ iv = .int .i64 i ∧ ∃ n, wr = w.drewN n) (fun iv _ => len - (intOf iv).toNat)
  case atStart => exact ⟨0, by omega, rfl, 0, rfl⟩
  case round =>
    obtain ⟨i, h1, rfl, n, rfl⟩ := hrel
    by_cases hlt : i < len
    · have c0 := hb i hlt
      have c1 := hc i hlt
      go_wp2
      go_quiet (fail)
      go_wp2
      go_roundw
      case rel => exact ⟨i + 1, by omega, by go_num, _, rfl⟩
      case measure => simp [intOf]; omega
    · go_wp2
      go_ret
      exact ⟨rfl, _, rfl⟩

set_option maxHeartbeats 400000 in
theorem same8 (b c len cb cc : Nat) (F : Nat → Int) (w : World) (hlen : len ≤ 1000000) (hb : ∀ i, i < len → w.cell? ⟨b, i, none⟩ = some (.int .u8 (F i))) (hc : ∀ i, i < len → w.cell? ⟨c, i, none⟩ = some (.int .u8 (F i))) :
    Calls Yba.prog 23 #[.slice (some ⟨b, 0, none⟩) len cb, .slice (some ⟨c, 0, none⟩) len cc] w fun e w' => e = .returned (.bool true) ∧ ∃ n, w' = w.drewN n := by
  go_enter Yba.func23, Yba.ntmps23
  go_wp2
  go_loopw [13] (fun iv wr => ∃ i : Nat, i ≤ len ∧ iv = .int .i64 i ∧ ∃ n, wr = w.drewN n) (fun iv _ => len - (intOf iv).toNat)
  case atStart => exact ⟨0, by omega, rfl, 0, rfl⟩
  case round =>
    obtain ⟨i, h1, rfl, n, rfl⟩ := hrel
    by_cases hlt : i < len
    · have c0 := hb i hlt
      have c1 := hc i hlt
      go_wp2
      go_quiet (fail)
      go_wp2
      go_roundw
      case rel => exact ⟨i + 1, by omega, by go_num, _, rfl⟩
      case measure => simp [intOf]; omega
    · go_wp2
      go_ret
      exact ⟨rfl, _, rfl⟩
end Go.Proofs.Ybulkbpwm
