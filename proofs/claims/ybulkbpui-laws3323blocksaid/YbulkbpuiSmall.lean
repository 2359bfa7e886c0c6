import Derived.Test.YbulkbpuiMem
import Derived.WalkSpells
import Derived.BigQuiet
import Derived.BigRegion
import Derived.Maps.OwnSet
namespace Go.Proofs.Ybulkbpui
open Go.ChangeShapes Go.WideShapes Go.ChangeAt Go.RowKit
open Go.Maps
set_option linter.unusedVariables false

/-- What 'zzs3323bpick' computes. -/
def pk (x : Int) (n : Nat) : Int := x % ((n : Int) + 1) - 1
theorem pk_ge (x : Int) (n : Nat) : -1 ≤ pk x n := by
  unfold pk
  have := Int.emod_nonneg x (b := (n : Int) + 1) (by omega)
  omega
theorem pk_lt (x : Int) (n : Nat) : pk x n < n := by
  unfold pk
  have := Int.emod_lt_of_pos x (b := (n : Int) + 1) (by omega)
  omega
theorem pick_any (x : Int) (n : Nat) (w : World) (h0 : 0 ≤ x) (h1 : x ≤ 65535) (hn : n ≤ 2000) :
    Calls Yba.prog 4 #[.int .u16 x, .int .i64 n] w fun e w' => e = .returned (.int .i64 (pk x n)) ∧ w' = w := by
  have e1 : x.tmod ((n : Int) + 1) = x % ((n : Int) + 1) := Int.tmod_eq_emod_of_nonneg h0
  have e2 := Int.emod_nonneg x (b := (n : Int) + 1) (by omega)
  have e3 := Int.emod_lt_of_pos x (b := (n : Int) + 1) (by omega)
  go_enter Yba.func4, Yba.ntmps4
  go_wp2
  go_ret
  exact ⟨rfl, rfl⟩
/-- What 'zzs3323bkey' and 'lockKey' compute. -/
def ky (t i : Nat) : Int := bits BinOp.or IntKind.u64 ((t : Int) * 4294967296) i
theorem ky_wf (t i : Nat) : (Lit.int .u64 (ky t i)).wf = true := wf_wrap _ _
theorem key_any (t i : Nat) (w : World) (ht : t ≤ 2000) (hi : i ≤ 2000) :
    Calls Yba.prog 5 #[.int .i64 t, .int .i64 i] w fun e w' => e = .returned (.int .u64 (ky t i)) ∧ w' = w := by
  go_enter Yba.func5, Yba.ntmps5
  go_wp2
  go_ret
  exact ⟨rfl, rfl⟩
theorem lockKey_any (t i : Nat) (w : World) (ht : t ≤ 2000) (hi : i ≤ 2000) :
    Calls Yba.prog 10 #[.int .i64 t, .int .i64 i] w fun e w' => e = .returned (.int .u64 (ky t i)) ∧ w' = w := by
  go_enter Yba.func10, Yba.ntmps10
  go_wp2
  go_ret
  exact ⟨rfl, rfl⟩
theorem law50 : Keyed Yba.prog 50 := int_keyed Yba.underlying50
theorem zero49 (w : World) : (zeroValue 49).run Yba.prog w = .ok (.agg #[]) w := by kernel_rfl
theorem ky_key (t i : Nat) : keyOf Yba.prog 50 (.int .u64 (ky t i)) = some (.int .u64 (ky t i)) := keyOf_int_mk Yba.underlying50 (ky_wf t i)
abbrev OwnM (w : World) (b n : Nat) (D : DataW Unit) : Prop := w.ownsMap Yba.prog 50 (unitElem (H := Unit)) b n D
set_option maxRecDepth 100000 in
theorem hasLocked_any (cb mb n t i : Nat) (D : DataW Unit) (w : World) (hc : w.cell? ⟨cb, 6, none⟩ = some (.map (some mb))) (hown : OwnM w mb n D) :
    Calls Yba.prog 11 #[.pointer (some ⟨cb, 0, none⟩), .int .u64 (ky t i)] w fun e w' => e = .returned (.bool (Maps.has D (.int .u64 (ky t i)))) ∧ w' = w.alloc (.cells #[] 49) := by
  have hkey := ky_key t i
  go_enter Yba.func11, Yba.ntmps11
  go_wp2_with (at_lookup; refine wpList_lookup_own_unit _ rfl _ _ 28 rfl 50 49 law50 Yba.underlying28 (zero49 _) mb n D rfl hown _ _ rfl hkey ?_)
  go_ret
  exact ⟨rfl, rfl⟩
end Go.Proofs.Ybulkbpui
