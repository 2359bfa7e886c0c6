import Derived.Test.YbulkbpwmClone
import Derived.Deep.QuietTactic
import Derived.BigQuiet
import Derived.RegionTactic
import Derived.BigRegion
import Derived.Deep.LoopGhost
namespace Go.Proofs.Ybulkbpwm
open Go.ChangeShapes Go.WideShapes Go.ChangeAt Go.RowKit
set_option linter.unusedVariables false

theorem words_any (n : Nat) (w : World) (hn : n ≤ 200) : Calls Yba.prog 30 #[.int .i64 (n : Int)] w fun e w' => e = .returned (.int .i64 ((n / 2 / 64 + 1 : Nat) : Int)) ∧ w' = w := by
  go_enter Yba.func30, Yba.ntmps30
  go_wp2
  go_ret
  exact ⟨ret_int (by simp), rfl⟩

def SomeInt (w : World) (e : Ending) (w' : World) : Prop := ∃ z, e = .returned (.int .i64 z) ∧ ∃ k, w' = w.drewN k

set_option maxRecDepth 100000 in
set_option maxHeartbeats 400000 in
theorem inverse_any (a n : Nat) (w : World) (ha : a ≤ 200) (hn : 1 ≤ n ∧ n ≤ 200) : Calls Yba.prog 31 #[.int .i64 (a : Int), .int .i64 (n : Int)] w (SomeInt w) := by
  have hn0 : ((n : Int) == 0) = false := by simp; omega
  go_enter Yba.func31, Yba.ntmps31
  go_wp2
  go_quiet (fail)
  go_wp2
  go_loopg [5, 6, 7, 8] n (fun g r0v r1v t0v t1v wx => (∃ k, wx = w.drewN k) ∧ ∃ r0 r1 t0 t1 : Int, r0v = .int .i64 r0 ∧ r1v = .int .i64 r1 ∧ t0v = .int .i64 t0 ∧ t1v = .int .i64 t1 ∧ 0 ≤ r0 ∧ r0 ≤ 200 ∧ 0 ≤ r1 ∧ r1 ≤ 200 ∧ r1 ≤ g)
  case atStart =>
    have h1 := Int.emod_nonneg (a : Int) (show (n : Int) ≠ 0 by omega)
    have h2 := Int.emod_lt_of_pos (a : Int) (show (0 : Int) < n by omega)
    exact ⟨⟨_, rfl⟩, _, _, _, _, rfl, rfl, rfl, rfl, by omega, by omega, h1, by omega, by omega⟩
  case round =>
    obtain ⟨⟨kd, rfl⟩, r0, r1, t0, t1, rfl, rfl, rfl, rfl, a1, a2, a3, a4, a5⟩ := hrel
    by_cases h0 : (r1 != 0) = true
    · have hp : 0 < r1 := by have : r1 ≠ 0 := by simpa using h0
                             omega
      have e1 := Int.ediv_mul_add_emod r0 r1
      have e2 := Int.emod_nonneg r0 (show r1 ≠ 0 by omega)
      have e3 := Int.emod_lt_of_pos r0 hp
      have e4 := Int.ediv_nonneg a1 a3
      have e6 : r0 / r1 ≤ 200 := by have := Int.ediv_le_self (b := r1) a1; omega
      have E1 : Hid (r0 / r1 * r1 + r0 % r1 = r0) := e1
      have e7 : 0 ≤ r0 / r1 * r1 := Int.mul_nonneg e4 a3
      have e8 : r0 / r1 * r1 ≤ 200 := by omega
      clear e1
      go_wp2
      go_roundg (r0 % r1).toNat
      case measure => omega
      case rel =>
        have := E1.out
        exact ⟨⟨_, rfl⟩, _, _, _, _, rfl, rfl, rfl, rfl, by omega, by omega, by omega, by omega, by omega⟩
    · have h0' : (r1 != 0) = false := by simpa using h0
      go_wp2
      all_goals
        go_ret
        exact ⟨_, rfl, _, rfl⟩

def IncEnd (bm W : Nat) (w : World) (e : Ending) (w' : World) : Prop := e = .returned (.tuple #[]) ∧ Wrote [bm] w w' ∧ ∃ M' : Nat → Int, w'.rowIs bm 47 W (fun i => .int .u64 (M' i))
set_option maxRecDepth 100000 in
theorem include_any (bm W c : Nat) (M : Nat → Int) (w : World) (hr : w.rowIs bm 47 W (fun i => .int .u64 (M i))) (hc : c ≤ 200) (hcW : c / 64 < W) (hW : W ≤ 2) :
    Calls Yba.prog 32 #[.slice (some ⟨bm, 0, none⟩) W W, .int .i64 (c : Int)] w (IncEnd bm W w) := by
  obtain ⟨q, hq⟩ : ∃ q : Nat, (c : Int) / 64 = (q : Int) := ⟨c / 64, by omega⟩
  have hqW : q < W := by omega
  have cm := hr.cell hqW
  have fm := hr.frozen q
  have HR : Hid (w.rowIs bm 47 W (fun i => .int .u64 (M i))) := hr
  clear hr
  go_enter Yba.func32, Yba.ntmps32
  go_wp2
  go_region
  all_goals go_wp2
  all_goals go_end0
  all_goals exact ⟨rfl, ((Wrote.refl _ _).setCell (.inl (by simp)) _).drew, _, (rowIs_setInt HR.out q _).drew⟩
end Go.Proofs.Ybulkbpwm
