import Derived.Test.YbulkbptuRows
import Derived.WalkKit
import Derived.ProofKit
import Derived.OpenShut
import Derived.Below
import Derived.Deep.QuietTactic
import Derived.BigQuiet
namespace Go.Proofs.Ybulkbptu
open Go.ChangeShapes Go.WideShapes Go.ChangeAt Go.RowKit
set_option linter.unusedVariables false

/-- What 'meeting' answers over the numbers F (forward) and B (backward), from index h down to l by twos; the answer is an index less o. -/
def MeetRes (F B : Nat → Int) (o : Int) (l h : Nat) (k : Int) (ok : Bool) : Prop :=
  (ok = false ∧ k = 0 ∧ ∀ j : Nat, l ≤ j → j ≤ h → ((h : Int) - j) % 2 = 0 → F j < B j) ∨
  (ok = true ∧ ∃ i : Nat, l ≤ i ∧ i ≤ h ∧ ((h : Int) - i) % 2 = 0 ∧ B i ≤ F i ∧ k = (i : Int) - o ∧ ∀ j : Nat, i < j → j ≤ h → ((h : Int) - j) % 2 = 0 → F j < B j)

/-- How a call of 'meeting' ends. -/
def MeetEnd (F B : Nat → Int) (o : Int) (l h : Nat) (w : World) (e : Ending) (w' : World) : Prop :=
  ∃ k ok, e = .returned (.tuple #[.int .i64 k, .bool ok]) ∧ MeetRes F B o l h k ok ∧ ∃ n, w' = w.drewN n

theorem meet_empty (a0 a1 : Option Addr) (l0 c0 l1 c1 : Nat) (o lo hi : Int) (h : hi < lo) (w : World) :
    Calls Yba.prog 6 #[.slice a0 l0 c0, .slice a1 l1 c1, .int .i64 o, .int .i64 lo, .int .i64 hi] w fun e w' =>
      e = .returned (.tuple #[.int .i64 0, .bool false]) ∧ w' = w := by
  go_enter Yba.func6, Yba.ntmps6
  go_wp2
  refine wp_loop_rounds 1 ?_
  rw [rounds_succ]
  go_wp2
  go_ret2
  exact ⟨rfl, rfl⟩

set_option maxHeartbeats 400000 in
theorem meet_any (bf oF lf cf bb ob lb cb : Nat) (F B : Nat → Int) (o : Int) (l h : Nat) (w : World)
    (hF : ∀ i, i < lf → w.cell? ⟨bf, oF + i, none⟩ = some (.int .i64 (F i)))
    (hB : ∀ i, i < lb → w.cell? ⟨bb, ob + i, none⟩ = some (.int .i64 (B i)))
    (hl : l ≤ h) (hhf : h < lf) (hhb : h < lb) (ho1 : -1000000 ≤ o) (ho2 : o ≤ 1000000) (hlf : h ≤ 1000000000) :
    Calls Yba.prog 6 #[.slice (some ⟨bf, oF, none⟩) lf cf, .slice (some ⟨bb, ob, none⟩) lb cb, .int .i64 o, .int .i64 ((l : Int) - o), .int .i64 ((h : Int) - o)] w
      (MeetEnd F B o l h w) := by
  go_enter Yba.func6, Yba.ntmps6
  go_wp2
  go_loopw [12] (fun kv wr => ∃ i : Int, kv = .int .i64 (i - o) ∧ i ≤ h ∧ (l : Int) - 2 ≤ i ∧ ((h : Int) - i) % 2 = 0 ∧ (∀ j : Nat, i < j → j ≤ h → ((h : Int) - j) % 2 = 0 → F j < B j) ∧ ∃ n, wr = w.drewN n)
    (fun kv _ => (intOf kv + o - l + 2).toNat)
  case atStart => exact ⟨h, rfl, by omega, by omega, by simp, fun j h1 h2 => by omega, 0, rfl⟩
  case round =>
    obtain ⟨i, rfl, hih, hil, hpar, hno, n, rfl⟩ := hrel
    have HNO : Hid (∀ j : Nat, i < j → j ≤ h → ((h : Int) - j) % 2 = 0 → F j < B j) := hno
    have HPAR : Hid (((h : Int) - i) % 2 = 0) := hpar
    clear hno hpar
    by_cases hlt : (l : Int) ≤ i
    · obtain ⟨m, rfl⟩ : ∃ m : Nat, i = m := ⟨i.toNat, by omega⟩
      have cF := hF m (by omega)
      have cB := hB m (by omega)
      have b1 : (m : Int) < lf := by omega
      have b2 : (m : Int) < lb := by omega
      go_wp2
      go_quiet (fail)
      go_wp2
      · go_ret2
        have hle : B m ≤ F m := by assumption
        exact ⟨_, _, rfl, .inr ⟨rfl, m, by omega, by omega, HPAR.out, hle, rfl, fun j h1 h2 h3 => HNO.out j (by omega) h2 h3⟩, _, World.drewN_drewN _ _ _⟩
      · have hgt : F m < B m := by assumption
        go_roundw
        case rel => exact ⟨(m : Int) - 2, by go_num, by omega, by omega, by have := HPAR.out; omega, fun j h1 h2 h3 => by
              by_cases hj : j = m
              · subst hj; exact hgt
              · refine HNO.out j ?_ h2 h3
                have := HPAR.out
                omega, _, rfl⟩
        case measure => simp [intOf]; omega
    · go_wp2
      go_ret2
      exact ⟨_, _, rfl, .inl ⟨rfl, rfl, fun j h1 h2 h3 => HNO.out j (by omega) h2 h3⟩, _, rfl⟩
end Go.Proofs.Ybulkbptu
