import Derived.Test.YbulkbpwmMem
import Derived.Deep.QuietTactic
import Derived.BigQuiet
namespace Go.Proofs.Ybulkbpwm
open Go.ChangeShapes Go.WideShapes Go.ChangeAt Go.RowKit
set_option linter.unusedVariables false

/-- bits.OnesCount64, as a function. -/
def PopOK (pop : Int → Int) : Prop := ∀ (x : Int) (w : World), Calls Yba.prog 20 #[.int .u64 x] w fun e w' => e = .returned (.int .i64 (pop x)) ∧ w' = w

def pm (x m : Int) : Int := bits BinOp.and IntKind.u64 x m
def pa (x y : Int) : Int := IntKind.u64.wrap (x + y)
def q1 (x : Int) : Int := pa (pm (x / 2) 6148914691236517205) (pm x 6148914691236517205)
def q2 (x : Int) : Int := pa (pm (x / 4) 3689348814741910323) (pm x 3689348814741910323)
def q3 (x : Int) : Int := pm (pa (x / 16) x) 1085102592571150095
def q4 (x : Int) : Int := pa x (x / 256)
def q5 (x : Int) : Int := pa x (x / 65536)
def q6 (x : Int) : Int := pa x (x / 4294967296)
def popF (x : Int) : Int := bits BinOp.and IntKind.i64 (wrap64 (q6 (q5 (q4 (q3 (q2 (q1 x))))))) 127

theorem popF_ok : PopOK popF := by
  intro x w
  go_enter Yba.func20, Yba.ntmps20
  go_wp2
  go_ret
  refine ⟨?_, rfl⟩
  simp only [popF, q6, q5, q4, q3, q2, q1, pa, pm]
  exact ret_int rfl

/-- The sum that a loop over F gathers. -/
def cnt (pop : Int → Int) (F : Nat → Int) : Nat → Int
  | 0 => 0
  | k + 1 => wrap64 (cnt pop F k + pop (F k))

set_option maxHeartbeats 400000 in
theorem count_any (pop : Int → Int) (hpop : PopOK pop) (b o len cap : Nat) (F : Nat → Int) (w : World) (hlen : len ≤ 1000000) (hc : ∀ i, i < len → w.cell? ⟨b, o + i, none⟩ = some (.int .u64 (F i))) :
    Calls Yba.prog 33 #[.slice (some ⟨b, o, none⟩) len cap] w fun e w' => e = .returned (.int .i64 (cnt pop F len)) ∧ w' = w := by
  have HP : Hid (PopOK pop) := hpop
  clear hpop
  go_enter Yba.func33, Yba.ntmps33
  go_wp2
  go_loop [3, 8] (fun s i => ∃ k : Nat, k ≤ len ∧ i = .int .i64 k ∧ s = .int .i64 (cnt pop F k)) (fun _ i => len - (intOf i).toNat)
  case atStart => exact ⟨0, Nat.zero_le _, rfl, rfl⟩
  case round =>
    obtain ⟨k, hk, rfl, rfl⟩ := hrel
    by_cases hlt : k < len
    · have c0 := hc k hlt
      go_wp2_with (go_at_call 20; refine (HP.out _ _).mono ?_; rintro e w' ⟨rfl, rfl⟩)
      go_round
      case rel => exact ⟨k + 1, by omega, by go_num, rfl⟩
      case measure => simp [intOf]; omega
    · go_wp2
      go_ret
      have : k = len := by omega
      subst this
      exact ⟨rfl, rfl⟩

set_option maxHeartbeats 400000 in
theorem pops_any (pop : Int → Int) (hpop : PopOK pop) (b o len cap : Nat) (F : Nat → Int) (w : World) (hlen : len ≤ 1000000) (hc : ∀ i, i < len → w.cell? ⟨b, o + i, none⟩ = some (.int .u64 (F i))) :
    Calls Yba.prog 21 #[.slice (some ⟨b, o, none⟩) len cap] w fun e w' => e = .returned (.int .i64 (cnt pop F len)) ∧ w' = w := by
  have HP : Hid (PopOK pop) := hpop
  clear hpop
  go_enter Yba.func21, Yba.ntmps21
  go_wp2
  go_loop [3, 8] (fun s i => ∃ k : Nat, k ≤ len ∧ i = .int .i64 k ∧ s = .int .i64 (cnt pop F k)) (fun _ i => len - (intOf i).toNat)
  case atStart => exact ⟨0, Nat.zero_le _, rfl, rfl⟩
  case round =>
    obtain ⟨k, hk, rfl, rfl⟩ := hrel
    by_cases hlt : k < len
    · have c0 := hc k hlt
      go_wp2_with (go_at_call 20; refine (HP.out _ _).mono ?_; rintro e w' ⟨rfl, rfl⟩)
      go_round
      case rel => exact ⟨k + 1, by omega, by go_num, rfl⟩
      case measure => simp [intOf]; omega
    · go_wp2
      go_ret
      have : k = len := by omega
      subst this
      exact ⟨rfl, rfl⟩
end Go.Proofs.Ybulkbpwm
