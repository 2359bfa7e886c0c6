import Derived.Test.YbulkbpuiFmtRows
import Derived.Test.YbulkbpuiFmtFacts
import Derived.WalkKit
import Derived.WalkSpells
import Derived.Below
namespace Go.Proofs.YbulkbpuiFmt
open Go.RowKit Go.Extern.Stop Go.Stop Go.Extern
attribute [local go_sem] call6 guard6 fmtOp fmtOpr act22_100 op22_100

set_option maxHeartbeats 800000 in
/-- String at an operation out of range: fmt is asked; whatever text it gives. -/
theorem string_out (F : Interp) (c : Int) (w : World) (hF : F.answers w.tape) (h0 : c = 0 ∨ c = 8) :
    Calls Ybaf.prog 4 #[.int .u8 c] w fun e w' => ∃ s, e = .returned (.string s) ∧ Below w.heap.size w w' := by
  have hF' := answers_open hF
  rcases h0 with rfl | rfl
  all_goals
    go_enter Ybaf.func4, Ybaf.ntmps4
    go_wp2
    apply rows_value nextTurns
    case hr =>
      go_simp
      exact ⟨rfl, rfl⟩
    case h =>
      go_wp2
      go_ret
      exact ⟨_, rfl, ((Below.refl _ _).alloc (Nat.le_refl _) _).drew⟩

/-- The names as they lie in memory. -/
def nm (c : Nat) : ByteArray := match c with
  | 1 => ⟨#[108, 111, 99, 107]⟩ | 2 => ⟨#[117, 110, 108, 111, 99, 107]⟩ | 3 => ⟨#[119, 114, 105, 116, 101]⟩ | 4 => ⟨#[99, 111, 109, 109, 105, 116]⟩
  | 5 => ⟨#[97, 98, 111, 114, 116]⟩ | 6 => ⟨#[97, 100, 100]⟩ | 7 => ⟨#[114, 101, 109, 111, 118, 101]⟩ | _ => ⟨#[]⟩

set_option maxHeartbeats 800000 in
theorem string_in (c : Nat) (w : World) (h1 : 1 ≤ c) (h7 : c ≤ 7) (hc : w.cell? ⟨0, 2 * c, none⟩ = some (.string (nm c))) :
    Calls Ybaf.prog 4 #[.int .u8 c] w fun e w' => e = .returned (.string (nm c)) ∧ w' = w := by
  rcases (show c = 1 ∨ c = 2 ∨ c = 3 ∨ c = 4 ∨ c = 5 ∨ c = 6 ∨ c = 7 by omega) with rfl | rfl | rfl | rfl | rfl | rfl | rfl
  all_goals
    simp only [Nat.reduceMul] at hc
    go_enter Ybaf.func4, Ybaf.ntmps4
    go_wp2
    go_ret
    exact ⟨rfl, rfl⟩

theorem name_in (c : Nat) (w : World) (h1 : 1 ≤ c) (h7 : c ≤ 7) :
    Calls Ybaf.prog 5 #[.int .u8 c] w fun e w' => e = .returned (.string (nm c)) ∧ w' = w := by
  rcases (show c = 1 ∨ c = 2 ∨ c = 3 ∨ c = 4 ∨ c = 5 ∨ c = 6 ∨ c = 7 by omega) with rfl | rfl | rfl | rfl | rfl | rfl | rfl
  all_goals
    go_enter Ybaf.func5, Ybaf.ntmps5
    go_wp2
    go_ret
    exact ⟨rfl, rfl⟩

theorem walk (F : Interp) (a0 : Int) (w : World) (hF : F.answers w.tape) (h0 : 0 ≤ a0) (h1 : a0 ≤ 255) (hc : ∀ c : Nat, 1 ≤ c → c ≤ 7 → w.cell? ⟨0, 2 * c, none⟩ = some (.string (nm c))) :
    Calls Ybaf.prog 3 #[.int .u8 a0] w fun e w' => e = .returned (.bool true) ∧ Below w.heap.size w w' := by
  obtain ⟨c, hm⟩ : ∃ c : Nat, a0 % 9 = c := ⟨(a0 % 9).toNat, by omega⟩
  have hc8 : c ≤ 8 := by omega
  by_cases hout : c = 0 ∨ c = 8
  · go_enter Ybaf.func3, Ybaf.ntmps3
    go_wp2_with fail
    refine (string_out F c _ hF (by omega)).mono ?_
    rintro e w' ⟨s, rfl, hb⟩
    rcases hout with rfl | rfl
    all_goals
      go_wp2_with fail
      go_ret
      exact ⟨rfl, hb⟩
  · have n0 : ((c : Int) == 0) = false := by simp; omega
    have n8 : ((c : Int) == 8) = false := by simp; omega
    have hcc := hc c (by omega) (by omega)
    clear hc
    go_enter Ybaf.func3, Ybaf.ntmps3
    go_wp2_with fail
    refine (string_in c _ (by omega) (by omega) hcc).mono ?_
    rintro e w' ⟨rfl, rfl⟩
    go_wp2_with fail
    refine (name_in c _ (by omega) (by omega)).mono ?_
    rintro e w' ⟨rfl, rfl⟩
    go_wp2_with fail
    go_ret
    exact ⟨by simp, Below.refl _ _⟩
end Go.Proofs.YbulkbpuiFmt
