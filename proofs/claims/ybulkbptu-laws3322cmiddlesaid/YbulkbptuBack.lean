import Derived.Test.YbulkbptuDec
import Derived.Test.YbulkbptuClo
namespace Go.Proofs.Ybulkbptu
open Go.ChangeShapes Go.WideShapes Go.ChangeAt Go.RowKit
set_option linter.unusedVariables false
variable {M : Nat → Nat → Bool} {n m : Nat}
/-- What narrowing the backward search leaves still holds the invariant. -/
theorem narrow_back {sx sy : Nat → Bool} {d : Nat} {lo hi lo2 hi2 : Int} {C : Nat → Int} (hin : Inside M n m) (h1 : ∀ i j, M i j = true → sx i = true) (h2 : ∀ i j, M i j = true → sy j = true)
    (I : Inv (rev M n m) n m d ((n : Int) - m - hi) ((n : Int) - m - lo) (bY n m C))
    (N : Narrowed lo hi (fun k => dropB n m (cnt sx) (cnt sy) d (Di M n m) (C (k + m + 2).toNat) (C (k + m + 2).toNat - k)) lo2 hi2) :
    Inv (rev M n m) n m d ((n : Int) - m - hi2) ((n : Int) - m - lo2) (bY n m C) := by
  obtain ⟨n1, n2, n3, n4, n5, n6, n7⟩ := N
  have p1 := I.plo
  have p2 := I.phi
  refine I.narrow (fun a b => fewZ (cnt sx) (cnt sy) 0 0 (n - a.toNat) (m - b.toNat)) (fun i j hi hj => ?_) (by omega) (by omega) (by omega) (by omega) (by omega) (fun k k1 k2 k3 k4 => ?_)
  · have e := Ed_rev hin (i := n - i) (j := m - j) (by omega) (by omega)
    rw [show n - (n - i) = i by omega, show m - (m - j) = j by omega] at e
    rw [e]
    simpa using few_le_Ed h1 h2 (n - i) (m - j)
  · obtain ⟨x1, x2, x3⟩ := I.x0 k k1 k2 k3
    have hdr : dropB n m (cnt sx) (cnt sy) d (Di M n m) (C ((n : Int) - m - k + m + 2).toNat) (C ((n : Int) - m - k + m + 2).toNat - ((n : Int) - m - k)) = true := by
      rcases k4 with k4 | k4
      · exact n7 ((n : Int) - m - k) (by omega) (by omega) (by omega)
      · exact n6 ((n : Int) - m - k) (by omega) (by omega) (by omega)
    have hY : bY n m C k = (n : Int) - C ((n : Int) - m - k + m + 2).toNat := rfl
    obtain ⟨a, ha⟩ : ∃ a : Int, C ((n : Int) - m - k + m + 2).toNat = a := ⟨_, rfl⟩
    rw [ha] at hY hdr
    rw [hY] at x1 x2 x3 ⊢
    simp only [dropB, Bool.and_eq_true, decide_eq_true_eq] at hdr
    refine ⟨by omega, by omega, ?_⟩
    rw [Di_rev hin]
    show Di M n m < d + fewZ (cnt sx) (cnt sy) 0 0 (n - ((n : Int) - a).toNat) (m - ((n : Int) - a - k).toNat)
    rw [show n - ((n : Int) - a).toNat = a.toNat by omega, show m - ((n : Int) - a - k).toNat = (a - ((n : Int) - m - k)).toNat by omega]
    exact hdr.2
end Go.Proofs.Ybulkbptu
