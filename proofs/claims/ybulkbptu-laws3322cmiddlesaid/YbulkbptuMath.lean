namespace Go.Proofs.Ybulkbptu
set_option linter.unusedVariables false

/-! ### The longest common subsequence of prefixes; 'M i j': element i of x equals element j of y, both inside -/
def rowL (M : Nat → Nat → Bool) (i : Nat) (prev : Nat → Nat) : Nat → Nat
  | 0 => 0
  | j + 1 => max (max (prev (j + 1)) (rowL M i prev j)) (if M i j then prev j + 1 else 0)
def P (M : Nat → Nat → Bool) : Nat → Nat → Nat
  | 0 => fun _ => 0
  | i + 1 => rowL M i (P M i)
variable {M : Nat → Nat → Bool}
theorem P_left (j : Nat) : P M 0 j = 0 := rfl
theorem P_right (i : Nat) : P M i 0 = 0 := by cases i <;> rfl
theorem P_succ (i j : Nat) : P M (i + 1) (j + 1) = max (max (P M i (j + 1)) (P M (i + 1) j)) (if M i j then P M i j + 1 else 0) := rfl
theorem P_mono_i (i j : Nat) : P M i j ≤ P M (i + 1) j := by
  cases j with
  | zero => simp [P_right]
  | succ j => rw [P_succ]; omega
theorem P_mono_j (i j : Nat) : P M i j ≤ P M i (j + 1) := by
  cases i with
  | zero => simp [P_left]
  | succ i => rw [P_succ]; omega
theorem P_step_i (i : Nat) : ∀ j, P M (i + 1) j ≤ P M i j + 1
  | 0 => by simp [P_right]
  | j + 1 => by
    have h1 := P_step_i i j
    have h2 := P_mono_j (M := M) i j
    rw [P_succ]
    split <;> omega
theorem P_step_j : ∀ i j, P M i (j + 1) ≤ P M i j + 1
  | 0, j => by simp [P_left]
  | i + 1, j => by
    have h1 := P_step_j i j
    have h2 := P_mono_i (M := M) i j
    rw [P_succ]
    split <;> omega
theorem P_diag (i j : Nat) : P M (i + 1) (j + 1) ≤ P M i j + 1 := by
  have h1 := P_step_i (M := M) i j
  have h2 := P_step_j (M := M) i j
  rw [P_succ]
  split <;> omega
theorem P_match {i j : Nat} (h : M i j = true) : P M (i + 1) (j + 1) = P M i j + 1 := by
  have h1 := P_diag (M := M) i j
  have h2 : P M i j + 1 ≤ P M (i + 1) (j + 1) := by
    rw [P_succ, if_pos h]
    omega
  omega
theorem P_mono {i i' : Nat} (hi : i ≤ i') {j j' : Nat} (hj : j ≤ j') : P M i j ≤ P M i' j' := by
  have h1 : ∀ k, P M i j ≤ P M (i + k) j := fun k => by
    induction k with
    | zero => exact Nat.le_refl _
    | succ k ih => exact Nat.le_trans ih (P_mono_i _ _)
  have h2 : ∀ k, P M i' j ≤ P M i' (j + k) := fun k => by
    induction k with
    | zero => exact Nat.le_refl _
    | succ k ih => exact Nat.le_trans ih (P_mono_j _ _)
  have e1 := h1 (i' - i)
  have e2 := h2 (j' - j)
  rw [show i + (i' - i) = i' by omega] at e1
  rw [show j + (j' - j) = j' by omega] at e2
  omega
/-- Where nothing matches in row i, row i + 1 is as row i. -/
theorem P_none_i (i : Nat) (h : ∀ j, M i j = false) : ∀ j, P M (i + 1) j = P M i j
  | 0 => by simp [P_right]
  | j + 1 => by
    have h1 := P_none_i i h j
    have h2 := P_mono_j (M := M) i j
    rw [P_succ, h j]
    simp only [Bool.false_eq_true, if_false]
    omega
theorem P_none_j (j : Nat) (h : ∀ i, M i j = false) : ∀ i, P M i (j + 1) = P M i j
  | 0 => by simp [P_left]
  | i + 1 => by
    have h1 := P_none_j j h i
    have h2 := P_mono_i (M := M) i j
    rw [P_succ, h i]
    simp only [Bool.false_eq_true, if_false]
    omega

/-! ### The sequences reversed -/
def rev (M : Nat → Nat → Bool) (n m : Nat) : Nat → Nat → Bool := fun i j => decide (i < n) && decide (j < m) && M (n - 1 - i) (m - 1 - j)
/-- M holds inside alone. -/
def Inside (M : Nat → Nat → Bool) (n m : Nat) : Prop := ∀ i j, M i j = true → i < n ∧ j < m
variable {n m : Nat}
theorem rev_inside : Inside (rev M n m) n m := fun i j h => by
  simp only [rev, Bool.and_eq_true, decide_eq_true_eq] at h
  exact h.1
theorem rev_rev (h : Inside M n m) : rev (rev M n m) n m = M := by
  funext i j
  simp only [rev]
  by_cases hi : i < n ∧ j < m
  · have e1 : n - 1 - (n - 1 - i) = i := by omega
    have e2 : m - 1 - (m - 1 - j) = j := by omega
    have e3 : decide (i < n) = true := decide_eq_true hi.1
    have e4 : decide (j < m) = true := decide_eq_true hi.2
    have e5 : decide (n - 1 - i < n) = true := decide_eq_true (by omega)
    have e6 : decide (m - 1 - j < m) = true := decide_eq_true (by omega)
    rw [e1, e2, e3, e4, e5, e6]
    simp
  · have e : M i j = false := by
      cases hM : M i j with
      | true => exact absurd (h i j hM) hi
      | false => rfl
    rw [e]
    by_cases h1 : i < n
    · have h2 : ¬ j < m := fun h2 => hi ⟨h1, h2⟩
      simp [h2]
    · simp [h1]
theorem triangle : ∀ a b, a ≤ n → b ≤ m → P M (n - a) (m - b) + P (rev M n m) a b ≤ P M n m
  | 0, b, _, hb => by
    rw [P_left]
    have := P_mono (M := M) (Nat.le_refl n) (show m - b ≤ m by omega)
    simpa using this
  | a + 1, 0, ha, _ => by
    rw [P_right]
    have := P_mono (M := M) (show n - (a + 1) ≤ n by omega) (Nat.le_refl m)
    simpa using this
  | a + 1, b + 1, ha, hb => by
    have t1 := triangle a (b + 1) (by omega) hb
    have t2 := triangle (a + 1) b ha (by omega)
    have t3 := triangle a b (by omega) (by omega)
    have m1 := P_mono (M := M) (show n - (a + 1) ≤ n - a by omega) (Nat.le_refl (m - (b + 1)))
    have m2 := P_mono (M := M) (Nat.le_refl (n - (a + 1))) (show m - (b + 1) ≤ m - b by omega)
    rw [P_succ]
    split
    · next hM =>
      simp only [rev, Bool.and_eq_true] at hM
      have e := P_match (M := M) (i := n - 1 - a) (j := m - 1 - b) hM.2
      rw [show n - 1 - a + 1 = n - a by omega, show m - 1 - b + 1 = m - b by omega, show n - 1 - a = n - (a + 1) by omega, show m - 1 - b = m - (b + 1) by omega] at e
      omega
    · omega
theorem P_rev (h : Inside M n m) : P (rev M n m) n m = P M n m := by
  have h1 := triangle (M := M) n m (Nat.le_refl n) (Nat.le_refl m)
  have h2 := triangle (M := rev M n m) n m (Nat.le_refl n) (Nat.le_refl m)
  rw [rev_rev h] at h2
  simp only [Nat.sub_self, P_left] at h1 h2
  omega

/-! ### Edits -/
/-- How many edits a shortest way to (i, j) takes. -/
def Ed (M : Nat → Nat → Bool) (i j : Nat) : Int := (i : Int) + j - 2 * P M i j
theorem Ed_diag (i j : Nat) : Ed M i j ≤ Ed M (i + 1) (j + 1) := by
  have := P_diag (M := M) i j
  unfold Ed
  omega
theorem Ed_diag_k (i j : Nat) : ∀ k, Ed M i j ≤ Ed M (i + k) (j + k)
  | 0 => Int.le_refl _
  | k + 1 => Int.le_trans (Ed_diag_k i j k) (Ed_diag _ _)
theorem Ed_match {i j : Nat} (h : M i j = true) : Ed M (i + 1) (j + 1) = Ed M i j := by
  have := P_match h
  unfold Ed
  omega
theorem Ed_i (i j : Nat) : Ed M (i + 1) j ≤ Ed M i j + 1 := by
  have := P_mono_i (M := M) i j
  unfold Ed
  omega
theorem Ed_j (i j : Nat) : Ed M i (j + 1) ≤ Ed M i j + 1 := by
  have := P_mono_j (M := M) i j
  unfold Ed
  omega
/-- The whole distance. -/
def Di (M : Nat → Nat → Bool) (n m : Nat) : Int := (n : Int) + m - 2 * P M n m
theorem Di_rev (h : Inside M n m) : Di (rev M n m) n m = Di M n m := by unfold Di; rw [P_rev h]
/-- The rest of the way from (i, j). -/
def Rest (M : Nat → Nat → Bool) (n m i j : Nat) : Int := Ed (rev M n m) (n - i) (m - j)
theorem Ed_Rest {i j : Nat} (hi : i ≤ n) (hj : j ≤ m) : Di M n m ≤ Ed M i j + Rest M n m i j := by
  have h := triangle (M := M) (n := n) (m := m) (n - i) (m - j) (by omega) (by omega)
  rw [show n - (n - i) = i by omega, show m - (m - j) = j by omega] at h
  unfold Di Rest Ed
  omega
/-- (i, j) lies on a shortest way, behind e edits. -/
structure Good (M : Nat → Nat → Bool) (n m : Nat) (e : Int) (i j : Nat) : Prop where
  hi : i ≤ n
  hj : j ≤ m
  ed : Ed M i j = e
  rest : Rest M n m i j = Di M n m - e
theorem Rest_i {i j : Nat} (hi : i + 1 ≤ n) : Rest M n m i j ≤ Rest M n m (i + 1) j + 1 := by
  unfold Rest
  rw [show n - i = (n - (i + 1)) + 1 by omega]
  exact Ed_i _ _
theorem Rest_j {i j : Nat} (hj : j + 1 ≤ m) : Rest M n m i j ≤ Rest M n m i (j + 1) + 1 := by
  unfold Rest
  rw [show m - j = (m - (j + 1)) + 1 by omega]
  exact Ed_j _ _
theorem Rest_diag {i j : Nat} (hi : i + 1 ≤ n) (hj : j + 1 ≤ m) : Rest M n m (i + 1) (j + 1) ≤ Rest M n m i j := by
  unfold Rest
  rw [show n - i = (n - (i + 1)) + 1 by omega, show m - j = (m - (j + 1)) + 1 by omega]
  exact Ed_diag _ _
theorem Rest_match {i j : Nat} (h : Inside M n m) (hM : M i j = true) : Rest M n m i j = Rest M n m (i + 1) (j + 1) := by
  obtain ⟨h1, h2⟩ := h i j hM
  unfold Rest
  rw [show n - i = (n - (i + 1)) + 1 by omega, show m - j = (m - (j + 1)) + 1 by omega]
  refine Ed_match ?_
  have e1 : n - 1 - (n - (i + 1)) = i := by omega
  have e2 : m - 1 - (m - (j + 1)) = j := by omega
  have e3 : decide (n - (i + 1) < n) = true := decide_eq_true (by omega)
  have e4 : decide (m - (j + 1) < m) = true := decide_eq_true (by omega)
  simp [rev, e1, e2, e3, e4, hM]
theorem good_pred (hin : Inside M n m) {e : Int} {i j : Nat} (g : Good M n m e i j) (h0 : ¬ (i = 0 ∧ j = 0)) :
    (∃ i', i = i' + 1 ∧ Good M n m (e - 1) i' j) ∨ (∃ j', j = j' + 1 ∧ Good M n m (e - 1) i j') ∨ (∃ i' j', i = i' + 1 ∧ j = j' + 1 ∧ M i' j' = true ∧ Good M n m e i' j') := by
  obtain ⟨hi, hj, ed, rest⟩ := g
  have left : ∀ i', i = i' + 1 → P M i' j = P M i j → Good M n m (e - 1) i' j := fun i' e1 e2 => by
    subst e1
    have r := Rest_i (M := M) (n := n) (m := m) (i := i') (j := j) hi
    have t := Ed_Rest (M := M) (n := n) (m := m) (i := i') (j := j) (by omega) hj
    have d : Ed M i' j = e - 1 := by unfold Ed at ed ⊢; omega
    exact ⟨by omega, hj, d, by omega⟩
  have up : ∀ j', j = j' + 1 → P M i j' = P M i j → Good M n m (e - 1) i j' := fun j' e1 e2 => by
    subst e1
    have r := Rest_j (M := M) (n := n) (m := m) (i := i) (j := j') hj
    have t := Ed_Rest (M := M) (n := n) (m := m) (i := i) (j := j') hi (by omega)
    have d : Ed M i j' = e - 1 := by unfold Ed at ed ⊢; omega
    exact ⟨hi, by omega, d, by omega⟩
  cases i with
  | zero =>
    cases j with
    | zero => exact absurd ⟨rfl, rfl⟩ h0
    | succ j => exact .inr (.inl ⟨j, rfl, up j rfl rfl⟩)
  | succ i =>
    cases j with
    | zero => exact .inl ⟨i, rfl, left i rfl (by simp [P_right])⟩
    | succ j =>
      have hs := P_succ (M := M) i j
      by_cases c1 : P M i (j + 1) = P M (i + 1) (j + 1)
      · exact .inl ⟨i, rfl, left i rfl c1⟩
      · by_cases c2 : P M (i + 1) j = P M (i + 1) (j + 1)
        · exact .inr (.inl ⟨j, rfl, up j rfl c2⟩)
        · have m1 := P_mono_i (M := M) i (j + 1)
          have m2 := P_mono_j (M := M) (i + 1) j
          cases hM : M i j with
          | false =>
            rw [hM] at hs
            simp only [Bool.false_eq_true, if_false] at hs
            omega
          | true =>
            have e1 := Ed_match hM
            have e2 := Rest_match hin hM
            exact .inr (.inr ⟨i, j, rfl, rfl, hM, ⟨by omega, by omega, by omega, by omega⟩⟩)
theorem good_down (hin : Inside M n m) : ∀ (s : Nat) (e0 e : Int) (i j : Nat), i + j = s → Good M n m e0 i j → 0 ≤ e → e ≤ e0 → ∃ i j, Good M n m e i j := by
  intro s
  induction s using Nat.strongRecOn with
  | ind s ih =>
    intro e0 e i j hs g h0 he
    by_cases h1 : e = e0
    · exact ⟨i, j, h1 ▸ g⟩
    · have hne : ¬ (i = 0 ∧ j = 0) := fun ⟨a, b⟩ => by
        subst a b
        have := g.ed
        simp only [Ed, P_left] at this
        omega
      rcases good_pred hin g hne with ⟨i', rfl, g'⟩ | ⟨j', rfl, g'⟩ | ⟨i', j', rfl, rfl, _, g'⟩
      · exact ih (i' + j) (by omega) _ e i' j rfl g' h0 (by omega)
      · exact ih (i + j') (by omega) _ e i j' rfl g' h0 (by omega)
      · exact ih (i' + j') (by omega) _ e i' j' rfl g' h0 he
theorem Rest_end : Rest M n m n m = 0 := by
  unfold Rest Ed
  simp [P_left]
theorem good_end : Good M n m (Di M n m) n m := ⟨Nat.le_refl _, Nat.le_refl _, rfl, by rw [Rest_end]; omega⟩
theorem good_at (hin : Inside M n m) {e : Int} (h0 : 0 ≤ e) (he : e ≤ Di M n m) : ∃ i j, Good M n m e i j := good_down hin _ _ e n m rfl good_end h0 he
/-- A good point, seen from the other end. -/
theorem good_rev (hin : Inside M n m) {e : Int} {i j : Nat} (g : Good M n m e i j) : Good (rev M n m) n m (Di M n m - e) (n - i) (m - j) := by
  have h1 := g.hi
  have h2 := g.hj
  refine ⟨by omega, by omega, g.rest, ?_⟩
  unfold Rest
  rw [rev_rev hin, Di_rev hin, show n - (n - i) = i by omega, show m - (m - j) = j by omega, g.ed]
  omega
theorem Ed_rev (hin : Inside M n m) {i j : Nat} (hi : i ≤ n) (hj : j ≤ m) : Rest (rev M n m) n m (n - i) (m - j) = Ed M i j := by
  unfold Rest
  rw [rev_rev hin, show n - (n - i) = i by omega, show m - (m - j) = j by omega]
end Go.Proofs.Ybulkbptu
