import Derived.Test.YbulkbptuMath
namespace Go.Proofs.Ybulkbptu
set_option linter.unusedVariables false
variable {M : Nat → Nat → Bool} {n m : Nat}

/-- From x0 on down diagonal k as long as the elements match. -/
def Follow (M : Nat → Nat → Bool) (k x0 x1 : Int) : Prop := ∃ t : Nat, x1 = x0 + t ∧ (∀ s : Nat, s < t → M (x0 + s).toNat (x0 + s - k).toNat = true) ∧ M x1.toNat (x1 - k).toNat = false

/-- A search behind d steps: on each diagonal k of every other one from lo to hi it has come to X k. -/
structure Inv (M : Nat → Nat → Bool) (n m d : Nat) (lo hi : Int) (X : Int → Int) : Prop where
  le : lo ≤ hi
  lo_ge : -(m : Int) ≤ lo
  hi_le : hi ≤ n
  plo : (lo - d) % 2 = 0
  phi : (hi - d) % 2 = 0
  x0 : ∀ k, lo ≤ k → k ≤ hi → (k - d) % 2 = 0 → 0 ≤ X k ∧ 0 ≤ X k - k ∧ X k ≤ n + d
  sound : ∀ k, lo ≤ k → k ≤ hi → (k - d) % 2 = 0 → Ed M (X k).toNat (X k - k).toNat ≤ d
  comp : ∀ i j, Good M n m d i j → lo ≤ (i : Int) - j ∧ (i : Int) - j ≤ hi ∧ (i : Int) ≤ X ((i : Int) - j)

theorem good_parity {e : Int} {i j : Nat} (g : Good M n m e i j) : ((i : Int) - j - e) % 2 = 0 := by
  have := g.ed
  unfold Ed at this
  omega
theorem Inv.start (h0 : M 0 0 = false) (X : Int → Int) (hX : X 0 = 0) : Inv M n m 0 0 0 X := by
  refine ⟨Int.le_refl _, by omega, by omega, by simp, by simp, fun k h1 h2 _ => ?_, fun k h1 h2 _ => ?_, fun i j g => ?_⟩
  · have : k = 0 := by omega
    subst this
    omega
  · have : k = 0 := by omega
    subst this
    rw [hX]
    simp [Ed, P_left]
  · have ed := g.ed
    have b1 : P M i j ≤ i := by
      have : ∀ i, P M i j ≤ i := fun i => by
        induction i with
        | zero => simp [P_left]
        | succ i ih => have := P_step_i (M := M) i j; omega
      exact this i
    have b2 : P M i j ≤ j := by
      have : ∀ j, P M i j ≤ j := fun j => by
        induction j with
        | zero => simp [P_right]
        | succ j ih => have := P_step_j (M := M) i j; omega
      exact this j
    have hij : i = j := by unfold Ed at ed; omega
    subst hij
    have hz : i = 0 := by
      cases i with
      | zero => rfl
      | succ i =>
        have h1 := Ed_diag_k (M := M) 1 1 i
        rw [show 1 + i = i + 1 by omega, ed] at h1
        have h2 : P M 1 1 = 0 := by
          have := P_succ (M := M) 0 0
          rw [h0] at this
          simpa [P_left, P_right] using this
        simp only [Ed] at h1
        rw [show (1 : Nat) = 0 + 1 from rfl] at h2
        rw [h2] at h1
        omega
    subst hz
    simp [hX]

theorem Ed_follow {a b : Nat} : ∀ t : Nat, (∀ s, s < t → M (a + s) (b + s) = true) → Ed M (a + t) (b + t) = Ed M a b
  | 0, _ => rfl
  | t + 1, h => by
    have h1 := Ed_match (h t (by omega))
    have h2 := Ed_follow t (fun s hs => h s (by omega))
    rw [← h2, ← h1]
    rfl

set_option maxHeartbeats 4000000 in
theorem Inv.key {d : Nat} {lo hi lo' hi' : Int} {X Xs : Int → Int} (I : Inv M n m d lo hi X)
    (hlo : (-(m : Int) < lo ∧ lo' = lo - 1) ∨ (lo = -(m : Int) ∧ lo' = lo + 1)) (hhi : (hi < n ∧ hi' = hi + 1) ∨ (hi = n ∧ hi' = hi - 1))
    (h1 : ∀ k, lo ≤ k → k ≤ hi → (k - d) % 2 = 0 → Xs k = X k) (h2 : -(m : Int) < lo → Xs (lo' - 1) = -1) (h3 : hi < n → Xs (hi' + 1) = -1) :
    ∀ k, lo' ≤ k → k ≤ hi' → (k - (d + 1)) % 2 = 0 → 0 ≤ max (Xs (k - 1) + 1) (Xs (k + 1)) ∧ 0 ≤ max (Xs (k - 1) + 1) (Xs (k + 1)) - k ∧ max (Xs (k - 1) + 1) (Xs (k + 1)) ≤ n + d + 1 ∧
      Ed M (max (Xs (k - 1) + 1) (Xs (k + 1))).toNat (max (Xs (k - 1) + 1) (Xs (k + 1)) - k).toNat ≤ d + 1 := by
  have i1 := I.le
  have i2 := I.lo_ge
  have i3 := I.hi_le
  have i4 := I.plo
  have i5 := I.phi
  intro k hk1 hk2 hp
  have fromL : lo ≤ k - 1 → max (Xs (k - 1) + 1) (Xs (k + 1)) = X (k - 1) + 1 → 0 ≤ max (Xs (k - 1) + 1) (Xs (k + 1)) ∧ 0 ≤ max (Xs (k - 1) + 1) (Xs (k + 1)) - k ∧ max (Xs (k - 1) + 1) (Xs (k + 1)) ≤ n + d + 1 ∧
      Ed M (max (Xs (k - 1) + 1) (Xs (k + 1))).toNat (max (Xs (k - 1) + 1) (Xs (k + 1)) - k).toNat ≤ d + 1 := by
    intro hl e
    obtain ⟨a1, a2, a3⟩ := I.x0 (k - 1) hl (by omega) (by omega)
    have s := I.sound (k - 1) hl (by omega) (by omega)
    rw [e]
    refine ⟨by omega, by omega, by omega, ?_⟩
    have q := Ed_i (M := M) (X (k - 1)).toNat (X (k - 1) - (k - 1)).toNat
    rw [show (X (k - 1) + 1).toNat = (X (k - 1)).toNat + 1 by omega, show X (k - 1) + 1 - k = X (k - 1) - (k - 1) by omega]
    omega
  have fromR : k + 1 ≤ hi → max (Xs (k - 1) + 1) (Xs (k + 1)) = X (k + 1) → 0 ≤ max (Xs (k - 1) + 1) (Xs (k + 1)) ∧ 0 ≤ max (Xs (k - 1) + 1) (Xs (k + 1)) - k ∧ max (Xs (k - 1) + 1) (Xs (k + 1)) ≤ n + d + 1 ∧
      Ed M (max (Xs (k - 1) + 1) (Xs (k + 1))).toNat (max (Xs (k - 1) + 1) (Xs (k + 1)) - k).toNat ≤ d + 1 := by
    intro hl e
    obtain ⟨a1, a2, a3⟩ := I.x0 (k + 1) (by omega) hl (by omega)
    have s := I.sound (k + 1) (by omega) hl (by omega)
    rw [e]
    refine ⟨by omega, by omega, by omega, ?_⟩
    have q := Ed_j (M := M) (X (k + 1)).toNat (X (k + 1) - (k + 1)).toNat
    rw [show (X (k + 1) - k).toNat = (X (k + 1) - (k + 1)).toNat + 1 by omega]
    omega
  by_cases cl : lo ≤ k - 1
  · have el := h1 (k - 1) cl (by omega) (by omega)
    by_cases cr : k + 1 ≤ hi
    · have er := h1 (k + 1) (by omega) cr (by omega)
      by_cases hm : X (k + 1) ≤ X (k - 1) + 1
      · exact fromL cl (by rw [el, er]; omega)
      · exact fromR cr (by rw [el, er]; omega)
    · obtain ⟨a1, _, _⟩ := I.x0 (k - 1) cl (by omega) (by omega)
      have er : Xs (k + 1) = -1 := by
        have : k + 1 = hi' + 1 := by omega
        rw [this]
        exact h3 (by omega)
      exact fromL cl (by rw [el, er]; omega)
  · have cr : k + 1 ≤ hi := by omega
    have er := h1 (k + 1) (by omega) cr (by omega)
    obtain ⟨a1, _, _⟩ := I.x0 (k + 1) (by omega) cr (by omega)
    have el : Xs (k - 1) = -1 := by
      have : k - 1 = lo' - 1 := by omega
      rw [this]
      exact h2 (by omega)
    exact fromR cr (by rw [el, er]; omega)
set_option maxHeartbeats 4000000 in
theorem Inv.step {d : Nat} {lo hi lo' hi' : Int} {X Xs X' : Int → Int} (hin : Inside M n m) (hnm : 2 ≤ n + m) (I : Inv M n m d lo hi X)
    (hlo : (-(m : Int) < lo ∧ lo' = lo - 1) ∨ (lo = -(m : Int) ∧ lo' = lo + 1)) (hhi : (hi < n ∧ hi' = hi + 1) ∨ (hi = n ∧ hi' = hi - 1))
    (h1 : ∀ k, lo ≤ k → k ≤ hi → (k - d) % 2 = 0 → Xs k = X k) (h2 : -(m : Int) < lo → Xs (lo' - 1) = -1) (h3 : hi < n → Xs (hi' + 1) = -1)
    (h4 : ∀ k, lo' ≤ k → k ≤ hi' → (k - (d + 1)) % 2 = 0 → Follow M k (max (Xs (k - 1) + 1) (Xs (k + 1))) (X' k)) :
    Inv M n m (d + 1) lo' hi' X' := by
  have i1 := I.le
  have i2 := I.lo_ge
  have i3 := I.hi_le
  have i4 := I.plo
  have i5 := I.phi
  have key := I.key hlo hhi h1 h2 h3
  have hle : lo' ≤ hi' := by omega
  refine ⟨hle, by omega, by omega, by omega, by omega, ?_, ?_, ?_⟩
  · intro k hk1 hk2 hp
    obtain ⟨b1, b2, b3, b4⟩ := key k hk1 hk2 (by omega)
    obtain ⟨t, e1, e2, e3⟩ := h4 k hk1 hk2 (by omega)
    refine ⟨by omega, by omega, ?_⟩
    cases t with
    | zero => omega
    | succ t =>
      have := (hin _ _ (e2 t (by omega))).1
      omega
  · intro k hk1 hk2 hp
    obtain ⟨b1, b2, b3, b4⟩ := key k hk1 hk2 (by omega)
    obtain ⟨t, e1, e2, e3⟩ := h4 k hk1 hk2 (by omega)
    have q := Ed_follow (M := M) (a := (max (Xs (k - 1) + 1) (Xs (k + 1))).toNat) (b := (max (Xs (k - 1) + 1) (Xs (k + 1)) - k).toNat) t (fun s hs => by
      have := e2 s hs
      rw [show (max (Xs (k - 1) + 1) (Xs (k + 1))).toNat + s = (max (Xs (k - 1) + 1) (Xs (k + 1)) + s).toNat by omega, show (max (Xs (k - 1) + 1) (Xs (k + 1)) - k).toNat + s = (max (Xs (k - 1) + 1) (Xs (k + 1)) + s - k).toNat by omega]
      exact this)
    rw [show (X' k).toNat = (max (Xs (k - 1) + 1) (Xs (k + 1))).toNat + t by omega, show (X' k - k).toNat = (max (Xs (k - 1) + 1) (Xs (k + 1)) - k).toNat + t by omega, q]
    omega
  · have main : ∀ s i j, i + j = s → Good M n m ((d + 1 : Nat) : Int) i j → lo' ≤ (i : Int) - j ∧ (i : Int) - j ≤ hi' ∧ (i : Int) ≤ X' ((i : Int) - j) := by
      intro s
      induction s using Nat.strongRecOn with
      | ind s ih =>
        intro i j hs g
        have hne : ¬ (i = 0 ∧ j = 0) := fun ⟨a, b⟩ => by
          subst a b
          have := g.ed
          simp only [Ed, P_left] at this
          omega
        have b1 := g.hi
        have b2 := g.hj
        rcases good_pred hin g hne with ⟨i', rfl, g'⟩ | ⟨j', rfl, g'⟩ | ⟨i', j', rfl, rfl, hM, g'⟩
        · rw [show ((d + 1 : Nat) : Int) - 1 = (d : Int) by omega] at g'
          obtain ⟨c1, c2, c3⟩ := I.comp i' j g'
          have p := good_parity g'
          have r1 : lo' ≤ ((i' + 1 : Nat) : Int) - j := by omega
          have r2 : ((i' + 1 : Nat) : Int) - j ≤ hi' := by omega
          refine ⟨r1, r2, ?_⟩
          obtain ⟨t, e1, _, _⟩ := h4 _ r1 r2 (by omega)
          have el := h1 ((i' : Int) - j) c1 c2 p
          rw [show ((i' + 1 : Nat) : Int) - j - 1 = (i' : Int) - j by omega, el] at e1
          omega
        · rw [show ((d + 1 : Nat) : Int) - 1 = (d : Int) by omega] at g'
          obtain ⟨c1, c2, c3⟩ := I.comp i j' g'
          have p := good_parity g'
          have r1 : lo' ≤ (i : Int) - ((j' + 1 : Nat) : Int) := by omega
          have r2 : (i : Int) - ((j' + 1 : Nat) : Int) ≤ hi' := by omega
          refine ⟨r1, r2, ?_⟩
          obtain ⟨t, e1, _, _⟩ := h4 _ r1 r2 (by omega)
          have el := h1 ((i : Int) - j') c1 c2 p
          rw [show (i : Int) - ((j' + 1 : Nat) : Int) + 1 = (i : Int) - j' by omega, el] at e1
          omega
        · obtain ⟨c1, c2, c3⟩ := ih (i' + j') (by omega) i' j' rfl g'
          have p := good_parity g'
          have ek : ((i' + 1 : Nat) : Int) - ((j' + 1 : Nat) : Int) = (i' : Int) - j' := by omega
          rw [ek]
          refine ⟨c1, c2, ?_⟩
          obtain ⟨t, e1, _, e3⟩ := h4 _ c1 c2 (by omega)
          by_cases hx : (i' : Int) = X' ((i' : Int) - j')
          · rw [← hx] at e3
            rw [show ((i' : Int)).toNat = i' by omega, show ((i' : Int) - ((i' : Int) - j')).toNat = j' by omega, hM] at e3
            exact absurd e3 (by simp)
          · omega
    exact fun i j g => main _ i j rfl g

theorem Rest_diag_k {i j : Nat} : ∀ t : Nat, i + t ≤ n → j + t ≤ m → Rest M n m (i + t) (j + t) ≤ Rest M n m i j
  | 0, _, _ => Int.le_refl _
  | t + 1, h1, h2 => Int.le_trans (Rest_diag (by omega) (by omega)) (Rest_diag_k t (by omega) (by omega))

theorem Inv.narrow {d : Nat} {lo hi lo2 hi2 : Int} {X : Int → Int} (I : Inv M n m d lo hi X) (few : Int → Int → Int) (hfew : ∀ i j : Nat, i ≤ n → j ≤ m → few i j ≤ Rest M n m i j)
    (hl : lo ≤ lo2) (hh : hi2 ≤ hi) (hle : lo2 ≤ hi2) (pl : (lo2 - d) % 2 = 0) (ph : (hi2 - d) % 2 = 0)
    (hd : ∀ k, lo ≤ k → k ≤ hi → (k - d) % 2 = 0 → (k < lo2 ∨ hi2 < k) → X k ≤ n ∧ X k - k ≤ m ∧ Di M n m < d + few (X k) (X k - k)) : Inv M n m d lo2 hi2 X := by
  have i2 := I.lo_ge
  have i3 := I.hi_le
  refine ⟨hle, by omega, by omega, pl, ph, fun k h1 h2 h3 => I.x0 k (by omega) (by omega) h3, fun k h1 h2 h3 => I.sound k (by omega) (by omega) h3, fun i j g => ?_⟩
  obtain ⟨c1, c2, c3⟩ := I.comp i j g
  have p := good_parity g
  have hno : ¬ ((i : Int) - j < lo2 ∨ hi2 < (i : Int) - j) := fun hx => by
    obtain ⟨d1, d2, d3⟩ := hd _ c1 c2 p hx
    obtain ⟨x1, x2, x3⟩ := I.x0 _ c1 c2 p
    obtain ⟨t, ht⟩ : ∃ t : Nat, X ((i : Int) - j) = (i : Int) + t := ⟨(X ((i : Int) - j) - i).toNat, by omega⟩
    rw [ht] at d1 d2 d3
    have f := hfew (i + t) (j + t) (by omega) (by omega)
    have r := Rest_diag_k (M := M) (n := n) (m := m) (i := i) (j := j) t (by omega) (by omega)
    rw [g.rest] at r
    rw [show (i : Int) + t - ((i : Int) - j) = ((j + t : Nat) : Int) by omega, show (i : Int) + t = ((i + t : Nat) : Int) by omega] at d3
    omega
  exact ⟨by omega, by omega, c3⟩

theorem P_beyond_i (hin : Inside M n m) (j : Nat) : ∀ t, P M (n + t) j = P M n j
  | 0 => rfl
  | t + 1 => by
    have h : ∀ j, M (n + t) j = false := fun j => by
      cases hM : M (n + t) j with
      | true => have := (hin _ _ hM).1; omega
      | false => rfl
    have := P_none_i (M := M) (n + t) h j
    rw [← P_beyond_i hin j t, ← this]
    rfl
theorem P_beyond_j (hin : Inside M n m) (i : Nat) : ∀ t, P M i (m + t) = P M i m
  | 0 => rfl
  | t + 1 => by
    have h : ∀ i, M i (m + t) = false := fun i => by
      cases hM : M i (m + t) with
      | true => have := (hin _ _ hM).2; omega
      | false => rfl
    have := P_none_j (M := M) (m + t) h i
    rw [← P_beyond_j hin i t, ← this]
    rfl

/-- The two searches on one diagonal. -/
structure Met (n m : Nat) (d1 d2 : Nat) (lo1 hi1 lo2 hi2 : Int) (X Y : Int → Int) (k : Int) : Prop where
  a1 : lo1 ≤ k
  a2 : k ≤ hi1
  a3 : (k - d1) % 2 = 0
  b1 : lo2 ≤ (n : Int) - m - k
  b2 : (n : Int) - m - k ≤ hi2
  b3 : ((n : Int) - m - k - d2) % 2 = 0
  le : (n : Int) - Y ((n : Int) - m - k) ≤ X k
theorem Met.swap {d1 d2 : Nat} {lo1 hi1 lo2 hi2 : Int} {X Y : Int → Int} {k : Int} (h : Met n m d1 d2 lo1 hi1 lo2 hi2 X Y k) : Met n m d2 d1 lo2 hi2 lo1 hi1 Y X ((n : Int) - m - k) := by
  obtain ⟨a1, a2, a3, b1, b2, b3, le⟩ := h
  have e : (n : Int) - m - ((n : Int) - m - k) = k := by omega
  exact ⟨b1, b2, b3, by omega, by omega, by rw [e]; exact a3, by rw [e]; omega⟩
/-- The point of the first search, drawn back into the box. -/
theorem meet_point {d1 d2 : Nat} {lo1 hi1 lo2 hi2 : Int} {X Y : Int → Int} {k : Int} (I1 : Inv M n m d1 lo1 hi1 X) (I2 : Inv (rev M n m) n m d2 lo2 hi2 Y) (h : Met n m d1 d2 lo1 hi1 lo2 hi2 X Y k) :
    ∃ i j : Nat, i ≤ n ∧ j ≤ m ∧ (i : Int) - j = k ∧ (i : Int) = min (X k) (min (n : Int) (m + k)) ∧ Ed M i j ≤ d1 ∧ Rest M n m i j ≤ d2 := by
  obtain ⟨a1, a2, a3, b1, b2, b3, le⟩ := h
  obtain ⟨x1, x2, x3⟩ := I1.x0 k a1 a2 a3
  obtain ⟨y1, y2, y3⟩ := I2.x0 _ b1 b2 b3
  have s1 := I1.sound k a1 a2 a3
  have s2 := I2.sound _ b1 b2 b3
  have k1 := I1.lo_ge
  have k2 := I1.hi_le
  obtain ⟨z, hz⟩ : ∃ z : Nat, (z : Int) = min (X k) (min (n : Int) (m + k)) := ⟨(min (X k) (min (n : Int) (m + k))).toNat, by omega⟩
  obtain ⟨j, hj⟩ : ∃ j : Nat, (j : Int) = (z : Int) - k := ⟨((z : Int) - k).toNat, by omega⟩
  refine ⟨z, j, by omega, by omega, by omega, hz, ?_, ?_⟩
  · obtain ⟨t, ht⟩ : ∃ t : Nat, X k = (z : Int) + t := ⟨(X k - z).toNat, by omega⟩
    have q := Ed_diag_k (M := M) z j t
    rw [show (X k).toNat = z + t by omega, show (X k - k).toNat = j + t by omega] at s1
    omega
  · obtain ⟨t, ht⟩ : ∃ t : Nat, Y ((n : Int) - m - k) = (n : Int) - z + t := ⟨(Y ((n : Int) - m - k) - (n - z)).toNat, by omega⟩
    have q := Ed_diag_k (M := rev M n m) (n - z) (m - j) t
    rw [show (Y ((n : Int) - m - k)).toNat = n - z + t by omega, show (Y ((n : Int) - m - k) - ((n : Int) - m - k)).toNat = m - j + t by omega] at s2
    unfold Rest
    omega
theorem meet_le {d1 d2 : Nat} {lo1 hi1 lo2 hi2 : Int} {X Y : Int → Int} {k : Int} (I1 : Inv M n m d1 lo1 hi1 X) (I2 : Inv (rev M n m) n m d2 lo2 hi2 Y) (h : Met n m d1 d2 lo1 hi1 lo2 hi2 X Y k) : Di M n m ≤ d1 + d2 := by
  obtain ⟨i, j, hi, hj, _, _, h1, h2⟩ := meet_point I1 I2 h
  have := Ed_Rest (M := M) hi hj
  omega
/-- Where the steps add up to the distance the first search's point lies inside, on a shortest way. -/
theorem meet_good {d1 d2 : Nat} {lo1 hi1 lo2 hi2 : Int} {X Y : Int → Int} {k : Int} (hin : Inside M n m) (I1 : Inv M n m d1 lo1 hi1 X) (I2 : Inv (rev M n m) n m d2 lo2 hi2 Y) (h : Met n m d1 d2 lo1 hi1 lo2 hi2 X Y k) (hD : Di M n m = d1 + d2) :
    ∃ i j : Nat, i ≤ n ∧ j ≤ m ∧ X k = i ∧ X k - k = j ∧ Ed M i j = d1 ∧ Rest M n m i j = d2 := by
  obtain ⟨i, j, hi, hj, hk, hz, h1, h2⟩ := meet_point I1 I2 h
  have t := Ed_Rest (M := M) hi hj
  obtain ⟨x1, x2, x3⟩ := I1.x0 k h.a1 h.a2 h.a3
  have s1 := I1.sound k h.a1 h.a2 h.a3
  by_cases c1 : X k ≤ n
  · by_cases c2 : X k - k ≤ m
    · exact ⟨i, j, hi, hj, by omega, by omega, by omega, by omega⟩
    · exfalso
      have ez : j = m := by omega
      subst ez
      obtain ⟨t2, ht2⟩ : ∃ t2 : Nat, (X k - k).toNat = j + t2 := ⟨(X k - k).toNat - j, by omega⟩
      have pb := P_beyond_j hin (X k).toNat t2
      have er : Rest M n j i j = (n : Int) - i := by
        unfold Rest Ed
        rw [Nat.sub_self, P_right]
        omega
      have er2 : Rest M n j (X k).toNat j = (n : Int) - X k := by
        unfold Rest Ed
        rw [Nat.sub_self, P_right]
        omega
      have t3 := Ed_Rest (M := M) (n := n) (m := j) (i := (X k).toNat) (j := j) (by omega) (Nat.le_refl _)
      rw [ht2] at s1
      unfold Ed at s1 t3
      rw [pb] at s1
      omega
  · exfalso
    by_cases c2 : X k - k ≤ m
    · have ez : i = n := by omega
      subst ez
      obtain ⟨t2, ht2⟩ : ∃ t2 : Nat, (X k).toNat = i + t2 := ⟨(X k).toNat - i, by omega⟩
      have pb := P_beyond_i hin (X k - k).toNat t2
      have er : Rest M i m i j = (m : Int) - j := by
        unfold Rest Ed
        rw [Nat.sub_self, P_left]
        omega
      have er2 : Rest M i m i (X k - k).toNat = (m : Int) - (X k - k) := by
        unfold Rest Ed
        rw [Nat.sub_self, P_left]
        omega
      have t3 := Ed_Rest (M := M) (n := i) (m := m) (i := i) (j := (X k - k).toNat) (Nat.le_refl _) (by omega)
      rw [ht2] at s1
      unfold Ed at s1 t3
      rw [pb] at s1
      omega
    · obtain ⟨t2, ht2⟩ : ∃ t2 : Nat, (X k).toNat = n + t2 := ⟨(X k).toNat - n, by omega⟩
      obtain ⟨t3, ht3⟩ : ∃ t3 : Nat, (X k - k).toNat = m + t3 := ⟨(X k - k).toNat - m, by omega⟩
      have pb := P_beyond_i hin (m + t3) t2
      have pc := P_beyond_j hin n t3
      rw [ht2, ht3] at s1
      unfold Ed at s1
      rw [pb, pc] at s1
      unfold Di at hD
      omega
/-- .. and there is such a diagonal. -/
theorem meet_ex {d1 d2 : Nat} {lo1 hi1 lo2 hi2 : Int} {X Y : Int → Int} (hin : Inside M n m) (I1 : Inv M n m d1 lo1 hi1 X) (I2 : Inv (rev M n m) n m d2 lo2 hi2 Y) (hD : Di M n m = d1 + d2) : ∃ k, Met n m d1 d2 lo1 hi1 lo2 hi2 X Y k := by
  obtain ⟨i, j, g⟩ := good_at hin (e := d1) (by omega) (by omega)
  have g2 := good_rev hin g
  rw [show Di M n m - d1 = (d2 : Int) by omega] at g2
  obtain ⟨c1, c2, c3⟩ := I1.comp i j g
  obtain ⟨e1, e2, e3⟩ := I2.comp _ _ g2
  have p := good_parity g
  have p2 := good_parity g2
  have hi := g.hi
  have hj := g.hj
  have ek : ((n - i : Nat) : Int) - ((m - j : Nat) : Int) = (n : Int) - m - ((i : Int) - j) := by omega
  rw [ek] at e1 e2 e3 p2
  exact ⟨(i : Int) - j, c1, c2, p, e1, e2, p2, by omega⟩
/-- The second search's point. -/
theorem meet_good2 {d1 d2 : Nat} {lo1 hi1 lo2 hi2 : Int} {X Y : Int → Int} {k : Int} (hin : Inside M n m) (I1 : Inv M n m d1 lo1 hi1 X) (I2 : Inv (rev M n m) n m d2 lo2 hi2 Y) (h : Met n m d1 d2 lo1 hi1 lo2 hi2 X Y k) (hD : Di M n m = d1 + d2) :
    ∃ i j : Nat, i ≤ n ∧ j ≤ m ∧ (n : Int) - Y ((n : Int) - m - k) = i ∧ (n : Int) - Y ((n : Int) - m - k) - k = j ∧ Ed M i j = d1 ∧ Rest M n m i j = d2 := by
  obtain ⟨a, b, ha, hb, e1, e2, e3, e4⟩ := meet_good rev_inside I2 (by rw [rev_rev hin]; exact I1) h.swap (by rw [Di_rev hin]; omega)
  refine ⟨n - a, m - b, by omega, by omega, by omega, by omega, ?_, ?_⟩
  · unfold Rest at e4
    rw [rev_rev hin] at e4
    exact e4
  · unfold Rest
    rw [show n - (n - a) = a by omega, show m - (m - b) = b by omega]
    exact e3
end Go.Proofs.Ybulkbptu
