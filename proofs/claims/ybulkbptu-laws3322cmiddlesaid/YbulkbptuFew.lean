import Derived.Test.YbulkbptuStepB
namespace Go.Proofs.Ybulkbptu
open Go.ChangeShapes Go.WideShapes Go.ChangeAt Go.RowKit
set_option linter.unusedVariables false

/-- How many of the first i are shared. -/
def cnt (s : Nat → Bool) : Nat → Nat
  | 0 => 0
  | i + 1 => cnt s i + (if s i then 1 else 0)
theorem cnt_le (s : Nat → Bool) : ∀ i, cnt s i ≤ i
  | 0 => Nat.le_refl _
  | i + 1 => by have := cnt_le s i; unfold cnt; split <;> omega
theorem cnt_all : ∀ i, cnt (fun _ => true) i = i
  | 0 => rfl
  | i + 1 => by unfold cnt; rw [cnt_all i]; rfl
theorem cnt_mono (s : Nat → Bool) {i j : Nat} (h : i ≤ j) : cnt s i ≤ cnt s j := by
  have : ∀ k, cnt s i ≤ cnt s (i + k) := fun k => by
    induction k with
    | zero => exact Nat.le_refl _
    | succ k ih => exact Nat.le_trans ih (by show _ ≤ cnt s (i + k) + _; omega)
  have := this (j - i)
  rwa [show i + (j - i) = j by omega] at this
variable {M : Nat → Nat → Bool} {n m : Nat}
theorem P_le_cnt_i {s : Nat → Bool} (h : ∀ i j, M i j = true → s i = true) : ∀ i j, P M i j ≤ cnt s i
  | 0, j => by simp [P_left]
  | i + 1, j => by
    have ih := P_le_cnt_i h i j
    unfold cnt
    cases hs : s i with
    | true =>
      have := P_step_i (M := M) i j
      simp only [if_true]
      omega
    | false =>
      have h2 : ∀ j, M i j = false := fun j => by
        cases hM : M i j with
        | true => rw [h i j hM] at hs; cases hs
        | false => rfl
      rw [P_none_i i h2 j]
      simp only [Bool.false_eq_true, if_false]
      omega
theorem P_le_cnt_j {s : Nat → Bool} (h : ∀ i j, M i j = true → s j = true) (i : Nat) : ∀ j, P M i j ≤ cnt s j
  | 0 => by simp [P_right]
  | j + 1 => by
    have ih := P_le_cnt_j h i j
    unfold cnt
    cases hs : s j with
    | true =>
      have := P_step_j (M := M) i j
      simp only [if_true]
      omega
    | false =>
      have h2 : ∀ i, M i j = false := fun i => by
        cases hM : M i j with
        | true => rw [h i j hM] at hs; cases hs
        | false => rfl
      rw [P_none_j j h2 i]
      simp only [Bool.false_eq_true, if_false]
      omega
theorem cnt_rev (s : Nat → Bool) (n : Nat) : ∀ a, a ≤ n → cnt s (n - a) + cnt (fun i => s (n - 1 - i)) a = cnt s n
  | 0, _ => rfl
  | a + 1, h => by
    have ih := cnt_rev s n a (by omega)
    have e : cnt s (n - a) = cnt s (n - (a + 1)) + (if s (n - 1 - a) then 1 else 0) := by
      rw [show n - a = (n - (a + 1)) + 1 by omega, show n - 1 - a = n - (a + 1) by omega]
      rfl
    show cnt s (n - (a + 1)) + (cnt (fun i => s (n - 1 - i)) a + (if s (n - 1 - a) then 1 else 0)) = cnt s n
    omega
/-- What 'fewest' computes. -/
def fewZ (cx cy : Nat → Nat) (x0 y0 x1 y1 : Nat) : Int :=
  (x1 : Int) - x0 - ((cx x1 : Int) - cx x0) + y1 - y0 - ((cy y1 : Int) - cy y0) + max (((cx x1 : Int) - cx x0) - ((cy y1 : Int) - cy y0)) (((cy y1 : Int) - cy y0) - ((cx x1 : Int) - cx x0))
theorem few_le_Ed {sx sy : Nat → Bool} (h1 : ∀ i j, M i j = true → sx i = true) (h2 : ∀ i j, M i j = true → sy j = true) (i j : Nat) : fewZ (cnt sx) (cnt sy) 0 0 i j ≤ Ed M i j := by
  have a := P_le_cnt_i h1 i j
  have b := P_le_cnt_j h2 i j
  unfold fewZ Ed
  simp only [cnt]
  omega
theorem few_le_Rest {sx sy : Nat → Bool} (h1 : ∀ i j, M i j = true → sx i = true) (h2 : ∀ i j, M i j = true → sy j = true) {i j : Nat} (hi : i ≤ n) (hj : j ≤ m) : fewZ (cnt sx) (cnt sy) i j n m ≤ Rest M n m i j := by
  have r1 : ∀ i j, rev M n m i j = true → sx (n - 1 - i) = true := fun i j h => by
    simp only [rev, Bool.and_eq_true] at h
    exact h1 _ _ h.2
  have r2 : ∀ i j, rev M n m i j = true → sy (m - 1 - j) = true := fun i j h => by
    simp only [rev, Bool.and_eq_true] at h
    exact h2 _ _ h.2
  have a := P_le_cnt_i (s := fun i => sx (n - 1 - i)) r1 (n - i) (m - j)
  have b := P_le_cnt_j (s := fun j => sy (m - 1 - j)) r2 (n - i) (m - j)
  have c := cnt_rev sx n (n - i) (by omega)
  have d := cnt_rev sy m (m - j) (by omega)
  rw [show n - (n - i) = i by omega] at c
  rw [show m - (m - j) = j by omega] at d
  unfold fewZ Rest Ed
  omega

/-- The aligner as it lies in memory: its searches' rows aside. -/
structure Al (ab bx b2 bf bb n m cx cy : Nat) (bd : Bool) (x y : Nat → Int) (px py : Nat → Nat) (w : World) : Prop where
  a0 : w.cell? ⟨ab, 0, none⟩ = some (.slice (some ⟨bx, 0, none⟩) n cx)
  a1 : w.cell? ⟨ab, 1, none⟩ = some (.slice (some ⟨b2, 0, none⟩) m cy)
  a4 : w.cell? ⟨ab, 4, none⟩ = some (.slice (some ⟨bf, 0, none⟩) (n + m + 5) (n + m + 5))
  a5 : w.cell? ⟨ab, 5, none⟩ = some (.slice (some ⟨bb, 0, none⟩) (n + m + 5) (n + m + 5))
  a6 : w.cell? ⟨ab, 6, none⟩ = some (.int .i64 ((m : Int) + 2))
  a7 : w.cell? ⟨ab, 7, none⟩ = some (.bool bd)
  xs : ∀ i, i < n → w.cell? ⟨bx, i, none⟩ = some (.int .i64 (x i))
  ys : ∀ i, i < m → w.cell? ⟨b2, i, none⟩ = some (.int .i64 (y i))
  all : bd = true → (∀ i, px i = i) ∧ ∀ i, py i = i
  bef : bd = false → ∃ b3 b4 c3 c4, w.cell? ⟨ab, 11, none⟩ = some (.slice (some ⟨b3, 0, none⟩) (n + 1) c3) ∧ w.cell? ⟨ab, 12, none⟩ = some (.slice (some ⟨b4, 0, none⟩) (m + 1) c4) ∧ b3 ≠ bf ∧ b3 ≠ bb ∧ b4 ≠ bf ∧ b4 ≠ bb ∧
    (∀ i, i ≤ n → w.cell? ⟨b3, i, none⟩ = some (.int .i64 (px i))) ∧ (∀ i, i ≤ m → w.cell? ⟨b4, i, none⟩ = some (.int .i64 (py i)))
  ne : ab ≠ bf ∧ ab ≠ bb ∧ bx ≠ bf ∧ bx ≠ bb ∧ b2 ≠ bf ∧ b2 ≠ bb ∧ bf ≠ bb
theorem Al.wrote {ab bx b2 bf bb n m cx cy : Nat} {bd : Bool} {x y : Nat → Int} {px py : Nat → Nat} {w w' : World} (h : Al ab bx b2 bf bb n m cx cy bd x y px py w) (k : Wrote [bf, bb] w w') : Al ab bx b2 bf bb n m cx cy bd x y px py w' := by
  obtain ⟨e1, e2, e3, e4, e5, e6, e7⟩ := h.ne
  have q : ∀ {b : Nat}, b ≠ bf → b ≠ bb → b ∉ [bf, bb] := fun h1 h2 => by simp [h1, h2]
  refine ⟨k.cell_of h.a0 (q e1 e2), k.cell_of h.a1 (q e1 e2), k.cell_of h.a4 (q e1 e2), k.cell_of h.a5 (q e1 e2), k.cell_of h.a6 (q e1 e2), k.cell_of h.a7 (q e1 e2), fun i hi => k.cell_of (h.xs i hi) (q e3 e4), fun i hi => k.cell_of (h.ys i hi) (q e5 e6), h.all, fun hb => ?_, h.ne⟩
  obtain ⟨b3, b4, c3, c4, d1, d2, d3, d4, d5, d6, d7, d8⟩ := h.bef hb
  exact ⟨b3, b4, c3, c4, k.cell_of d1 (q e1 e2), k.cell_of d2 (q e1 e2), d3, d4, d5, d6, fun i hi => k.cell_of (d7 i hi) (q d3 d4), fun i hi => k.cell_of (d8 i hi) (q d5 d6)⟩

set_option maxRecDepth 100000 in
set_option maxHeartbeats 4000000 in
theorem fewest_any (ab bx b2 bf bb n m cx cy : Nat) (bd : Bool) (x y : Nat → Int) (px py : Nat → Nat) (x0 y0 x1 y1 : Nat) (w : World) (hA : Al ab bx b2 bf bb n m cx cy bd x y px py w) (hn : n ≤ 1000) (hm : m ≤ 1000) (h1 : x0 ≤ n) (h2 : y0 ≤ m) (h3 : x1 ≤ n) (h4 : y1 ≤ m)
    (hx : ∀ i, px i ≤ i) (hy : ∀ i, py i ≤ i) :
    Calls Yba.prog 17 #[.pointer (some ⟨ab, 0, none⟩), .int .i64 x0, .int .i64 y0, .int .i64 x1, .int .i64 y1] w fun e w' => e = .returned (.int .i64 (fewZ px py x0 y0 x1 y1)) ∧ ∃ q, w' = w.drewN q := by
  have HA := Hid.mk' hA
  have b1 := hx x0
  have b2' := hx x1
  have b3 := hy y0
  have b4 := hy y1
  have a7 := hA.a7
  clear hA hx hy
  go_enter Yba.func17, Yba.ntmps17
  go_upto_if 24 with fail
  go_cut [11, 12] from 25 to 54 (fun s11 s12 wc => s11 = .int .i64 ((px x1 : Int) - px x0) ∧ s12 = .int .i64 ((py y1 : Int) - py y0) ∧ ∃ q, wc = w.drewN q)
  case first => as_aux_lemma =>
    cases bd with
    | true =>
      obtain ⟨e1, e2⟩ := HA.out.all rfl
      have f1 := e1 x0
      have f2 := e1 x1
      have f3 := e2 y0
      have f4 := e2 y1
      clear e1 e2
      go_wp2
      go_meet
      case rel => exact ⟨by rw [f1, f2], by rw [f3, f4], 0, rfl⟩
    | false =>
      obtain ⟨b3, b4, c3, c4, d1, d2, _, _, _, _, d7, d8⟩ := HA.out.bef rfl
      have q1 := d7 x0 h1
      have q2 := d7 x1 h3
      have q3 := d8 y0 h2
      have q4 := d8 y1 h4
      have r1 : (x0 : Int) < ((n + 1 : Nat) : Int) := by omega
      have r2 : (x1 : Int) < ((n + 1 : Nat) : Int) := by omega
      have r3 : (y0 : Int) < ((m + 1 : Nat) : Int) := by omega
      have r4 : (y1 : Int) < ((m + 1 : Nat) : Int) := by omega
      clear d7 d8
      go_wp2
      go_quiet (fail)
      go_wp2
      go_meet
      case rel => exact ⟨rfl, rfl, _, rfl⟩
  case rest => as_aux_lemma =>
    obtain ⟨rfl, rfl, q, rfl⟩ := hcut
    go_wp2
    all_goals go_ret
    all_goals exact ⟨ret_int (by unfold fewZ; omega), q, rfl⟩
end Go.Proofs.Ybulkbptu
