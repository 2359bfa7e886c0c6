import Derived.Test.YbulkbptuNew
import Derived.Test.YbulkbptuShare
import Derived.Test.YbulkbptuTab
namespace Go.Proofs.Ybulkbptu
open Go.ChangeShapes Go.WideShapes Go.ChangeAt Go.RowKit
set_option linter.unusedVariables false
set_option linter.unusedSimpArgs false

/-- What 'build' makes of the bytes. -/
def bz (r : Nat → Int) (len : Nat) (first last : Int) (i : Nat) : Int := if i = 0 then first else if i ≤ len then r (i - 1) % 4 else last
theorem bz_bounds {r : Nat → Int} {len : Nat} {first last : Int} (hf : 0 ≤ first ∧ first ≤ 13) (hl : 0 ≤ last ∧ last ≤ 13) (i : Nat) : 0 ≤ bz r len first last i ∧ bz r len first last i ≤ 13 := by
  unfold bz
  split
  · exact hf
  · split
    · omega
    · exact hl
/-- A built row. -/
structure Bld (b n : Nat) (X : Nat → Int) (w w' : World) : Prop where
  cells : ∀ i, i < n → w'.cell? ⟨b, i, none⟩ = some (.int .i64 (X i))
  wr : Wrote [] w w'
  ge : w.heap.size ≤ b
  lt : b < w'.heap.size
theorem build_bz (a0 : Option Addr) (len cap n : Nat) (r : Nat → Int) (first last : Int) (w : World) (hlen : len ≤ 300) (hn : n = len + 2)
    (hr : ∀ i, i < len → ∃ ad, a0 = some ad ∧ w.cell? (ad.add i) = some (.int .u8 (r i)) ∧ 0 ≤ r i ∧ r i ≤ 255) :
    Calls Yba.prog 7 #[.slice a0 len cap, .int .i64 first, .int .i64 last] w fun e w' => ∃ b, e = .returned (.slice (some ⟨b, 0, none⟩) n n) ∧ Hid (Bld b n (bz r len first last) w w') := by
  subst hn
  refine (build_any a0 len cap r (bz r len first last) first last w hlen hr rfl (fun i hi => ?_) ?_).mono ?_
  · unfold bz
    rw [if_neg (by omega), if_pos (by omega), show i + 1 - 1 = i by omega]
  · unfold bz
    rw [if_neg (by omega), if_neg (by omega)]
  · rintro e w' ⟨rfl, k1, k2, k3⟩
    exact ⟨_, rfl, k1, k2, Nat.le_refl _, k3⟩

/-- What lies in memory when the tables are filled. -/
structure Set5 (w : World) (bx b2 bp bs ab bf bb b5 b6 n m : Nat) (x y : Nat → Int) (bd : Bool) (w5 : World) : Prop where
  xs : ∀ i, i < n → w5.cell? ⟨bx, i, none⟩ = some (.int .i64 (x i))
  ys : ∀ i, i < m → w5.cell? ⟨b2, i, none⟩ = some (.int .i64 (y i))
  ra : w5.rowIs ab 37 13 (fun i => ((alA bx b2 b5 b6 bf bb n m n m bd)[i]?).getD undef)
  rf : w5.rowIs bf 3 (n + m + 5) (fun _ => .int .i64 0)
  rb : w5.rowIs bb 3 (n + m + 5) (fun _ => .int .i64 0)
  tp : ∀ i j, i ≤ n → j ≤ m → w5.cell? ⟨bp, i * (m + 1) + j, none⟩ = some (.int .i64 ((P (eqM n m x y) i j : Nat) : Int))
  ts : ∀ i j, i ≤ n → j ≤ m → w5.cell? ⟨bs, i * (m + 1) + j, none⟩ = some (.int .i64 ((P (rev (eqM n m x y) n m) (n - i) (m - j) : Nat) : Int))
  n1 : bx ≠ ab ∧ bx ≠ bf ∧ bx ≠ bb ∧ b2 ≠ ab ∧ b2 ≠ bf ∧ b2 ≠ bb
  n2 : ab ≠ bf ∧ ab ≠ bb ∧ bf ≠ bb
  n3 : bp ≠ ab ∧ bp ≠ bf ∧ bp ≠ bb ∧ bs ≠ ab ∧ bs ≠ bf ∧ bs ≠ bb
  ge : w.heap.size ≤ ab ∧ w.heap.size ≤ bf ∧ w.heap.size ≤ bb
  bl : Wrote [] w w5
/-- What 'middle' is called on. -/
structure Set6 (w : World) (bx b2 bp bs ab bf bb n m : Nat) (x y : Nat → Int) (bd : Bool) (sx sy : Nat → Bool) (w6 : World) : Prop where
  al : Al ab bx b2 bf bb n m n m bd x y (cnt sx) (cnt sy) w6
  rf : w6.rowIs bf 3 (n + m + 5) (fun _ => .int .i64 0)
  rb : w6.rowIs bb 3 (n + m + 5) (fun _ => .int .i64 0)
  tp : ∀ i j, i ≤ n → j ≤ m → w6.cell? ⟨bp, i * (m + 1) + j, none⟩ = some (.int .i64 ((P (eqM n m x y) i j : Nat) : Int))
  ts : ∀ i j, i ≤ n → j ≤ m → w6.cell? ⟨bs, i * (m + 1) + j, none⟩ = some (.int .i64 ((P (rev (eqM n m x y) n m) (n - i) (m - j) : Nat) : Int))
  n3 : bp ≠ bf ∧ bp ≠ bb ∧ bs ≠ bf ∧ bs ≠ bb
  s1 : ∀ i j, eqM n m x y i j = true → sx i = true
  s2 : ∀ i j, eqM n m x y i j = true → sy j = true
  ge : w.heap.size ≤ bf ∧ w.heap.size ≤ bb
  bl : Below w.heap.size w w6

theorem set6_bounded {w w5 : World} {bx b2 bp bs ab bf bb b5 b6 n m : Nat} {x y : Nat → Int} (h : Set5 w bx b2 bp bs ab bf bb b5 b6 n m x y true w5) : Set6 w bx b2 bp bs ab bf bb n m x y true (fun _ => true) (fun _ => true) w5 := by
  obtain ⟨e1, e2, e3, e4, e5, e6⟩ := h.n1
  obtain ⟨g1, g2, g3⟩ := h.n2
  obtain ⟨k1, k2, k3, k4, k5, k6⟩ := h.n3
  exact ⟨⟨h.ra.cell (i := 0) (by omega), h.ra.cell (i := 1) (by omega), h.ra.cell (i := 4) (by omega), h.ra.cell (i := 5) (by omega), h.ra.cell (i := 6) (by omega), h.ra.cell (i := 7) (by omega), h.xs, h.ys, fun _ => ⟨cnt_all, cnt_all⟩, fun hb => (by cases hb), ⟨g1, g2, e2, e3, e5, e6, g3⟩⟩,
    h.rf, h.rb, h.tp, h.ts, ⟨k2, k3, k5, k6⟩, fun _ _ _ => rfl, fun _ _ _ => rfl, ⟨h.ge.2.1, h.ge.2.2⟩, h.bl.below (Nat.le_refl _) (by simp)⟩

theorem shr_of {n m : Nat} {x y : Nat → Int} (bX : ∀ i, 0 ≤ x i) {i j : Nat} (h : eqM n m x y i j = true) : shr x y m i = true ∧ shr y x n j = true := by
  simp only [eqM, Bool.and_eq_true, decide_eq_true_eq] at h
  obtain ⟨⟨h1, h2⟩, h3⟩ := h
  have b := bX i
  have e : (((x i).toNat : Nat) : Int) = x i := by omega
  refine ⟨hasZ_of h2 ?_, hasZ_of h1 ?_⟩
  · rw [e, h3]
  · rw [← h3, e]

theorem set6_shared {w w5 w6 : World} {bx b2 bp bs ab bf bb b5 b6 n m b3 b4 : Nat} {x y : Nat → Int} {f' : Nat → Value} (bX : ∀ i, 0 ≤ x i) (h : Set5 w bx b2 bp bs ab bf bb b5 b6 n m x y false w5) (hr : w6.rowIs ab 37 13 f')
    (hf : ∀ i, i < 9 → f' i = ((alA bx b2 b5 b6 bf bb n m n m false)[i]?).getD undef) (h11 : f' 11 = .slice (some ⟨b3, 0, none⟩) (n + 1) (n + 1)) (h12 : f' 12 = .slice (some ⟨b4, 0, none⟩) (m + 1) (m + 1)) (g3 : w5.heap.size ≤ b3) (g4 : w5.heap.size ≤ b4)
    (c3 : ∀ i, i ≤ n → w6.cell? ⟨b3, i, none⟩ = some (.int .i64 (cnt (shr x y m) i))) (c4 : ∀ i, i ≤ m → w6.cell? ⟨b4, i, none⟩ = some (.int .i64 (cnt (shr y x n) i))) (k : Wrote [ab] w5 w6) : Set6 w bx b2 bp bs ab bf bb n m x y false (shr x y m) (shr y x n) w6 := by
  obtain ⟨e1, e2, e3, e4, e5, e6⟩ := h.n1
  obtain ⟨g1, g2, g5⟩ := h.n2
  obtain ⟨k1, k2, k3, k4, k5, k6⟩ := h.n3
  have lf := h.rf.lt
  have lb := h.rb.lt
  have cl : ∀ i, i < 9 → ∀ v, ((alA bx b2 b5 b6 bf bb n m n m false)[i]?).getD undef = v → w6.cell? ⟨ab, i, none⟩ = some v := fun i hi v hv => by
    rw [← hv, ← hf i hi]
    exact hr.cell (by omega)
  refine ⟨⟨cl 0 (by omega) _ rfl, cl 1 (by omega) _ rfl, cl 4 (by omega) _ rfl, cl 5 (by omega) _ rfl, cl 6 (by omega) _ rfl, cl 7 (by omega) _ rfl, fun i hi => k.cell_of (h.xs i hi) (by simpa using e1), fun i hi => k.cell_of (h.ys i hi) (by simpa using e4), fun hb => (by cases hb), fun _ => ⟨b3, b4, n + 1, m + 1, ?_, ?_, by omega, by omega, by omega, by omega, c3, c4⟩, ⟨g1, g2, e2, e3, e5, e6, g5⟩⟩,
    k.row h.rf (by simpa using Ne.symm g1), k.row h.rb (by simpa using Ne.symm g2), fun i j hi hj => k.cell_of (h.tp i j hi hj) (by simpa using k1), fun i j hi hj => k.cell_of (h.ts i j hi hj) (by simpa using k4), ⟨k2, k3, k5, k6⟩, fun i j hM => (shr_of bX hM).1, fun i j hM => (shr_of bX hM).2, ⟨h.ge.2.1, h.ge.2.2⟩, ?_⟩
  · rw [← h11]; exact hr.cell (by omega)
  · rw [← h12]; exact hr.cell (by omega)
  · exact (h.bl.below (Nat.le_refl _) (by simp)).trans (k.below h.bl.size (fun q hq => by simp at hq; subst hq; exact h.ge.1))
end Go.Proofs.Ybulkbptu
