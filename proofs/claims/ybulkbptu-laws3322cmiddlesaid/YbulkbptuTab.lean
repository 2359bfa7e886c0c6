import Derived.Test.YbulkbptuSh
import Derived.BigQuiet
import Derived.Deep.QuietTactic
namespace Go.Proofs.Ybulkbptu
open Go.ChangeShapes Go.WideShapes Go.ChangeAt Go.RowKit
set_option linter.unusedVariables false
set_option linter.unusedSimpArgs false

theorem at2_lt {n m i j : Nat} (hi : i ≤ n) (hj : j ≤ m) : i * (m + 1) + j < (n + 1) * (m + 1) := by
  have h := Nat.mul_le_mul_right (m + 1) (show i + 1 ≤ n + 1 by omega)
  rw [Nat.succ_mul] at h
  omega
theorem at2_inj {m i j i' j' : Nat} (hj : j ≤ m) (hj' : j' ≤ m) (h : i * (m + 1) + j = i' * (m + 1) + j') : i = i' ∧ j = j' := by
  have key : ∀ {a b c d : Nat}, c ≤ m → d ≤ m → a < b → a * (m + 1) + c ≠ b * (m + 1) + d := fun {a b c d} hc hd hab e => by
    have h := Nat.mul_le_mul_right (m + 1) (show a + 1 ≤ b by omega)
    rw [Nat.succ_mul] at h
    omega
  have hi : i = i' := by
    rcases Nat.lt_trichotomy i i' with h1 | h1 | h1
    · exact absurd h (key hj hj' h1)
    · exact h1
    · exact absurd h.symm (key hj' hj h1)
  subst hi
  exact ⟨rfl, by omega⟩
theorem P_le_i (M : Nat → Nat → Bool) (i j : Nat) : P M i j ≤ i := by
  have h := P_le_cnt_i (M := M) (s := fun _ => true) (fun _ _ _ => rfl) i j
  rwa [cnt_all] at h
theorem P_pred {M : Nat → Nat → Bool} {i j : Nat} (hi : 1 ≤ i) (hj : 1 ≤ j) : P M i j = max (max (P M (i - 1) j) (P M i (j - 1))) (if M (i - 1) (j - 1) then P M (i - 1) (j - 1) + 1 else 0) := by
  obtain ⟨a, rfl⟩ : ∃ a, i = a + 1 := ⟨i - 1, by omega⟩
  obtain ⟨b, rfl⟩ : ∃ b, j = b + 1 := ⟨j - 1, by omega⟩
  exact P_succ a b
theorem P_revstep {M : Nat → Nat → Bool} {n m i j : Nat} (hi : i < n) (hj : j < m) : P (rev M n m) (n - i) (m - j) = max (max (P (rev M n m) (n - (i + 1)) (m - j)) (P (rev M n m) (n - i) (m - (j + 1)))) (if M i j then P (rev M n m) (n - (i + 1)) (m - (j + 1)) + 1 else 0) := by
  have h := P_pred (M := rev M n m) (i := n - i) (j := m - j) (by omega) (by omega)
  have e : rev M n m (n - (i + 1)) (m - (j + 1)) = M i j := by
    unfold rev
    rw [show n - 1 - (n - (i + 1)) = i by omega, show m - 1 - (m - (j + 1)) = j by omega, decide_eq_true (show n - (i + 1) < n by omega), decide_eq_true (show m - (j + 1) < m by omega)]
    simp
  rw [show n - i - 1 = n - (i + 1) by omega, show m - j - 1 = m - (j + 1) by omega, e] at h
  exact h

/-- The table of prefixes, filled up to (i, j). -/
def Tab (M : Nat → Nat → Bool) (n m i j : Nat) (G : Nat → Int) : Prop := ∀ a b, a ≤ n → b ≤ m → (a < i ∨ (a = i ∧ b < j) ∨ b = 0) → G (a * (m + 1) + b) = P M a b
theorem Tab.set {M : Nat → Nat → Bool} {n m i j : Nat} {G : Nat → Int} {v : Int} (h : Tab M n m i j G) (hj : j ≤ m) (hv : v = P M i j) : Tab M n m i (j + 1) (fun q => if q = i * (m + 1) + j then v else G q) := by
  intro a b ha hb hab
  show (if a * (m + 1) + b = i * (m + 1) + j then v else G (a * (m + 1) + b)) = _
  by_cases e : a * (m + 1) + b = i * (m + 1) + j
  · obtain ⟨rfl, rfl⟩ := at2_inj hb hj e
    rw [if_pos rfl, hv]
  · rw [if_neg e]
    refine h a b ha hb ?_
    rcases hab with h1 | ⟨h1, h2⟩ | h1
    · exact .inl h1
    · refine .inr (.inl ⟨h1, ?_⟩)
      rcases Nat.lt_or_ge b j with h3 | h3
      · exact h3
      · exact absurd (by rw [h1, show b = j by omega]) e
    · exact .inr (.inr h1)
theorem Tab.row {M : Nat → Nat → Bool} {n m i j : Nat} {G : Nat → Int} (h : Tab M n m i j G) (hj : m < j) : Tab M n m (i + 1) 1 G := by
  intro a b ha hb hab
  refine h a b ha hb ?_
  rcases hab with h1 | ⟨h1, h2⟩ | h1
  · rcases Nat.lt_or_ge a i with h3 | h3
    · exact .inl h3
    · exact .inr (.inl ⟨by omega, by omega⟩)
  · exact .inr (.inr (by omega))
  · exact .inr (.inr h1)
/-- The table of suffixes, filled down to behind (i, j). -/
def TabS (M : Nat → Nat → Bool) (n m : Nat) (i j : Int) (G : Nat → Int) : Prop := ∀ a b : Nat, a ≤ n → b ≤ m → (i < a ∨ ((a : Int) = i ∧ j < b) ∨ b = m) → G (a * (m + 1) + b) = P (rev M n m) (n - a) (m - b)
theorem TabS.set {M : Nat → Nat → Bool} {n m i j : Nat} {G : Nat → Int} {v : Int} (h : TabS M n m i j G) (hj : j ≤ m) (hv : v = P (rev M n m) (n - i) (m - j)) : TabS M n m i ((j : Int) - 1) (fun q => if q = i * (m + 1) + j then v else G q) := by
  intro a b ha hb hab
  show (if a * (m + 1) + b = i * (m + 1) + j then v else G (a * (m + 1) + b)) = _
  by_cases e : a * (m + 1) + b = i * (m + 1) + j
  · obtain ⟨rfl, rfl⟩ := at2_inj hb hj e
    rw [if_pos rfl, hv]
  · rw [if_neg e]
    refine h a b ha hb ?_
    rcases hab with h1 | ⟨h1, h2⟩ | h1
    · exact .inl h1
    · refine .inr (.inl ⟨h1, ?_⟩)
      rcases (by omega : (j : Int) < b ∨ (b : Int) ≤ j) with h3 | h3
      · exact h3
      · exact absurd (by rw [show a = i by omega, show b = j by omega]) e
    · exact .inr (.inr h1)
theorem TabS.row {M : Nat → Nat → Bool} {n m : Nat} {i j : Int} {G : Nat → Int} (h : TabS M n m i j G) (hj : j < 0) : TabS M n m (i - 1) ((m : Int) - 1) G := by
  intro a b ha hb hab
  refine h a b ha hb ?_
  rcases hab with h1 | ⟨h1, h2⟩ | h1
  · rcases (by omega : i < (a : Int) ∨ (a : Int) ≤ i) with h3 | h3
    · exact .inl h3
    · exact .inr (.inl ⟨by omega, by omega⟩)
  · exact .inr (.inr (by omega))
  · exact .inr (.inr h1)

set_option maxRecDepth 100000 in
set_option maxHeartbeats 8000000 in
theorem prefix_any (bx n cx b2 m cy N : Nat) (x y : Nat → Int) (w : World) (hn : n ≤ 400) (hm : m ≤ 400) (hN : N = (n + 1) * (m + 1))
    (hx : ∀ i, i < n → w.cell? ⟨bx, i, none⟩ = some (.int .i64 (x i))) (hy : ∀ i, i < m → w.cell? ⟨b2, i, none⟩ = some (.int .i64 (y i))) :
    Calls Yba.prog 9 #[.slice (some ⟨bx, 0, none⟩) n cx, .slice (some ⟨b2, 0, none⟩) m cy] w fun e w' => e = .returned (.slice (some ⟨w.heap.size, 0, none⟩) N N) ∧ (∀ i j, i ≤ n → j ≤ m → w'.cell? ⟨w.heap.size, i * (m + 1) + j, none⟩ = some (.int .i64 (P (eqM n m x y) i j : Nat))) ∧ Wrote [] w w' ∧ w.heap.size < w'.heap.size := by
  have HX := Hid.mk' hx
  have HY := Hid.mk' hy
  have hNb : N ≤ 1000000 := by
    rw [hN]
    exact Nat.le_trans (Nat.mul_le_mul (show n + 1 ≤ 1000 by omega) (show m + 1 ≤ 1000 by omega)) (by decide)
  have hNI : ((n : Int) + 1) * ((m : Int) + 1) = (N : Int) := by rw [hN]; simp
  have HN := Hid.mk' hN
  clear hx hy hN
  have mR := run_make_row' (P := Yba.prog) 22 3 (.int .i64 0) 8 Yba.underlying22 info3 rfl .i64 .i64 N (by omega) (by omega)
  go_enter Yba.func9, Yba.ntmps9
  go_wp2
  clear mR hNI
  go_loopg [8] n (fun gk s8 wr => ∃ i : Nat, i + gk = n + 1 ∧ s8 = .int .i64 i ∧ 1 ≤ i ∧ ∃ G, Hid (Tab (eqM n m x y) n m i 1 G ∧ wr.rowIs w.heap.size 3 N (fun q => .int .i64 (G q)) ∧ Wrote [] w wr))
  case atStart =>
    refine ⟨1, by omega, rfl, by omega, fun _ => 0, fun a b ha hb hab => ?_, World.rowIs_made _ _ _ _, (Wrote.refl _ _).alloc _⟩
    rcases hab with h | ⟨h1, h2⟩ | h
    · rw [show a = 0 by omega]; simp [P_left]
    · rw [show b = 0 by omega]; simp [P_right]
    · rw [h]; simp [P_right]
  case round =>
    obtain ⟨i, hi, rfl, hi1, G0, HG0⟩ := hrel
    by_cases hlt : i ≤ n
    · have hlt' : (i : Int) ≤ n := by omega
      obtain ⟨r0, hr0⟩ : ∃ r0 : Nat, r0 = (i - 1) * (m + 1) := ⟨_, rfl⟩
      obtain ⟨r1, hr1⟩ : ∃ r1 : Nat, r1 = i * (m + 1) := ⟨_, rfl⟩
      have hmul1 : ((i : Int) - 1) * ((m : Int) + 1) = (r0 : Int) := by
        rw [hr0, show (i : Int) - 1 = ((i - 1 : Nat) : Int) by omega]
        simp
      have hmul2 : (i : Int) * ((m : Int) + 1) = (r1 : Int) := by rw [hr1]; simp
      have HR0 := Hid.mk' hr0
      have HR1 := Hid.mk' hr1
      clear hr0 hr1
      go_wp2
      go_loopg [9] m (fun gk s9 wr2 => ∃ j : Nat, j + gk = m + 1 ∧ s9 = .int .i64 j ∧ 1 ≤ j ∧ ∃ G, Hid (Tab (eqM n m x y) n m i j G ∧ wr2.rowIs w.heap.size 3 N (fun q => .int .i64 (G q)) ∧ Wrote [] w wr2))
      case atStart => exact ⟨1, by omega, rfl, by omega, G0, HG0.out⟩
      case round =>
        obtain ⟨j, hj, rfl, hj1, G, HG⟩ := hrel
        clear HG0
        rename World => wq
        by_cases hlj : j ≤ m
        · have hlj' : (j : Int) ≤ m := by omega
          have hb1 : r0 + j < N := by rw [HR0.out, HN.out]; exact at2_lt (by omega) hlj
          have hb2 : r1 + j < N := by rw [HR1.out, HN.out]; exact at2_lt (by omega) hlj
          obtain ⟨A, hA⟩ : ∃ A : Nat, A = P (eqM n m x y) (i - 1) j := ⟨_, rfl⟩
          obtain ⟨B, hB⟩ : ∃ B : Nat, B = P (eqM n m x y) i (j - 1) := ⟨_, rfl⟩
          obtain ⟨C, hC⟩ : ∃ C : Nat, C = P (eqM n m x y) (i - 1) (j - 1) := ⟨_, rfl⟩
          have hA' : A ≤ 1000 := by have := P_le_i (eqM n m x y) (i - 1) j; omega
          have hB' : B ≤ 1000 := by have := P_le_i (eqM n m x y) i (j - 1); omega
          have hC' : C ≤ 1000 := by have := P_le_i (eqM n m x y) (i - 1) (j - 1); omega
          have hP := P_pred (M := eqM n m x y) hi1 hj1
          rw [← hA, ← hB, ← hC] at hP
          obtain ⟨q1, e1⟩ : ∃ q1 : Nat, (r0 : Int) + j = q1 := ⟨r0 + j, by omega⟩
          obtain ⟨q3, e3⟩ : ∃ q3 : Nat, (q1 : Int) - 1 = q3 := ⟨q1 - 1, by omega⟩
          obtain ⟨q4, e4⟩ : ∃ q4 : Nat, (r1 : Int) + j = q4 := ⟨r1 + j, by omega⟩
          obtain ⟨q2, e2⟩ : ∃ q2 : Nat, (q4 : Int) - 1 = q2 := ⟨q4 - 1, by omega⟩
          have hq1 : (q1 : Int) < N := by omega
          have hq2 : (q2 : Int) < N := by omega
          have hq3 : (q3 : Int) < N := by omega
          have hq4 : (q4 : Int) < N := by omega
          have c1 : wq.cell? ⟨w.heap.size, q1, none⟩ = some (.int .i64 A) := by
            rw [HG.out.2.1.cell (i := q1) (by omega), show q1 = (i - 1) * (m + 1) + j by rw [← HR0.out]; omega]
            show some (Value.int .i64 (G _)) = _
            rw [HG.out.1 (i - 1) j (by omega) hlj (by omega), hA]
          have c2 : wq.cell? ⟨w.heap.size, q2, none⟩ = some (.int .i64 B) := by
            rw [HG.out.2.1.cell (i := q2) (by omega), show q2 = i * (m + 1) + (j - 1) by rw [← HR1.out]; omega]
            show some (Value.int .i64 (G _)) = _
            rw [HG.out.1 i (j - 1) (by omega) (by omega) (by omega), hB]
          have c3 : wq.cell? ⟨w.heap.size, q3, none⟩ = some (.int .i64 C) := by
            rw [HG.out.2.1.cell (i := q3) (by omega), show q3 = (i - 1) * (m + 1) + (j - 1) by rw [← HR0.out]; omega]
            show some (Value.int .i64 (G _)) = _
            rw [HG.out.1 (i - 1) (j - 1) (by omega) (by omega) (by omega), hC]
          have c4 := HG.out.2.1.cell (i := q4) (by omega)
          have f4 := HG.out.2.1.frozen q4
          have hEQ : Hid (q4 = i * (m + 1) + j) := by show q4 = _; rw [← HR1.out]; omega
          obtain ⟨a, ha⟩ : ∃ a : Nat, (i : Int) - 1 = a := ⟨i - 1, by omega⟩
          obtain ⟨b, hb⟩ : ∃ b : Nat, (j : Int) - 1 = b := ⟨j - 1, by omega⟩
          have hmul1' : (a : Int) * ((m : Int) + 1) = (r0 : Int) := by rw [← ha]; exact hmul1
          have han : (a : Int) < n := by omega
          have hbm : (b : Int) < m := by omega
          have cx' : wq.cell? ⟨bx, a, none⟩ = some (.int .i64 (x a)) := HG.out.2.2.cell_of (HX.out a (by omega)) (by simp)
          have cy' : wq.cell? ⟨b2, b, none⟩ = some (.int .i64 (y b)) := HG.out.2.2.cell_of (HY.out b (by omega)) (by simp)
          have hMe : eqM n m x y (i - 1) (j - 1) = decide (x a = y b) := by
            rw [show i - 1 = a by omega, show j - 1 = b by omega]
            unfold eqM
            rw [decide_eq_true (show a < n by omega), decide_eq_true (show b < m by omega)]
            simp
          rw [hMe] at hP
          clear hMe hA hB hC
          by_cases hxy : x a = y b
          · have hP' : Hid ((P (eqM n m x y) i j : Nat) = max (max A B) (C + 1)) := by show _ = _; rw [hP, decide_eq_true hxy]; simp
            have hxb : (x a == y b) = true := by simpa using hxy
            clear hP hxy
            go_wp2
            all_goals go_quiet (fail)
            all_goals go_wp2
            all_goals
              go_roundg (m + 1 - (j + 1))
              case measure => omega
              case rel => exact ⟨j + 1, by omega, by go_num, by omega, _, hEQ.out ▸ HG.out.1.set hlj (by have := hP'.out; omega), rowIs_setInt (rowIs_drewN HG.out.2.1 _) _ _, (HG.out.2.2.drewN _).setCell (.inr (Nat.le_refl _)) _⟩
          · have hP' : Hid ((P (eqM n m x y) i j : Nat) = max A B) := by show _ = _; rw [hP, decide_eq_false hxy]; simp
            have hxb : (x a == y b) = false := by simpa using hxy
            clear hP hxy
            go_wp2
            all_goals go_quiet (fail)
            all_goals go_wp2
            all_goals
              go_roundg (m + 1 - (j + 1))
              case measure => omega
              case rel => exact ⟨j + 1, by omega, by go_num, by omega, _, hEQ.out ▸ HG.out.1.set hlj (by have := hP'.out; omega), rowIs_setInt (rowIs_drewN HG.out.2.1 _) _ _, (HG.out.2.2.drewN _).setCell (.inr (Nat.le_refl _)) _⟩
        · have hlj' : ¬ (j : Int) ≤ m := by omega
          go_wp2
          go_roundg (n + 1 - (i + 1))
          case measure => omega
          case rel => exact ⟨i + 1, by omega, by go_num, by omega, G, HG.out.1.row (by omega), HG.out.2.1, HG.out.2.2⟩
    · have hlt' : ¬ (i : Int) ≤ n := by omega
      go_wp2
      go_ret
      refine ⟨rfl, fun a b ha hb => ?_, HG0.out.2.2, HG0.out.2.1.lt⟩
      rw [HG0.out.2.1.cell (by rw [HN.out]; exact at2_lt ha hb)]
      show some (Value.int .i64 (G0 _)) = _
      rw [HG0.out.1 a b ha hb (by omega)]

set_option maxRecDepth 100000 in
set_option maxHeartbeats 8000000 in
theorem suffix_any (bx n cx b2 m cy N : Nat) (x y : Nat → Int) (w : World) (hn : n ≤ 400) (hm : m ≤ 400) (hN : N = (n + 1) * (m + 1))
    (hx : ∀ i, i < n → w.cell? ⟨bx, i, none⟩ = some (.int .i64 (x i))) (hy : ∀ i, i < m → w.cell? ⟨b2, i, none⟩ = some (.int .i64 (y i))) :
    Calls Yba.prog 10 #[.slice (some ⟨bx, 0, none⟩) n cx, .slice (some ⟨b2, 0, none⟩) m cy] w fun e w' => e = .returned (.slice (some ⟨w.heap.size, 0, none⟩) N N) ∧ (∀ i j, i ≤ n → j ≤ m → w'.cell? ⟨w.heap.size, i * (m + 1) + j, none⟩ = some (.int .i64 (P (rev (eqM n m x y) n m) (n - i) (m - j) : Nat))) ∧ Wrote [] w w' ∧ w.heap.size < w'.heap.size := by
  have HX := Hid.mk' hx
  have HY := Hid.mk' hy
  have hNb : N ≤ 1000000 := by
    rw [hN]
    exact Nat.le_trans (Nat.mul_le_mul (show n + 1 ≤ 1000 by omega) (show m + 1 ≤ 1000 by omega)) (by decide)
  have hNI : ((n : Int) + 1) * ((m : Int) + 1) = (N : Int) := by rw [hN]; simp
  have HN := Hid.mk' hN
  clear hx hy hN
  have mR := run_make_row' (P := Yba.prog) 22 3 (.int .i64 0) 8 Yba.underlying22 info3 rfl .i64 .i64 N (by omega) (by omega)
  go_enter Yba.func10, Yba.ntmps10
  go_wp2
  clear mR hNI
  go_loopg [8] n (fun gk s8 wr => ∃ i : Int, Hid (i + 1 = (gk : Int)) ∧ s8 = .int .i64 i ∧ i < n ∧ ∃ G, Hid (TabS (eqM n m x y) n m i ((m : Int) - 1) G ∧ wr.rowIs w.heap.size 3 N (fun q => .int .i64 (G q)) ∧ Wrote [] w wr))
  case atStart =>
    refine ⟨(n : Int) - 1, Hid.mk' (by omega), rfl, by omega, fun _ => 0, fun a b ha hb hab => ?_, World.rowIs_made _ _ _ _, (Wrote.refl _ _).alloc _⟩
    rcases hab with h | ⟨h1, h2⟩ | h
    · rw [show n - a = 0 by omega]; simp [P_left]
    · rw [show m - b = 0 by omega]; simp [P_right]
    · rw [show m - b = 0 by omega]; simp [P_right]
  case round =>
    obtain ⟨i, hi, rfl, hin, G0, HG0⟩ := hrel
    have hi0 : -1 ≤ i := by have := hi.out; omega
    by_cases hlt : 0 ≤ i
    · obtain ⟨a, rfl⟩ : ∃ a : Nat, i = a := ⟨i.toNat, by omega⟩
      obtain ⟨r0, hr0⟩ : ∃ r0 : Nat, r0 = (a + 1) * (m + 1) := ⟨_, rfl⟩
      obtain ⟨r1, hr1⟩ : ∃ r1 : Nat, r1 = a * (m + 1) := ⟨_, rfl⟩
      have HR01 : Hid (r0 = r1 + (m + 1)) := by show r0 = _; rw [hr0, hr1, ← Nat.succ_mul]
      have hmul1 : ((a : Int) + 1) * ((m : Int) + 1) = (r0 : Int) := by rw [hr0]; simp
      have hmul2 : (a : Int) * ((m : Int) + 1) = (r1 : Int) := by rw [hr1]; simp
      have HR0 := Hid.mk' hr0
      have HR1 := Hid.mk' hr1
      clear hr0 hr1
      go_wp2
      go_loopg [9] m (fun gk s9 wr2 => ∃ j : Int, Hid (j + 1 = (gk : Int)) ∧ s9 = .int .i64 j ∧ j < m ∧ ∃ G, Hid (TabS (eqM n m x y) n m a j G ∧ wr2.rowIs w.heap.size 3 N (fun q => .int .i64 (G q)) ∧ Wrote [] w wr2))
      case atStart => exact ⟨(m : Int) - 1, Hid.mk' (by omega), rfl, by omega, G0, HG0.out⟩
      case round =>
        obtain ⟨j, hj, rfl, hjm, G, HG⟩ := hrel
        have hj0 : -1 ≤ j := by have := hj.out; omega
        clear HG0
        rename World => wq
        by_cases hlj : 0 ≤ j
        · obtain ⟨b, rfl⟩ : ∃ b : Nat, j = b := ⟨j.toNat, by omega⟩
          have hb1 : r0 + b + 1 < N := by
            have := at2_lt (n := n) (m := m) (i := a + 1) (j := b + 1) (by omega) (by omega)
            rw [← HR0.out, ← HN.out] at this
            omega
          obtain ⟨A, hA⟩ : ∃ A : Nat, A = P (rev (eqM n m x y) n m) (n - (a + 1)) (m - b) := ⟨_, rfl⟩
          obtain ⟨B, hB⟩ : ∃ B : Nat, B = P (rev (eqM n m x y) n m) (n - a) (m - (b + 1)) := ⟨_, rfl⟩
          obtain ⟨C, hC⟩ : ∃ C : Nat, C = P (rev (eqM n m x y) n m) (n - (a + 1)) (m - (b + 1)) := ⟨_, rfl⟩
          have hA' : A ≤ 1000 := by have := P_le_i (rev (eqM n m x y) n m) (n - (a + 1)) (m - b); omega
          have hB' : B ≤ 1000 := by have := P_le_i (rev (eqM n m x y) n m) (n - a) (m - (b + 1)); omega
          have hC' : C ≤ 1000 := by have := P_le_i (rev (eqM n m x y) n m) (n - (a + 1)) (m - (b + 1)); omega
          have hP := P_revstep (M := eqM n m x y) (n := n) (m := m) (i := a) (j := b) (by omega) (by omega)
          rw [← hA, ← hB, ← hC] at hP
          have hr01 := HR01.out
          obtain ⟨q1, e1⟩ : ∃ q1 : Nat, (r0 : Int) + b = q1 := ⟨r0 + b, by omega⟩
          obtain ⟨q3, e3⟩ : ∃ q3 : Nat, (q1 : Int) + 1 = q3 := ⟨q1 + 1, by omega⟩
          obtain ⟨q4, e4⟩ : ∃ q4 : Nat, (r1 : Int) + b = q4 := ⟨r1 + b, by omega⟩
          obtain ⟨q2, e2⟩ : ∃ q2 : Nat, (q4 : Int) + 1 = q2 := ⟨q4 + 1, by omega⟩
          have hq1 : (q1 : Int) < N := by omega
          have hq2 : (q2 : Int) < N := by omega
          have hq3 : (q3 : Int) < N := by omega
          have hq4 : (q4 : Int) < N := by omega
          have c1 : wq.cell? ⟨w.heap.size, q1, none⟩ = some (.int .i64 A) := by
            rw [HG.out.2.1.cell (i := q1) (by omega), show q1 = (a + 1) * (m + 1) + b by rw [← HR0.out]; omega]
            show some (Value.int .i64 (G _)) = _
            rw [HG.out.1 (a + 1) b (by omega) (by omega) (by omega), hA]
          have c2 : wq.cell? ⟨w.heap.size, q2, none⟩ = some (.int .i64 B) := by
            rw [HG.out.2.1.cell (i := q2) (by omega), show q2 = a * (m + 1) + (b + 1) by rw [← HR1.out]; omega]
            show some (Value.int .i64 (G _)) = _
            rw [HG.out.1 a (b + 1) (by omega) (by omega) (by omega), hB]
          have c3 : wq.cell? ⟨w.heap.size, q3, none⟩ = some (.int .i64 C) := by
            rw [HG.out.2.1.cell (i := q3) (by omega), show q3 = (a + 1) * (m + 1) + (b + 1) by rw [← HR0.out]; omega]
            show some (Value.int .i64 (G _)) = _
            rw [HG.out.1 (a + 1) (b + 1) (by omega) (by omega) (by omega), hC]
          have c4 := HG.out.2.1.cell (i := q4) (by omega)
          have f4 := HG.out.2.1.frozen q4
          have hEQ : Hid (q4 = a * (m + 1) + b) := by show q4 = _; rw [← HR1.out]; omega
          clear hr01
          have han : (a : Int) < n := by omega
          have hbm : (b : Int) < m := by omega
          have cx' : wq.cell? ⟨bx, a, none⟩ = some (.int .i64 (x a)) := HG.out.2.2.cell_of (HX.out a (by omega)) (by simp)
          have cy' : wq.cell? ⟨b2, b, none⟩ = some (.int .i64 (y b)) := HG.out.2.2.cell_of (HY.out b (by omega)) (by simp)
          have hMe : eqM n m x y a b = decide (x a = y b) := by
            unfold eqM
            rw [decide_eq_true (show a < n by omega), decide_eq_true (show b < m by omega)]
            simp
          rw [hMe] at hP
          clear hMe hA hB hC
          by_cases hxy : x a = y b
          · have hP' : Hid ((P (rev (eqM n m x y) n m) (n - a) (m - b) : Nat) = max (max A B) (C + 1)) := by show _ = _; rw [hP, decide_eq_true hxy]; simp
            have hxb : (x a == y b) = true := by simpa using hxy
            clear hP hxy
            go_wp2
            all_goals go_quiet (fail)
            all_goals go_wp2
            all_goals
              go_roundg b
              case measure => have := hj.out; omega
              case rel => exact ⟨(b : Int) - 1, Hid.mk' (by omega), by go_num, by omega, _, hEQ.out ▸ HG.out.1.set (by omega) (by have := hP'.out; omega), rowIs_setInt (rowIs_drewN HG.out.2.1 _) _ _, (HG.out.2.2.drewN _).setCell (.inr (Nat.le_refl _)) _⟩
          · have hP' : Hid ((P (rev (eqM n m x y) n m) (n - a) (m - b) : Nat) = max A B) := by show _ = _; rw [hP, decide_eq_false hxy]; simp
            have hxb : (x a == y b) = false := by simpa using hxy
            clear hP hxy
            go_wp2
            all_goals go_quiet (fail)
            all_goals go_wp2
            all_goals
              go_roundg b
              case measure => have := hj.out; omega
              case rel => exact ⟨(b : Int) - 1, Hid.mk' (by omega), by go_num, by omega, _, hEQ.out ▸ HG.out.1.set (by omega) (by have := hP'.out; omega), rowIs_setInt (rowIs_drewN HG.out.2.1 _) _ _, (HG.out.2.2.drewN _).setCell (.inr (Nat.le_refl _)) _⟩
        · have hlj' : ¬ (0 : Int) ≤ j := hlj
          go_wp2
          go_roundg a
          case measure => have := hi.out; omega
          case rel => exact ⟨(a : Int) - 1, Hid.mk' (by omega), by go_num, by omega, G, HG.out.1.row (by omega), HG.out.2.1, HG.out.2.2⟩
    · have hlt' : ¬ (0 : Int) ≤ i := hlt
      go_wp2
      go_ret
      refine ⟨rfl, fun a b ha hb => ?_, HG0.out.2.2, HG0.out.2.1.lt⟩
      rw [HG0.out.2.1.cell (by rw [HN.out]; exact at2_lt ha hb)]
      show some (Value.int .i64 (G0 _)) = _
      rw [HG0.out.1 a b ha hb (by omega)]
end Go.Proofs.Ybulkbptu
