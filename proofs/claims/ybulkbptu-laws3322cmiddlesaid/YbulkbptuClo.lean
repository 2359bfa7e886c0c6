import Derived.Test.YbulkbptuNarrow
namespace Go.Proofs.Ybulkbptu
open Go.ChangeShapes Go.WideShapes Go.ChangeAt Go.RowKit
set_option linter.unusedVariables false
theorem Al.drewN {ab bx b2 bf bb n m cx cy : Nat} {bd : Bool} {x y : Nat → Int} {px py : Nat → Nat} {w : World} (h : Al ab bx b2 bf bb n m cx cy bd x y px py w) (q : Nat) : Al ab bx b2 bf bb n m cx cy bd x y px py (w.drewN q) := h.wrote ((Wrote.refl _ _).drewN q)

/-- What the closure answers at the point (a, b). -/
def dropF (n m : Nat) (px py : Nat → Nat) (d dist : Int) (a b : Int) : Bool := decide (a ≤ n) && decide (b ≤ m) && decide (dist < d + fewZ px py a.toNat b.toNat n m)
set_option maxRecDepth 100000 in
set_option maxHeartbeats 4000000 in
theorem clo20_any (p1 p2 p3 p4 p5 p6 p7 ab bx b2 bf bb n m cx cy idx : Nat) (bd : Bool) (x y : Nat → Int) (px py : Nat → Nat) (k d dist a b : Int) (w : World) (hA : Al ab bx b2 bf bb n m cx cy bd x y px py w) (hn : n ≤ 1000) (hm : m ≤ 1000)
    (hx : ∀ i, px i ≤ i) (hy : ∀ i, py i ≤ i) (bd1 : 0 ≤ d ∧ d ≤ 5000) (bd2 : -5000 ≤ dist ∧ dist ≤ 5000) (ha : -5000 ≤ a ∧ a ≤ 5000) (hk : -5000 ≤ k ∧ k ≤ 5000) (hab : a - k = b) (hin : 0 ≤ a) (hin2 : 0 ≤ b) (hidx : k + ((m : Int) + 2) = (idx : Int)) (hid : idx < n + m + 5)
    (q1 : w.cell? ⟨p1, 0, none⟩ = some (.slice (some ⟨bf, 0, none⟩) (n + m + 5) (n + m + 5))) (q2 : w.cell? ⟨p2, 0, none⟩ = some (.int .i64 ((m : Int) + 2))) (q3 : w.cell? ⟨p3, 0, none⟩ = some (.int .i64 n)) (q4 : w.cell? ⟨p4, 0, none⟩ = some (.int .i64 m)) (q5 : w.cell? ⟨p5, 0, none⟩ = some (.int .i64 d)) (q6 : w.cell? ⟨p6, 0, none⟩ = some (.pointer (some ⟨ab, 0, none⟩))) (q7 : w.cell? ⟨p7, 0, none⟩ = some (.int .i64 dist))
    (hc : w.cell? ⟨bf, idx, none⟩ = some (.int .i64 a)) :
    Calls Yba.prog 20 #[.int .i64 k, .pointer (some ⟨p1, 0, none⟩), .pointer (some ⟨p2, 0, none⟩), .pointer (some ⟨p3, 0, none⟩), .pointer (some ⟨p4, 0, none⟩), .pointer (some ⟨p5, 0, none⟩), .pointer (some ⟨p6, 0, none⟩), .pointer (some ⟨p7, 0, none⟩)] w fun e w' => e = .returned (.bool (dropF n m px py d dist a b)) ∧ ∃ q, w' = w.drewN q := by
  have HA := Hid.mk' hA
  have HX := Hid.mk' hx
  have HY := Hid.mk' hy
  have hid' : (idx : Int) < ((n + m + 5 : Nat) : Int) := by omega
  clear hA hx hy
  go_enter Yba.func20, Yba.ntmps20
  go_upto_region 1 with fail
  go_cut [10, 11] from 12 to 25 (fun s10 s11 wc => s10 = .int .i64 a ∧ s11 = .int .i64 b ∧ ∃ q, wc = w.drewN q)
  case first => as_aux_lemma =>
    go_quiet (fail)
    go_wp2
    go_meet
    case rel => exact ⟨rfl, by first | rfl | rw [hab], _, rfl⟩
  case rest => as_aux_lemma =>
    obtain ⟨rfl, rfl, q, rfl⟩ := hcut
    have hb : -10000 ≤ b ∧ b ≤ 10000 := by omega
    clear hidx hid hid' hc q1 q2
    have HA1 := Hid.mk' (HA.out.drewN q)
    replace q3 : (w.drewN q).cell? ⟨p3, 0, none⟩ = _ := q3
    replace q4 : (w.drewN q).cell? ⟨p4, 0, none⟩ = _ := q4
    replace q5 : (w.drewN q).cell? ⟨p5, 0, none⟩ = _ := q5
    replace q6 : (w.drewN q).cell? ⟨p6, 0, none⟩ = _ := q6
    replace q7 : (w.drewN q).cell? ⟨p7, 0, none⟩ = _ := q7
    clear HA
    generalize hw1 : w.drewN q = w1 at *
    have HW1 := Hid.mk' hw1
    clear hw1
    by_cases c1 : a ≤ n
    · by_cases c2 : b ≤ m
      · obtain ⟨a', ha'⟩ : ∃ a' : Nat, a = (a' : Int) := ⟨a.toNat, by omega⟩
        obtain ⟨b', hb'⟩ : ∃ b' : Nat, b = (b' : Int) := ⟨b.toNat, by omega⟩
        have han : a' ≤ n := by omega
        have hbm : b' ≤ m := by omega
        clear hab
        subst ha' hb'
        have hf1 := HX.out
        have fb : -4000 ≤ fewZ px py a' b' n m ∧ fewZ px py a' b' n m ≤ 8000 := by
          have g1 := HX.out a'
          have g2 := HY.out b'
          have g3 := HX.out n
          have g4 := HY.out m
          unfold fewZ
          omega
        have hfe : fewZ px py ((a':Int)).toNat ((b':Int)).toNat n m = fewZ px py a' b' n m := by simp
        have g1 : decide (a' ≤ n) = true := decide_eq_true (by omega)
        have g2 : decide (b' ≤ m) = true := decide_eq_true (by omega)
        clear hf1
        by_cases c3 : dist < d + fewZ px py a' b' n m
        · go_wp2
          go_quiet ((go_at_call 17; exact Calls.quiet_of (fewest_any ab bx b2 bf bb n m cx cy bd x y px py a' b' n m _ (HA1.out.drewN _) hn hm (by omega) (by omega) (by omega) (by omega) HX.out HY.out)))
          go_wp2
          go_ret
          exact ⟨ret_bool (by unfold dropF; rw [decide_eq_true c1, decide_eq_true c2, hfe, decide_eq_true c3]; rfl), _, by rw [← HW1.out]; exact World.drewN_drewN _ _ _⟩
        · go_wp2
          go_quiet ((go_at_call 17; exact Calls.quiet_of (fewest_any ab bx b2 bf bb n m cx cy bd x y px py a' b' n m _ (HA1.out.drewN _) hn hm (by omega) (by omega) (by omega) (by omega) HX.out HY.out)))
          go_wp2
          go_ret
          exact ⟨ret_bool (by unfold dropF; rw [decide_eq_true c1, decide_eq_true c2, hfe]; simp), _, by rw [← HW1.out]; exact World.drewN_drewN _ _ _⟩
      · have c2' : decide (b ≤ m) = false := decide_eq_false c2
        go_wp2
        go_quiet (fail)
        go_wp2
        go_ret
        exact ⟨ret_bool (by unfold dropF; rw [c2']; simp), _, by rw [← HW1.out]; exact World.drewN_drewN _ _ _⟩
    · have c1' : decide (a ≤ n) = false := decide_eq_false c1
      go_wp2
      go_quiet (fail)
      go_wp2
      go_ret
      exact ⟨ret_bool (by unfold dropF; rw [c1']; simp), _, by rw [← HW1.out]; exact World.drewN_drewN _ _ _⟩

/-- What the closure answers at the point (a, b). -/
def dropB (n m : Nat) (px py : Nat → Nat) (d dist : Int) (a b : Int) : Bool := decide (0 ≤ a) && decide (0 ≤ b) && decide (dist < d + fewZ px py 0 0 a.toNat b.toNat)
set_option maxRecDepth 100000 in
set_option maxHeartbeats 4000000 in
theorem clo22_any (p1 p2 p3 p4 p5 p6 p7 ab bx b2 bf bb n m cx cy idx : Nat) (bd : Bool) (x y : Nat → Int) (px py : Nat → Nat) (k d dist a b : Int) (w : World) (hA : Al ab bx b2 bf bb n m cx cy bd x y px py w) (hn : n ≤ 1000) (hm : m ≤ 1000)
    (hx : ∀ i, px i ≤ i) (hy : ∀ i, py i ≤ i) (bd1 : 0 ≤ d ∧ d ≤ 5000) (bd2 : -5000 ≤ dist ∧ dist ≤ 5000) (ha : -5000 ≤ a ∧ a ≤ 5000) (hk : -5000 ≤ k ∧ k ≤ 5000) (hab : a - k = b) (hin : a ≤ n) (hin2 : b ≤ m) (hidx : k + ((m : Int) + 2) = (idx : Int)) (hid : idx < n + m + 5)
    (q1 : w.cell? ⟨p1, 0, none⟩ = some (.slice (some ⟨bb, 0, none⟩) (n + m + 5) (n + m + 5))) (q2 : w.cell? ⟨p2, 0, none⟩ = some (.int .i64 ((m : Int) + 2))) (q3 : w.cell? ⟨p3, 0, none⟩ = some (.int .i64 0)) (q4 : w.cell? ⟨p4, 0, none⟩ = some (.int .i64 0)) (q5 : w.cell? ⟨p5, 0, none⟩ = some (.int .i64 d)) (q6 : w.cell? ⟨p6, 0, none⟩ = some (.pointer (some ⟨ab, 0, none⟩))) (q7 : w.cell? ⟨p7, 0, none⟩ = some (.int .i64 dist))
    (hc : w.cell? ⟨bb, idx, none⟩ = some (.int .i64 a)) :
    Calls Yba.prog 22 #[.int .i64 k, .pointer (some ⟨p1, 0, none⟩), .pointer (some ⟨p2, 0, none⟩), .pointer (some ⟨p3, 0, none⟩), .pointer (some ⟨p4, 0, none⟩), .pointer (some ⟨p5, 0, none⟩), .pointer (some ⟨p6, 0, none⟩), .pointer (some ⟨p7, 0, none⟩)] w fun e w' => e = .returned (.bool (dropB n m px py d dist a b)) ∧ ∃ q, w' = w.drewN q := by
  have HA := Hid.mk' hA
  have HX := Hid.mk' hx
  have HY := Hid.mk' hy
  have hid' : (idx : Int) < ((n + m + 5 : Nat) : Int) := by omega
  clear hA hx hy
  go_enter Yba.func22, Yba.ntmps22
  go_upto_region 1 with fail
  go_cut [10, 11] from 12 to 25 (fun s10 s11 wc => s10 = .int .i64 a ∧ s11 = .int .i64 b ∧ ∃ q, wc = w.drewN q)
  case first => as_aux_lemma =>
    go_quiet (fail)
    go_wp2
    go_meet
    case rel => exact ⟨rfl, by first | rfl | rw [hab], _, rfl⟩
  case rest => as_aux_lemma =>
    obtain ⟨rfl, rfl, q, rfl⟩ := hcut
    have hb : -10000 ≤ b ∧ b ≤ 10000 := by omega
    clear hidx hid hid' hc q1 q2
    have HA1 := Hid.mk' (HA.out.drewN q)
    replace q3 : (w.drewN q).cell? ⟨p3, 0, none⟩ = _ := q3
    replace q4 : (w.drewN q).cell? ⟨p4, 0, none⟩ = _ := q4
    replace q5 : (w.drewN q).cell? ⟨p5, 0, none⟩ = _ := q5
    replace q6 : (w.drewN q).cell? ⟨p6, 0, none⟩ = _ := q6
    replace q7 : (w.drewN q).cell? ⟨p7, 0, none⟩ = _ := q7
    clear HA
    generalize hw1 : w.drewN q = w1 at *
    have HW1 := Hid.mk' hw1
    clear hw1
    by_cases c1 : 0 ≤ a
    · by_cases c2 : 0 ≤ b
      · obtain ⟨a', ha'⟩ : ∃ a' : Nat, a = (a' : Int) := ⟨a.toNat, by omega⟩
        obtain ⟨b', hb'⟩ : ∃ b' : Nat, b = (b' : Int) := ⟨b.toNat, by omega⟩
        have han : a' ≤ n := by omega
        have hbm : b' ≤ m := by omega
        clear hab
        subst ha' hb'
        have hf1 := HX.out
        have fb : -4000 ≤ fewZ px py 0 0 a' b' ∧ fewZ px py 0 0 a' b' ≤ 8000 := by
          have g1 := HX.out 0
          have g2 := HY.out 0
          have g3 := HX.out a'
          have g4 := HY.out b'
          unfold fewZ
          omega
        have hfe : fewZ px py 0 0 ((a':Int)).toNat ((b':Int)).toNat = fewZ px py 0 0 a' b' := by simp
        have g1 : decide ((0 : Int) ≤ (a' : Int)) = true := decide_eq_true (by omega)
        have g2 : decide ((0 : Int) ≤ (b' : Int)) = true := decide_eq_true (by omega)
        clear hf1
        by_cases c3 : dist < d + fewZ px py 0 0 a' b'
        · go_wp2
          go_quiet ((go_at_call 17; exact Calls.quiet_of (fewest_any ab bx b2 bf bb n m cx cy bd x y px py 0 0 a' b' _ (HA1.out.drewN _) hn hm (by omega) (by omega) (by omega) (by omega) HX.out HY.out)))
          go_wp2
          go_ret
          exact ⟨ret_bool (by unfold dropB; rw [decide_eq_true c1, decide_eq_true c2, hfe, decide_eq_true c3]; rfl), _, by rw [← HW1.out]; exact World.drewN_drewN _ _ _⟩
        · go_wp2
          go_quiet ((go_at_call 17; exact Calls.quiet_of (fewest_any ab bx b2 bf bb n m cx cy bd x y px py 0 0 a' b' _ (HA1.out.drewN _) hn hm (by omega) (by omega) (by omega) (by omega) HX.out HY.out)))
          go_wp2
          go_ret
          exact ⟨ret_bool (by unfold dropB; rw [decide_eq_true c1, decide_eq_true c2, hfe]; simp), _, by rw [← HW1.out]; exact World.drewN_drewN _ _ _⟩
      · have c2' : decide (0 ≤ b) = false := decide_eq_false c2
        go_wp2
        go_quiet (fail)
        go_wp2
        go_ret
        exact ⟨ret_bool (by unfold dropB; rw [c2']; simp), _, by rw [← HW1.out]; exact World.drewN_drewN _ _ _⟩
    · have c1' : decide (0 ≤ a) = false := decide_eq_false c1
      go_wp2
      go_quiet (fail)
      go_wp2
      go_ret
      exact ⟨ret_bool (by unfold dropB; rw [c1']; simp), _, by rw [← HW1.out]; exact World.drewN_drewN _ _ _⟩
end Go.Proofs.Ybulkbptu
