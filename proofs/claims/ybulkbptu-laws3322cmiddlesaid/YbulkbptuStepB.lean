import Derived.Test.YbulkbptuStepF
namespace Go.Proofs.Ybulkbptu
open Go.ChangeShapes Go.WideShapes Go.ChangeAt Go.RowKit
set_option linter.unusedVariables false

def MI (M : Nat → Nat → Bool) (a b : Int) : Bool := decide (0 ≤ a) && decide (0 ≤ b) && M a.toNat b.toNat
/-- From x0 back up diagonal k as long as the elements before match. -/
def FollowB (M : Nat → Nat → Bool) (k x0 x1 : Int) : Prop := ∃ t : Nat, x1 = x0 - t ∧ (∀ s : Nat, s < t → MI M (x0 - s - 1) (x0 - s - k - 1) = true) ∧ MI M (x1 - 1) (x1 - k - 1) = false
def SteppedB (M : Nat → Nat → Bool) (k0 : Int) (o L : Nat) (F G : Nat → Int) : Prop :=
  (∀ j, j % 2 = 1 → j + 1 < L → FollowB M (k0 + j) (min (F (o + j - 1)) (F (o + j + 1) - 1)) (G (o + j))) ∧ (∀ i, (∀ j, j % 2 = 1 → j + 1 < L → i ≠ o + j) → G i = F i)
theorem SteppedB.zero (M : Nat → Nat → Bool) (k0 : Int) (o : Nat) (F : Nat → Int) : SteppedB M k0 o 1 F F := ⟨fun j _ h => by omega, fun i _ => rfl⟩
theorem SteppedB.next {M : Nat → Nat → Bool} {k0 : Int} {o j : Nat} {F G : Nat → Int} (h : SteppedB M k0 o j F G) (hj : j % 2 = 1) {v : Int} (hv : FollowB M (k0 + j) (min (F (o + j - 1)) (F (o + j + 1) - 1)) v) :
    SteppedB M k0 o (j + 2) F (fun i => if i = o + j then v else G i) := by
  refine ⟨fun q hq hl => ?_, fun i hi => ?_⟩
  · by_cases e : q = j
    · subst e
      simpa using hv
    · show FollowB M (k0 + q) _ (if o + q = o + j then v else G (o + q))
      rw [if_neg (by omega)]
      exact h.1 q hq (by omega)
  · show (if i = o + j then v else G i) = F i
    rw [if_neg (hi j hj (by omega))]
    exact h.2 i (fun q hq hl => hi q hq (by omega))
theorem wrap_u64_neg {x : Int} (h : x < 0) (h2 : -1000000000000 ≤ x) : IntKind.u64.wrap x = x + 18446744073709551616 := by
  simp [IntKind.wrap, IntKind.signed, IntKind.bits]
  omega
/-- The same in the reversed sequences. -/
theorem FollowB.turn {n m : Nat} {M : Nat → Nat → Bool} {k x0 x1 : Int} (h : FollowB M k x0 x1) (hx : x0 ≤ n) (hy : x0 - k ≤ m) : Follow (rev M n m) ((n : Int) - m - k) ((n : Int) - x0) ((n : Int) - x1) := by
  have one : ∀ z : Int, z ≤ n → z - k ≤ m → rev M n m ((n : Int) - z).toNat ((n : Int) - z - ((n : Int) - m - k)).toNat = MI M (z - 1) (z - k - 1) := by
    intro z h1 h2
    unfold rev MI
    by_cases c1 : 0 ≤ z - 1
    · have e1 : decide (((n : Int) - z).toNat < n) = true := decide_eq_true (by omega)
      have e1' : decide (0 ≤ z - 1) = true := decide_eq_true c1
      rw [e1, e1']
      by_cases c2 : 0 ≤ z - k - 1
      · have e2 : decide (((n : Int) - z - ((n : Int) - m - k)).toNat < m) = true := decide_eq_true (by omega)
        have e2' : decide (0 ≤ z - k - 1) = true := decide_eq_true c2
        rw [e2, e2', show n - 1 - ((n : Int) - z).toNat = (z - 1).toNat by omega, show m - 1 - ((n : Int) - z - ((n : Int) - m - k)).toNat = (z - k - 1).toNat by omega]
      · have e2 : decide (((n : Int) - z - ((n : Int) - m - k)).toNat < m) = false := decide_eq_false (by omega)
        have e2' : decide (0 ≤ z - k - 1) = false := decide_eq_false c2
        rw [e2, e2']
        rfl
    · have e1 : decide (((n : Int) - z).toNat < n) = false := decide_eq_false (by omega)
      have e1' : decide (0 ≤ z - 1) = false := decide_eq_false c1
      rw [e1, e1']
      rfl
  obtain ⟨t, e1, e2, e3⟩ := h
  refine ⟨t, by omega, fun s hs => ?_, ?_⟩
  · rw [show (n : Int) - x0 + s = (n : Int) - (x0 - s) by omega, one (x0 - s) (by omega) (by omega)]
    exact e2 s hs
  · rw [one x1 (by omega) (by omega)]
    exact e3

set_option maxRecDepth 100000 in
set_option maxHeartbeats 4000000 in
theorem stepB_any (bf N o L cf bx n cx b2 m cy : Nat) (F x y : Nat → Int) (k0 : Int) (w : World) (hrow : w.rowIs bf 3 N (fun i => .int .i64 (F i))) (hoL : o + L ≤ N) (hL : 3 ≤ L) (hLo : L % 2 = 1) (hN : N ≤ 10000) (hn : n ≤ 1000) (hm : m ≤ 1000) (hk : -5000 ≤ k0 ∧ k0 ≤ 5000)
    (hx : ∀ i, i < n → w.cell? ⟨bx, i, none⟩ = some (.int .i64 (x i))) (hy : ∀ i, i < m → w.cell? ⟨b2, i, none⟩ = some (.int .i64 (y i))) (h1 : bx ≠ bf) (h2 : b2 ≠ bf)
    (hF : ∀ i, -5000 ≤ F i ∧ F i ≤ 9223372036854775807) (hpos : ∀ j, j % 2 = 1 → j + 1 < L → min (F (o + j - 1)) (F (o + j + 1) - 1) ≤ n ∧ min (F (o + j - 1)) (F (o + j + 1) - 1) - (k0 + j) ≤ m ∧ -5000 ≤ min (F (o + j - 1)) (F (o + j + 1) - 1)) :
    Calls Yba.prog 21 #[.slice (some ⟨bf, o, none⟩) L cf, .int .i64 k0, .slice (some ⟨bx, 0, none⟩) n cx, .slice (some ⟨b2, 0, none⟩) m cy, .int .i64 0, .int .i64 0] w fun e w' => e = .returned (.tuple #[]) ∧ ∃ G, SteppedB (eqM n m x y) k0 o L F G ∧ w'.rowIs bf 3 N (fun i => .int .i64 (G i)) ∧ Wrote [bf] w w' := by
  have HX : Hid (∀ i, i < n → w.cell? ⟨bx, i, none⟩ = some (.int .i64 (x i))) := hx
  have HY : Hid (∀ i, i < m → w.cell? ⟨b2, i, none⟩ = some (.int .i64 (y i))) := hy
  have HF : Hid (∀ i, -5000 ≤ F i ∧ F i ≤ 9223372036854775807) := hF
  have HP : Hid (∀ j, j % 2 = 1 → j + 1 < L → min (F (o + j - 1)) (F (o + j + 1) - 1) ≤ n ∧ min (F (o + j - 1)) (F (o + j + 1) - 1) - (k0 + j) ≤ m ∧ -5000 ≤ min (F (o + j - 1)) (F (o + j + 1) - 1)) := hpos
  have HR : Hid (w.rowIs bf 3 N (fun i => .int .i64 (F i))) := hrow
  clear hx hy hF hpos hrow
  go_enter Yba.func21, Yba.ntmps21
  go_wp2
  go_loopg [12] (L - 1) (fun gk iv wr => ∃ j : Nat, j + gk = L ∧ iv = .int .i64 j ∧ j % 2 = 1 ∧ j ≤ L ∧ ∃ G, Hid (SteppedB (eqM n m x y) k0 o j F G ∧ wr.rowIs bf 3 N (fun i => .int .i64 (G i)) ∧ Wrote [bf] w wr))
  case atStart => exact ⟨1, by omega, rfl, by omega, by omega, F, SteppedB.zero _ _ _ _, HR.out, Wrote.refl _ _⟩
  case round =>
    obtain ⟨j, hj, rfl, hjo, hjL, G, HG⟩ := hrel
    have hjI : (j : Int) ≤ L := by omega
    by_cases hlt : j + 1 < L
    · have hlt' : (j : Int) < (L : Int) - 1 := by omega
      obtain ⟨p1, p2, p3⟩ := HP.out j hjo hlt
      have f1 : G (o + j - 1) = F (o + j - 1) := HG.out.1.2 _ (fun q hq _ => by omega)
      have f2 : G (o + j + 1) = F (o + j + 1) := HG.out.1.2 _ (fun q hq _ => by omega)
      have c1 : wr.cell? ⟨bf, o + (j - 1), none⟩ = some (.int .i64 (F (o + j - 1))) := by rw [← f1]; have := HG.out.2.1.cell (i := o + j - 1) (by omega); rw [← this, show o + (j - 1) = o + j - 1 by omega]
      have c2 : wr.cell? ⟨bf, o + (j + 1), none⟩ = some (.int .i64 (F (o + j + 1))) := by rw [← f2]; exact HG.out.2.1.cell (i := o + j + 1) (by omega)
      have g1 := HF.out (o + j - 1)
      have g2 := HF.out (o + j + 1)
      have hsub : (j : Int) - 1 = ((j - 1 : Nat) : Int) := by omega
      obtain ⟨a0, ha0⟩ : ∃ a0 : Int, min (F (o + j - 1)) (F (o + j + 1) - 1) = a0 := ⟨_, rfl⟩
      obtain ⟨bb0, hb0⟩ : ∃ bb0 : Int, a0 - (k0 + j) = bb0 := ⟨_, rfl⟩
      rw [ha0] at p1 p2 p3
      go_upto_region 3 with fail
      go_cut [13] from 24 to 35 (fun s13 wc => s13 = .int .i64 a0 ∧ ∃ q, wc = wr.drewN q)
      case first => as_aux_lemma =>
        clear f1 f2 hb0 p1 p2 HP
        go_quiet (fail)
        all_goals go_wp2
        all_goals go_meet
        all_goals (case rel => exact ⟨congrArg (Value.int .i64) (by omega), _, rfl⟩)
      case rest => as_aux_lemma =>
        obtain ⟨rfl, q, rfl⟩ := hcut
        have HG1 : Hid (SteppedB (eqM n m x y) k0 o j F G ∧ (wr.drewN q).rowIs bf 3 N (fun i => .int .i64 (G i)) ∧ Wrote [bf] w (wr.drewN q)) := ⟨HG.out.1, HG.out.2.1, HG.out.2.2.drewN _⟩
        have HA0 := Hid.mk' ha0
        clear HG c1 c2 f1 f2 ha0 g1 g2
        generalize wr.drewN q = w1 at *
        clear wr
        rw [hb0] at p2
        go_wp2
        try rw [hb0]
        have HB0 := Hid.mk' hb0
        clear hb0
        go_loopg [13, 14] (n + 1) (fun gk xv yv wr => ∃ (a b : Int) (t : Nat), t + gk = n + 1 ∧ xv = .int .i64 a ∧ yv = .int .i64 b ∧ Hid (a = a0 - t ∧ b = bb0 - t ∧ t ≤ n ∧ ∀ s : Nat, s < t → MI (eqM n m x y) (a0 - s - 1) (a0 - s - (k0 + j) - 1) = true) ∧ ∃ q, wr = w1.drewN q)
        case atStart => exact ⟨a0, bb0, 0, by omega, rfl, rfl, ⟨by omega, by omega, by omega, fun s hs => by omega⟩, 0, rfl⟩
        case round =>
          obtain ⟨a, b, t, ht, rfl, rfl, HT, q2, rfl⟩ := hrel
          have HTT := HT.out
          have hBB := HB0.out
          have ha5 : a ≤ n := by omega
          have hb5 : b ≤ m := by omega
          have ha6 : -20000 ≤ a := by omega
          have hb6 : -30000 ≤ b := by omega
          have wn : IntKind.u64.wrap (n : Int) = n := wrap_u64 (by omega) (by omega)
          have wm : IntKind.u64.wrap (m : Int) = m := wrap_u64 (by omega) (by omega)
          by_cases hM : MI (eqM n m x y) (a - 1) (b - 1) = true
          · have hM2 := hM
            simp only [MI, eqM, Bool.and_eq_true, decide_eq_true_eq] at hM2
            obtain ⟨⟨hap, hbp⟩, ⟨han, hbm⟩, hxy⟩ := hM2
            obtain ⟨p, hp⟩ : ∃ p : Nat, a = (p : Int) + 1 := ⟨(a - 1).toNat, by omega⟩
            obtain ⟨r, hr⟩ : ∃ r : Nat, b = (r : Int) + 1 := ⟨(b - 1).toNat, by omega⟩
            rw [show (a - 1).toNat = p by omega, show (b - 1).toNat = r by omega] at hxy
            have han' : (p : Int) < n := by omega
            have hbm' : (r : Int) < m := by omega
            have ca : w1.cell? ⟨bx, p, none⟩ = some (.int .i64 (x p)) := HG1.out.2.2.cell_of (HX.out p (by omega)) (by simpa using h1)
            have cb : w1.cell? ⟨b2, r, none⟩ = some (.int .i64 (x p)) := by rw [hxy]; exact HG1.out.2.2.cell_of (HY.out r (by omega)) (by simpa using h2)
            have HM := Hid.mk' hM
            clear HTT hBB hM hap hbp han hbm hxy
            subst hp hr
            have wa : IntKind.u64.wrap (p : Int) = p := wrap_u64 (by omega) (by omega)
            have wb : IntKind.u64.wrap (r : Int) = r := wrap_u64 (by omega) (by omega)
            have dn : decide (n ≤ p) = false := decide_eq_false (by omega)
            have dm : decide (m ≤ r) = false := decide_eq_false (by omega)
            go_wp2
            go_quiet (fail)
            go_wp2
            go_roundg (n + 1 - (t + 1))
            case measure => have HTT := HT.out; omega
            case rel =>
              have HTT := HT.out
              have hBB := HB0.out
              refine ⟨p, r, t + 1, by omega, by go_num, by go_num, ⟨by omega, by omega, by omega, fun s hs => ?_⟩, _, rfl⟩
              by_cases e : s = t
              · subst e
                have := HM.out
                rw [show (a0 : Int) - s - 1 = (p : Int) + 1 - 1 by omega, show (a0 : Int) - s - (k0 + j) - 1 = (r : Int) + 1 - 1 by omega]
                exact this
              · exact HTT.2.2.2 s (by omega)
          · have hfol : FollowB (eqM n m x y) (k0 + j) (min (F (o + j - 1)) (F (o + j + 1) - 1)) a := by
              rw [HA0.out]
              refine ⟨t, by omega, HTT.2.2.2, ?_⟩
              rw [show a - (k0 + j) - 1 = b - 1 by omega]
              simpa using hM
            have HFO := Hid.mk' hfol
            clear hfol HTT hBB
            go_upto_region 6 with fail
            go_cut [15, 16, 73] from 41 to 73 (fun s15 s16 s73 wc => s73 = .bool true ∧ ∃ q, wc = w1.drewN q)
            case first => as_aux_lemma =>
              by_cases han : 1 ≤ a
              · obtain ⟨p, hp⟩ : ∃ p : Nat, a = (p : Int) + 1 := ⟨(a - 1).toNat, by omega⟩
                have hpn : (p : Int) < n := by omega
                subst hp
                have wa : IntKind.u64.wrap (p : Int) = p := wrap_u64 (by omega) (by omega)
                have dn : decide (n ≤ p) = false := decide_eq_false (by omega)
                by_cases hbm : 1 ≤ b
                · obtain ⟨r, hr⟩ : ∃ r : Nat, b = (r : Int) + 1 := ⟨(b - 1).toNat, by omega⟩
                  have hrm : (r : Int) < m := by omega
                  subst hr
                  have wb : IntKind.u64.wrap (r : Int) = r := wrap_u64 (by omega) (by omega)
                  have dm : decide (m ≤ r) = false := decide_eq_false (by omega)
                  have hxy : (x p != y r) = true := by
                    have : ¬ (x p = y r) := fun e => hM (by
                      simp only [MI, eqM, Bool.and_eq_true, decide_eq_true_eq]
                      rw [show ((p : Int) + 1 - 1).toNat = p by omega, show ((r : Int) + 1 - 1).toNat = r by omega]
                      exact ⟨⟨by omega, by omega⟩, ⟨by omega, by omega⟩, e⟩)
                    simpa using this
                  have ca : w1.cell? ⟨bx, p, none⟩ = some (.int .i64 (x p)) := HG1.out.2.2.cell_of (HX.out p (by omega)) (by simpa using h1)
                  have cb : w1.cell? ⟨b2, r, none⟩ = some (.int .i64 (y r)) := HG1.out.2.2.cell_of (HY.out r (by omega)) (by simpa using h2)
                  clear hM
                  go_quiet (fail)
                  go_wp2
                  go_meet
                  case rel => first | exact ⟨rfl, _, rfl⟩ | exact ⟨rfl, _, World.drewN_drewN _ _ _⟩
                · have wb : IntKind.u64.wrap (b - 1) = b - 1 + 18446744073709551616 := wrap_u64_neg (by omega) (by omega)
                  have hge : (m : Int) ≤ b - 1 + 18446744073709551616 := by omega
                  clear hM
                  go_quiet (fail)
                  go_wp2
                  go_meet
                  case rel => first | exact ⟨rfl, _, rfl⟩ | exact ⟨rfl, _, World.drewN_drewN _ _ _⟩
              · have wa : IntKind.u64.wrap (a - 1) = a - 1 + 18446744073709551616 := wrap_u64_neg (by omega) (by omega)
                have hge : (n : Int) ≤ a - 1 + 18446744073709551616 := by omega
                clear hM
                go_quiet (fail)
                go_wp2
                go_meet
                case rel => first | exact ⟨rfl, _, rfl⟩ | exact ⟨rfl, _, World.drewN_drewN _ _ _⟩
            case rest => as_aux_lemma =>
              obtain ⟨rfl, q3, rfl⟩ := hcut
              have HG2 : Hid (SteppedB (eqM n m x y) k0 o j F G ∧ (w1.drewN q3).rowIs bf 3 N (fun i => .int .i64 (G i)) ∧ Wrote [bf] w (w1.drewN q3)) := ⟨HG1.out.1, HG1.out.2.1, HG1.out.2.2.drewN _⟩
              clear HG1
              generalize w1.drewN q3 = w2 at *
              have cj : w2.cell? ⟨bf, o + j, none⟩ = some (.int .i64 (G (o + j))) := HG2.out.2.1.cell (i := o + j) (by omega)
              have fj := HG2.out.2.1.frozen (o + j)
              go_wp2
              go_roundg (L - (j + 2))
              case measure => omega
              case rel => exact ⟨j + 2, by omega, by go_num, by omega, by omega, _, HG2.out.1.next hjo HFO.out, rowIs_setInt HG2.out.2.1 _ _, HG2.out.2.2.setCell (.inl (by simp)) _⟩
    · have hjL' : j = L := by omega
      have hlt' : ¬ ((j : Int) < (L : Int) - 1) := by omega
      go_wp2
      go_end0
      exact ⟨rfl, G, hjL' ▸ HG.out.1, HG.out.2.1, HG.out.2.2⟩
end Go.Proofs.Ybulkbptu
