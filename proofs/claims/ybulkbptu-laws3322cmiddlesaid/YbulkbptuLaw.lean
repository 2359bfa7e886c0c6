import Derived.Test.YbulkbptuParts
import Derived.Test.YbulkbptuMiddle
namespace Go.Proofs.Ybulkbptu
open Go.ChangeShapes Go.WideShapes Go.ChangeAt Go.RowKit
set_option linter.unusedVariables false
set_option linter.unusedSimpArgs false

theorem ne_first {n m : Nat} {r0 r1 : Nat → Int} {l0 l1 : Nat} (hn : n = l0 + 2) (hm : m = l1 + 2) : eqM n m (bz r0 l0 10 12) (bz r1 l1 11 13) 0 0 = false := by
  have : ¬ (bz r0 l0 10 12 0 = bz r1 l1 11 13 0) := by simp [bz]
  simp [eqM, this]
theorem ne_last {n m : Nat} {r0 r1 : Nat → Int} {l0 l1 : Nat} (hn : n = l0 + 2) (hm : m = l1 + 2) : rev (eqM n m (bz r0 l0 10 12) (bz r1 l1 11 13)) n m 0 0 = false := by
  have h1 : bz r0 l0 10 12 (n - 1) = 12 := by unfold bz; rw [if_neg (by omega), if_neg (by omega)]
  have h2 : bz r1 l1 11 13 (m - 1) = 13 := by unfold bz; rw [if_neg (by omega), if_neg (by omega)]
  simp [rev, eqM, h1, h2]

set_option maxRecDepth 100000 in
set_option maxHeartbeats 8000000 in
theorem law_any (a0 : Option Addr) (len0 cap0 : Nat) (a1 : Option Addr) (len1 cap1 : Nat) (r0 r1 : Nat → Int) (a2 a3 : Bool) (w : World)
    (hr0 : ∀ i, i < len0 → ∃ ad, a0 = some ad ∧ w.cell? (ad.add i) = some (.int .u8 (r0 i)) ∧ 0 ≤ r0 i ∧ r0 i ≤ 255) (hr1 : ∀ i, i < len1 → ∃ ad, a1 = some ad ∧ w.cell? (ad.add i) = some (.int .u8 (r1 i)) ∧ 0 ≤ r1 i ∧ r1 i ≤ 255) :
    Calls Yba.prog 4 #[.slice a0 len0 cap0, .slice a1 len1 cap1, .bool a2, .bool a3] w fun e w' => e = .returned (.bool true) ∧ Below w.heap.size w w' := by
  by_cases hl0 : 300 < len0
  · have hl0' : (300 : Int) < len0 := by omega
    clear hr0 hr1
    go_enter Yba.func4, Yba.ntmps4
    go_wp2
    go_ret
    exact ⟨rfl, Below.refl _ _⟩
  · have hl0' : ¬ (300 : Int) < len0 := by omega
    by_cases hl1 : 300 < len1
    · have hl1' : (300 : Int) < len1 := by omega
      clear hr0 hr1
      go_enter Yba.func4, Yba.ntmps4
      go_wp2
      go_ret
      exact ⟨rfl, Below.refl _ _⟩
    · have hl1' : ¬ (300 : Int) < len1 := by omega
      obtain ⟨n, hn⟩ : ∃ n : Nat, n = len0 + 2 := ⟨_, rfl⟩
      obtain ⟨m, hm⟩ : ∃ m : Nat, m = len1 + 2 := ⟨_, rfl⟩
      obtain ⟨x, hx⟩ : ∃ x : Nat → Int, x = bz r0 len0 10 12 := ⟨_, rfl⟩
      obtain ⟨y, hy⟩ : ∃ y : Nat → Int, y = bz r1 len1 11 13 := ⟨_, rfl⟩
      have BX : Hid (∀ i, 0 ≤ x i ∧ x i ≤ 13) := fun i => by rw [hx]; exact bz_bounds (by omega) (by omega) i
      have BY : Hid (∀ i, 0 ≤ y i ∧ y i ≤ 13) := fun i => by rw [hy]; exact bz_bounds (by omega) (by omega) i
      have H0 : Hid (eqM n m x y 0 0 = false) := by show _ = _; rw [hx, hy]; exact ne_first hn hm
      have H9 : Hid (rev (eqM n m x y) n m 0 0 = false) := by show _ = _; rw [hx, hy]; exact ne_last hn hm
      have KX : Hid (Calls Yba.prog 7 #[.slice a0 len0 cap0, .int .i64 10, .int .i64 12] w fun e w' => ∃ b, e = .returned (.slice (some ⟨b, 0, none⟩) n n) ∧ Hid (Bld b n x w w')) := by
        rw [hx]
        exact build_bz a0 len0 cap0 n r0 10 12 w (by omega) hn hr0
      have KY : Hid (∀ wA, Wrote [] w wA → Calls Yba.prog 7 #[.slice a1 len1 cap1, .int .i64 11, .int .i64 13] wA fun e w' => ∃ b, e = .returned (.slice (some ⟨b, 0, none⟩) m m) ∧ Hid (Bld b m y wA w')) := by
        intro wA k
        rw [hy]
        exact build_bz a1 len1 cap1 m r1 11 13 wA (by omega) hm (fun i hi => by
          obtain ⟨ad, e1, e2, e3⟩ := hr1 i hi
          exact ⟨ad, e1, k.cell_of e2 (by simp), e3⟩)
      have hnb : 2 ≤ n ∧ n ≤ 302 := by omega
      have hmb : 2 ≤ m ∧ m ≤ 302 := by omega
      obtain ⟨N, hN⟩ : ∃ N : Nat, N = (n + 1) * (m + 1) := ⟨_, rfl⟩
      have hNb : N ≤ 1000000 := by
        rw [hN]
        exact Nat.le_trans (Nat.mul_le_mul (show n + 1 ≤ 1000 by omega) (show m + 1 ≤ 1000 by omega)) (by decide)
      have HN := Hid.mk' hN
      clear hx hy hn hm hr0 hr1 hN
      obtain ⟨pn, hpn⟩ : ∃ pn : Nat, pn = P (eqM n m x y) n m := ⟨_, rfl⟩
      obtain ⟨D, hD⟩ : ∃ D : Int, D = Di (eqM n m x y) n m := ⟨_, rfl⟩
      have hpb : pn ≤ n := by rw [hpn]; exact P_le_i _ _ _
      have hDp : Hid (D = (n : Int) + m - 2 * pn) := by show D = _; rw [hD, hpn]; rfl
      have hDb : -2000 ≤ D ∧ D ≤ 2000 := by have := hDp.out; omega
      have hD0 : 0 ≤ D := by
        have b := P_le_cnt_j (M := eqM n m x y) (s := fun _ => true) (fun _ _ _ => rfl) n m
        rw [cnt_all] at b
        have := hDp.out
        omega
      have HPN := Hid.mk' hpn
      have HD := Hid.mk' hD
      clear hpn hD
      go_enter Yba.func4, Yba.ntmps4
      go_wp2_with fail
      refine KX.out.mono ?_
      rintro e wA ⟨bx, rfl, HA⟩
      clear KX
      go_wp2_with fail
      refine (KY.out wA HA.out.wr).mono ?_
      rintro e wB ⟨b2, rfl, HB⟩
      clear KY
      go_wp2_with fail
      refine (new_any bx n n b2 m m (!a2) wB (by omega) (by omega)).mono ?_
      rintro e wC ⟨ab, bf, bb, b5, b6, rfl, hc0⟩
      have HC := Hid.mk' hc0
      clear hc0
      go_wp2_with fail
      have kx : ∀ i, i < n → wC.cell? ⟨bx, i, none⟩ = some (.int .i64 (x i)) := fun i hi => (HB.out.wr.trans HC.out.2.2.2.2.2.2.2.2.2).cell_of (HA.out.cells i hi) (by simp)
      have ky : ∀ i, i < m → wC.cell? ⟨b2, i, none⟩ = some (.int .i64 (y i)) := fun i hi => HC.out.2.2.2.2.2.2.2.2.2.cell_of (HB.out.cells i hi) (by simp)
      refine (prefix_any bx n n b2 m m N x y wC (by omega) (by omega) HN.out kx ky).mono ?_
      rintro e wD ⟨rfl, tp, kD, sD⟩
      have HTP := Hid.mk' (And.intro tp (And.intro kD sD))
      have KXY := Hid.mk' (And.intro kx ky)
      clear tp kD sD kx ky
      go_wp2_with fail
      refine (suffix_any bx n n b2 m m N x y wD (by omega) (by omega) HN.out (fun i hi => HTP.out.2.1.cell_of (KXY.out.1 i hi) (by simp)) (fun i hi => HTP.out.2.1.cell_of (KXY.out.2 i hi) (by simp))).mono ?_
      rintro e wE ⟨rfl, ts, kE, sE⟩
      have H5 : Hid (Set5 w bx b2 wC.heap.size wD.heap.size ab bf bb b5 b6 n m x y (!a2) wE) := by
        have kk := HTP.out.2.1.trans kE
        obtain ⟨q1, q2, q3, q4, q5, q6, q7, q8, q9, q10⟩ := HC.out
        have l1 := HA.out.ge
        have l2 := HA.out.lt
        have l3 := HB.out.ge
        have l4 := HB.out.lt
        have l5 := HA.out.wr.size
        have l6 := HB.out.wr.size
        have l7 := q1.lt
        have l8 := q2.lt
        have l9 := q3.lt
        have l10 := HTP.out.2.1.size
        exact ⟨fun i hi => kk.cell_of (KXY.out.1 i hi) (by simp), fun i hi => kk.cell_of (KXY.out.2 i hi) (by simp), kk.row q1 (by simp), kk.row q2 (by simp), kk.row q3 (by simp), fun i j hi hj => kE.cell_of (HTP.out.1 i j hi hj) (by simp), ts,
          ⟨by omega, by omega, by omega, by omega, by omega, by omega⟩, ⟨q7, q8, q9⟩, ⟨by omega, by omega, by omega, by omega, by omega, by omega⟩, ⟨by omega, by omega, by omega⟩, ((HA.out.wr.trans HB.out.wr).trans q10).trans kk⟩
      clear ts kE sE HTP KXY HC HA HB
      generalize wC.heap.size = bp at *
      generalize wD.heap.size = bs at *
      clear wA wB wC wD
      go_upto_region 9 with fail
      go_cut [16] from 51 to 64 (fun s16 wc => s16 = .int .i64 D ∧ wE = wc)
      case first => as_aux_lemma =>
        obtain ⟨rn, hrn⟩ : ∃ rn : Nat, rn = n * (m + 1) := ⟨_, rfl⟩
        have hmul : (n : Int) * ((m : Int) + 1) = (rn : Int) := by rw [hrn]; simp
        have hlt0 := at2_lt (n := n) (m := m) (i := n) (j := m) (by omega) (by omega)
        rw [← hrn, ← HN.out] at hlt0
        obtain ⟨q, hq⟩ : ∃ q : Nat, (rn : Int) + m = q := ⟨rn + m, by omega⟩
        have hqN : (q : Int) < N := by omega
        have c : wE.cell? ⟨bp, q, none⟩ = some (.int .i64 pn) := by
          have := H5.out.tp n m (by omega) (by omega)
          rw [← HPN.out, ← hrn, show rn + m = q by omega] at this
          exact this
        clear hrn hlt0
        go_wp2
        go_meet
        case rel => exact ⟨congrArg (Value.int .i64) (by have := hDp.out; omega), rfl⟩
      case rest => as_aux_lemma =>
        obtain ⟨rfl, rfl⟩ := hcut
        go_upto_if 65 with fail
        go_cut [17] from 66 to 69 (fun s17 wc => ∃ dist sx sy, s17 = .int .i64 dist ∧ Hid (Set6 w bx b2 bp bs ab bf bb n m x y (!a2) sx sy wc ∧ (dist = -1 ∨ dist = D)))
        case first => as_aux_lemma =>
          cases a2 with
          | false =>
            go_wp2
            go_meet
            case rel => exact ⟨-1, _, _, rfl, set6_bounded H5.out, .inl rfl⟩
          | true =>
            go_wp2_with fail
            refine (share_any ab bx b2 n m n m x y _ wE (by omega) (by omega) H5.out.ra rfl rfl H5.out.xs H5.out.ys BX.out BY.out H5.out.n1.1 H5.out.n1.2.2.2.1).mono ?_
            rintro e w6 ⟨rfl, b3, b4, f', q1, q2, q3, q4, q5, q6, q7, q8, q9⟩
            have HS6 := Hid.mk' (set6_shared (fun i => (BX.out i).1) H5.out q1 q2 q3 q4 q5 q6 q7 q8 q9)
            clear q1 q2 q3 q4 q5 q6 q7 q8 q9
            cases a3 with
            | false =>
              go_wp2
              go_meet
              case rel => exact ⟨-1, _, _, rfl, HS6.out, .inl rfl⟩
            | true =>
              go_wp2
              go_meet
              case rel => exact ⟨D, _, _, rfl, HS6.out, .inr rfl⟩
        case rest => as_aux_lemma =>
          rename World => w6
          obtain ⟨dist, sx, sy, rfl, H6⟩ := hcut
          clear H5
          obtain ⟨E2, hE2⟩ : ∃ E2 : Int, E2 = (D + 1) / 2 := ⟨_, rfl⟩
          have hEb : -2000 ≤ E2 ∧ E2 ≤ 2000 := by omega
          have hEt : (D + 1).tdiv 2 = E2 := by rw [hE2]; exact Int.tdiv_eq_ediv_of_nonneg (by omega)
          have HE2 := Hid.mk' hE2
          clear hE2
          have KM : Hid (Calls Yba.prog 12 #[.pointer (some ⟨ab, 0, none⟩), .int .i64 0, .int .i64 n, .int .i64 0, .int .i64 m, .int .i64 dist, .int .i64 1099511627776] w6 fun e w' => ∃ i j : Nat, e = .returned (.tuple #[.int .i64 i, .int .i64 j, .int .i64 D, .bool true]) ∧ i ≤ n ∧ j ≤ m ∧ Hid (Ed (eqM n m x y) i j = E2 ∧ Rest (eqM n m x y) n m i j = D - E2 ∧ Wrote [bf, bb] w6 w')) := by
            refine (middle_any ab bx b2 bf bb n m n m (!a2) x y sx sy dist (fun _ => 0) (fun _ => 0) w6 H6.out.1.al H6.out.1.rf H6.out.1.rb (by omega) (by omega) H0.out H9.out H6.out.1.s1 H6.out.1.s2 (by rw [← HD.out]; exact H6.out.2) (fun _ => by omega) (fun _ => by unfold top; omega) (Nat.le_refl _) (Nat.le_refl _)).mono ?_
            rintro e w' ⟨i, j, rfl, h1, h2, h3, h4, h5⟩
            rw [← HD.out] at h3 h4 ⊢
            rw [← HE2.out] at h3 h4
            exact ⟨i, j, rfl, h1, h2, h3, h4, h5⟩
          go_wp2_with fail
          refine KM.out.mono ?_
          rintro e w7 ⟨i, j, rfl, hi, hj, HE⟩
          clear KM
          have hi' : ¬ (n : Int) < i := by omega
          have hj' : ¬ (m : Int) < j := by omega
          have hi0 : ¬ (i : Int) < 0 := by omega
          have hj0 : ¬ (j : Int) < 0 := by omega
          obtain ⟨ri, hri⟩ : ∃ ri : Nat, ri = i * (m + 1) := ⟨_, rfl⟩
          have hmul : (i : Int) * ((m : Int) + 1) = (ri : Int) := by rw [hri]; simp
          have hlt0 := at2_lt (n := n) (m := m) (i := i) (j := j) (by omega) (by omega)
          rw [← hri, ← HN.out] at hlt0
          obtain ⟨q, hq⟩ : ∃ q : Nat, (ri : Int) + j = q := ⟨ri + j, by omega⟩
          have hqN : (q : Int) < N := by omega
          obtain ⟨p1, hp1⟩ : ∃ p1 : Nat, p1 = P (eqM n m x y) i j := ⟨_, rfl⟩
          obtain ⟨p2, hp2⟩ : ∃ p2 : Nat, p2 = P (rev (eqM n m x y) n m) (n - i) (m - j) := ⟨_, rfl⟩
          have hb1 : p1 ≤ i := by rw [hp1]; exact P_le_i _ _ _
          have hb2 : p2 ≤ n - i := by rw [hp2]; exact P_le_i _ _ _
          have c1 : w7.cell? ⟨bp, q, none⟩ = some (.int .i64 p1) := by
            have := HE.out.2.2.cell_of (H6.out.1.tp i j hi hj) (by simp; exact ⟨H6.out.1.n3.1, H6.out.1.n3.2.1⟩)
            rw [← hp1, ← hri, show ri + j = q by omega] at this
            exact this
          have c2 : w7.cell? ⟨bs, q, none⟩ = some (.int .i64 p2) := by
            have := HE.out.2.2.cell_of (H6.out.1.ts i j hi hj) (by simp; exact ⟨H6.out.1.n3.2.2.1, H6.out.1.n3.2.2.2⟩)
            rw [← hp2, ← hri, show ri + j = q by omega] at this
            exact this
          have V1 : Hid ((i : Int) + j - 2 * p1 = E2) := by
            show _ = _
            rw [← HE.out.1, hp1]
            rfl
          have V2 : Hid ((n : Int) - i + ((m : Int) - j) - 2 * p2 = D - E2) := by
            show _ = _
            have h := HE.out.2.1
            unfold Rest Ed at h
            rw [← hp2] at h
            omega
          clear hri hp1 hp2 hlt0
          go_upto_region 22 with fail
          go_cut [22] from 101 to 114 (fun s22 wc => s22 = .int .i64 E2 ∧ w7 = wc)
          case first => as_aux_lemma =>
            go_wp2
            go_meet
            case rel => exact ⟨congrArg (Value.int .i64) (by have := V1.out; omega), rfl⟩
          case rest => as_aux_lemma =>
            obtain ⟨rfl, rfl⟩ := hcut
            go_upto_region 23 with fail
            go_cut [23] from 115 to 132 (fun s23 wc => s23 = .int .i64 (D - E2) ∧ w7 = wc)
            case first => as_aux_lemma =>
              go_wp2
              go_meet
              case rel => exact ⟨congrArg (Value.int .i64) (by have := V2.out; omega), rfl⟩
            case rest => as_aux_lemma =>
              obtain ⟨rfl, rfl⟩ := hcut
              go_wp2
              go_ret
              refine ⟨ret_bool ?_, H6.out.1.bl.trans (HE.out.2.2.below H6.out.1.bl.size (fun k hk => ?_))⟩
              · have hs : E2 + (D - E2) = D := by omega
                first
                  | rfl
                  | simp [hs]
              · simp at hk
                rcases hk with rfl | rfl
                · exact H6.out.1.ge.1
                · exact H6.out.1.ge.2
end Go.Proofs.Ybulkbptu
