import Derived.Test.YbulkbpwmMid
import Derived.Deep.DeepCutAuto
namespace Go.Proofs.Ybulkbpwm
open Go.ChangeShapes Go.WideShapes Go.ChangeAt Go.RowKit
set_option linter.unusedVariables false
set_option linter.unusedSimpArgs false

set_option maxRecDepth 100000 in
set_option maxHeartbeats 4000000 in
theorem front (a0 a1 a2 : Int) (a3 : Option Addr) (L c3 : Nat) (X : Nat → Int) (a4 : Option Addr) (l4 c4 : Nat) (F4 : Nat → Int) (a5 : Option Addr) (l5 c5 : Nat) (F5 : Nat → Int) (a6 : Option Addr) (l6 c6 : Nat) (F6 : Nat → Int) (w : World)
    (b0 : 0 ≤ a0 ∧ a0 ≤ 255) (b1 : 0 ≤ a1 ∧ a1 ≤ 255) (hL : L ≤ 1024) (h4 : l4 ≤ 1024) (h5 : l5 ≤ 1024) (h6 : l6 ≤ 1024) (hX : ∀ i, i < L → 0 ≤ X i ∧ X i ≤ 255)
    (k3 : SlK .u8 w a3 L X) (k4 : SlK .u64 w a4 l4 F4) (k5 : SlK .u64 w a5 l5 F5) (k6 : SlK .u8 w a6 l6 F6) :
    Calls Yba.prog 8 #[.int .u8 a0, .int .u8 a1, .int .i64 a2, .slice a3 L c3, .slice a4 l4 c4, .slice a5 l5 c5, .slice a6 l6 c6] w fun e w' => e = .returned (.bool true) ∧ Below w.heap.size w w' := by
  obtain ⟨n, hnn⟩ : ∃ n : Nat, 2 + a0 % 199 = (n : Int) := ⟨(2 + a0 % 199).toNat, by omega⟩
  have hn : 2 ≤ n ∧ n ≤ 200 := by omega
  obtain ⟨u, huu⟩ : ∃ u : Nat, a1 % (n : Int) = (u : Int) := ⟨(a1 % (n : Int)).toNat, by have := Int.emod_nonneg a1 (show (n : Int) ≠ 0 by omega); omega⟩
  have hu : u < n := by have := Int.emod_lt_of_pos a1 (show (0 : Int) < n by omega); omega
  obtain ⟨W, hW⟩ : ∃ W, n / 2 / 64 + 1 = W := ⟨_, rfl⟩
  obtain ⟨N, hN⟩ : ∃ N, n * W = N := ⟨_, rfl⟩
  have hW2 : 1 ≤ W ∧ W ≤ 2 := by omega
  have HWW : Hid (n / 2 / 64 + 1 = W) := hW
  have HNN : Hid (n * W = N) := hN
  have hN400 : N ≤ 400 := by rw [← hN]; exact Nat.le_trans (Nat.mul_le_mul hn.2 hW2.2) (by omega)
  have hN2 : 2 ≤ N := by rw [← hN]; exact Nat.le_trans (by omega) (Nat.mul_le_mul hn.1 hW2.1)
  have K3 : Hid (SlK .u8 w a3 L X) := k3
  have K4 : Hid (SlK .u64 w a4 l4 F4) := k4
  have K5 : Hid (SlK .u64 w a5 l5 F5) := k5
  have K6 : Hid (SlK .u8 w a6 l6 F6) := k6
  have HX : Hid (∀ i, i < L → 0 ≤ X i ∧ X i ≤ 255) := hX
  clear hW hN k3 k4 k5 k6 hX
  go_enter Yba.func8, Yba.ntmps8
  go_wp2_with fail
  refine (cover_any n W N _ hn HWW.out HNN.out).mono ?_
  rintro e w1 ⟨S, bw, bb, bt, bm, bg, br, be, M0, rfl, hnd, hge, hbel, s0, s2, s5, s6, s9, s10, s14, s15, s29, g0, rw0, rb0, rt0, rm0, rr0, re0⟩
  have HM : Hid (Made n W N S bw bb bt bm bg br be (fun _ => 0) M0 (fun _ => 0) (fun _ => 0) w w1) := ⟨hnd, hge, hbel, s0, s2, s5, s6, s9, s10, s14, s15, s29, g0, rw0, rb0, rt0, rm0, rr0, re0⟩
  clear hnd hge hbel s0 s5 s6 s9 s10 s14 s29 rw0 rb0 rt0 rm0 rr0 re0
  go_upto_if 84 with fail
  clear s2 s15 g0
  go_cut [] (fun wc => ∃ G : Nat → Int, Made n W N S bw bb bt bm bg br be (fun _ => 0) M0 G (fun _ => 0) w wc)
  case first => as_aux_lemma =>
    by_cases hp : 0 < l4
    · rcases K4.out with hz | ⟨b4, o4, rfl, hlt4, hc4⟩
      · omega
      have HC4 : Hid (∀ i, i < l4 → w.cell? ⟨b4, o4 + i, none⟩ = some (.int .u64 (F4 i))) := hc4
      clear hc4 K4
      go_wp2
      go_loopg [87] N (fun gk iv wr => ∃ i : Nat, i + gk = N ∧ iv = .int .i64 i ∧ ∃ G : Nat → Int, Made n W N S bw bb bt bm bg br be (fun _ => 0) M0 G (fun _ => 0) w wr)
      case atStart => exact ⟨0, by omega, rfl, _, HM.out⟩
      case round =>
        obtain ⟨i, hi, rfl, G, hG⟩ := hrel
        have HG : Hid (Made n W N S bw bb bt bm bg br be (fun _ => 0) M0 G (fun _ => 0) w wr) := hG
        clear hG
        by_cases hiN : i < N
        · obtain ⟨q, hq⟩ : ∃ q : Nat, (i : Int) % (l4 : Int) = (q : Int) := ⟨i % l4, by simp⟩
          have hql : (q : Int) < (l4 : Int) := by rw [← hq]; exact Int.emod_lt_of_pos _ (by omega)
          have cg : wr.cell? ⟨b4, o4 + q, none⟩ = some (.int .u64 (F4 q)) := by rw [HG.out.bel.cell (p := ⟨b4, o4 + q, none⟩) hlt4]; exact HC4.out q (by omega)
          have cr := HG.out.row.cell hiN
          have fr := HG.out.row.frozen i
          have hl0 : ((l4 : Int) == 0) = false := by simp; omega
          go_wp2
          go_roundg (N - (i + 1))
          case measure => omega
          case rel => exact ⟨i + 1, by omega, by go_num, _, HG.out.setRow i (F4 q)⟩
        · go_wp2
          go_meet
          case rel => exact ⟨_, HG.out⟩
    · go_wp2
      go_meet
      case rel => exact ⟨_, HM.out⟩
  case rest => as_aux_lemma =>
    obtain ⟨G, hG⟩ := hcut
    clear HM
    have HM : Hid (Made n W N S bw bb bt bm bg br be (fun _ => 0) M0 G (fun _ => 0) w wc) := hG
    clear hG K4
    go_upto_if 103 with fail
    go_cut [] (fun wc => ∃ M : Nat → Int, Made n W N S bw bb bt bm bg br be (fun _ => 0) M G (fun _ => 0) w wc)
    case first => as_aux_lemma =>
      by_cases hp : 0 < l5
      · rcases K5.out with hz | ⟨b5, o5, rfl, hlt5, hc5⟩
        · omega
        have HC5 : Hid (∀ i, i < l5 → w.cell? ⟨b5, o5 + i, none⟩ = some (.int .u64 (F5 i))) := hc5
        have e14 := HM.out.s14
        clear hc5 K5
        go_wp2
        clear e14
        go_loopg [109] W (fun gk iv wr => ∃ i : Nat, i + gk = W ∧ iv = .int .i64 i ∧ ∃ M : Nat → Int, Made n W N S bw bb bt bm bg br be (fun _ => 0) M G (fun _ => 0) w wr)
        case atStart => exact ⟨0, by omega, rfl, _, HM.out⟩
        case round =>
          obtain ⟨i, hi, rfl, M, hG⟩ := hrel
          have HG : Hid (Made n W N S bw bb bt bm bg br be (fun _ => 0) M G (fun _ => 0) w wr) := hG
          clear hG
          by_cases hiN : i < W
          · obtain ⟨q, hq⟩ : ∃ q : Nat, (i : Int) % (l5 : Int) = (q : Int) := ⟨i % l5, by simp⟩
            have hql : (q : Int) < (l5 : Int) := by rw [← hq]; exact Int.emod_lt_of_pos _ (by omega)
            have cg : wr.cell? ⟨b5, o5 + q, none⟩ = some (.int .u64 (F5 q)) := by rw [HG.out.bel.cell (p := ⟨b5, o5 + q, none⟩) hlt5]; exact HC5.out q (by omega)
            have cr := HG.out.mis.cell hiN
            have fr := HG.out.mis.frozen i
            have e14 := HG.out.s14
            have hl0 : ((l5 : Int) == 0) = false := by simp; omega
            go_wp2
            go_region
            all_goals go_wp2
            go_roundg (W - (i + 1))
            case measure => omega
            case rel => exact ⟨i + 1, by omega, by go_num, _, (HG.out.setMis i (F5 q)).drew⟩
          · go_wp2
            go_meet
            case rel => exact ⟨_, HG.out⟩
      · go_wp2
        go_meet
        case rel => exact ⟨_, HM.out⟩
    case rest => as_aux_lemma =>
      rename World => wd
      obtain ⟨M, hG⟩ := hcut
      clear HM
      have HM : Hid (Made n W N S bw bb bt bm bg br be (fun _ => 0) M G (fun _ => 0) w wd) := hG
      clear hG K5
      go_upto_if 128 with fail
      go_cut [] (fun wc => ∃ T : Nat → Int, Made n W N S bw bb bt bm bg br be T M G (fun _ => 0) w wc)
      case first => as_aux_lemma =>
        by_cases hp : 0 < l6
        · rcases K6.out with hz | ⟨b6, o6, rfl, hlt6, hc6⟩
          · omega
          have HC6 : Hid (∀ i, i < l6 → w.cell? ⟨b6, o6 + i, none⟩ = some (.int .u8 (F6 i))) := hc6
          clear hc6 K6
          go_wp2
          go_loopg [21] n (fun gk iv wr => ∃ i : Nat, i + gk = n ∧ iv = .int .i64 i ∧ ∃ T : Nat → Int, Made n W N S bw bb bt bm bg br be T M G (fun _ => 0) w wr)
          case atStart => exact ⟨0, by omega, rfl, _, HM.out⟩
          case round =>
            obtain ⟨i, hi, rfl, T, hG⟩ := hrel
            have HG : Hid (Made n W N S bw bb bt bm bg br be T M G (fun _ => 0) w wr) := hG
            clear hG
            by_cases hiN : i < n
            · obtain ⟨q, hq⟩ : ∃ q : Nat, (i : Int) % (l6 : Int) = (q : Int) := ⟨i % l6, by simp⟩
              have hql : (q : Int) < (l6 : Int) := by rw [← hq]; exact Int.emod_lt_of_pos _ (by omega)
              have cg : wr.cell? ⟨b6, o6 + q, none⟩ = some (.int .u8 (F6 q)) := by rw [HG.out.bel.cell (p := ⟨b6, o6 + q, none⟩) hlt6]; exact HC6.out q (by omega)
              have cr := HG.out.tak.cell hiN
              have fr := HG.out.tak.frozen i
              have e10 := HG.out.s10
              have hl0 : ((l6 : Int) == 0) = false := by simp; omega
              go_wp2
              go_region
              all_goals go_wp2
              go_roundg (n - (i + 1))
              case measure => omega
              case rel => exact ⟨i + 1, by omega, by go_num, _, (HG.out.setTak i (F6 q)).drew⟩
            · go_wp2
              go_meet
              case rel => exact ⟨_, HG.out⟩
        · go_wp2
          go_meet
          case rel => exact ⟨_, HM.out⟩
      case rest => as_aux_lemma =>
        rename World => w2
        obtain ⟨T, hG⟩ := hcut
        clear HM
        have HM : Hid (Made n W N S bw bb bt bm bg br be T M G (fun _ => 0) w w2) := hG
        clear hG K6
        rename ∀ (a : Act) (w : World), Code.wp Yba.prog _ _ a w → _ => hK
        refine hK _ _ ?_
        exact wp_same (c' := (Yba.f8.body.bind (fromRegion 24)).getD .skip) (by kernel_rfl) rfl (mid_any a1 a2 a3 S bw bb bt bm bg br be n W N L c3 u T M G (fun _ => 0) X w _ _ (by kernel_rfl) HM.out K3.out HX.out b1 hn hW2 HNN.out huu hL)
end Go.Proofs.Ybulkbpwm
