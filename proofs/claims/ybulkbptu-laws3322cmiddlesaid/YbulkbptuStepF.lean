import Derived.Test.YbulkbptuMem
import Derived.Test.YbulkbptuSearch
import Derived.Deep.QuietTactic
import Derived.BigQuiet
import Derived.BigRegion
import Derived.Deep.LoopGhost
import Derived.Deep.DeepCutAuto
import Derived.Deep.CutRange
namespace Go.Proofs.Ybulkbptu
open Go.ChangeShapes Go.WideShapes Go.ChangeAt Go.RowKit
set_option linter.unusedVariables false

theorem Hid.mk' {p : Prop} (h : p) : Hid p := h
theorem wrap_u64 {x : Int} (h : 0 ≤ x) (h2 : x ≤ 1000000000000) : IntKind.u64.wrap x = x := by
  simp [IntKind.wrap, IntKind.signed, IntKind.bits]
  omega
/-- Element i of x equals element j of y. -/
def eqM (n m : Nat) (x y : Nat → Int) : Nat → Nat → Bool := fun i j => decide (i < n) && decide (j < m) && decide (x i = y j)
theorem eqM_inside (n m : Nat) (x y : Nat → Int) : Inside (eqM n m x y) n m := fun i j h => by
  simp only [eqM, Bool.and_eq_true, decide_eq_true_eq] at h
  exact h.1
/-- What a step of the forward search does to the row: each odd place of the window is moved on from its neighbours. -/
def Stepped (M : Nat → Nat → Bool) (k0 : Int) (o L : Nat) (F G : Nat → Int) : Prop :=
  (∀ j, j % 2 = 1 → j + 1 < L → Follow M (k0 + j) (max (F (o + j - 1) + 1) (F (o + j + 1))) (G (o + j))) ∧ (∀ i, (∀ j, j % 2 = 1 → j + 1 < L → i ≠ o + j) → G i = F i)
theorem Stepped.zero (M : Nat → Nat → Bool) (k0 : Int) (o : Nat) (F : Nat → Int) : Stepped M k0 o 1 F F := ⟨fun j _ h => by omega, fun i _ => rfl⟩
theorem Stepped.next {M : Nat → Nat → Bool} {k0 : Int} {o j : Nat} {F G : Nat → Int} (h : Stepped M k0 o j F G) (hj : j % 2 = 1) {v : Int} (hv : Follow M (k0 + j) (max (F (o + j - 1) + 1) (F (o + j + 1))) v) :
    Stepped M k0 o (j + 2) F (fun i => if i = o + j then v else G i) := by
  refine ⟨fun q hq hl => ?_, fun i hi => ?_⟩
  · by_cases e : q = j
    · subst e
      simpa using hv
    · show Follow M (k0 + q) _ (if o + q = o + j then v else G (o + q))
      rw [if_neg (by omega)]
      exact h.1 q hq (by omega)
  · show (if i = o + j then v else G i) = F i
    rw [if_neg (hi j hj (by omega))]
    exact h.2 i (fun q hq hl => hi q hq (by omega))

set_option maxRecDepth 100000 in
set_option maxHeartbeats 4000000 in
theorem stepF_any (bf N o L cf bx n cx b2 m cy : Nat) (F x y : Nat → Int) (k0 : Int) (w : World) (hrow : w.rowIs bf 3 N (fun i => .int .i64 (F i))) (hoL : o + L ≤ N) (hL : 3 ≤ L) (hLo : L % 2 = 1) (hN : N ≤ 10000) (hn : n ≤ 1000) (hm : m ≤ 1000) (hk : -5000 ≤ k0 ∧ k0 ≤ 5000)
    (hx : ∀ i, i < n → w.cell? ⟨bx, i, none⟩ = some (.int .i64 (x i))) (hy : ∀ i, i < m → w.cell? ⟨b2, i, none⟩ = some (.int .i64 (y i))) (h1 : bx ≠ bf) (h2 : b2 ≠ bf)
    (hF : ∀ i, -5000 ≤ F i) (hpos : ∀ j, j % 2 = 1 → j + 1 < L → 0 ≤ max (F (o + j - 1) + 1) (F (o + j + 1)) ∧ 0 ≤ max (F (o + j - 1) + 1) (F (o + j + 1)) - (k0 + j) ∧ max (F (o + j - 1) + 1) (F (o + j + 1)) ≤ 5000) :
    Calls Yba.prog 18 #[.slice (some ⟨bf, o, none⟩) L cf, .int .i64 k0, .slice (some ⟨bx, 0, none⟩) n cx, .slice (some ⟨b2, 0, none⟩) m cy] w fun e w' => e = .returned (.tuple #[]) ∧ ∃ G, Stepped (eqM n m x y) k0 o L F G ∧ w'.rowIs bf 3 N (fun i => .int .i64 (G i)) ∧ Wrote [bf] w w' := by
  have HX : Hid (∀ i, i < n → w.cell? ⟨bx, i, none⟩ = some (.int .i64 (x i))) := hx
  have HY : Hid (∀ i, i < m → w.cell? ⟨b2, i, none⟩ = some (.int .i64 (y i))) := hy
  have HF : Hid (∀ i, -5000 ≤ F i) := hF
  have HP : Hid (∀ j, j % 2 = 1 → j + 1 < L → 0 ≤ max (F (o + j - 1) + 1) (F (o + j + 1)) ∧ 0 ≤ max (F (o + j - 1) + 1) (F (o + j + 1)) - (k0 + j) ∧ max (F (o + j - 1) + 1) (F (o + j + 1)) ≤ 5000) := hpos
  have HR : Hid (w.rowIs bf 3 N (fun i => .int .i64 (F i))) := hrow
  clear hx hy hF hpos hrow
  go_enter Yba.func18, Yba.ntmps18
  go_wp2
  go_loopg [8] (L - 1) (fun gk iv wr => ∃ j : Nat, j + gk = L ∧ iv = .int .i64 j ∧ j % 2 = 1 ∧ j ≤ L ∧ ∃ G, Hid (Stepped (eqM n m x y) k0 o j F G ∧ wr.rowIs bf 3 N (fun i => .int .i64 (G i)) ∧ Wrote [bf] w wr))
  case atStart => exact ⟨1, by omega, rfl, by omega, by omega, F, Stepped.zero _ _ _ _, HR.out, Wrote.refl _ _⟩
  case round =>
    obtain ⟨j, hj, rfl, hjo, hjL, G, HG⟩ := hrel
    have hjI : (j : Int) ≤ L := by omega
    by_cases hlt : j + 1 < L
    · have hlt' : (j : Int) < (L : Int) - 1 := by omega
      obtain ⟨p1, p2, p3⟩ := HP.out j hjo hlt
      have f1 : G (o + j - 1) = F (o + j - 1) := HG.out.1.2 _ (fun q hq _ => by omega)
      have f2 : G (o + j + 1) = F (o + j + 1) := HG.out.1.2 _ (fun q hq _ => by omega)
      have c1 : wr.cell? ⟨bf, o + (j - 1), none⟩ = some (.int .i64 (F (o + j - 1))) := by rw [← f1]; have := HG.out.2.1.cell (i := o + j - 1) (by omega); rw [← this, show o + (j - 1) = o + j - 1 by omega]
      have c2 : wr.cell? ⟨bf, o + (j + 1), none⟩ = some (.int .i64 (F (o + j + 1))) := by rw [← f2]; exact HG.out.2.1.cell (i := o + j + 1) (by omega)
      have g1 := HF.out (o + j - 1)
      have g2 := HF.out (o + j + 1)
      have hsub : (j : Int) - 1 = ((j - 1 : Nat) : Int) := by omega
      obtain ⟨a0, ha0⟩ : ∃ a0 : Nat, max (F (o + j - 1) + 1) (F (o + j + 1)) = (a0 : Int) := ⟨(max (F (o + j - 1) + 1) (F (o + j + 1))).toNat, by omega⟩
      obtain ⟨bb0, hb0⟩ : ∃ bb0 : Nat, (a0 : Int) - (k0 + j) = (bb0 : Int) := ⟨((a0 : Int) - (k0 + j)).toNat, by omega⟩
      go_upto_region 3 with fail
      go_cut [9] from 18 to 29 (fun s9 wc => s9 = .int .i64 a0 ∧ ∃ q, wc = wr.drewN q)
      case first => as_aux_lemma =>
        clear f1 f2 hb0 p1 p2 HP
        go_quiet (fail)
        all_goals go_wp2
        all_goals go_meet
        all_goals (case rel => exact ⟨congrArg (Value.int .i64) (by omega), _, rfl⟩)
      case rest => as_aux_lemma =>
        obtain ⟨rfl, q, rfl⟩ := hcut
        have HG1 : Hid (Stepped (eqM n m x y) k0 o j F G ∧ (wr.drewN q).rowIs bf 3 N (fun i => .int .i64 (G i)) ∧ Wrote [bf] w (wr.drewN q)) := ⟨HG.out.1, HG.out.2.1, HG.out.2.2.drewN _⟩
        clear HG c1 c2 f1 f2
        generalize wr.drewN q = w1 at *
        clear wr
        go_wp2
        try rw [hb0]
        go_loopg [9, 10] (n + 1) (fun gk xv yv wr => ∃ a b t : Nat, t + gk = n + 1 ∧ xv = .int .i64 a ∧ yv = .int .i64 b ∧ Hid (a = a0 + t ∧ b = bb0 + t ∧ t ≤ n ∧ ∀ s : Nat, s < t → eqM n m x y (a0 + s) (bb0 + s) = true) ∧ ∃ q, wr = w1.drewN q)
        case atStart => exact ⟨a0, bb0, 0, by omega, rfl, rfl, ⟨rfl, rfl, by omega, fun s hs => by omega⟩, 0, rfl⟩
        case round =>
          obtain ⟨a, b, t, ht, rfl, rfl, HT, q2, rfl⟩ := hrel
          have HTT := HT.out
          have ha5 : a ≤ 6000 := by omega
          have hb5 : b ≤ 12000 := by omega
          by_cases hM : eqM n m x y a b = true
          · have hM2 := hM
            simp only [eqM, Bool.and_eq_true, decide_eq_true_eq] at hM2
            obtain ⟨⟨han, hbm⟩, hxy⟩ := hM2
            have ca : w1.cell? ⟨bx, a, none⟩ = some (.int .i64 (x a)) := by have := HG1.out.2.2.cell_of (HX.out a han) (by simpa using h1); exact this
            have cb : w1.cell? ⟨b2, b, none⟩ = some (.int .i64 (x a)) := by rw [hxy]; have := HG1.out.2.2.cell_of (HY.out b hbm) (by simpa using h2); exact this
            have han' : (a : Int) < n := by omega
            have hbm' : (b : Int) < m := by omega
            clear HTT
            have wa : IntKind.u64.wrap (a : Int) = a := wrap_u64 (by omega) (by omega)
            have wb : IntKind.u64.wrap (b : Int) = b := wrap_u64 (by omega) (by omega)
            have wn : IntKind.u64.wrap (n : Int) = n := wrap_u64 (by omega) (by omega)
            have wm : IntKind.u64.wrap (m : Int) = m := wrap_u64 (by omega) (by omega)
            go_wp2
            go_quiet (fail)
            go_wp2
            go_roundg (n + 1 - (t + 1))
            case measure => have HTT := HT.out; omega
            case rel =>
              have HTT := HT.out
              refine ⟨a + 1, b + 1, t + 1, by omega, by go_num, by go_num, ⟨by omega, by omega, by omega, fun s hs => ?_⟩, _, rfl⟩
              by_cases e : s = t
              · subst e
                rw [← HT.out.1, ← HT.out.2.1]
                exact hM
              · exact HT.out.2.2.2 s (by omega)
          · have hfol : Follow (eqM n m x y) (k0 + j) (max (F (o + j - 1) + 1) (F (o + j + 1))) (a : Int) := by
              rw [ha0]
              refine ⟨t, by omega, fun s hs => ?_, ?_⟩
              · have := HTT.2.2.2 s hs
                rw [show ((a0 : Int) + s).toNat = a0 + s by omega, show ((a0 : Int) + s - (k0 + j)).toNat = bb0 + s by omega]
                exact this
              · rw [show ((a : Int)).toNat = a by omega, show ((a : Int) - (k0 + j)).toNat = b by omega]
                simpa using hM
            have HFO := Hid.mk' hfol
            clear hfol HTT
            have wa : IntKind.u64.wrap (a : Int) = a := wrap_u64 (by omega) (by omega)
            have wb : IntKind.u64.wrap (b : Int) = b := wrap_u64 (by omega) (by omega)
            have wn : IntKind.u64.wrap (n : Int) = n := wrap_u64 (by omega) (by omega)
            have wm : IntKind.u64.wrap (m : Int) = m := wrap_u64 (by omega) (by omega)
            go_upto_region 5 with fail
            go_cut [59] from 35 to 59 (fun s59 wc => s59 = .bool false ∧ ∃ q, wc = w1.drewN q)
            case first => as_aux_lemma =>
              by_cases han : (a : Int) < n
              · by_cases hbm : (b : Int) < m
                · have hxy : (x a == y b) = false := by
                    have : ¬ (x a = y b) := fun e => hM (by simp only [eqM, Bool.and_eq_true, decide_eq_true_eq]; exact ⟨⟨by omega, by omega⟩, e⟩)
                    simpa using this
                  have ca : w1.cell? ⟨bx, a, none⟩ = some (.int .i64 (x a)) := HG1.out.2.2.cell_of (HX.out a (by omega)) (by simpa using h1)
                  have cb : w1.cell? ⟨b2, b, none⟩ = some (.int .i64 (y b)) := HG1.out.2.2.cell_of (HY.out b (by omega)) (by simpa using h2)
                  go_quiet (fail)
                  go_wp2
                  go_meet
                  case rel => first | exact ⟨rfl, _, rfl⟩ | exact ⟨rfl, _, World.drewN_drewN _ _ _⟩
                · have hbm' : decide ((b : Int) < m) = false := decide_eq_false hbm
                  go_quiet (fail)
                  go_wp2
                  go_meet
                  case rel => first | exact ⟨rfl, _, rfl⟩ | exact ⟨rfl, _, World.drewN_drewN _ _ _⟩
              · have han' : decide ((a : Int) < n) = false := decide_eq_false han
                go_quiet (fail)
                go_wp2
                go_meet
                case rel => first | exact ⟨rfl, _, rfl⟩ | exact ⟨rfl, _, World.drewN_drewN _ _ _⟩
            case rest => as_aux_lemma =>
              obtain ⟨rfl, q3, rfl⟩ := hcut
              have HG2 : Hid (Stepped (eqM n m x y) k0 o j F G ∧ (w1.drewN q3).rowIs bf 3 N (fun i => .int .i64 (G i)) ∧ Wrote [bf] w (w1.drewN q3)) := ⟨HG1.out.1, HG1.out.2.1, HG1.out.2.2.drewN _⟩
              clear HG1
              generalize w1.drewN q3 = w2 at *
              have cj : w2.cell? ⟨bf, o + j, none⟩ = some (.int .i64 (G (o + j))) := HG2.out.2.1.cell (i := o + j) (by omega)
              have fj := HG2.out.2.1.frozen (o + j)
              go_wp2
              go_roundg (L - (j + 2))
              case measure => omega
              case rel => exact ⟨j + 2, by omega, by go_num, by omega, by omega, _, HG2.out.1.next hjo HFO.out, rowIs_setInt HG2.out.2.1 _ _, HG2.out.2.2.setCell (.inl (by simp)) _⟩
    · have hjL' : j = L := by omega
      have hlt' : ¬ ((j : Int) < (L : Int) - 1) := by omega
      go_wp2
      go_end0
      exact ⟨rfl, G, hjL' ▸ HG.out.1, HG.out.2.1, HG.out.2.2⟩
end Go.Proofs.Ybulkbptu
