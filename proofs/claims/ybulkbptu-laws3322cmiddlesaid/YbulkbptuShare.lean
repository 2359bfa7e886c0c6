import Derived.Test.YbulkbptuSh2
import Derived.Test.YbulkbptuQT
import Derived.Deep.RegionHeld3
namespace Go.Proofs.Ybulkbptu
open Go.ChangeShapes Go.WideShapes Go.ChangeAt Go.RowKit
set_option linter.unusedVariables false
set_option linter.unusedSimpArgs false

theorem own_wrote {base e size n : Nat} {w w' : World} {v : Value} {xs : List Value} {S : List Nat} (h : w.ownsRow base e size v n xs) (k : Wrote S w w') (hs : ∀ g, v.ownBlock = some g → g ∉ S) : w'.ownsRow base e size v n xs := by
  refine ⟨h.1, ?_⟩
  rcases h.2 with h2 | ⟨g, cap, cur, h1, h2, h3, h4⟩
  · exact .inl h2
  · refine .inr ⟨g, cap, cur, h1, h2, ?_, h4⟩
    rw [k.block g (Array.getElem?_eq_some_iff.1 h3).1 (hs g (by rw [h1]; rfl))]
    exact h3
theorem own_mono {base base' e size n : Nat} {w : World} {v : Value} {xs : List Value} (h : w.ownsRow base e size v n xs) (hb : base' ≤ base) : w.ownsRow base' e size v n xs := by
  refine ⟨h.1, ?_⟩
  rcases h.2 with h2 | ⟨g, cap, cur, h1, h2, h3, h4⟩
  · exact .inl h2
  · exact .inr ⟨g, cap, cur, h1, by omega, h3, h4⟩
/-- Is the i-th of x among y? -/
def shr (x y : Nat → Int) (m : Nat) : Nat → Bool := fun i => hasZ y m (((x i).toNat : Nat) : Int)
/-- present, then shared. -/
def ShEnd (s : Nat → Bool) (n : Nat) (w : World) (e : Ending) (w' : World) : Prop :=
  ∃ a1 l1 c1 a2 c2, e = .returned (.tuple #[.slice a1 l1 c1, .slice a2 (cnt s n) c2]) ∧ w'.ownsRow w.heap.size 3 1 (.slice a2 (cnt s n) c2) (cnt s n) (idx s n) ∧ Wrote [] w w'

set_option maxRecDepth 100000 in
set_option maxHeartbeats 8000000 in
theorem share_any (ab bx b2 n m cx cy : Nat) (x y : Nat → Int) (f : Nat → Value) (w : World) (hn : n ≤ 1000) (hm : m ≤ 1000) (hrow : w.rowIs ab 37 13 f) (hf0 : f 0 = .slice (some ⟨bx, 0, none⟩) n cx) (hf1 : f 1 = .slice (some ⟨b2, 0, none⟩) m cy)
    (hx : ∀ i, i < n → w.cell? ⟨bx, i, none⟩ = some (.int .i64 (x i))) (hy : ∀ i, i < m → w.cell? ⟨b2, i, none⟩ = some (.int .i64 (y i))) (bX : ∀ i, 0 ≤ x i ∧ x i ≤ 13) (bY : ∀ i, 0 ≤ y i ∧ y i ≤ 13) (h1 : bx ≠ ab) (h2 : b2 ≠ ab) :
    Calls Yba.prog 11 #[.pointer (some ⟨ab, 0, none⟩)] w fun e w' => e = .returned (.tuple #[]) ∧ ∃ b3 b4 f', w'.rowIs ab 37 13 f' ∧ (∀ i, i < 9 → f' i = f i) ∧ f' 11 = .slice (some ⟨b3, 0, none⟩) (n + 1) (n + 1) ∧ f' 12 = .slice (some ⟨b4, 0, none⟩) (m + 1) (m + 1) ∧ w.heap.size ≤ b3 ∧ w.heap.size ≤ b4 ∧
      (∀ i, i ≤ n → w'.cell? ⟨b3, i, none⟩ = some (.int .i64 (cnt (shr x y m) i))) ∧ (∀ i, i ≤ m → w'.cell? ⟨b4, i, none⟩ = some (.int .i64 (cnt (shr y x n) i))) ∧ Wrote [ab] w w' := by
  have HX := Hid.mk' hx
  have HY := Hid.mk' hy
  have BX := Hid.mk' bX
  have BY := Hid.mk' bY
  have HR := Hid.mk' hrow
  have c0 : w.cell? ⟨ab, 0, none⟩ = some (.slice (some ⟨bx, 0, none⟩) n cx) := by rw [← hf0]; exact hrow.cell (by omega)
  have c1 : w.cell? ⟨ab, 1, none⟩ = some (.slice (some ⟨b2, 0, none⟩) m cy) := by rw [← hf1]; exact hrow.cell (by omega)
  have HF := Hid.mk' (And.intro hf0 hf1)
  clear hx hy bX bY hrow hf0 hf1
  go_enter Yba.func11, Yba.ntmps11
  go_upto_region 0 with fail
  go_cut [2] from 7 to 15 (fun s2 wc => ∃ N : Nat, s2 = .int .i64 N ∧ N ≤ 14 ∧ Hid ((∀ i, i < n → x i < N) ∧ ∀ i, i < m → y i < N) ∧ ∃ q, wc = w.drewN q)
  case first => as_aux_lemma =>
    refine wp_region_qt 8 (by kernel_rfl) (by kernel_rfl) ?_
    simp only [List.take_succ_cons, List.take_zero, List.drop_succ_cons, List.drop_zero]
    repeat (first | go_big_quiet_skip | (go_big_quiet_want; go_big_quiet_op; go_big_quiet_on))
    refine wpQuiet_nil ?_
    have HST := Hid.mk' (numClasses_any bx n cx b2 m cy x y w.drew hn hm HX.out HY.out BX.out BY.out)
    go_wp2_with fail
    refine HST.out.mono ?_
    rintro e wx ⟨N, rfl, hN, hN1, hN2, rfl⟩
    have HN := Hid.mk' (And.intro hN1 hN2)
    clear hN1 hN2 HST
    go_wp2
    go_meet
    case rel => exact ⟨N, rfl, hN, HN.out, 1, rfl⟩
  case rest => as_aux_lemma =>
    obtain ⟨N, rfl, hN, HN, q0, rfl⟩ := hcut
    have HS0 : Hid (Wrote [] w (w.drewN q0)) := (Wrote.refl _ _).drewN _
    have c0' : (w.drewN q0).cell? ⟨ab, 0, none⟩ = some (.slice (some ⟨bx, 0, none⟩) n cx) := c0
    have c1' : (w.drewN q0).cell? ⟨ab, 1, none⟩ = some (.slice (some ⟨b2, 0, none⟩) m cy) := c1
    clear c0 c1
    generalize w.drewN q0 = w1 at *
    go_upto_region 1 with fail
    go_cut [3, 4] from 16 to 29 (fun s3 s4 wc => ∃ a1 l1 e1 a2 e2, s3 = .slice a1 l1 e1 ∧ s4 = .slice a2 (cnt (shr x y m) n) e2 ∧ Hid (wc.ownsRow w.heap.size 3 1 (.slice a2 (cnt (shr x y m) n) e2) (cnt (shr x y m) n) (idx (shr x y m) n) ∧ Wrote [] w1 wc))
    case first => as_aux_lemma =>
      have KP : Hid (Calls Yba.prog 15 #[.slice (some ⟨b2, 0, none⟩) m cy, .int .i64 N] w1.drew fun e w' => e = .returned (.slice (some ⟨w1.heap.size, 0, none⟩) N N) ∧ w'.cell? ⟨ab, 0, none⟩ = some (.slice (some ⟨bx, 0, none⟩) n cx) ∧ w'.cell? ⟨ab, 1, none⟩ = some (.slice (some ⟨b2, 0, none⟩) m cy) ∧ Hid (w'.rowIs w1.heap.size 4 N (fun i => .bool (hasZ y m i)) ∧ Wrote [] w1 w')) := by
        refine (present_any b2 m cy N y w1.drew hm hN (fun i hi => HS0.out.cell_of (HY.out i hi) (by simp)) (fun i hi => ⟨(BY.out i).1, HN.out.2 i hi⟩)).mono ?_
        rintro e w' ⟨rfl, k1, k2⟩
        have k2 := (Wrote.refl [] w1).drew.trans k2
        exact ⟨rfl, k2.cell_of c0' (by simp), k2.cell_of c1' (by simp), k1, k2⟩
      have KS : Hid (∀ wz, Hid (wz.rowIs w1.heap.size 4 N (fun i => .bool (hasZ y m i)) ∧ Wrote [] w1 wz) → Calls Yba.prog 14 #[.slice (some ⟨bx, 0, none⟩) n cx, .slice (some ⟨w1.heap.size, 0, none⟩) N N] wz fun e w' => ∃ a1 l1 e1 a2 e2, e = .returned (.tuple #[.slice a1 l1 e1, .slice a2 (cnt (shr x y m) n) e2]) ∧ w'.cell? ⟨ab, 0, none⟩ = some (.slice (some ⟨bx, 0, none⟩) n cx) ∧ w'.cell? ⟨ab, 1, none⟩ = some (.slice (some ⟨b2, 0, none⟩) m cy) ∧ Hid (w'.ownsRow w.heap.size 3 1 (.slice a2 (cnt (shr x y m) n) e2) (cnt (shr x y m) n) (idx (shr x y m) n) ∧ Wrote [] w1 w')) := by
        intro wz K2
        refine (shared_any bx n cx w1.heap.size N x (fun i => hasZ y m i) wz hn hN (fun i hi => (HS0.out.trans K2.out.2).cell_of (HX.out i hi) (by simp)) (fun i hi => ⟨(BX.out i).1, HN.out.1 i hi⟩) (fun i hi => K2.out.1.cell hi)).mono ?_
        rintro e w' ⟨a1, l1, e1, a2, e2, rfl, k1, k2⟩
        exact ⟨a1, l1, e1, a2, e2, rfl, (K2.out.2.trans k2).cell_of c0' (by simp), (K2.out.2.trans k2).cell_of c1' (by simp), own_mono k1 (HS0.out.trans K2.out.2).size, K2.out.2.trans k2⟩
      go_region_held3 (fun w' => w'.cell? ⟨ab, 0, none⟩ = some (.slice (some ⟨bx, 0, none⟩) n cx) ∧ w'.cell? ⟨ab, 1, none⟩ = some (.slice (some ⟨b2, 0, none⟩) m cy)) (first | exact ⟨c0', c1'⟩ | exact ⟨by assumption, by assumption⟩) (first | (go_at_call 15; refine KP.out.mono ?_; rintro e wx ⟨rfl, k0, k1, K2⟩) | (go_at_call 14; refine (KS.out _ (by assumption)).mono ?_; rintro e wx ⟨a1, l1, e1, a2, e2, rfl, k0, k1, K3⟩))
      go_wp2
      go_meet
      case rel => exact ⟨a1, l1, e1, a2, e2, rfl, rfl, K3.out⟩
    case rest => as_aux_lemma =>
      rename World => w2
      obtain ⟨a1, l1, e1, a2, e2, rfl, rfl, HO1⟩ := hcut
      have d0 := HO1.out.2.cell_of c0' (by simp)
      have d1 := HO1.out.2.cell_of c1' (by simp)
      have HS2 : Hid (Wrote [] w w2) := HS0.out.trans HO1.out.2
      clear c0' c1'
      have c0' := d0
      have c1' := d1
      clear d0 d1
      go_upto_region 2 with fail
      go_cut [5, 6] from 30 to 43 (fun s3 s4 wc => ∃ a1 l1 e1 a2 e2, s3 = .slice a1 l1 e1 ∧ s4 = .slice a2 (cnt (shr y x n) m) e2 ∧ Hid (wc.ownsRow w.heap.size 3 1 (.slice a2 (cnt (shr y x n) m) e2) (cnt (shr y x n) m) (idx (shr y x n) m) ∧ Wrote [] w2 wc))
      case first => as_aux_lemma =>
        have KP : Hid (Calls Yba.prog 15 #[.slice (some ⟨bx, 0, none⟩) n cx, .int .i64 N] w2.drew fun e w' => e = .returned (.slice (some ⟨w2.heap.size, 0, none⟩) N N) ∧ w'.cell? ⟨ab, 0, none⟩ = some (.slice (some ⟨bx, 0, none⟩) n cx) ∧ w'.cell? ⟨ab, 1, none⟩ = some (.slice (some ⟨b2, 0, none⟩) m cy) ∧ Hid (w'.rowIs w2.heap.size 4 N (fun i => .bool (hasZ x n i)) ∧ Wrote [] w2 w')) := by
          refine (present_any bx n cx N x w2.drew hn hN (fun i hi => HS2.out.cell_of (HX.out i hi) (by simp)) (fun i hi => ⟨(BX.out i).1, HN.out.1 i hi⟩)).mono ?_
          rintro e w' ⟨rfl, k1, k2⟩
          have k2 := (Wrote.refl [] w2).drew.trans k2
          exact ⟨rfl, k2.cell_of c0' (by simp), k2.cell_of c1' (by simp), k1, k2⟩
        have KS : Hid (∀ wz, Hid (wz.rowIs w2.heap.size 4 N (fun i => .bool (hasZ x n i)) ∧ Wrote [] w2 wz) → Calls Yba.prog 14 #[.slice (some ⟨b2, 0, none⟩) m cy, .slice (some ⟨w2.heap.size, 0, none⟩) N N] wz fun e w' => ∃ a1 l1 e1 a2 e2, e = .returned (.tuple #[.slice a1 l1 e1, .slice a2 (cnt (shr y x n) m) e2]) ∧ w'.cell? ⟨ab, 0, none⟩ = some (.slice (some ⟨bx, 0, none⟩) n cx) ∧ w'.cell? ⟨ab, 1, none⟩ = some (.slice (some ⟨b2, 0, none⟩) m cy) ∧ Hid (w'.ownsRow w.heap.size 3 1 (.slice a2 (cnt (shr y x n) m) e2) (cnt (shr y x n) m) (idx (shr y x n) m) ∧ Wrote [] w2 w')) := by
          intro wz K2
          refine (shared_any b2 m cy w2.heap.size N y (fun i => hasZ x n i) wz hm hN (fun i hi => (HS2.out.trans K2.out.2).cell_of (HY.out i hi) (by simp)) (fun i hi => ⟨(BY.out i).1, HN.out.2 i hi⟩) (fun i hi => K2.out.1.cell hi)).mono ?_
          rintro e w' ⟨a1, l1, e1, a2, e2, rfl, k1, k2⟩
          exact ⟨a1, l1, e1, a2, e2, rfl, (K2.out.2.trans k2).cell_of c0' (by simp), (K2.out.2.trans k2).cell_of c1' (by simp), own_mono k1 (HS2.out.trans K2.out.2).size, K2.out.2.trans k2⟩
        go_region_held3 (fun w' => w'.cell? ⟨ab, 0, none⟩ = some (.slice (some ⟨bx, 0, none⟩) n cx) ∧ w'.cell? ⟨ab, 1, none⟩ = some (.slice (some ⟨b2, 0, none⟩) m cy)) (first | exact ⟨c0', c1'⟩ | exact ⟨by assumption, by assumption⟩) (first | (go_at_call 15; refine KP.out.mono ?_; rintro e wx ⟨rfl, k0, k1, K2⟩) | (go_at_call 14; refine (KS.out _ (by assumption)).mono ?_; rintro e wx ⟨a1, l1, e1, a2, e2, rfl, k0, k1, K3⟩))
        go_wp2
        go_meet
        case rel => exact ⟨a1, l1, e1, a2, e2, rfl, rfl, K3.out⟩
      case rest => as_aux_lemma =>
        rename World => w3
        obtain ⟨a3, l3, e3, a4, e4, rfl, rfl, HO2⟩ := hcut
        have HS3 : Hid (Wrote [] w w3) := HS2.out.trans HO2.out.2
        have HO1' : Hid (w3.ownsRow w.heap.size 3 1 (.slice a2 (cnt (shr x y m) n) e2) (cnt (shr x y m) n) (idx (shr x y m) n)) := own_wrote HO1.out.1 HO2.out.2 (by simp)
        have HR3 : Hid (w3.rowIs ab 37 13 f) := HS3.out.row HR.out (by simp)
        have hablt := HR.out.lt
        clear HO1 HS0 HS2 c0' c1'
        go_upto_region 3 with fail
        go_cut [] from 44 to 51 (fun wc => ∃ f', Hid (wc.rowIs ab 37 13 f' ∧ (∀ i, i < 9 → f' i = f i) ∧ Wrote [ab] w wc ∧ wc.ownsRow w.heap.size 3 1 (.slice a2 (cnt (shr x y m) n) e2) (cnt (shr x y m) n) (idx (shr x y m) n) ∧ wc.ownsRow w.heap.size 3 1 (.slice a4 (cnt (shr y x n) m) e4) (cnt (shr y x n) m) (idx (shr y x n) m)))
        case first => as_aux_lemma =>
          have c9 := HR3.out.cell (i := 9) (by omega)
          have f9 := HR3.out.frozen 9
          have c10 : ∀ v, (w3.setCell ⟨ab, 9, none⟩ v).cell? ⟨ab, 10, none⟩ = some (f 10) := fun v => by have := (HR3.out.set 9 v).cell (i := 10) (by omega); simpa using this
          have f10 : ∀ v, (w3.setCell ⟨ab, 9, none⟩ v).frozen? ⟨ab, 10, none⟩ = false := fun v => (HR3.out.set 9 v).frozen 10
          go_wp2
          go_meet
          case rel =>
            have kk : ∀ u v, Wrote [ab] w3 ((w3.setCell ⟨ab, 9, none⟩ u).setCell ⟨ab, 10, none⟩ v) := fun u v => ((Wrote.refl _ _).setCell (.inl (by simp)) _).setCell (.inl (by simp)) _
            refine ⟨_, (HR3.out.set 9 _).set 10 _, fun i hi => ?_, (HS3.out.mono (by simp)).trans (kk _ _), own_wrote HO1'.out (kk _ _) (fun g hg => ?_), own_wrote HO2.out.1 (kk _ _) (fun g hg => ?_)⟩
            · show (if i = 10 then _ else if i = 9 then _ else f i) = f i
              rw [if_neg (by omega), if_neg (by omega)]
            · have := (HO1'.out.lt g hg).1
              simp
              omega
            · have := (HO2.out.1.lt g hg).1
              simp
              omega
        case rest => as_aux_lemma =>
          rename World => w4
          obtain ⟨f4, H4⟩ := hcut
          clear HO1' HO2 HS3 HR3
          have c0' : w4.cell? ⟨ab, 0, none⟩ = some (.slice (some ⟨bx, 0, none⟩) n cx) := by rw [← HF.out.1, ← H4.out.2.1 0 (by omega)]; exact H4.out.1.cell (by omega)
          have c1' : w4.cell? ⟨ab, 1, none⟩ = some (.slice (some ⟨b2, 0, none⟩) m cy) := by rw [← HF.out.2, ← H4.out.2.1 1 (by omega)]; exact H4.out.1.cell (by omega)
          have hsz4 := H4.out.2.2.1.size
          have KC1 : Hid (Calls Yba.prog 16 #[.int .i64 n, .slice a2 (cnt (shr x y m) n) e2] w4.drew fun e w' => e = .returned (.slice (some ⟨w4.heap.size, 0, none⟩) (n + 1) (n + 1)) ∧ w'.cell? ⟨ab, 0, none⟩ = some (.slice (some ⟨bx, 0, none⟩) n cx) ∧ w'.cell? ⟨ab, 1, none⟩ = some (.slice (some ⟨b2, 0, none⟩) m cy) ∧ Hid (w'.rowIs w4.heap.size 3 (n + 1) (fun i => .int .i64 (cnt (shr x y m) i)) ∧ Wrote [] w4 w')) := by
            refine (countBefore_any n w.heap.size (shr x y m) a2 e2 w4.drew hn H4.out.2.2.2.1).mono ?_
            rintro e w' ⟨rfl, k1, k2⟩
            have k2 := (Wrote.refl [] w4).drew.trans k2
            exact ⟨rfl, k2.cell_of c0' (by simp), k2.cell_of c1' (by simp), k1, k2⟩
          have KC2 : Hid (∀ w5, Hid (w5.rowIs w4.heap.size 3 (n + 1) (fun i => .int .i64 (cnt (shr x y m) i)) ∧ Wrote [] w4 w5) → Calls Yba.prog 16 #[.int .i64 m, .slice a4 (cnt (shr y x n) m) e4] w5 fun e w' => ∃ b4 f11 f12, e = .returned (.slice (some ⟨b4, 0, none⟩) (m + 1) (m + 1)) ∧ w'.cell? ⟨ab, 0, none⟩ = some (.slice (some ⟨bx, 0, none⟩) n cx) ∧ w'.cell? ⟨ab, 1, none⟩ = some (.slice (some ⟨b2, 0, none⟩) m cy) ∧ w'.cell? ⟨ab, 11, none⟩ = some f11 ∧ w'.frozen? ⟨ab, 11, none⟩ = false ∧
              (∀ v, (w'.setCell ⟨ab, 11, none⟩ v).cell? ⟨ab, 12, none⟩ = some f12) ∧ (∀ v, (w'.setCell ⟨ab, 11, none⟩ v).frozen? ⟨ab, 12, none⟩ = false) ∧ (∀ v, (w'.setCell ⟨ab, 11, none⟩ v).cell? ⟨ab, 0, none⟩ = some (.slice (some ⟨bx, 0, none⟩) n cx)) ∧ (∀ v, (w'.setCell ⟨ab, 11, none⟩ v).cell? ⟨ab, 1, none⟩ = some (.slice (some ⟨b2, 0, none⟩) m cy)) ∧
              (∀ u v, ((w'.setCell ⟨ab, 11, none⟩ u).setCell ⟨ab, 12, none⟩ v).cell? ⟨ab, 0, none⟩ = some (.slice (some ⟨bx, 0, none⟩) n cx)) ∧ (∀ u v, ((w'.setCell ⟨ab, 11, none⟩ u).setCell ⟨ab, 12, none⟩ v).cell? ⟨ab, 1, none⟩ = some (.slice (some ⟨b2, 0, none⟩) m cy)) ∧
              Hid (w4.heap.size ≤ b4 ∧ w'.rowIs ab 37 13 f4 ∧ w'.rowIs w4.heap.size 3 (n + 1) (fun i => .int .i64 (cnt (shr x y m) i)) ∧ w'.rowIs b4 3 (m + 1) (fun i => .int .i64 (cnt (shr y x n) i)) ∧ Wrote [ab] w w')) := by
            intro w5 K5
            refine (countBefore_any m w.heap.size (shr y x n) a4 e4 w5 hm (own_wrote H4.out.2.2.2.2 K5.out.2 (by simp))).mono ?_
            rintro e w' ⟨rfl, k1, k2⟩
            have kk := K5.out.2.trans k2
            have R := kk.row H4.out.1 (by simp)
            have g0 : f4 0 = .slice (some ⟨bx, 0, none⟩) n cx := (H4.out.2.1 0 (by omega)).trans HF.out.1
            have g1 : f4 1 = .slice (some ⟨b2, 0, none⟩) m cy := (H4.out.2.1 1 (by omega)).trans HF.out.2
            refine ⟨_, f4 11, f4 12, rfl, kk.cell_of c0' (by simp), kk.cell_of c1' (by simp), R.cell (by omega), R.frozen 11, fun v => ?_, fun v => (R.set 11 v).frozen 12, fun v => ?_, fun v => ?_, fun u v => ?_, fun u v => ?_, K5.out.2.size, R, k2.row K5.out.1 (by simp), k1, H4.out.2.2.1.trans (kk.mono (by simp))⟩
            · have := (R.set 11 v).cell (i := 12) (by omega); simpa using this
            · have := (R.set 11 v).cell (i := 0) (by omega); simpa [g0] using this
            · have := (R.set 11 v).cell (i := 1) (by omega); simpa [g1] using this
            · have := ((R.set 11 u).set 12 v).cell (i := 0) (by omega); simpa [g0] using this
            · have := ((R.set 11 u).set 12 v).cell (i := 1) (by omega); simpa [g1] using this
          go_upto_region 4 with fail
          go_region_held3 (fun w' => w'.cell? ⟨ab, 0, none⟩ = some (.slice (some ⟨bx, 0, none⟩) n cx) ∧ w'.cell? ⟨ab, 1, none⟩ = some (.slice (some ⟨b2, 0, none⟩) m cy)) (first | exact ⟨c0', c1'⟩ | exact ⟨by assumption, by assumption⟩ | exact ⟨p0 _, p1 _⟩ | exact ⟨p2 _ _, p3 _ _⟩) (first | (go_at_call 16; refine (KC2.out _ K5).mono ?_; rintro e wx ⟨b4, f11, f12, rfl, q0, q1, q11, fr11, q12, fr12, p0, p1, p2, p3, K6⟩) | (go_at_call 16; refine KC1.out.mono ?_; rintro e wx ⟨rfl, k0, k1, K5⟩))
          go_wp2
          go_end0
          have hb1 : w4.heap.size ≠ ab := by omega
          have hb2 : b4 ≠ ab := by have := K6.out.1; omega
          have ks : ∀ u v, Wrote [ab] wx ((wx.setCell ⟨ab, 11, none⟩ u).setCell ⟨ab, 12, none⟩ v) := fun u v => ((Wrote.refl _ _).setCell (.inl (by simp)) _).setCell (.inl (by simp)) _
          refine ⟨rfl, w4.heap.size, b4, _, (K6.out.2.1.set 11 _).set 12 _, fun i hi => ?_, rfl, rfl, by omega, by have := K6.out.1; omega, fun i hi => ?_, fun i hi => ?_, K6.out.2.2.2.2.trans (ks _ _)⟩
          · show (if i = 12 then _ else if i = 11 then _ else f4 i) = f i
            rw [if_neg (by omega), if_neg (by omega)]
            exact H4.out.2.1 i hi
          · exact ((ks _ _).row K6.out.2.2.1 (by simpa using hb1)).cell (by omega)
          · exact ((ks _ _).row K6.out.2.2.2.1 (by simpa using hb2)).cell (by omega)
end Go.Proofs.Ybulkbptu
