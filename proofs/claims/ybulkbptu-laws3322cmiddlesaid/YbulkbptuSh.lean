import Derived.Test.YbulkbptuFew
import Derived.OwnWalk
import Derived.Maps.AppendAt
import Derived.Deep.AppendLies
import Derived.Deep.CutRange
namespace Go.Proofs.Ybulkbptu
open Go.ChangeShapes Go.WideShapes Go.ChangeAt Go.RowKit
set_option linter.unusedVariables false
set_option linter.unusedSimpArgs false

theorem info3 : (Yba.prog.info? 3).map (fun i => (i.zero, i.size, i.bytes)) = some (some (.int .i64 0), 1, 8) := by kernel_rfl
theorem info4 : (Yba.prog.info? 4).map (fun i => (i.zero, i.size, i.bytes)) = some (some (.bool false), 1, 1) := by kernel_rfl

set_option maxRecDepth 100000 in
set_option maxHeartbeats 4000000 in
theorem numClasses_any (bx n cx b2 m cy : Nat) (x y : Nat → Int) (w : World) (hn : n ≤ 1000) (hm : m ≤ 1000)
    (hx : ∀ i, i < n → w.cell? ⟨bx, i, none⟩ = some (.int .i64 (x i))) (hy : ∀ i, i < m → w.cell? ⟨b2, i, none⟩ = some (.int .i64 (y i))) (bX : ∀ i, 0 ≤ x i ∧ x i ≤ 13) (bY : ∀ i, 0 ≤ y i ∧ y i ≤ 13) :
    Calls Yba.prog 13 #[.slice (some ⟨bx, 0, none⟩) n cx, .slice (some ⟨b2, 0, none⟩) m cy] w fun e w' => ∃ N : Nat, e = .returned (.int .i64 N) ∧ N ≤ 14 ∧ (∀ i, i < n → x i < N) ∧ (∀ i, i < m → y i < N) ∧ w' = w := by
  have HX := Hid.mk' hx
  have HY := Hid.mk' hy
  have BX := Hid.mk' bX
  have BY := Hid.mk' bY
  clear hx hy bX bY
  go_enter Yba.func13, Yba.ntmps13
  go_wp2
  go_loopg [5, 12] n (fun gk s5 s12 wr => ∃ (i : Nat) (N : Int), i + gk = n ∧ s5 = .int .i64 N ∧ s12 = .int .i64 i ∧ 0 ≤ N ∧ N ≤ 14 ∧ Hid (∀ q, q < i → x q < N) ∧ w = wr)
  case atStart => exact ⟨0, 0, by omega, rfl, rfl, by omega, by omega, fun q hq => by omega, rfl⟩
  case round =>
    obtain ⟨i, N, hi, rfl, rfl, hN0, hN, HN, rfl⟩ := hrel
    by_cases hlt : i < n
    · have hlt' : (i : Int) < n := by omega
      have c := HX.out i hlt
      have b := BX.out i
      go_wp2
      all_goals
        go_roundg (n - (i + 1))
        case measure => omega
        case rel =>
          first
            | exact ⟨i + 1, N, by omega, rfl, by go_num, by omega, by omega, fun q hq => by
                by_cases e : q = i
                · subst e; omega
                · have := HN.out q (by omega); omega, rfl⟩
            | exact ⟨i + 1, x i + 1, by omega, rfl, by go_num, by omega, by omega, fun q hq => by
                by_cases e : q = i
                · subst e; omega
                · have := HN.out q (by omega); omega, rfl⟩
    · have hlt' : ¬ (i : Int) < n := by omega
      obtain rfl : i = n := by omega
      go_wp2
      go_loopg [5, 23] m (fun gk s5 s23 wr => ∃ (j : Nat) (N' : Int), j + gk = m ∧ s5 = .int .i64 N' ∧ s23 = .int .i64 j ∧ N ≤ N' ∧ N' ≤ 14 ∧ Hid (∀ q, q < j → y q < N') ∧ w = wr)
      case atStart => exact ⟨0, N, by omega, rfl, rfl, by omega, by omega, fun q hq => by omega, rfl⟩
      case round =>
        obtain ⟨j, N', hj, rfl, rfl, hN1, hN2, HN', rfl⟩ := hrel
        by_cases hlt2 : j < m
        · have hlt2' : (j : Int) < m := by omega
          have c := HY.out j hlt2
          have b := BY.out j
          go_wp2
          all_goals
            go_roundg (m - (j + 1))
            case measure => omega
            case rel =>
              first
                | exact ⟨j + 1, N', by omega, rfl, by go_num, by omega, by omega, fun q hq => by
                    by_cases e : q = j
                    · subst e; omega
                    · have := HN'.out q (by omega); omega, rfl⟩
                | exact ⟨j + 1, y j + 1, by omega, rfl, by go_num, by omega, by omega, fun q hq => by
                    by_cases e : q = j
                    · subst e; omega
                    · have := HN'.out q (by omega); omega, rfl⟩
        · have hlt2' : ¬ (j : Int) < m := by omega
          obtain ⟨K, rfl⟩ : ∃ K : Nat, N' = K := ⟨N'.toNat, by omega⟩
          go_wp2
          go_ret
          exact ⟨K, rfl, by omega, fun q hq => by have := HN.out q hq; omega, fun q hq => HN'.out q (by omega), rfl⟩

/-- Is c among the first q of y? -/
def hasZ (y : Nat → Int) : Nat → Int → Bool
  | 0, _ => false
  | q + 1, c => hasZ y q c || decide (y q = c)
theorem hasZ_of {y : Nat → Int} {c : Int} : ∀ {q i : Nat}, i < q → y i = c → hasZ y q c = true
  | 0, i, h, _ => by omega
  | q + 1, i, h, e => by
    simp only [hasZ, Bool.or_eq_true, decide_eq_true_eq]
    by_cases hi : i = q
    · subst hi; exact .inr e
    · exact .inl (hasZ_of (by omega) e)

set_option maxRecDepth 100000 in
set_option maxHeartbeats 4000000 in
theorem present_any (b2 m cy N : Nat) (y : Nat → Int) (w : World) (hm : m ≤ 1000) (hN : N ≤ 14)
    (hy : ∀ i, i < m → w.cell? ⟨b2, i, none⟩ = some (.int .i64 (y i))) (bY : ∀ i, i < m → 0 ≤ y i ∧ y i < N) :
    Calls Yba.prog 15 #[.slice (some ⟨b2, 0, none⟩) m cy, .int .i64 N] w fun e w' => e = .returned (.slice (some ⟨w.heap.size, 0, none⟩) N N) ∧ w'.rowIs w.heap.size 4 N (fun i => .bool (hasZ y m i)) ∧ Wrote [] w w' := by
  have HY := Hid.mk' hy
  have BY := Hid.mk' bY
  clear hy bY
  have mB := run_make_row' (P := Yba.prog) 35 4 (.bool false) 1 Yba.underlying35 info4 rfl .i64 .i64 N (by omega) (by omega)
  go_enter Yba.func15, Yba.ntmps15
  go_wp2
  clear mB
  go_loopg [12] m (fun gk s12 wr => ∃ i : Nat, i + gk = m ∧ s12 = .int .i64 i ∧ Hid (wr.rowIs w.heap.size 4 N (fun q => .bool (hasZ y i q)) ∧ Wrote [] w wr))
  case atStart => exact ⟨0, by omega, rfl, World.rowIs_made _ _ _ _, (Wrote.refl _ _).alloc _⟩
  case round =>
    obtain ⟨i, hi, rfl, HR⟩ := hrel
    by_cases hlt : i < m
    · have hlt' : (i : Int) < m := by omega
      have b := BY.out i hlt
      obtain ⟨k, hk⟩ : ∃ k : Nat, y i = k := ⟨(y i).toNat, by omega⟩
      have c : wr.cell? ⟨b2, i, none⟩ = some (.int .i64 k) := by rw [← hk]; exact HR.out.2.cell_of (HY.out i hlt) (by simp)
      have hkN : (k : Int) < N := by omega
      have cb := HR.out.1.cell (i := k) (by omega)
      have fb := HR.out.1.frozen k
      have HK := Hid.mk' hk
      clear b hk
      go_wp2
      go_roundg (m - (i + 1))
      case measure => omega
      case rel =>
        refine ⟨i + 1, by omega, by go_num, (HR.out.1.set k _).congr (fun q hq => ?_), HR.out.2.setCell (.inr (Nat.le_refl _)) _⟩
        show (if q = k then Value.bool true else Value.bool (hasZ y i q)) = .bool (hasZ y i q || decide (y i = q))
        rw [HK.out]
        by_cases e : q = k
        · simp [e]
        · rw [if_neg e, decide_eq_false (by omega), Bool.or_false]
    · have hlt' : ¬ (i : Int) < m := by omega
      obtain rfl : i = m := by omega
      go_wp2
      go_ret
      exact ⟨rfl, HR.out.1, HR.out.2⟩
end Go.Proofs.Ybulkbptu
