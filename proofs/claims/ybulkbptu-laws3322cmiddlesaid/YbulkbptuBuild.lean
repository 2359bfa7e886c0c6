import Derived.Test.YbulkbptuSh2
namespace Go.Proofs.Ybulkbptu
open Go.ChangeShapes Go.WideShapes Go.ChangeAt Go.RowKit
set_option linter.unusedVariables false
set_option linter.unusedSimpArgs false

/-- The first i numbers of X, as values. -/
def vals (X : Nat → Int) (i : Nat) : List Value := (List.range i).map (fun q => .int .i64 (X q))
theorem vals_succ (X : Nat → Int) (i : Nat) : vals X (i + 1) = vals X i ++ [.int .i64 (X i)] := by
  unfold vals
  rw [List.range_succ, List.map_append]
  rfl
theorem vals_at (X : Nat → Int) {i n : Nat} (h : i < n) : (vals X n)[i]? = some (.int .i64 (X i)) := by
  unfold vals
  rw [List.getElem?_map, List.getElem?_range h]
  rfl

set_option maxRecDepth 100000 in
set_option maxHeartbeats 4000000 in
theorem build_any (a0 : Option Addr) (len cap : Nat) (r X : Nat → Int) (first last : Int) (w : World) (hlen : len ≤ 300)
    (hr : ∀ i, i < len → ∃ ad, a0 = some ad ∧ w.cell? (ad.add i) = some (.int .u8 (r i)) ∧ 0 ≤ r i ∧ r i ≤ 255) (h0 : X 0 = first) (h1 : ∀ i, i < len → X (i + 1) = r i % 4) (h2 : X (len + 1) = last) :
    Calls Yba.prog 7 #[.slice a0 len cap, .int .i64 first, .int .i64 last] w fun e w' => e = .returned (.slice (some ⟨w.heap.size, 0, none⟩) (len + 2) (len + 2)) ∧ (∀ i, i < len + 2 → w'.cell? ⟨w.heap.size, i, none⟩ = some (.int .i64 (X i))) ∧ Wrote [] w w' ∧ w.heap.size < w'.heap.size := by
  have HR := Hid.mk' hr
  have H0 := Hid.mk' h0
  have H1 := Hid.mk' h1
  have H2 := Hid.mk' h2
  clear hr h0 h1 h2
  obtain ⟨ii, hi, hz, hsz, hby⟩ := info_parts info3
  have HI := Hid.mk' (show Yba.prog.info? 3 = some ii ∧ ii.zero = some (.int .i64 0) ∧ ii.size = 1 ∧ ii.bytes = 8 from ⟨hi, hz, hsz, hby⟩)
  clear hi hz hsz hby
  have hml : 2000 ≤ maxLen := by decide
  obtain ⟨g, hg⟩ : ∃ g : Nat, g = w.heap.size := ⟨_, rfl⟩
  have HGE := Hid.mk' hg
  rw [← hg]
  clear hg
  go_enter Yba.func7, Yba.ntmps7
  go_wp2_with (at_make; refine wpList_make_own _ rfl _ _ 22 rfl w.heap.size 3 ii (.int .i64 0) 1 Yba.underlying22 HI.out.1 HI.out.2.1 HI.out.2.2.1 .i64 .i64 _ (len + 2) rfl rfl (by omega) (by rw [HI.out.2.2.2]; omega) (by omega) (Nat.le_refl _) ?m1)
  case m1 =>
    intro w1 hown1 hgrow1
    rw [← HGE.out] at hown1 ⊢
    have HO1 := Hid.mk' hown1
    have HW1 := Hid.mk' ((Wrote.refl [] w).grown hgrow1 (fun k hk => by cases hk))
    clear hown1 hgrow1
    go_wp2_with (at_builtin; refine wpList_append_fits _ rfl (.tmp 13) (.tmp 15) 22 rfl g 3 ii 1 Yba.underlying22 HI.out.1 HI.out.2.2.1 g 0 (len + 2) [] rfl (HO1.out.alloc _) ⟨w1.heap.size, 0, none⟩ 1 1 [.int .i64 first] rfl rfl (cell_one_new _ _ _) (by simp [Value.oneCell']) (by omega) ?m2)
    case m2 =>
      intro w2 hown2 hgrow2
      have HO2 : Hid (w2.ownsRow g 3 1 (.slice (some ⟨g, 0, none⟩) 1 (len + 2)) 1 (vals X 1)) := by
        have e : vals X 1 = [.int .i64 first] := by rw [vals_succ, H0.out]; rfl
        show w2.ownsRow _ _ _ _ _ _
        rw [e]
        exact hown2
      have HW2 := Hid.mk' ((HW1.out.alloc _).grown hgrow2 (fun k hk => by cases hk; exact .inr (Nat.le_of_eq HGE.out.symm)))
      clear hown2 hgrow2 HO1 HW1
      go_wp2
      go_loopg [7, 8] len (fun gk s7 s8 wr => ∃ i : Nat, i + gk = len ∧ s7 = .slice (some ⟨g, 0, none⟩) (i + 1) (len + 2) ∧ s8 = .int .i64 i ∧ Hid (wr.ownsRow g 3 1 (.slice (some ⟨g, 0, none⟩) (i + 1) (len + 2)) (i + 1) (vals X (i + 1)) ∧ Wrote [] w wr))
      case atStart => exact ⟨0, by omega, rfl, rfl, HO2.out, HW2.out⟩
      case round =>
        obtain ⟨i, hi, rfl, rfl, HRR⟩ := hrel
        clear HO2 HW2
        by_cases hlt : i < len
        · have hlt' : (i : Int) < len := by omega
          obtain ⟨ad, rfl, hc, b1, b2⟩ := HR.out i hlt
          have hc' : wr.cell? (ad.add i) = some (.int .u8 (r i)) := HRR.out.2.cell_of hc (by simp)
          have hx := H1.out i hlt
          obtain ⟨z, hz⟩ : ∃ z : Int, r i = z := ⟨_, rfl⟩
          rw [hz] at hc hc' hx b1 b2
          have HXE := Hid.mk' hx
          have ht : z.tmod 4 = z % 4 := Int.tmod_eq_emod_of_nonneg b1
          clear hx hz hc
          go_wp2_with (at_builtin; refine wpList_append_fits _ rfl (.tmp 23) (.tmp 30) 22 rfl g 3 ii 1 Yba.underlying22 HI.out.1 HI.out.2.2.1 g (i + 1) (len + 2) (vals X (i + 1)) rfl (HRR.out.1.alloc _) ⟨wr.heap.size, 0, none⟩ 1 1 [.int .i64 (z % 4)] rfl rfl (cell_one_new _ _ _) (by simp [Value.oneCell']) (by omega) ?m3)
          case m3 =>
            intro w3 hown3 hgrow3
            have HO3 : Hid (w3.ownsRow g 3 1 (.slice (some ⟨g, 0, none⟩) (i + 1 + 1) (len + 2)) (i + 1 + 1) (vals X (i + 1 + 1))) := by
              show w3.ownsRow _ _ _ _ _ _
              rw [vals_succ X (i + 1), HXE.out]
              exact hown3
            have HW3 := Hid.mk' ((HRR.out.2.alloc _).grown hgrow3 (fun k hk => by cases hk; exact .inr (Nat.le_of_eq HGE.out.symm)))
            clear hown3 hgrow3
            go_wp2
            go_roundg (len - (i + 1))
            case measure => omega
            case rel => exact ⟨i + 1, by omega, rfl, by go_num, HO3.out, HW3.out⟩
        · have hlt' : ¬ (i : Int) < len := by omega
          obtain rfl : i = len := by omega
          go_wp2_with (at_builtin; refine wpList_append_fits _ rfl (.tmp 32) (.tmp 34) 22 rfl g 3 ii 1 Yba.underlying22 HI.out.1 HI.out.2.2.1 g (i + 1) (i + 2) (vals X (i + 1)) rfl (HRR.out.1.alloc _) ⟨wr.heap.size, 0, none⟩ 1 1 [.int .i64 last] rfl rfl (cell_one_new _ _ _) (by simp [Value.oneCell']) (by omega) ?m4)
          case m4 =>
            intro w4 hown4 hgrow4
            have HO4 : Hid (w4.ownsRow g 3 1 (.slice (some ⟨g, 0, none⟩) (i + 2) (i + 2)) (i + 2) (vals X (i + 2))) := by
              show w4.ownsRow _ _ _ _ _ _
              rw [vals_succ X (i + 1), H2.out]
              exact hown4
            have HW4 := Hid.mk' ((HRR.out.2.alloc _).grown hgrow4 (fun k hk => by cases hk; exact .inr (Nat.le_of_eq HGE.out.symm)))
            clear hown4 hgrow4
            go_wp2
            go_ret
            refine ⟨rfl, fun q hq => ?_, HW4.out, ?_⟩
            · rw [HO4.out.cellAt q (by omega)]
              exact vals_at X hq
            · exact HGE.out ▸ (HO4.out.lt g rfl).2
end Go.Proofs.Ybulkbptu
