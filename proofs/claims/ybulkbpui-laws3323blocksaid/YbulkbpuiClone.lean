import Derived.Test.YbulkbpuiLS
namespace Go.Proofs.Ybulkbpui
open Go.ChangeShapes Go.WideShapes Go.ChangeAt Go.RowKit
set_option linter.unusedVariables false

/-- A transaction that is all zero. -/
def z41 : Value := .agg #[.string "".toUTF8, .bool false, .bool false, .bool false, .int .i64 0, .slice none 0 0, .slice none 0 0, .slice none 0 0]
/-- An item that is all zero. -/
def z43 : Value := .agg #[.int .i64 0, .int .i64 0, .int .i64 0, .int .i64 0]
theorem info41 : (Yba.prog.info? 41).map (fun i => (i.zero, i.size, i.bytes)) = some (some z41, 8, 104) := by kernel_rfl
theorem info43 : (Yba.prog.info? 43).map (fun i => (i.zero, i.size, i.bytes)) = some (some z43, 4, 32) := by kernel_rfl

/-- A copy of n elements of k cells in new memory. -/
def CloneEnd (n k : Nat) (T : Nat → Nat → Value) (w : World) (e : Ending) (w' : World) : Prop :=
  ∃ g cap, e = .returned (.slice (some ⟨g, 0, none⟩) n cap) ∧ w.heap.size ≤ g ∧ n ≤ cap ∧ (∀ u j, u < n → j < k → w'.cell? ⟨g, u * k + j, none⟩ = some (T u j)) ∧ Below w.heap.size w w'

theorem ownsRow_empty (w : World) (t : TypeId) (k base : Nat) (hb : base ≤ w.heap.size) : (w.alloc (.cells #[] t)).ownsRow base t k (.slice (some ⟨w.heap.size, 0, none⟩) 0 0) 0 [] :=
  ⟨by simp, .inr ⟨_, 0, #[], rfl, hb, heap_alloc_new _ _, Nat.le_refl _, Nat.zero_le _, by simp, by simp⟩⟩

theorem list_of {N k : Nat} {T : Nat → Nat → Value} {j : Nat} {u : Value} (h : ((List.range N).map fun i => T (i / k) (i % k))[j]? = some u) : j < N ∧ u = T (j / k) (j % k) := by
  rw [List.getElem?_map] at h
  by_cases hj : j < N
  · rw [List.getElem?_range hj] at h
    simp at h
    exact ⟨hj, h.symm⟩
  · rw [List.getElem?_eq_none (by simp; omega)] at h
    simp at h

theorem clone_end {t : TypeId} {n k : Nat} {T : Nat → Nat → Value} {w w1 : World} {v' : Value} {base : Nat} (hl : 0 < n)
    (h : w1.ownsRow base t k v' n ((List.range (n * k)).map fun i => T (i / k) (i % k))) (hg : (w.alloc (.cells #[] t)).grownBy w1 (Value.ownBlock (.slice (some ⟨w.heap.size, 0, none⟩) 0 0))) (hb : w.heap.size ≤ base) :
    CloneEnd n k T w (.returned v') w1 := by
  have hB : Below w.heap.size w w1 := ((Below.refl _ w).alloc (Nat.le_refl _) _).grown hg (by simp) (fun q hq => by simp [Value.ownBlock] at hq; omega)
  have h0 := h
  rcases h.2 with ⟨_, h⟩ | ⟨g, cap, cur, rfl, hgb, hh, hc1, hc2, hc3, hc4⟩
  · omega
  · refine ⟨g, cap, rfl, by omega, by omega, fun u j hu hj => ?_, hB⟩
    have hlt := idx_lt hu hj
    have e1 : (List.take (n * k) cur.toList)[u * k + j]? = cur.toList[u * k + j]? := List.getElem?_take_of_lt hlt
    rw [hc4, List.getElem?_map, List.getElem?_range hlt] at e1
    simp only [Option.map_some, idx_div hj, idx_mod hj] at e1
    unfold World.cell?
    rw [hh]
    simp only [Array.getElem?_toList] at e1
    simp [e1.symm]


set_option maxHeartbeats 400000 in
theorem cloneT (b n cap : Nat) (T : Nat → Nat → Value) (w : World) (hl : 0 < n) (hlen : n ≤ 2000) (h1 : ∀ u j, (T u j).oneCell' = true) (hc : Grid w b 41 n 8 T) :
    Calls Yba.prog 6 #[.slice (some ⟨b, 0, none⟩) n cap] w (CloneEnd n 8 T w) := by
  obtain ⟨i0, hi, hz0, hz1, hz2⟩ := info_parts info41
  have hq := fun wx => Lib.run_eql_slice_nil (P := Yba.prog) wx 30 41 (some ⟨b, 0, none⟩) n cap 0 0 Yba.underlying30
  have hblt : b < w.heap.size := hc.lt
  have HC : Hid (Grid w b 41 n 8 T) := hc
  have H1 : Hid (∀ u j, (T u j).oneCell' = true) := h1
  clear hc h1
  go_enter Yba.func6, Yba.ntmps6
  go_wp2_with (at_builtin; refine wpList_append_own _ rfl _ _ 30 rfl w.heap.size 41 i0 z41 8 104 Yba.underlying30 hi hz0 hz1 hz2 rfl (by decide) _ 0 [] rfl (ownsRow_empty _ _ _ _ (Nat.le_refl _)) ⟨b, 0, none⟩ n cap ((List.range (n * 8)).map fun i => T (i / 8) (i % 8)) rfl (by simp) ?h1 ?h2 (by unfold maxLen; omega) (by omega) (by simp) ?h3)
  case h1 =>
    intro j u hj
    obtain ⟨hj1, rfl⟩ := list_of hj
    rw [add_plain, Nat.zero_add, World.cell?_alloc_past _ _ _ hblt]
    exact World.rowIs.cell HC.out hj1
  case h2 =>
    intro u hu
    simp at hu
    obtain ⟨a, _, rfl⟩ := hu
    exact H1.out _ _
  case h3 =>
    intro v' w1 hown hgrow _
    go_wp2
    go_ret
    exact clone_end hl hown hgrow (Nat.le_refl _)

set_option maxHeartbeats 400000 in
theorem cloneI (b n cap : Nat) (T : Nat → Nat → Value) (w : World) (hl : 0 < n) (hlen : n ≤ 2000) (h1 : ∀ u j, (T u j).oneCell' = true) (hc : Grid w b 43 n 4 T) :
    Calls Yba.prog 7 #[.slice (some ⟨b, 0, none⟩) n cap] w (CloneEnd n 4 T w) := by
  obtain ⟨i0, hi, hz0, hz1, hz2⟩ := info_parts info43
  have hq := fun wx => Lib.run_eql_slice_nil (P := Yba.prog) wx 31 43 (some ⟨b, 0, none⟩) n cap 0 0 Yba.underlying31
  have hblt : b < w.heap.size := hc.lt
  have HC : Hid (Grid w b 43 n 4 T) := hc
  have H1 : Hid (∀ u j, (T u j).oneCell' = true) := h1
  clear hc h1
  go_enter Yba.func7, Yba.ntmps7
  go_wp2_with (at_builtin; refine wpList_append_own _ rfl _ _ 31 rfl w.heap.size 43 i0 z43 4 32 Yba.underlying31 hi hz0 hz1 hz2 rfl (by decide) _ 0 [] rfl (ownsRow_empty _ _ _ _ (Nat.le_refl _)) ⟨b, 0, none⟩ n cap ((List.range (n * 4)).map fun i => T (i / 4) (i % 4)) rfl (by simp) ?h1 ?h2 (by unfold maxLen; omega) (by omega) (by simp) ?h3)
  case h1 =>
    intro j u hj
    obtain ⟨hj1, rfl⟩ := list_of hj
    rw [add_plain, Nat.zero_add, World.cell?_alloc_past _ _ _ hblt]
    exact World.rowIs.cell HC.out hj1
  case h2 =>
    intro u hu
    simp at hu
    obtain ⟨a, _, rfl⟩ := hu
    exact H1.out _ _
  case h3 =>
    intro v' w1 hown hgrow _
    go_wp2
    go_ret
    exact clone_end hl hown hgrow (Nat.le_refl _)

theorem txV_one (nm : Nat → ByteArray) (en lk : Nat → Bool) (hd : Nat → Int) (itm nx rd : Nat → Value) (h1 : ∀ u, (itm u).oneCell' = true) (h2 : ∀ u, (nx u).oneCell' = true) (h3 : ∀ u, (rd u).oneCell' = true) (u j : Nat) : (txV nm en lk hd itm nx rd u j).oneCell' = true := by
  match j with
  | 0 | 1 | 2 | 3 | 4 => rfl
  | 5 => exact h1 u
  | 6 => exact h2 u
  | n + 7 => exact h3 u
theorem itV_one (H L W : Nat → Int) (u j : Nat) : (itV H L W u j).oneCell' = true := by
  match j with
  | 0 | 1 | 2 => rfl
  | n + 3 => rfl
end Go.Proofs.Ybulkbpui
