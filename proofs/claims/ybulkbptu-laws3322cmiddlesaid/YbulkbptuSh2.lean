import Derived.Test.YbulkbptuSh
namespace Go.Proofs.Ybulkbptu
open Go.ChangeShapes Go.WideShapes Go.ChangeAt Go.RowKit
set_option linter.unusedVariables false
set_option linter.unusedSimpArgs false

/-- The shared indices below i, as values. -/
def idx (s : Nat → Bool) : Nat → List Value
  | 0 => []
  | i + 1 => idx s i ++ (if s i then [.int .i64 i] else [])
theorem idx_at (s : Nat → Bool) : ∀ {i j : Nat}, j < i → s j = true → (idx s i)[cnt s j]? = some (.int .i64 j)
  | 0, j, h, _ => by omega
  | i + 1, j, h, hs => by
    have hlen : ∀ i, (idx s i).length = cnt s i := fun i => by
      induction i with
      | zero => rfl
      | succ i ih => unfold idx cnt; rw [List.length_append, ih]; split <;> rfl
    unfold idx
    by_cases e : j = i
    · subst e
      rw [List.getElem?_append_right (by rw [hlen]; exact Nat.le_refl _), hlen, Nat.sub_self, if_pos hs]
      rfl
    · have h1 : cnt s j < cnt s i := by
        have := cnt_mono s (i := j + 1) (j := i) (by omega)
        have e2 : cnt s (j + 1) = cnt s j + 1 := by simp [cnt, hs]
        omega
      rw [List.getElem?_append_left (by rw [hlen]; exact h1)]
      exact idx_at s (by omega) hs
/-- Each place below the number of shared ones is some shared index's. -/
theorem cnt_hit (s : Nat → Bool) : ∀ {n k : Nat}, k < cnt s n → ∃ j, j < n ∧ s j = true ∧ cnt s j = k
  | 0, k, h => by simp [cnt] at h
  | n + 1, k, h => by
    by_cases h1 : k < cnt s n
    · obtain ⟨j, a, b, c⟩ := cnt_hit s h1
      exact ⟨j, by omega, b, c⟩
    · unfold cnt at h
      cases hs : s n with
      | true => rw [hs] at h; simp at h; exact ⟨n, by omega, hs, by omega⟩
      | false => rw [hs] at h; simp at h; omega
theorem cnt_inj (s : Nat → Bool) {i j : Nat} (h1 : s i = true) (h2 : s j = true) (h : cnt s i = cnt s j) : i = j := by
  have a1 : cnt s (i + 1) = cnt s i + 1 := by simp [cnt, h1]
  have a2 : cnt s (j + 1) = cnt s j + 1 := by simp [cnt, h2]
  by_cases hlt : i < j
  · have := cnt_mono s (i := i + 1) (j := j) (by omega); omega
  · by_cases hgt : j < i
    · have := cnt_mono s (i := j + 1) (j := i) (by omega); omega
    · omega

/-- Two rows of integers that a call owns, in blocks of their own. -/
structure Two (base : Nat) (w : World) (v1 v2 : Value) (n1 n2 : Nat) (ks xs : List Value) : Prop where
  a : w.ownsRow base 3 1 v1 n1 ks
  b : w.ownsRow base 3 1 v2 n2 xs
  ne : ∀ g, v1.ownBlock = some g → v2.ownBlock ≠ some g
theorem Two.alloc {base : Nat} {w : World} {v1 v2 : Value} {n1 n2 : Nat} {ks xs : List Value} (h : Two base w v1 v2 n1 n2 ks xs) (o : Obj) : Two base (w.alloc o) v1 v2 n1 n2 ks xs := ⟨h.a.alloc o, h.b.alloc o, h.ne⟩
theorem Two.swap {base : Nat} {w : World} {v1 v2 : Value} {n1 n2 : Nat} {ks xs : List Value} (h : Two base w v1 v2 n1 n2 ks xs) : Two base w v2 v1 n2 n1 xs ks := ⟨h.b, h.a, fun g h1 h2 => h.ne g h2 h1⟩
theorem Two.left {base : Nat} {w w' : World} {v1 v2 v1' : Value} {n1 n2 n1' : Nat} {ks xs ks' : List Value} (h : Two base w v1 v2 n1 n2 ks xs) (hg : w.grownBy w' v1.ownBlock) (ho : w'.ownsRow base 3 1 v1' n1' ks') (hat : v1'.ownBlock = v1.ownBlock ∨ ∃ q, v1'.ownBlock = some q ∧ w.heap.size ≤ q) : Two base w' v1' v2 n1' n2 ks' xs := by
  refine ⟨ho, h.b.kept hg ?_, fun g h1 h2 => ?_⟩
  · cases e : v2.ownBlock with
    | none => exact .inl rfl
    | some g => exact .inr (fun e2 => h.ne g e2.symm e)
  · rcases hat with hat | hat
    · exact h.ne g (by rw [← hat]; exact h1) h2
    · obtain ⟨q, hq, hle⟩ := hat
      have := (h.b.lt g h2).2
      rw [hq] at h1
      cases h1
      omega

set_option maxRecDepth 100000 in
set_option maxHeartbeats 4000000 in
theorem shared_any (bx n cx bo N : Nat) (x : Nat → Int) (O : Nat → Bool) (w : World) (hn : n ≤ 1000) (hN : N ≤ 14)
    (hx : ∀ i, i < n → w.cell? ⟨bx, i, none⟩ = some (.int .i64 (x i))) (bX : ∀ i, i < n → 0 ≤ x i ∧ x i < N) (hO : ∀ i, i < N → w.cell? ⟨bo, i, none⟩ = some (.bool (O i))) :
    Calls Yba.prog 14 #[.slice (some ⟨bx, 0, none⟩) n cx, .slice (some ⟨bo, 0, none⟩) N N] w fun e w' => ∃ a1 l1 c1 a2 c2, e = .returned (.tuple #[.slice a1 l1 c1, .slice a2 (cnt (fun i => O (x i).toNat) n) c2]) ∧
      w'.ownsRow w.heap.size 3 1 (.slice a2 (cnt (fun i => O (x i).toNat) n) c2) (cnt (fun i => O (x i).toNat) n) (idx (fun i => O (x i).toNat) n) ∧ Wrote [] w w' := by
  have HX := Hid.mk' hx
  have HO := Hid.mk' hO
  have BX := Hid.mk' bX
  clear hx hO bX
  obtain ⟨ii, hi, hz, hsz, hby⟩ := info_parts info3
  have HI := Hid.mk' (show Yba.prog.info? 3 = some ii ∧ ii.zero = some (.int .i64 0) ∧ ii.size = 1 ∧ ii.bytes = 8 from ⟨hi, hz, hsz, hby⟩)
  clear hi hz hsz hby
  have hml : 2000 ≤ maxLen := by decide
  obtain ⟨s, hs⟩ : ∃ s : Nat → Bool, s = fun i => O (x i).toNat := ⟨_, rfl⟩
  rw [← hs]
  have HS := Hid.mk' hs
  clear hs
  go_enter Yba.func14, Yba.ntmps14
  go_wp2
  go_loopg [4, 5, 10] n (fun gk s4 s5 s10 wr => ∃ (i : Nat) (ks : List Value), i + gk = n ∧ s10 = .int .i64 i ∧ Hid (Two w.heap.size wr s4 s5 (cnt s i) (cnt s i) ks (idx s i) ∧ Wrote [] w wr))
  case atStart => exact ⟨0, [], by omega, rfl, ⟨⟨rfl, .inl ⟨rfl, rfl⟩⟩, ⟨rfl, .inl ⟨rfl, rfl⟩⟩, fun g h => by simp [Value.ownBlock] at h⟩, Wrote.refl _ _⟩
  case round =>
    obtain ⟨i, ks, hi, rfl, HR⟩ := hrel
    have hws := HR.out.2.size
    have hcl := cnt_le s i
    by_cases hlt : i < n
    · have hlt' : (i : Int) < n := by omega
      have b := BX.out i hlt
      obtain ⟨k, hk⟩ : ∃ k : Nat, x i = k := ⟨(x i).toNat, by omega⟩
      have c : wr.cell? ⟨bx, i, none⟩ = some (.int .i64 k) := by rw [← hk]; exact HR.out.2.cell_of (HX.out i hlt) (by simp)
      have hkN : (k : Int) < N := by omega
      have co : wr.cell? ⟨bo, k, none⟩ = some (.bool (O k)) := HR.out.2.cell_of (HO.out k (by omega)) (by simp)
      have hsi : Hid (s i = O k) := by show s i = O k; rw [HS.out]; show O (x i).toNat = O k; rw [hk]; rfl
      clear b hk
      cases hok : O k with
      | true =>
        have hsi' : Hid (s i = true) := by show s i = true; rw [hsi.out, hok]
        rw [hok] at co
        clear hok
        go_wp2_with (at_builtin; refine wpList_append_own_at _ rfl (.tmp 19) (.tmp 21) 22 rfl w.heap.size 3 ii (.int .i64 0) 1 8 Yba.underlying22 HI.out.1 HI.out.2.1 HI.out.2.2.1 HI.out.2.2.2 rfl (by decide) u4 (cnt s i) ks rfl (HR.out.1.a.alloc _) ⟨wr.heap.size, 0, none⟩ 1 1 [.int .i64 k] rfl rfl (cell_one_new _ _ _) (by simp [Value.oneCell']) (by omega) (by omega) (by simp; omega) ?k1)
        case k1 =>
          intro v1 w1 hown1 hgrow1 hnil1 hat1
          have HT1 := Hid.mk' ((HR.out.1.alloc _).left hgrow1 hown1 (hat1.imp id (fun e => ⟨_, e, by simp⟩)))
          have HW1 := Hid.mk' ((HR.out.2.alloc _).grown hgrow1 (fun q hq => .inr (HR.out.1.a.lt q hq).1))
          clear hown1 hgrow1 hnil1 hat1
          have hws1 := HW1.out.size
          go_wp2_with (at_builtin; refine wpList_append_own_at _ rfl (.tmp 23) (.tmp 25) 22 rfl w.heap.size 3 ii (.int .i64 0) 1 8 Yba.underlying22 HI.out.1 HI.out.2.1 HI.out.2.2.1 HI.out.2.2.2 rfl (by decide) u5 (cnt s i) (idx s i) rfl (HT1.out.b.alloc _) ⟨w1.heap.size, 0, none⟩ 1 1 [.int .i64 i] rfl rfl (cell_one_new _ _ _) (by simp [Value.oneCell']) (by omega) (by omega) (by simp; omega) ?k2)
          case k2 =>
            intro v2 w2 hown2 hgrow2 hnil2 hat2
            have HT2 := Hid.mk' ((HT1.out.alloc _).swap.left hgrow2 hown2 (hat2.imp id (fun e => ⟨_, e, by simp⟩))).swap
            have HW2 := Hid.mk' ((HW1.out.alloc _).grown hgrow2 (fun q hq => .inr (HT1.out.b.lt q hq).1))
            clear hown2 hgrow2 hnil2 hat2
            go_wp2
            go_roundg (n - (i + 1))
            case measure => omega
            case rel =>
              have e1 : cnt s (i + 1) = cnt s i + 1 := by simp [cnt, hsi'.out]
              have e2 : idx s (i + 1) = idx s i ++ [.int .i64 i] := by simp [idx, hsi'.out]
              refine ⟨i + 1, ks ++ [.int .i64 k], by omega, by go_num, ?_, HW2.out⟩
              rw [e1, e2]
              exact HT2.out
      | false =>
        have hsi' : Hid (s i = false) := by show s i = false; rw [hsi.out, hok]
        rw [hok] at co
        clear hok
        go_wp2
        go_roundg (n - (i + 1))
        case measure => omega
        case rel =>
          have e1 : cnt s (i + 1) = cnt s i := by simp [cnt, hsi'.out]
          have e2 : idx s (i + 1) = idx s i := by simp [idx, hsi'.out]
          refine ⟨i + 1, ks, by omega, by go_num, ?_, HR.out.2⟩
          rw [e1, e2]
          exact HR.out.1
    · have hlt' : ¬ (i : Int) < n := by omega
      obtain rfl : i = n := by omega
      go_wp2
      go_ret2
      have h1 := HR.out.1.a
      have h2 := HR.out.1.b
      have f : ∀ (v : Value) (xs : List Value), wr.ownsRow w.heap.size 3 1 v (cnt s i) xs → ∃ a c, v = .slice a (cnt s i) c := fun v xs h => by
        rcases h.2 with ⟨h, h0⟩ | ⟨g, cap, cur, h, _⟩
        · exact ⟨_, _, by rw [h, h0]⟩
        · exact ⟨_, _, h⟩
      obtain ⟨a1, c1, rfl⟩ := f _ _ h1
      obtain ⟨a2, c2, rfl⟩ := f _ _ h2
      exact ⟨a1, _, c1, a2, c2, rfl, h2, HR.out.2⟩

set_option maxRecDepth 100000 in
set_option maxHeartbeats 4000000 in
theorem countBefore_any (n base : Nat) (s : Nat → Bool) (a2 : Option Addr) (c2 : Nat) (w : World) (hn : n ≤ 1000) (hat : w.ownsRow base 3 1 (.slice a2 (cnt s n) c2) (cnt s n) (idx s n)) :
    Calls Yba.prog 16 #[.int .i64 n, .slice a2 (cnt s n) c2] w fun e w' => e = .returned (.slice (some ⟨w.heap.size, 0, none⟩) (n + 1) (n + 1)) ∧ w'.rowIs w.heap.size 3 (n + 1) (fun i => .int .i64 (cnt s i)) ∧ Wrote [] w w' := by
  have HA : Hid (∀ j, j < n → s j = true → ∃ g, a2 = some ⟨g, 0, none⟩ ∧ w.cell? ⟨g, cnt s j, none⟩ = some (.int .i64 j)) := fun j hj hs => by
    have hlt : cnt s j < cnt s n := by
      have := cnt_mono s (i := j + 1) (j := n) (by omega)
      have e2 : cnt s (j + 1) = cnt s j + 1 := by simp [cnt, hs]
      omega
    rcases hat.2 with ⟨h, h0⟩ | ⟨g, cap, cur, h, _⟩
    · omega
    · cases h
      refine ⟨g, rfl, ?_⟩
      rw [hat.cellAt _ (by omega)]
      exact idx_at s hj hs
  clear hat
  have mR := run_make_row' (P := Yba.prog) 22 3 (.int .i64 0) 8 Yba.underlying22 info3 rfl .i64 .i64 (n + 1) (by omega) (by omega)
  rw [show ((n + 1 : Nat) : Int) = (n : Int) + 1 by omega] at mR
  go_enter Yba.func16, Yba.ntmps16
  go_wp2
  clear mR
  go_loopg [6, 12] n (fun gk s6 s12 wr => ∃ i : Nat, i + gk = n ∧ s6 = .int .i64 (cnt s i) ∧ s12 = .int .i64 i ∧ Hid (wr.rowIs w.heap.size 3 (n + 1) (fun q => .int .i64 (if q ≤ i then (cnt s q : Int) else 0)) ∧ Wrote [] w wr))
  case atStart =>
    refine ⟨0, by omega, rfl, rfl, (World.rowIs_made _ _ _ _).congr (fun q hq => ?_), (Wrote.refl _ _).alloc _⟩
    by_cases e : q ≤ 0
    · obtain rfl : q = 0 := by omega
      rfl
    · rw [if_neg e]
  case round =>
    obtain ⟨i, hi, rfl, rfl, HR⟩ := hrel
    have hcl := cnt_le s i
    have hcn := cnt_le s n
    by_cases hlt : i < n
    · have hlt' : (i : Int) < n := by omega
      have cr := HR.out.1.cell (i := i + 1) (by omega)
      have fr := HR.out.1.frozen (i + 1)
      have hrow : ∀ k' : Int, k' = (cnt s (i + 1) : Int) → (wr.setCell ⟨w.heap.size, i + 1, none⟩ (.int .i64 k')).rowIs w.heap.size 3 (n + 1) (fun q => .int .i64 (if q ≤ i + 1 then (cnt s q : Int) else 0)) := fun k' hk' => by
        refine (HR.out.1.set (i + 1) _).congr (fun q hq => ?_)
        by_cases e : q = i + 1
        · rw [if_pos e, if_pos (by omega), hk', e]
        · rw [if_neg e]
          by_cases e2 : q ≤ i
          · rw [if_pos e2, if_pos (by omega)]
          · rw [if_neg e2, if_neg (by omega)]
      have HROW := Hid.mk' hrow
      clear hrow
      by_cases hk : cnt s i < cnt s n
      · obtain ⟨j, hj, hsj, hcj⟩ := cnt_hit s hk
        obtain ⟨g, rfl, hc⟩ := HA.out j hj hsj
        rw [hcj] at hc
        have hc' : wr.cell? ⟨g, cnt s i, none⟩ = some (.int .i64 j) := HR.out.2.cell_of hc (by simp)
        have hk' : (cnt s i : Int) < cnt s n := by omega
        cases hsi : s i with
        | true =>
          obtain rfl : j = i := cnt_inj s hsj hsi (by omega)
          have e1 : Hid ((cnt s (j + 1) : Int) = (cnt s j : Int) + 1) := by show _ = _; simp [cnt, hsi]
          clear hsi hsj hc hcj
          go_wp2
          go_roundg (n - (j + 1))
          case measure => omega
          case rel => exact ⟨j + 1, by omega, congrArg (Value.int .i64) e1.out.symm, by go_num, HROW.out _ e1.out.symm, HR.out.2.setCell (.inr (Nat.le_refl _)) _⟩
        | false =>
          have hne : ¬ ((j : Int) = i) := fun e => by
            obtain rfl : j = i := by omega
            rw [hsi] at hsj
            cases hsj
          have hne' : ((j : Int) == i) = false := by simpa using hne
          have e1 : Hid ((cnt s (i + 1) : Int) = (cnt s i : Int)) := by show _ = _; simp [cnt, hsi]
          clear hsi hsj hc hcj
          go_wp2
          go_roundg (n - (i + 1))
          case measure => omega
          case rel => exact ⟨i + 1, by omega, congrArg (Value.int .i64) e1.out.symm, by go_num, HROW.out _ e1.out.symm, HR.out.2.setCell (.inr (Nat.le_refl _)) _⟩
      · have hk' : ¬ ((cnt s i : Int) < cnt s n) := by omega
        have e1 : Hid ((cnt s (i + 1) : Int) = (cnt s i : Int)) := by
          show _ = _
          have h1 := cnt_mono s (i := i + 1) (j := n) (by omega)
          have h2 := cnt_mono s (i := i) (j := i + 1) (by omega)
          omega
        go_wp2
        go_roundg (n - (i + 1))
        case measure => omega
        case rel => exact ⟨i + 1, by omega, congrArg (Value.int .i64) e1.out.symm, by go_num, HROW.out _ e1.out.symm, HR.out.2.setCell (.inr (Nat.le_refl _)) _⟩
    · have hlt' : ¬ (i : Int) < n := by omega
      obtain rfl : i = n := by omega
      go_wp2
      go_ret
      refine ⟨rfl, HR.out.1.congr (fun q hq => by rw [if_pos (by omega)]), HR.out.2⟩
end Go.Proofs.Ybulkbptu
