import Derived.Test.YbulkbptuStepB
namespace Go.Proofs.Ybulkbptu
set_option linter.unusedVariables false
variable {M : Nat → Nat → Bool} {n m : Nat}

/-- The forward row, by diagonals. -/
def fX (m : Nat) (F : Nat → Int) (k : Int) : Int := F (k + m + 2).toNat
/-- The backward row, by the reversed sequences' diagonals. -/
def bY (n m : Nat) (B : Nat → Int) (k : Int) : Int := (n : Int) - B ((n : Int) - m - k + m + 2).toNat
def widLo (m : Nat) (lo : Int) : Int := if -(m : Int) < lo then lo - 1 else lo + 1
def widHi (n : Nat) (hi : Int) : Int := if hi < n then hi + 1 else hi - 1
/-- One place turned. -/
def at1 (F : Nat → Int) (i : Nat) (v : Int) : Nat → Int := fun q => if q = i then v else F q
/-- The marks of what is not reached. -/
def mark (n m : Nat) (lo hi v : Int) (F : Nat → Int) : Nat → Int :=
  if hi < n then at1 (if -(m : Int) < lo then at1 F (lo - 2 + m + 2).toNat v else F) (hi + 2 + m + 2).toNat v else (if -(m : Int) < lo then at1 F (lo - 2 + m + 2).toNat v else F)
theorem at1_same (F : Nat → Int) (i : Nat) (v : Int) : at1 F i v i = v := if_pos rfl
theorem at1_ne (F : Nat → Int) {i q : Nat} (v : Int) (h : q ≠ i) : at1 F i v q = F q := if_neg h
theorem mark_in {lo hi v : Int} {F : Nat → Int} {k : Int} (h0 : -(m : Int) ≤ lo) (h1 : lo ≤ k) (h2 : k ≤ hi) : mark n m lo hi v F (k + m + 2).toNat = F (k + m + 2).toNat := by
  unfold mark
  by_cases c1 : hi < n
  · by_cases c2 : -(m : Int) < lo
    · rw [if_pos c1, if_pos c2, at1_ne _ _ (by omega), at1_ne _ _ (by omega)]
    · rw [if_pos c1, if_neg c2, at1_ne _ _ (by omega)]
  · by_cases c2 : -(m : Int) < lo
    · rw [if_neg c1, if_pos c2, at1_ne _ _ (by omega)]
    · rw [if_neg c1, if_neg c2]
theorem mark_lo {lo hi v : Int} {F : Nat → Int} (h1 : lo ≤ hi) (h0 : -(m : Int) < lo) : mark n m lo hi v F (lo - 2 + m + 2).toNat = v := by
  unfold mark
  by_cases c1 : hi < n
  · rw [if_pos c1, if_pos h0, at1_ne _ _ (by omega), at1_same]
  · rw [if_neg c1, if_pos h0, at1_same]
theorem mark_hi {lo hi v : Int} {F : Nat → Int} (h0 : hi < n) : mark n m lo hi v F (hi + 2 + m + 2).toNat = v := by
  unfold mark
  rw [if_pos h0, at1_same]
theorem at1_or (F : Nat → Int) (i : Nat) (v : Int) (q : Nat) : at1 F i v q = F q ∨ at1 F i v q = v := by
  by_cases h : q = i
  · subst h; exact .inr (at1_same _ _ _)
  · exact .inl (at1_ne _ _ h)
theorem mark_or (lo hi v : Int) (F : Nat → Int) (i : Nat) : mark n m lo hi v F i = F i ∨ mark n m lo hi v F i = v := by
  unfold mark
  by_cases c1 : hi < n
  · by_cases c2 : -(m : Int) < lo
    · rw [if_pos c1, if_pos c2]
      rcases at1_or (at1 F (lo - 2 + m + 2).toNat v) (hi + 2 + m + 2).toNat v i with h | h
      · rw [h]; exact at1_or _ _ _ _
      · exact .inr h
    · rw [if_pos c1, if_neg c2]; exact at1_or _ _ _ _
  · by_cases c2 : -(m : Int) < lo
    · rw [if_neg c1, if_pos c2]; exact at1_or _ _ _ _
    · rw [if_neg c1, if_neg c2]; exact .inl rfl
theorem widLo_or (m : Nat) (lo : Int) (h : -(m : Int) ≤ lo) : (-(m : Int) < lo ∧ widLo m lo = lo - 1) ∨ (lo = -(m : Int) ∧ widLo m lo = lo + 1) := by
  unfold widLo
  split
  · next c => exact .inl ⟨c, rfl⟩
  · next c => exact .inr ⟨by omega, rfl⟩
theorem widHi_or (n : Nat) (hi : Int) (h : hi ≤ n) : (hi < n ∧ widHi n hi = hi + 1) ∨ (hi = n ∧ widHi n hi = hi - 1) := by
  unfold widHi
  split
  · next c => exact .inl ⟨c, rfl⟩
  · next c => exact .inr ⟨by omega, rfl⟩

set_option maxHeartbeats 4000000 in
/-- What the walk of a forward step needs, and what it gives. -/
theorem fwd_pre {d : Nat} {lo hi : Int} {F : Nat → Int} (hnm : 2 ≤ n + m) (I : Inv M n m d lo hi (fX m F)) :
    widLo m lo ≤ widHi n hi ∧ -(m : Int) ≤ widLo m lo ∧ widHi n hi ≤ n ∧ ((widHi n hi - widLo m lo) % 2 = 0) ∧
    ∀ j : Nat, j % 2 = 1 → j + 1 < (widHi n hi - widLo m lo + 3).toNat →
      0 ≤ max (mark n m lo hi (-1) F ((widLo m lo - 1 + m + 2).toNat + j - 1) + 1) (mark n m lo hi (-1) F ((widLo m lo - 1 + m + 2).toNat + j + 1)) ∧
      0 ≤ max (mark n m lo hi (-1) F ((widLo m lo - 1 + m + 2).toNat + j - 1) + 1) (mark n m lo hi (-1) F ((widLo m lo - 1 + m + 2).toNat + j + 1)) - (widLo m lo - 1 + j) ∧
      max (mark n m lo hi (-1) F ((widLo m lo - 1 + m + 2).toNat + j - 1) + 1) (mark n m lo hi (-1) F ((widLo m lo - 1 + m + 2).toNat + j + 1)) ≤ n + d + 1 := by
  have i1 := I.le
  have i2 := I.lo_ge
  have i3 := I.hi_le
  have i4 := I.plo
  have i5 := I.phi
  have wl := widLo_or m lo i2
  have wh := widHi_or n hi i3
  have hle : widLo m lo ≤ widHi n hi := by omega
  refine ⟨hle, by omega, by omega, by omega, fun j hj hl => ?_⟩
  have key := I.key (Xs := fX m (mark n m lo hi (-1) F)) wl wh (fun k h1 h2 _ => mark_in i2 h1 h2) (fun h => by
    have := mark_lo (n := n) (m := m) (v := -1) (F := F) i1 h
    unfold fX
    rw [show widLo m lo - 1 + m + 2 = lo - 2 + m + 2 by omega]
    exact this) (fun h => by
    have := mark_hi (n := n) (m := m) (lo := lo) (v := -1) (F := F) h
    unfold fX
    rw [show widHi n hi + 1 + m + 2 = hi + 2 + m + 2 by omega]
    exact this) (widLo m lo - 1 + j) (by omega) (by omega) (by omega)
  obtain ⟨k1, k2, k3, _⟩ := key
  have e1 : (widLo m lo - 1 + m + 2).toNat + j - 1 = (widLo m lo - 1 + j - 1 + m + 2).toNat := by omega
  have e2 : (widLo m lo - 1 + m + 2).toNat + j + 1 = (widLo m lo - 1 + j + 1 + m + 2).toNat := by omega
  rw [e1, e2]
  exact ⟨k1, k2, k3⟩
set_option maxHeartbeats 4000000 in
theorem fwd_step (hin : Inside M n m) (hnm : 2 ≤ n + m) {d : Nat} {lo hi : Int} {F G : Nat → Int} (I : Inv M n m d lo hi (fX m F))
    (hS : Stepped M (widLo m lo - 1) (widLo m lo - 1 + m + 2).toNat (widHi n hi - widLo m lo + 3).toNat (mark n m lo hi (-1) F) G) : Inv M n m (d + 1) (widLo m lo) (widHi n hi) (fX m G) := by
  have i1 := I.le
  have i2 := I.lo_ge
  have i3 := I.hi_le
  have i4 := I.plo
  have i5 := I.phi
  have wl := widLo_or m lo i2
  have wh := widHi_or n hi i3
  refine I.step (Xs := fX m (mark n m lo hi (-1) F)) hin hnm wl wh (fun k h1 h2 _ => mark_in i2 h1 h2) (fun h => ?_) (fun h => ?_) (fun k h1 h2 h3 => ?_)
  · have := mark_lo (n := n) (m := m) (v := -1) (F := F) i1 h
    unfold fX
    rw [show widLo m lo - 1 + m + 2 = lo - 2 + m + 2 by omega]
    exact this
  · have := mark_hi (n := n) (m := m) (lo := lo) (v := -1) (F := F) h
    unfold fX
    rw [show widHi n hi + 1 + m + 2 = hi + 2 + m + 2 by omega]
    exact this
  · obtain ⟨j, hj⟩ : ∃ j : Nat, (j : Int) = k - (widLo m lo - 1) := ⟨(k - (widLo m lo - 1)).toNat, by omega⟩
    have f := hS.1 j (by omega) (by omega)
    rw [show widLo m lo - 1 + (j : Int) = k by omega, show (widLo m lo - 1 + m + 2).toNat + j - 1 = (k - 1 + m + 2).toNat by omega, show (widLo m lo - 1 + m + 2).toNat + j + 1 = (k + 1 + m + 2).toNat by omega,
      show (widLo m lo - 1 + m + 2).toNat + j = (k + m + 2).toNat by omega] at f
    exact f
set_option maxHeartbeats 4000000 in
theorem fwd_low (hnm : 2 ≤ n + m) {d : Nat} {lo hi : Int} {F G : Nat → Int} (I : Inv M n m d lo hi (fX m F)) (hF : ∀ i, -1 ≤ F i)
    (hS : Stepped M (widLo m lo - 1) (widLo m lo - 1 + m + 2).toNat (widHi n hi - widLo m lo + 3).toNat (mark n m lo hi (-1) F) G) : ∀ i, -1 ≤ G i := by
  intro i
  obtain ⟨_, _, _, _, hp⟩ := fwd_pre hnm I
  by_cases c : ∃ j : Nat, j % 2 = 1 ∧ j + 1 < (widHi n hi - widLo m lo + 3).toNat ∧ i = (widLo m lo - 1 + m + 2).toNat + j
  · obtain ⟨j, c1, c2, rfl⟩ := c
    obtain ⟨t, e1, _, _⟩ := hS.1 j c1 c2
    have := (hp j c1 c2).1
    omega
  · have e := hS.2 i (fun j c1 c2 c3 => c ⟨j, c1, c2, c3⟩)
    rw [e]
    rcases mark_or (n := n) (m := m) lo hi (-1) F i with h | h
    · rw [h]; exact hF i
    · rw [h]; exact Int.le_refl _

/-! ### Backward -/
def top : Int := 9223372036854775807
/-- The marked backward row, by the reversed diagonals. -/
def bXs (n m : Nat) (B : Nat → Int) (k : Int) : Int := if B ((n : Int) - m - k + m + 2).toNat = top then -1 else (n : Int) - B ((n : Int) - m - k + m + 2).toNat
set_option maxHeartbeats 4000000 in
theorem bwd_facts {d : Nat} {lo hi : Int} {B : Nat → Int} (hn : n ≤ 1000) (hm : m ≤ 1000) (I : Inv (rev M n m) n m d ((n : Int) - m - hi) ((n : Int) - m - lo) (bY n m B)) :
    lo ≤ hi ∧ -(m : Int) ≤ lo ∧ hi ≤ n ∧ ((-(m : Int) < (n : Int) - m - hi ∧ (n : Int) - m - widHi n hi = (n : Int) - m - hi - 1) ∨ ((n : Int) - m - hi = -(m : Int) ∧ (n : Int) - m - widHi n hi = (n : Int) - m - hi + 1)) ∧
    (((n : Int) - m - lo < n ∧ (n : Int) - m - widLo m lo = (n : Int) - m - lo + 1) ∨ ((n : Int) - m - lo = n ∧ (n : Int) - m - widLo m lo = (n : Int) - m - lo - 1)) ∧
    (∀ k, (n : Int) - m - hi ≤ k → k ≤ (n : Int) - m - lo → (k - d) % 2 = 0 → bXs n m (mark n m lo hi top B) k = bY n m B k) ∧
    (-(m : Int) < (n : Int) - m - hi → bXs n m (mark n m lo hi top B) ((n : Int) - m - widHi n hi - 1) = -1) ∧ ((n : Int) - m - lo < n → bXs n m (mark n m lo hi top B) ((n : Int) - m - widLo m lo + 1) = -1) := by
  have i1 := I.le
  have i2 := I.lo_ge
  have i3 := I.hi_le
  have hl : -(m : Int) ≤ lo := by omega
  have hh : hi ≤ n := by omega
  have wl := widLo_or m lo hl
  have wh := widHi_or n hi hh
  refine ⟨by omega, hl, hh, by omega, by omega, fun k h1 h2 h3 => ?_, fun h => ?_, fun h => ?_⟩
  · obtain ⟨x1, x2, x3⟩ := I.x0 k h1 h2 h3
    have e := mark_in (n := n) (m := m) (hi := hi) (v := top) (F := B) (k := (n : Int) - m - k) hl (by omega) (by omega)
    unfold bXs bY at *
    rw [e, if_neg (by unfold top; omega)]
  · unfold bXs
    have e := mark_hi (n := n) (m := m) (lo := lo) (v := top) (F := B) (hi := hi) (by omega)
    rw [show (n : Int) - m - ((n : Int) - m - widHi n hi - 1) + m + 2 = hi + 2 + m + 2 by omega, e, if_pos rfl]
  · unfold bXs
    have e := mark_lo (n := n) (m := m) (v := top) (F := B) (lo := lo) (hi := hi) (by omega) (by omega)
    rw [show (n : Int) - m - ((n : Int) - m - widLo m lo + 1) + m + 2 = lo - 2 + m + 2 by omega, e, if_pos rfl]
set_option maxHeartbeats 4000000 in
/-- The step's first point, in both spellings. -/
theorem bwd_point {d : Nat} {lo hi : Int} {B : Nat → Int} (hn : n ≤ 1000) (hm : m ≤ 1000) (hd : d ≤ 2000) (I : Inv (rev M n m) n m d ((n : Int) - m - hi) ((n : Int) - m - lo) (bY n m B)) (j : Nat) (hj : j % 2 = 1) (hl : j + 1 < (widHi n hi - widLo m lo + 3).toNat) :
    (n : Int) - min (mark n m lo hi top B ((widLo m lo - 1 + m + 2).toNat + j - 1)) (mark n m lo hi top B ((widLo m lo - 1 + m + 2).toNat + j + 1) - 1) =
      max (bXs n m (mark n m lo hi top B) ((n : Int) - m - (widLo m lo - 1 + j) - 1) + 1) (bXs n m (mark n m lo hi top B) ((n : Int) - m - (widLo m lo - 1 + j) + 1)) := by
  obtain ⟨f1, f2, f3, f4, f5, f6, f7, f8⟩ := bwd_facts hn hm I
  have i4 := I.plo
  have i5 := I.phi
  have wl := widLo_or m lo f2
  have wh := widHi_or n hi f3
  have e1 : (widLo m lo - 1 + m + 2).toNat + j - 1 = ((n : Int) - m - ((n : Int) - m - (widLo m lo - 1 + j) + 1) + m + 2).toNat := by omega
  have e2 : (widLo m lo - 1 + m + 2).toNat + j + 1 = ((n : Int) - m - ((n : Int) - m - (widLo m lo - 1 + j) - 1) + m + 2).toNat := by omega
  rw [e1, e2]
  generalize hk : (n : Int) - m - (widLo m lo - 1 + j) = k' at *
  -- the neighbours
  by_cases cl : (n : Int) - m - hi ≤ k' - 1
  · have hL := f6 (k' - 1) cl (by omega) (by omega)
    obtain ⟨x1, x2, x3⟩ := I.x0 (k' - 1) cl (by omega) (by omega)
    rw [hL]
    have bL : mark n m lo hi top B ((n : Int) - m - (k' - 1) + m + 2).toNat = B ((n : Int) - m - (k' - 1) + m + 2).toNat := mark_in f2 (by omega) (by omega)
    rw [bL]
    by_cases cr : k' + 1 ≤ (n : Int) - m - lo
    · have hR := f6 (k' + 1) (by omega) cr (by omega)
      rw [hR]
      have bR : mark n m lo hi top B ((n : Int) - m - (k' + 1) + m + 2).toNat = B ((n : Int) - m - (k' + 1) + m + 2).toNat := mark_in f2 (by omega) (by omega)
      rw [bR]
      unfold bY
      omega
    · have hR := f8 (by omega)
      have ek : k' + 1 = (n : Int) - m - widLo m lo + 1 := by omega
      rw [← ek] at hR
      have bR : mark n m lo hi top B ((n : Int) - m - (k' + 1) + m + 2).toNat = top := by
        have := mark_lo (n := n) (m := m) (v := top) (F := B) (lo := lo) (hi := hi) f1 (by omega)
        rw [show (n : Int) - m - (k' + 1) + m + 2 = lo - 2 + m + 2 by omega]
        exact this
      rw [hR, bR]
      unfold bY at *
      unfold top
      omega
  · have cr : k' + 1 ≤ (n : Int) - m - lo := by omega
    have hR := f6 (k' + 1) (by omega) cr (by omega)
    obtain ⟨x1, x2, x3⟩ := I.x0 (k' + 1) (by omega) cr (by omega)
    have bR : mark n m lo hi top B ((n : Int) - m - (k' + 1) + m + 2).toNat = B ((n : Int) - m - (k' + 1) + m + 2).toNat := mark_in f2 (by omega) (by omega)
    have hL := f7 (by omega)
    have ek : k' - 1 = (n : Int) - m - widHi n hi - 1 := by omega
    rw [← ek] at hL
    have bL : mark n m lo hi top B ((n : Int) - m - (k' - 1) + m + 2).toNat = top := by
      have := mark_hi (n := n) (m := m) (lo := lo) (v := top) (F := B) (hi := hi) (by omega)
      rw [show (n : Int) - m - (k' - 1) + m + 2 = hi + 2 + m + 2 by omega]
      exact this
    rw [hR, bR, hL, bL]
    unfold bY at *
    unfold top
    omega
set_option maxHeartbeats 4000000 in
theorem bwd_pre {d : Nat} {lo hi : Int} {B : Nat → Int} (hn : n ≤ 1000) (hm : m ≤ 1000) (hd : d ≤ 2000) (hnm : 2 ≤ n + m) (I : Inv (rev M n m) n m d ((n : Int) - m - hi) ((n : Int) - m - lo) (bY n m B)) :
    widLo m lo ≤ widHi n hi ∧ -(m : Int) ≤ widLo m lo ∧ widHi n hi ≤ n ∧ ((widHi n hi - widLo m lo) % 2 = 0) ∧
    ∀ j : Nat, j % 2 = 1 → j + 1 < (widHi n hi - widLo m lo + 3).toNat →
      min (mark n m lo hi top B ((widLo m lo - 1 + m + 2).toNat + j - 1)) (mark n m lo hi top B ((widLo m lo - 1 + m + 2).toNat + j + 1) - 1) ≤ n ∧
      min (mark n m lo hi top B ((widLo m lo - 1 + m + 2).toNat + j - 1)) (mark n m lo hi top B ((widLo m lo - 1 + m + 2).toNat + j + 1) - 1) - (widLo m lo - 1 + j) ≤ m ∧
      -((d : Int) + 1) ≤ min (mark n m lo hi top B ((widLo m lo - 1 + m + 2).toNat + j - 1)) (mark n m lo hi top B ((widLo m lo - 1 + m + 2).toNat + j + 1) - 1) := by
  obtain ⟨f1, f2, f3, f4, f5, f6, f7, f8⟩ := bwd_facts hn hm I
  have i4 := I.plo
  have i5 := I.phi
  have wl := widLo_or m lo f2
  have wh := widHi_or n hi f3
  refine ⟨by omega, by omega, by omega, by omega, fun j hj hl => ?_⟩
  have p := bwd_point hn hm hd I j hj hl
  obtain ⟨k1, k2, k3, _⟩ := I.key (Xs := bXs n m (mark n m lo hi top B)) f4 f5 f6 f7 f8 ((n : Int) - m - (widLo m lo - 1 + j)) (by omega) (by omega) (by omega)
  rw [← p] at k1 k2 k3
  omega
set_option maxHeartbeats 4000000 in
theorem bwd_step {d : Nat} {lo hi : Int} {B G : Nat → Int} (hn : n ≤ 1000) (hm : m ≤ 1000) (hd : d ≤ 2000) (hnm : 2 ≤ n + m) (I : Inv (rev M n m) n m d ((n : Int) - m - hi) ((n : Int) - m - lo) (bY n m B))
    (hS : SteppedB M (widLo m lo - 1) (widLo m lo - 1 + m + 2).toNat (widHi n hi - widLo m lo + 3).toNat (mark n m lo hi top B) G) : Inv (rev M n m) n m (d + 1) ((n : Int) - m - widHi n hi) ((n : Int) - m - widLo m lo) (bY n m G) := by
  obtain ⟨f1, f2, f3, f4, f5, f6, f7, f8⟩ := bwd_facts hn hm I
  obtain ⟨_, _, _, _, hp⟩ := bwd_pre hn hm hd hnm I
  have i4 := I.plo
  have i5 := I.phi
  have wl := widLo_or m lo f2
  have wh := widHi_or n hi f3
  refine I.step (Xs := bXs n m (mark n m lo hi top B)) rev_inside hnm f4 f5 f6 f7 f8 (fun k h1 h2 h3 => ?_)
  obtain ⟨j, hj⟩ : ∃ j : Nat, (j : Int) = (n : Int) - m - k - (widLo m lo - 1) := ⟨((n : Int) - m - k - (widLo m lo - 1)).toNat, by omega⟩
  have hjl : j + 1 < (widHi n hi - widLo m lo + 3).toNat := by omega
  have p := bwd_point hn hm hd I j (by omega) hjl
  obtain ⟨p1, p2, p3⟩ := hp j (by omega) hjl
  have f := (hS.1 j (by omega) hjl).turn (n := n) (m := m) p1 (by omega)
  rw [p] at f
  have ek : (n : Int) - m - (widLo m lo - 1 + j) = k := by omega
  rw [ek] at f
  have eg : (widLo m lo - 1 + m + 2).toNat + j = ((n : Int) - m - k + m + 2).toNat := by omega
  rw [eg] at f
  exact f
set_option maxHeartbeats 4000000 in
theorem bwd_low {d : Nat} {lo hi : Int} {B G : Nat → Int} (hn : n ≤ 1000) (hm : m ≤ 1000) (hd : d ≤ 2000) (hnm : 2 ≤ n + m) (I : Inv (rev M n m) n m d ((n : Int) - m - hi) ((n : Int) - m - lo) (bY n m B)) (hB : ∀ i, -3000 ≤ B i ∧ B i ≤ top)
    (hS : SteppedB M (widLo m lo - 1) (widLo m lo - 1 + m + 2).toNat (widHi n hi - widLo m lo + 3).toNat (mark n m lo hi top B) G) : ∀ i, -3000 ≤ G i ∧ G i ≤ top := by
  intro i
  have I' := bwd_step hn hm hd hnm I hS
  obtain ⟨_, _, _, _, hp⟩ := bwd_pre hn hm hd hnm I
  obtain ⟨f1, f2, f3, _⟩ := bwd_facts hn hm I
  have i4 := I.plo
  have i5 := I.phi
  have wl := widLo_or m lo f2
  have wh := widHi_or n hi f3
  by_cases c : ∃ j : Nat, j % 2 = 1 ∧ j + 1 < (widHi n hi - widLo m lo + 3).toNat ∧ i = (widLo m lo - 1 + m + 2).toNat + j
  · obtain ⟨j, c1, c2, rfl⟩ := c
    obtain ⟨x1, x2, x3⟩ := I'.x0 ((n : Int) - m - (widLo m lo - 1 + j)) (by omega) (by omega) (by omega)
    unfold bY at x1 x2 x3
    have eg : ((n : Int) - m - ((n : Int) - m - (widLo m lo - 1 + j)) + m + 2).toNat = (widLo m lo - 1 + m + 2).toNat + j := by omega
    rw [eg] at x1 x2 x3
    unfold top
    omega
  · have e := hS.2 i (fun j c1 c2 c3 => c ⟨j, c1, c2, c3⟩)
    rw [e]
    rcases mark_or (n := n) (m := m) lo hi top B i with h | h
    · rw [h]; exact hB i
    · rw [h]; unfold top; omega
end Go.Proofs.Ybulkbptu
