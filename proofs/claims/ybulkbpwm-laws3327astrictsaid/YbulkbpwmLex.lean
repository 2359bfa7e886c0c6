import Derived.Test.YbulkbpwmRows
import Derived.WalkKit
import Derived.ProofKit
import Derived.OpenShut
import Derived.Below
import Derived.WalkSmall
import Derived.Deep.QuietTactic
import Derived.BigQuiet
namespace Go.Proofs.Ybulkbpwm
open Go.ChangeShapes Go.WideShapes Go.ChangeAt Go.RowKit
set_option linter.unusedVariables false

/-- A slice of ints whose first 'len' cells read F. -/
def Sl (w : World) (a : Option Addr) (len : Nat) (F : Nat → Int) : Prop :=
  len = 0 ∨ ∃ b off, a = some ⟨b, off, none⟩ ∧ ∀ i, i < len → w.cell? ⟨b, off + i, none⟩ = some (.int .i64 (F i))
theorem Sl.drewN {w : World} {a : Option Addr} {len : Nat} {F : Nat → Int} (h : Sl w a len F) (n : Nat) : Sl (w.drewN n) a len F := h

def LexRes (F G : Nat → Int) (la lb : Nat) (r : Bool) : Prop :=
  (∃ i, i < la ∧ i < lb ∧ (∀ j, j < i → F j = G j) ∧ F i ≠ G i ∧ r = decide (F i < G i)) ∨
  ((∀ j, j < la → j < lb → F j = G j) ∧ r = decide ((la : Int) < (lb : Int)))
def LexEnd (F G : Nat → Int) (la lb : Nat) (w : World) (e : Ending) (w' : World) : Prop :=
  ∃ r, e = .returned (.bool r) ∧ LexRes F G la lb r ∧ ∃ n, w' = w.drewN n

theorem lex_empty (a0 a1 : Option Addr) (la ca lb cb : Nat) (F G : Nat → Int) (w : World) (h : la = 0 ∨ lb = 0) (hb : la ≤ 1024 ∧ lb ≤ 1024) :
    Calls Yba.prog 9 #[.slice a0 la ca, .slice a1 lb cb] w (LexEnd F G la lb w) := by
  have fin : LexRes F G la lb (decide ((la : Int) < (lb : Int))) := .inr ⟨fun j h1 h2 => by omega, rfl⟩
  have FIN : Hid (LexRes F G la lb (decide ((la : Int) < (lb : Int)))) := fin
  clear fin
  by_cases h0 : la = 0
  · subst h0
    go_enter Yba.func9, Yba.ntmps9
    go_wp2
    refine wp_loop_rounds 1 ?_
    rw [rounds_succ]
    go_wp2
    go_ret
    exact ⟨_, by simp, FIN.out, 0, rfl⟩
  · have h1' : ¬ ((0 : Int) < (lb : Int)) := by omega
    have h0' : ((0 : Int) < (la : Int)) := by omega
    go_enter Yba.func9, Yba.ntmps9
    go_wp2
    refine wp_loop_rounds 1 ?_
    rw [rounds_succ]
    go_wp2
    go_ret
    exact ⟨_, by simp, FIN.out, 0, rfl⟩

set_option maxHeartbeats 400000 in
theorem lex_main (b0 o0 b1 o1 la ca lb cb : Nat) (F G : Nat → Int) (w : World) (hb : la ≤ 1024 ∧ lb ≤ 1024)
    (hF : ∀ i, i < la → w.cell? ⟨b0, o0 + i, none⟩ = some (.int .i64 (F i)))
    (hG : ∀ i, i < lb → w.cell? ⟨b1, o1 + i, none⟩ = some (.int .i64 (G i))) :
    Calls Yba.prog 9 #[.slice (some ⟨b0, o0, none⟩) la ca, .slice (some ⟨b1, o1, none⟩) lb cb] w (LexEnd F G la lb w) := by
  go_enter Yba.func9, Yba.ntmps9
  go_wp2
  go_loopw [5] (fun iv wr => ∃ i : Nat, i ≤ la ∧ i ≤ lb ∧ iv = .int .i64 i ∧ (∀ j, j < i → F j = G j) ∧ ∃ n, wr = w.drewN n)
    (fun iv _ => la - (intOf iv).toNat)
  case atStart => exact ⟨0, by omega, by omega, rfl, fun j h => by omega, 0, rfl⟩
  case round =>
    obtain ⟨i, h1, h2, rfl, hp, n, rfl⟩ := hrel
    have HP : Hid (∀ j, j < i → F j = G j) := hp
    clear hp
    by_cases hla : i < la
    · by_cases hlb : i < lb
      · have c0 := hF i hla
        have c1 := hG i hlb
        by_cases hne : (F i != G i) = true
        · go_wp2
          go_quiet (fail)
          go_wp2
          go_quiet (fail)
          go_wp2
          go_ret
          exact ⟨_, rfl, .inl ⟨i, hla, hlb, HP.out, by simpa using hne, rfl⟩, _, by rw [World.drewN_drewN, World.drewN_drewN]⟩
        · have hne' : (F i != G i) = false := by simpa using hne
          go_wp2
          go_quiet (fail)
          go_wp2
          go_roundw
          case rel => exact ⟨i + 1, by omega, by omega, by go_num, fun j hj => by
                  by_cases e : j = i
                  · subst e; simpa using hne
                  · exact HP.out j (by omega), _, rfl⟩
          case measure => simp [intOf]; omega
      · go_wp2
        go_ret
        exact ⟨_, by simp, .inr ⟨fun j h1 h2 => HP.out j (by omega), rfl⟩, _, rfl⟩
    · go_wp2
      go_ret
      exact ⟨_, by simp, .inr ⟨fun j h1 h2 => HP.out j (by omega), rfl⟩, _, rfl⟩

theorem lex_any (a0 a1 : Option Addr) (la ca lb cb : Nat) (F G : Nat → Int) (w : World) (hb : la ≤ 1024 ∧ lb ≤ 1024) (h0 : Sl w a0 la F) (h1 : Sl w a1 lb G) :
    Calls Yba.prog 9 #[.slice a0 la ca, .slice a1 lb cb] w (LexEnd F G la lb w) := by
  rcases h0 with h0 | ⟨b0, o0, rfl, hF⟩
  · exact lex_empty _ _ _ _ _ _ _ _ _ (.inl h0) hb
  rcases h1 with h1 | ⟨b1, o1, rfl, hG⟩
  · exact lex_empty _ _ _ _ _ _ _ _ _ (.inr h1) hb
  exact lex_main _ _ _ _ _ _ _ _ _ _ _ hb hF hG

/-! the library's slices.Equal -/
def EqEnd (F G : Nat → Int) (la lb : Nat) (w : World) (e : Ending) (w' : World) : Prop :=
  ∃ r : Bool, e = .returned (.bool r) ∧ (r = true ↔ (la = lb ∧ ∀ i, i < la → F i = G i)) ∧ ∃ n, w' = w.drewN n

theorem eq_lens (a0 a1 : Option Addr) (la ca lb cb : Nat) (F G : Nat → Int) (w : World) (h : la ≠ lb ∨ la = 0) (hb : la ≤ 1024 ∧ lb ≤ 1024) :
    Calls Yba.prog 11 #[.slice a0 la ca, .slice a1 lb cb] w (EqEnd F G la lb w) := by
  by_cases hne : la = lb
  · subst hne
    have h0 : la = 0 := by omega
    subst h0
    go_enter Yba.func11, Yba.ntmps11
    go_wp2
    refine wp_loop_rounds 1 ?_
    rw [rounds_succ]
    go_wp2
    go_ret
    exact ⟨true, rfl, by simp, 0, rfl⟩
  · have hd : ((la : Int) != (lb : Int)) = true := by simp; omega
    go_enter Yba.func11, Yba.ntmps11
    go_wp2
    go_ret
    exact ⟨false, rfl, by simp [hne], 0, rfl⟩

set_option maxHeartbeats 400000 in
theorem eq_main (b0 o0 b1 o1 la ca cb : Nat) (F G : Nat → Int) (w : World) (hb : la ≤ 1024)
    (hF : ∀ i, i < la → w.cell? ⟨b0, o0 + i, none⟩ = some (.int .i64 (F i)))
    (hG : ∀ i, i < la → w.cell? ⟨b1, o1 + i, none⟩ = some (.int .i64 (G i))) :
    Calls Yba.prog 11 #[.slice (some ⟨b0, o0, none⟩) la ca, .slice (some ⟨b1, o1, none⟩) la cb] w (EqEnd F G la la w) := by
  go_enter Yba.func11, Yba.ntmps11
  go_wp2
  go_loopw [13] (fun iv wr => ∃ i : Nat, i ≤ la ∧ iv = .int .i64 i ∧ (∀ j, j < i → F j = G j) ∧ ∃ n, wr = w.drewN n)
    (fun iv _ => la - (intOf iv).toNat)
  case atStart => exact ⟨0, by omega, rfl, fun j h => by omega, 0, rfl⟩
  case round =>
    obtain ⟨i, h1, rfl, hp, n, rfl⟩ := hrel
    have HP : Hid (∀ j, j < i → F j = G j) := hp
    clear hp
    by_cases hla : i < la
    · have c0 := hF i hla
      have c1 := hG i hla
      by_cases hne : (F i != G i) = true
      · go_wp2
        go_quiet (fail)
        go_wp2
        go_ret
        exact ⟨false, rfl, by
          simp only [Bool.false_eq_true, false_iff, true_and]
          intro h
          have := h i hla
          simp [this] at hne, _, by rw [World.drewN_drewN]⟩
      · have hne' : (F i != G i) = false := by simpa using hne
        go_wp2
        go_quiet (fail)
        go_wp2
        go_roundw
        case rel => exact ⟨i + 1, by omega, by go_num, fun j hj => by
                  by_cases e : j = i
                  · subst e; simpa using hne
                  · exact HP.out j (by omega), _, rfl⟩
        case measure => simp [intOf]; omega
    · go_wp2
      go_ret
      exact ⟨true, rfl, by simp; exact fun j h => HP.out j (by omega), _, rfl⟩

theorem eq_any (a0 a1 : Option Addr) (la ca lb cb : Nat) (F G : Nat → Int) (w : World) (hb : la ≤ 1024 ∧ lb ≤ 1024) (h0 : Sl w a0 la F) (h1 : Sl w a1 lb G) :
    Calls Yba.prog 11 #[.slice a0 la ca, .slice a1 lb cb] w (EqEnd F G la lb w) := by
  by_cases hne : la = lb
  · subst hne
    rcases h0 with h0 | ⟨b0, o0, rfl, hF⟩
    · exact eq_lens _ _ _ _ _ _ _ _ _ (.inr h0) hb
    rcases h1 with h1 | ⟨b1, o1, rfl, hG⟩
    · exact eq_lens _ _ _ _ _ _ _ _ _ (.inr h1) hb
    exact eq_main _ _ _ _ _ _ _ _ _ _ hb.1 hF hG
  · exact eq_lens _ _ _ _ _ _ _ _ _ (.inl hne) hb

/-! the library's cmp.Compare and slices.Compare -/
def cmpI (a b : Int) : Int := if a < b then -1 else if b < a then 1 else 0
theorem cmp_any (a b : Int) (w : World) : Calls Yba.prog 24 #[.int .i64 a, .int .i64 b] w fun e w' => e = .returned (.int .i64 (cmpI a b)) ∧ w' = w := by
  unfold cmpI
  by_cases h1 : a < b
  · rw [if_pos h1]
    go_enter Yba.func24, Yba.ntmps24
    go_wp2
    go_ret
    exact ⟨rfl, rfl⟩
  · rw [if_neg h1]
    by_cases h2 : b < a
    · rw [if_pos h2]
      go_enter Yba.func24, Yba.ntmps24
      go_wp2
      go_ret
      exact ⟨rfl, rfl⟩
    · rw [if_neg h2]
      go_enter Yba.func24, Yba.ntmps24
      go_wp2
      go_ret
      exact ⟨rfl, rfl⟩

def CmpRes (F G : Nat → Int) (la lb : Nat) (c : Int) : Prop :=
  (∃ i, i < la ∧ i < lb ∧ (∀ j, j < i → F j = G j) ∧ F i ≠ G i ∧ c = cmpI (F i) (G i)) ∨
  ((∀ j, j < la → j < lb → F j = G j) ∧ c = cmpI la lb)
def CmpEnd (F G : Nat → Int) (la lb : Nat) (w : World) (e : Ending) (w' : World) : Prop :=
  ∃ c, e = .returned (.int .i64 c) ∧ CmpRes F G la lb c ∧ w' = w

theorem compare_empty (a0 a1 : Option Addr) (la ca lb cb : Nat) (F G : Nat → Int) (w : World) (h : la = 0) (hb : la ≤ 1024 ∧ lb ≤ 1024) :
    Calls Yba.prog 10 #[.slice a0 la ca, .slice a1 lb cb] w (CmpEnd F G la lb w) := by
  subst h
  by_cases h0 : lb = 0
  · subst h0
    go_enter Yba.func10, Yba.ntmps10
    go_wp2
    refine wp_loop_rounds 1 ?_
    rw [rounds_succ]
    go_wp2
    go_ret
    exact ⟨_, rfl, .inr ⟨fun j h1 h2 => by omega, by simp [cmpI]⟩, rfl⟩
  · have h1 : (0 : Int) < lb := by omega
    go_enter Yba.func10, Yba.ntmps10
    go_wp2
    refine wp_loop_rounds 1 ?_
    rw [rounds_succ]
    go_wp2
    go_ret
    exact ⟨_, rfl, .inr ⟨fun j h1 h2 => by omega, by unfold cmpI; rw [if_pos (by omega)]⟩, rfl⟩

theorem compare_none (b0 o0 la ca lb cb : Nat) (a1 : Option Addr) (F G : Nat → Int) (w : World) (hb : la ≤ 1024 ∧ lb ≤ 1024) (hla : 0 < la) (hlb : lb = 0)
    (hF : ∀ i, i < la → w.cell? ⟨b0, o0 + i, none⟩ = some (.int .i64 (F i))) :
    Calls Yba.prog 10 #[.slice (some ⟨b0, o0, none⟩) la ca, .slice a1 lb cb] w (CmpEnd F G la lb w) := by
  subst hlb
  have c0 : w.cell? ⟨b0, o0, none⟩ = some (.int .i64 (F 0)) := by simpa using hF 0 hla
  have h1 : (0 : Int) < la := by omega
  go_enter Yba.func10, Yba.ntmps10
  go_wp2
  refine wp_loop_rounds 1 ?_
  rw [rounds_succ]
  go_wp2
  go_ret
  exact ⟨_, rfl, .inr ⟨fun j h1 h2 => by omega, by unfold cmpI; rw [if_neg (by omega), if_pos (by omega)]⟩, rfl⟩

set_option maxHeartbeats 400000 in
theorem compare_main (b0 o0 b1 o1 la ca lb cb : Nat) (F G : Nat → Int) (w : World) (hb : la ≤ 1024 ∧ lb ≤ 1024)
    (hF : ∀ i, i < la → w.cell? ⟨b0, o0 + i, none⟩ = some (.int .i64 (F i)))
    (hG : ∀ i, i < lb → w.cell? ⟨b1, o1 + i, none⟩ = some (.int .i64 (G i))) :
    Calls Yba.prog 10 #[.slice (some ⟨b0, o0, none⟩) la ca, .slice (some ⟨b1, o1, none⟩) lb cb] w (CmpEnd F G la lb w) := by
  go_enter Yba.func10, Yba.ntmps10
  go_wp2
  go_loop [11] (fun iv => ∃ i : Nat, i ≤ la ∧ i ≤ lb ∧ iv = .int .i64 i ∧ (∀ j, j < i → F j = G j))
    (fun iv => la - (intOf iv).toNat)
  case atStart => exact ⟨0, by omega, by omega, rfl, fun j h => by omega⟩
  case round =>
    obtain ⟨i, h1, h2, rfl, hp⟩ := hrel
    have HP : Hid (∀ j, j < i → F j = G j) := hp
    clear hp
    by_cases hla : i < la
    · have c0 := hF i hla
      by_cases hlb : i < lb
      · have c1 := hG i hlb
        by_cases hne : F i = G i
        · have hz : cmpI (F i) (G i) = 0 := by unfold cmpI; rw [if_neg (by omega), if_neg (by omega)]
          have HN : Hid (F i = G i) := hne
          clear hne
          go_wp2_with (go_at_call 24; refine (cmp_any _ _ _).mono ?_; rintro e w' ⟨rfl, rfl⟩)
          go_round
          case rel => exact ⟨i + 1, by omega, by omega, by go_num, fun j hj => by
                    by_cases e : j = i
                    · subst e; exact HN.out
                    · exact HP.out j (by omega)⟩
          case measure => simp [intOf]; omega
        · have hz : (cmpI (F i) (G i) != 0) = true := by
            unfold cmpI
            by_cases h : F i < G i
            · rw [if_pos h]; rfl
            · rw [if_neg h, if_pos (by omega)]; rfl
          go_wp2_with (go_at_call 24; refine (cmp_any _ _ _).mono ?_; rintro e w' ⟨rfl, rfl⟩)
          go_ret
          exact ⟨_, rfl, .inl ⟨i, hla, hlb, HP.out, hne, rfl⟩, rfl⟩
      · have h3 : (lb : Int) < la := by omega
        go_wp2_with fail
        go_ret
        exact ⟨_, rfl, .inr ⟨fun j h1 h2 => HP.out j (by omega), by unfold cmpI; rw [if_neg (by omega), if_pos h3]⟩, rfl⟩
    · by_cases h3 : la < lb
      · go_wp2_with fail
        go_ret
        exact ⟨_, rfl, .inr ⟨fun j h1 h2 => HP.out j (by omega), by unfold cmpI; rw [if_pos (by omega)]⟩, rfl⟩
      · go_wp2_with fail
        go_ret
        exact ⟨_, rfl, .inr ⟨fun j h1 h2 => HP.out j (by omega), by unfold cmpI; rw [if_neg (by omega), if_neg (by omega)]⟩, rfl⟩

theorem compare_any (a0 a1 : Option Addr) (la ca lb cb : Nat) (F G : Nat → Int) (w : World) (hb : la ≤ 1024 ∧ lb ≤ 1024) (h0 : Sl w a0 la F) (h1 : Sl w a1 lb G) :
    Calls Yba.prog 10 #[.slice a0 la ca, .slice a1 lb cb] w (CmpEnd F G la lb w) := by
  rcases h0 with h0 | ⟨b0, o0, rfl, hF⟩
  · exact compare_empty _ _ _ _ _ _ _ _ _ h0 hb
  by_cases hla : la = 0
  · exact compare_empty _ _ _ _ _ _ _ _ _ hla hb
  rcases h1 with h1 | ⟨b1, o1, rfl, hG⟩
  · exact compare_none _ _ _ _ _ _ _ _ _ _ hb (by omega) h1 hF
  exact compare_main _ _ _ _ _ _ _ _ _ _ _ hb hF hG
end Go.Proofs.Ybulkbpwm
