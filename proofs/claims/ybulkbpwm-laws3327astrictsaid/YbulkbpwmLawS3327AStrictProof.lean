/-
  THE SHELL OF A PROOF OF 'Rows.LawS3327AStrictSaid' ('example.com/quorumsmith/quorumsmith.LawS3327AStrict'), WRITTEN BY PROGRAM (proof-skeleton.mjs, third state) off the guide's own print for that function. Not trusted: Lean checks it.
  ALL ELSE IS THE GUIDE's OWN WAY (howto/template/XProofs.lean; Derived/Test/ChunkProofs.lean for 'Below') at this function's number and types: leave it.
-/
import Derived.Test.YbulkbpwmLex
import Derived.WalkKit
import Derived.ProofKit
import Derived.OpenShut
import Derived.ShutString
import Derived.ChangeOld
import Derived.Below
import Derived.WalkSmall
import Derived.Deep.QuietTactic
import Derived.BigQuiet
namespace Go.Proofs.Ybulkbpwm.lawS3327AStrict
open Go.ChangeShapes Go.WideShapes Go.ChangeAt Go.RowKit
open Go.ChangeMaps (open_string shut_string)
set_option linter.unusedVariables false

theorem own : ownKnob Yba.prog.godebug = none := by kernel_rfl
theorem laidOut : laidOutB Yba.prog = true := by kernel_rfl

/-- WHAT THE WALK IS TOLD OF A SLICE OF INTEGERS THAT CAME IN: it is nil; or it leads to a row of 'cap' cells, the numbers 'zs' (the first 'len' are its elements, the rest its spare room), each fitting its kind. -/
def IsRow (k : IntKind) (w : World) (a : Option Addr) (len cap : Nat) (zs : List Int) : Prop :=
  (a = none ∧ len = 0 ∧ cap = 0 ∧ zs = []) ∨
  ∃ x, a = some x ∧ len ≤ cap ∧ cap ≤ maxLen ∧ zs.length = cap ∧ (∀ i, i < zs.length → w.cell? (x.add i) = some (.int k (zs.getD i 0))) ∧ ∀ n ∈ zs, (Lit.int k n).wf = true

/-! ### STEP 1: THE WALK -/
/-- A row that came in, as the contracts want it. -/
theorem row_sl {w : World} {a : Option Addr} {len cap : Nat} {zs : List Int} (h : IsRow .i64 w a len cap zs) : Sl w a len (fun i => zs.getD i 0) := by
  rcases h with ⟨_, rfl, _⟩ | ⟨x, rfl, hl, hm, hz, hcell, hwz⟩
  · exact .inl rfl
  · by_cases h0 : len = 0
    · exact .inl h0
    · obtain ⟨b, off, spot⟩ := x
      have hc := hcell 0 (by omega)
      have hspot : spot = none := by simpa [Addr.add] using World.cell?_spot hc
      subst hspot
      exact .inr ⟨b, off, rfl, fun i hi => by rw [← add_plain]; exact hcell i (by omega)⟩
theorem row_len {w : World} {a : Option Addr} {len cap : Nat} {zs : List Int} (h : IsRow .i64 w a len cap zs) : len ≤ 9223372036854775807 := by
  rcases h with ⟨_, rfl, _⟩ | ⟨x, rfl, hl, hm, hz, hcell, hwz⟩
  · exact Nat.zero_le _
  · unfold maxLen at hm; omega

theorem lex_strict {F G : Nat → Int} {la lb : Nat} {ab ba : Bool} (h : LexRes F G la lb ab) (g : LexRes G F lb la ba) : (ab = true → ba = false) ∧ ((ab = false ∧ ba = false) ↔ (la = lb ∧ ∀ i, i < la → F i = G i)) := by
  rcases h with ⟨i, a1, a2, a3, a4, rfl⟩ | ⟨a1, rfl⟩ <;> rcases g with ⟨m, c1, c2, c3, c4, rfl⟩ | ⟨c1, rfl⟩
  · have : i = m := by
      rcases Nat.lt_trichotomy i m with h' | h' | h'
      · exact absurd (c3 i h').symm a4
      · exact h'
      · exact absurd (a3 m h').symm c4
    subst this
    simp only [decide_eq_true_eq, decide_eq_false_iff_not]
    refine ⟨by omega, fun h => ?_, fun h => absurd (h.2 i a1) a4⟩
    exact absurd (show F i = G i by omega) a4
  · exact absurd (c1 i a2 a1).symm a4
  · exact absurd (a1 m c2 c1).symm c4
  · simp only [decide_eq_true_eq, decide_eq_false_iff_not]
    refine ⟨by omega, fun h => ⟨by omega, fun i hi => a1 i hi (by omega)⟩, fun h => by omega⟩
theorem lex_self {F : Nat → Int} {la : Nat} {r : Bool} (h : LexRes F F la la r) : r = false := by
  rcases h with ⟨i, a1, a2, a3, a4, rfl⟩ | ⟨a1, rfl⟩
  · exact absurd rfl a4
  · simp

theorem walk (a0 : Option Addr) (len0 cap0 : Nat) (z0 : List Int) (a1 : Option Addr) (len1 cap1 : Nat) (z1 : List Int) (w : World) (w0 : IsRow .i64 w a0 len0 cap0 z0) (w1 : IsRow .i64 w a1 len1 cap1 z1) :
    Calls Yba.prog 4 #[.slice a0 len0 cap0, .slice a1 len1 cap1] w fun e w' => e = .returned (.bool true) ∧ Below w.heap.size w w' := by
  have m0 := row_len w0
  have m1 := row_len w1
  have s0 := row_sl w0
  have s1 := row_sl w1
  clear w0 w1
  by_cases h0 : 1024 < len0
  · have h0' : (1024 : Int) < len0 := by omega
    go_enter Yba.func4, Yba.ntmps4
    go_wp2_with fail
    go_ret
    exact ⟨rfl, Below.refl _ _⟩
  · by_cases h1 : 1024 < len1
    · have h1' : (1024 : Int) < len1 := by omega
      go_enter Yba.func4, Yba.ntmps4
      go_wp2_with fail
      go_ret
      exact ⟨rfl, Below.refl _ _⟩
    · go_enter Yba.func4, Yba.ntmps4
      go_wp2_with fail
      refine (lex_any _ _ _ _ _ _ (fun i => z0.getD i 0) (fun i => z1.getD i 0) _ ⟨by omega, by omega⟩ s0 s1).mono ?_
      rintro e w' ⟨ab, rfl, hab, n, rfl⟩
      have HAB : Hid (LexRes (fun i => z0.getD i 0) (fun i => z1.getD i 0) len0 len1 ab) := hab
      clear hab
      go_wp2_with fail
      refine (lex_any _ _ _ _ _ _ (fun i => z1.getD i 0) (fun i => z0.getD i 0) _ ⟨by omega, by omega⟩ (s1.drewN n) (s0.drewN n)).mono ?_
      rintro e w' ⟨ba, rfl, hba, n2, rfl⟩
      obtain ⟨HS1, HS2⟩ := lex_strict HAB.out hba
      have HS3 : Hid ((ab = false ∧ ba = false) ↔ (len0 = len1 ∧ ∀ i, i < len0 → z0.getD i 0 = z1.getD i 0)) := HS2
      clear hba HS2
      have fin : ∀ r : Bool, (r = true ↔ (len0 = len1 ∧ ∀ i, i < len0 → z0.getD i 0 = z1.getD i 0)) → ((!ab && !ba) == r) = true := by
        intro r hr
        have := HS3.out
        rw [← hr] at this
        revert this
        cases ab <;> cases ba <;> cases r <;> simp
      have FIN : Hid (∀ r : Bool, (r = true ↔ (len0 = len1 ∧ ∀ i, i < len0 → z0.getD i 0 = z1.getD i 0)) → ((!ab && !ba) == r) = true) := fin
      clear fin HS3 HAB
      rcases hcase : ab with _ | _ <;> subst hcase
      · go_wp2_with fail
        refine (lex_any _ _ _ _ _ _ (fun i => z0.getD i 0) (fun i => z0.getD i 0) _ ⟨by omega, by omega⟩ (s0.drewN _) (s0.drewN _)).mono ?_
        rintro e w' ⟨aa, rfl, haa, n3, rfl⟩
        have ea := lex_self haa
        subst ea
        clear haa
        rcases hcase : ba with _ | _ <;> subst hcase
        all_goals
          go_wp2_with fail
          refine (eq_any _ _ _ _ _ _ (fun i => z0.getD i 0) (fun i => z1.getD i 0) _ ⟨by omega, by omega⟩ (s0.drewN _) (s1.drewN _)).mono ?_
          rintro e w' ⟨r, rfl, hr, n4, rfl⟩
          have hq := FIN.out r hr
          clear hr FIN
          simp only [Bool.not_false, Bool.not_true, Bool.and_true, Bool.and_false] at hq
          go_wp2_with fail
          go_ret
          exact ⟨by simp, below_drewN (Below.refl _ _) _⟩
      · have e := HS1 rfl
        subst e
        go_wp2_with fail
        refine (lex_any _ _ _ _ _ _ (fun i => z0.getD i 0) (fun i => z0.getD i 0) _ ⟨by omega, by omega⟩ (s0.drewN _) (s0.drewN _)).mono ?_
        rintro e w' ⟨aa, rfl, haa, n3, rfl⟩
        have ea := lex_self haa
        subst ea
        clear haa
        go_wp2_with fail
        refine (eq_any _ _ _ _ _ _ (fun i => z0.getD i 0) (fun i => z1.getD i 0) _ ⟨by omega, by omega⟩ (s0.drewN _) (s1.drewN _)).mono ?_
        rintro e w' ⟨r, rfl, hr, n4, rfl⟩
        have hq := FIN.out r hr
        clear hr FIN
        simp only [Bool.not_false, Bool.not_true, Bool.and_true] at hq
        go_wp2_with fail
        go_ret
        exact ⟨by simp, below_drewN (Below.refl _ _) _⟩

/-! ### THE ROW's STEP: WRITTEN OUT: LEAVE IT -/
set_option maxRecDepth 100000 in
theorem lifted (os : Os) (started : os.Started) (H : Type) (enc : TypeId × Value → H) :
    ReturnsInHanded {} Yba.checked os 4 .any (Rows.lawS3327AStrictSpec.pre6 enc Yba.prog Yba.f4 Rows.lawS3327AStrictRow.domain false) (Rows.lawS3327AStrictSpec.post enc Yba.prog Yba.f4 false true false false) := by
  refine returnsInHanded_of_change (C := Yba.checked) own started (by kernel_rfl) Yba.func4
    (ChangeSpec.witness6 (enc := enc) (C := Yba.checked) false ⟨#[], #[.slice none 0 0, .slice none 0 0], []⟩ 8 (by kernel_rfl) (by kernel_rfl) (by kernel_rfl) (by kernel_rfl)) ?_
  intro W base args ds gs before hval0 hW hcnd _
  have hval : ∀ (j : Nat) t v, Yba.f4.params[j]? = some t → args[j]? = some v → Value.okWide Yba.prog W .any base t v := hval0
  have hW' := hW
  obtain ⟨p, q, hA0, hV, rfl, hfz, hnd⟩ := hW
  have hA : DataW.TrodAll enc Yba.prog W 0 (fun _ => true) true Yba.f4.params.toList args.toList ds p := hA0
  rw [Yba.params4] at hA hval
  obtain ⟨v0, vs0, d0, ds0, p0, q0, hargs, rfl, rfl, h0, r0⟩ := trodAll_cons hA
  obtain ⟨v1, vs1, d1, ds1, p1, q1, rfl, rfl, rfl, h1, r1⟩ := trodAll_cons r0
  obtain ⟨rfl, rfl, rfl⟩ := trodAll_nil r1
  obtain rfl : args = #[v0, v1] := by cases args; simp_all
  obtain ⟨rfl, rfl⟩ := trodVars_none hV
  obtain ⟨a0, len0, cap0, rfl⟩ := okWide_slice Yba.underlying22 (hval 0 22 v0 rfl rfl)
  have k0 := h0
  have lt0 : ∀ x ∈ p0, x.block < W.heap.size := by obtain ⟨m, hm⟩ := k0; exact DataW.trod_lt m _ _ _ hm
  obtain ⟨z0, w0⟩ : ∃ zs, IsRow .i64 W a0 len0 cap0 zs := by
    obtain ⟨fuel, hf⟩ := h0
    rcases open_ints Yba.underlying22 Yba.underlying3 (by kernel_rfl) hf with ⟨hcs, _⟩ | ⟨x, l, c, zs, hcs, _, hl, hm, hz, _, hcell, hwz⟩
    · simp [Value.cells] at hcs
      obtain ⟨rfl, rfl, rfl⟩ := hcs
      exact ⟨[], .inl ⟨rfl, rfl, rfl, rfl⟩⟩
    · simp [Value.cells] at hcs
      obtain ⟨rfl, rfl, rfl⟩ := hcs
      exact ⟨zs, .inr ⟨_, rfl, hl, hm, by simpa using hz, hcell, hwz⟩⟩
  obtain ⟨a1, len1, cap1, rfl⟩ := okWide_slice Yba.underlying22 (hval 1 22 v1 rfl rfl)
  have k1 := h1
  have lt1 : ∀ x ∈ p1, x.block < W.heap.size := by obtain ⟨m, hm⟩ := k1; exact DataW.trod_lt m _ _ _ hm
  obtain ⟨z1, w1⟩ : ∃ zs, IsRow .i64 W a1 len1 cap1 zs := by
    obtain ⟨fuel, hf⟩ := h1
    rcases open_ints Yba.underlying22 Yba.underlying3 (by kernel_rfl) hf with ⟨hcs, _⟩ | ⟨x, l, c, zs, hcs, _, hl, hm, hz, _, hcell, hwz⟩
    · simp [Value.cells] at hcs
      obtain ⟨rfl, rfl, rfl⟩ := hcs
      exact ⟨[], .inl ⟨rfl, rfl, rfl, rfl⟩⟩
    · simp [Value.cells] at hcs
      obtain ⟨rfl, rfl, rfl⟩ := hcs
      exact ⟨zs, .inr ⟨_, rfl, hl, hm, by simpa using hz, hcell, hwz⟩⟩
  clear hA0 hval0
  refine (walk a0 len0 cap0 z0 a1 len1 cap1 z1 W w0 w1).mono fun e W' ⟨he, bel⟩ => ?_
  subst he
  exact ⟨_, rfl, _, _, _, [], _, [], hW', trodAll_mk1 (shut_bool Yba.underlying4 _), (trodAll_cons_mk (Below.trod laidOut (by kernel_rfl) (of_decide_eq_true (by kernel_rfl)) k0 bel lt0) (trodAll_cons_mk (Below.trod laidOut (by kernel_rfl) (of_decide_eq_true (by kernel_rfl)) k1 bel lt1) trodAll_mk0)), rfl, bel.frame _, fun h => by cases h⟩

theorem over : Rows.lawS3327AStrictRow.holds Yba.pinned (OpenSpec.ofChange Rows.lawS3327AStrictSpec) :=
  OpenClaim.holds_of_wide 4 Yba.f4 rfl rfl rfl rfl rfl rfl rfl ⟨rfl, rfl, rfl, rfl, rfl⟩ rfl rfl rfl rfl rfl (by kernel_rfl) Yba.func4 (by kernel_rfl)
    (of_decide_eq_true (by kernel_rfl)) (by unfold Func.isWrapper; first | (rw [if_pos (by decide +kernel)]; kernel_rfl) | (rw [if_neg (by decide +kernel)]; exact ⟨rfl, rfl⟩))
    (fun os started H enc _ => lifted os started H enc)

/-- ████ THE STATEMENT ████ -/
theorem proved : Rows.LawS3327AStrictSaid := over
end Go.Proofs.Ybulkbpwm.lawS3327AStrict
