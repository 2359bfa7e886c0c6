/-
  THE SHELL OF A PROOF OF 'Rows.LawS3327APrefixSaid' ('example.com/quorumsmith/quorumsmith.LawS3327APrefix'), WRITTEN BY PROGRAM (proof-skeleton.mjs, third state) off the guide's own print for that function. Not trusted: Lean checks it.
  ALL ELSE IS THE GUIDE's OWN WAY (howto/template/XProofs.lean; Derived/Test/ChunkProofs.lean for 'Below') at this function's number and types: leave it.
-/
import Derived.Test.YbulkbpwmLex
import Derived.WalkKit
import Derived.ProofKit
import Derived.OpenShut
import Derived.ShutString
import Derived.ChangeOld
import Derived.Below
import Derived.WalkSmall
import Derived.Deep.QuietTactic
import Derived.BigQuiet
namespace Go.Proofs.Ybulkbpwm.lawS3327APrefix
open Go.ChangeShapes Go.WideShapes Go.ChangeAt Go.RowKit
open Go.ChangeMaps (open_string shut_string)
set_option linter.unusedVariables false

theorem own : ownKnob Yba.prog.godebug = none := by kernel_rfl
theorem laidOut : laidOutB Yba.prog = true := by kernel_rfl

/-- WHAT THE WALK IS TOLD OF A SLICE OF INTEGERS THAT CAME IN: it is nil; or it leads to a row of 'cap' cells, the numbers 'zs' (the first 'len' are its elements, the rest its spare room), each fitting its kind. -/
def IsRow (k : IntKind) (w : World) (a : Option Addr) (len cap : Nat) (zs : List Int) : Prop :=
  (a = none ∧ len = 0 ∧ cap = 0 ∧ zs = []) ∨
  ∃ x, a = some x ∧ len ≤ cap ∧ cap ≤ maxLen ∧ zs.length = cap ∧ (∀ i, i < zs.length → w.cell? (x.add i) = some (.int k (zs.getD i 0))) ∧ ∀ n ∈ zs, (Lit.int k n).wf = true

/-! ### STEP 1: THE WALK -/
/-- A row that came in, as the contracts want it. -/
theorem row_sl {w : World} {a : Option Addr} {len cap : Nat} {zs : List Int} (h : IsRow .i64 w a len cap zs) : Sl w a len (fun i => zs.getD i 0) := by
  rcases h with ⟨_, rfl, _⟩ | ⟨x, rfl, hl, hm, hz, hcell, hwz⟩
  · exact .inl rfl
  · by_cases h0 : len = 0
    · exact .inl h0
    · obtain ⟨b, off, spot⟩ := x
      have hc := hcell 0 (by omega)
      have hspot : spot = none := by simpa [Addr.add] using World.cell?_spot hc
      subst hspot
      exact .inr ⟨b, off, rfl, fun i hi => by rw [← add_plain]; exact hcell i (by omega)⟩
theorem row_len {w : World} {a : Option Addr} {len cap : Nat} {zs : List Int} (h : IsRow .i64 w a len cap zs) : len ≤ 9223372036854775807 := by
  rcases h with ⟨_, rfl, _⟩ | ⟨x, rfl, hl, hm, hz, hcell, hwz⟩
  · exact Nat.zero_le _
  · unfold maxLen at hm; omega

theorem sl_less {w : World} {a : Option Addr} {len k : Nat} {F : Nat → Int} (h : Sl w a len F) (hk : k ≤ len) : Sl w a k F := by
  rcases h with h | ⟨b, off, rfl, hc⟩
  · exact .inl (by omega)
  · exact .inr ⟨b, off, rfl, fun i hi => hc i (by omega)⟩

theorem walk (a0 : Option Addr) (len0 cap0 : Nat) (z0 : List Int) (a1 : Int) (w : World) (w0 : IsRow .i64 w a0 len0 cap0 z0) (w1 : (Lit.int .u64 a1).wf = true) :
    Calls Yba.prog 5 #[.slice a0 len0 cap0, .int .u64 a1] w fun e w' => e = .returned (.bool true) ∧ Below w.heap.size w w' := by
  have m0 := row_len w0
  have s0 := row_sl w0
  by_cases h0 : 1024 < len0
  · have h0' : (1024 : Int) < len0 := by omega
    go_enter Yba.func5, Yba.ntmps5
    go_wp2_with fail
    go_ret
    exact ⟨rfl, Below.refl _ _⟩
  · obtain ⟨k, hk⟩ : ∃ k : Nat, a1 % ((len0 : Int) + 1) = k := ⟨(a1 % ((len0 : Int) + 1)).toNat, by have := Int.emod_nonneg a1 (show (len0 : Int) + 1 ≠ 0 by omega); omega⟩
    have hk1 : (k : Int) ≤ len0 := by rw [← hk]; have := Int.emod_lt_of_pos a1 (show (0 : Int) < (len0 : Int) + 1 by omega); omega
    have hcap : len0 ≤ cap0 := by
      rcases w0 with ⟨_, rfl, rfl, _⟩ | ⟨x, rfl, hl, _⟩
      · exact Nat.le_refl _
      · exact hl
    have hb := bounds_u64 w1
    clear w0 w1
    go_enter Yba.func5, Yba.ntmps5
    go_wp2_with fail
    refine (lex_any _ _ _ _ _ _ (fun i => z0.getD i 0) (fun i => z0.getD i 0) _ ⟨by omega, by omega⟩ (sl_less s0 (by omega)) s0).mono ?_
    rintro e w' ⟨r, rfl, hr, n, rfl⟩
    have HR : Hid (LexRes (fun i => z0.getD i 0) (fun i => z0.getD i 0) k len0 r) := hr
    clear hr
    have er : r = decide (k < len0) := by
      rcases HR.out with ⟨i, a1, a2, a3, a4, rfl⟩ | ⟨a1, rfl⟩
      · exact absurd rfl a4
      · simp
    have ht : (!(r == decide (k < len0))) = false := by rw [er]; simp
    clear er HR
    go_wp2_with fail
    refine (lex_any _ _ _ _ _ _ (fun i => z0.getD i 0) (fun i => z0.getD i 0) _ ⟨by omega, by omega⟩ (s0.drewN _) ((sl_less s0 (by omega)).drewN _)).mono ?_
    rintro e w' ⟨r2, rfl, hr2, n2, rfl⟩
    have e2 : r2 = false := by
      rcases hr2 with ⟨i, a1, a2, a3, a4, rfl⟩ | ⟨a1, rfl⟩
      · exact absurd rfl a4
      · simp; omega
    subst e2
    clear hr2
    go_wp2_with fail
    go_ret
    exact ⟨rfl, below_drewN (Below.refl _ _) _⟩

/-! ### THE ROW's STEP: WRITTEN OUT: LEAVE IT -/
set_option maxRecDepth 100000 in
theorem lifted (os : Os) (started : os.Started) (H : Type) (enc : TypeId × Value → H) :
    ReturnsInHanded {} Yba.checked os 5 .any (Rows.lawS3327APrefixSpec.pre6 enc Yba.prog Yba.f5 Rows.lawS3327APrefixRow.domain false) (Rows.lawS3327APrefixSpec.post enc Yba.prog Yba.f5 false true false false) := by
  refine returnsInHanded_of_change (C := Yba.checked) own started (by kernel_rfl) Yba.func5
    (ChangeSpec.witness6 (enc := enc) (C := Yba.checked) false ⟨#[], #[.slice none 0 0, .int .u64 0], []⟩ 8 (by kernel_rfl) (by kernel_rfl) (by kernel_rfl) (by kernel_rfl)) ?_
  intro W base args ds gs before hval0 hW hcnd _
  have hval : ∀ (j : Nat) t v, Yba.f5.params[j]? = some t → args[j]? = some v → Value.okWide Yba.prog W .any base t v := hval0
  have hW' := hW
  obtain ⟨p, q, hA0, hV, rfl, hfz, hnd⟩ := hW
  have hA : DataW.TrodAll enc Yba.prog W 0 (fun _ => true) true Yba.f5.params.toList args.toList ds p := hA0
  rw [Yba.params5] at hA hval
  obtain ⟨v0, vs0, d0, ds0, p0, q0, hargs, rfl, rfl, h0, r0⟩ := trodAll_cons hA
  obtain ⟨v1, vs1, d1, ds1, p1, q1, rfl, rfl, rfl, h1, r1⟩ := trodAll_cons r0
  obtain ⟨rfl, rfl, rfl⟩ := trodAll_nil r1
  obtain rfl : args = #[v0, v1] := by cases args; simp_all
  obtain ⟨rfl, rfl⟩ := trodVars_none hV
  obtain ⟨a0, len0, cap0, rfl⟩ := okWide_slice Yba.underlying22 (hval 0 22 v0 rfl rfl)
  have k0 := h0
  have lt0 : ∀ x ∈ p0, x.block < W.heap.size := by obtain ⟨m, hm⟩ := k0; exact DataW.trod_lt m _ _ _ hm
  obtain ⟨z0, w0⟩ : ∃ zs, IsRow .i64 W a0 len0 cap0 zs := by
    obtain ⟨fuel, hf⟩ := h0
    rcases open_ints Yba.underlying22 Yba.underlying3 (by kernel_rfl) hf with ⟨hcs, _⟩ | ⟨x, l, c, zs, hcs, _, hl, hm, hz, _, hcell, hwz⟩
    · simp [Value.cells] at hcs
      obtain ⟨rfl, rfl, rfl⟩ := hcs
      exact ⟨[], .inl ⟨rfl, rfl, rfl, rfl⟩⟩
    · simp [Value.cells] at hcs
      obtain ⟨rfl, rfl, rfl⟩ := hcs
      exact ⟨zs, .inr ⟨_, rfl, hl, hm, by simpa using hz, hcell, hwz⟩⟩
  obtain ⟨a1, rfl, rfl, rfl, w1⟩ := open_int Yba.underlying25 (hval 1 25 v1 rfl rfl) h1
  clear hA0 hval0
  refine (walk a0 len0 cap0 z0 a1 W w0 w1).mono fun e W' ⟨he, bel⟩ => ?_
  subst he
  exact ⟨_, rfl, _, _, _, [], _, [], hW', trodAll_mk1 (shut_bool Yba.underlying4 _), (trodAll_cons_mk (Below.trod laidOut (by kernel_rfl) (of_decide_eq_true (by kernel_rfl)) k0 bel lt0) (trodAll_cons_mk (shut_int Yba.underlying25 w1) trodAll_mk0)), rfl, bel.frame _, fun h => by cases h⟩

theorem over : Rows.lawS3327APrefixRow.holds Yba.pinned (OpenSpec.ofChange Rows.lawS3327APrefixSpec) :=
  OpenClaim.holds_of_wide 5 Yba.f5 rfl rfl rfl rfl rfl rfl rfl ⟨rfl, rfl, rfl, rfl, rfl⟩ rfl rfl rfl rfl rfl (by kernel_rfl) Yba.func5 (by kernel_rfl)
    (of_decide_eq_true (by kernel_rfl)) (by unfold Func.isWrapper; first | (rw [if_pos (by decide +kernel)]; kernel_rfl) | (rw [if_neg (by decide +kernel)]; exact ⟨rfl, rfl⟩))
    (fun os started H enc _ => lifted os started H enc)

/-- ████ THE STATEMENT ████ -/
theorem proved : Rows.LawS3327APrefixSaid := over
end Go.Proofs.Ybulkbpwm.lawS3327APrefix
