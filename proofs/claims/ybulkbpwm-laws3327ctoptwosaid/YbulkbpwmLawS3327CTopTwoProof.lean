/-
  THE SHELL OF A PROOF OF 'Rows.LawS3327CTopTwoSaid' ('example.com/quorumsmith/quorumsmith.LawS3327CTopTwo'), WRITTEN BY PROGRAM (proof-skeleton.mjs, third state) off the guide's own print for that function. Not trusted: Lean checks it.
  ALL ELSE IS THE GUIDE's OWN WAY (howto/template/XProofs.lean; Derived/Test/ChunkProofs.lean for 'Below') at this function's number and types: leave it.
-/
import Derived.Test.YbulkbpwmFront
import Derived.WalkKit
import Derived.ProofKit
import Derived.OpenShut
import Derived.ShutString
import Derived.ChangeOld
import Derived.Below
namespace Go.Proofs.Ybulkbpwm.lawS3327CTopTwo
open Go.ChangeShapes Go.WideShapes Go.ChangeAt Go.RowKit
open Go.ChangeMaps (open_string shut_string)
set_option linter.unusedVariables false

theorem own : ownKnob Yba.prog.godebug = none := by kernel_rfl
theorem laidOut : laidOutB Yba.prog = true := by kernel_rfl

/-- WHAT THE WALK IS TOLD OF A SLICE OF INTEGERS THAT CAME IN: it is nil; or it leads to a row of 'cap' cells, the numbers 'zs' (the first 'len' are its elements, the rest its spare room), each fitting its kind. -/
def IsRow (k : IntKind) (w : World) (a : Option Addr) (len cap : Nat) (zs : List Int) : Prop :=
  (a = none ∧ len = 0 ∧ cap = 0 ∧ zs = []) ∨
  ∃ x, a = some x ∧ len ≤ cap ∧ cap ≤ maxLen ∧ zs.length = cap ∧ (∀ i, i < zs.length → w.cell? (x.add i) = some (.int k (zs.getD i 0))) ∧ ∀ n ∈ zs, (Lit.int k n).wf = true

/-! ### STEP 1: THE WALK -/
theorem row_sl {k : IntKind} {w : World} {a : Option Addr} {len cap : Nat} {zs : List Int} (h : IsRow k w a len cap zs) : SlK k w a len (fun i => zs.getD i 0) := by
  rcases h with ⟨_, rfl, _⟩ | ⟨x, rfl, hl, hm, hz, hcell, hwz⟩
  · exact .inl rfl
  · by_cases h0 : len = 0
    · exact .inl h0
    · obtain ⟨b, off, spot⟩ := x
      have hc := hcell 0 (by omega)
      have hspot : spot = none := by simpa [Addr.add] using World.cell?_spot hc
      subst hspot
      have hc' : ∀ i, i < len → w.cell? ⟨b, off + i, none⟩ = some (.int k (zs.getD i 0)) := fun i hi => by rw [← add_plain]; exact hcell i (by omega)
      exact .inr ⟨b, off, rfl, World.block_lt_of_cell? _ _ (hc' 0 (by omega)), hc'⟩
theorem row_len {k : IntKind} {w : World} {a : Option Addr} {len cap : Nat} {zs : List Int} (h : IsRow k w a len cap zs) : len ≤ 9223372036854775807 := by
  rcases h with ⟨_, rfl, _⟩ | ⟨x, rfl, hl, hm, hz, hcell, hwz⟩
  · exact Nat.zero_le _
  · unfold maxLen at hm; omega
theorem row_u8 {w : World} {a : Option Addr} {len cap : Nat} {zs : List Int} (h : IsRow .u8 w a len cap zs) : ∀ i, i < len → 0 ≤ zs.getD i 0 ∧ zs.getD i 0 ≤ 255 := by
  rcases h with ⟨_, rfl, _⟩ | ⟨x, rfl, hl, hm, hz, hcell, hwz⟩
  · intro i hi; omega
  · intro i hi
    have := range_u8 hwz i
    simpa using this

set_option maxRecDepth 100000 in
theorem walk (a0 : Int) (a1 : Int) (a2 : Int) (a3 : Option Addr) (len3 cap3 : Nat) (z3 : List Int) (a4 : Option Addr) (len4 cap4 : Nat) (z4 : List Int) (a5 : Option Addr) (len5 cap5 : Nat) (z5 : List Int) (a6 : Option Addr) (len6 cap6 : Nat) (z6 : List Int) (w : World) (w0 : (Lit.int .u8 a0).wf = true) (w1 : (Lit.int .u8 a1).wf = true) (w2 : (Lit.int .i64 a2).wf = true) (w3 : IsRow .u8 w a3 len3 cap3 z3) (w4 : IsRow .u64 w a4 len4 cap4 z4) (w5 : IsRow .u64 w a5 len5 cap5 z5) (w6 : IsRow .u8 w a6 len6 cap6 z6) :
    Calls Yba.prog 8 #[.int .u8 a0, .int .u8 a1, .int .i64 a2, .slice a3 len3 cap3, .slice a4 len4 cap4, .slice a5 len5 cap5, .slice a6 len6 cap6] w fun e w' => e = .returned (.bool true) ∧ Below w.heap.size w w' := by
  have l3 := row_len w3
  have l4 := row_len w4
  have l5 := row_len w5
  have l6 := row_len w6
  by_cases h : len3 ≤ 1024 ∧ len4 ≤ 1024 ∧ len5 ≤ 1024 ∧ len6 ≤ 1024
  · exact front a0 a1 a2 a3 len3 cap3 (fun i => z3.getD i 0) a4 len4 cap4 (fun i => z4.getD i 0) a5 len5 cap5 (fun i => z5.getD i 0) a6 len6 cap6 (fun i => z6.getD i 0) w (bounds_u8 w0) (bounds_u8 w1) h.1 h.2.1 h.2.2.1 h.2.2.2 (row_u8 w3) (row_sl w3) (row_sl w4) (row_sl w5) (row_sl w6)
  · clear w3 w4 w5 w6 w0 w1 w2
    by_cases h3 : 1024 < len3
    · have h3' : (1024 : Int) < len3 := by omega
      go_enter Yba.func8, Yba.ntmps8
      go_wp2_with fail
      go_ret
      exact ⟨rfl, Below.refl _ _⟩
    by_cases h4 : 1024 < len4
    · have h4' : (1024 : Int) < len4 := by omega
      go_enter Yba.func8, Yba.ntmps8
      go_wp2_with fail
      go_ret
      exact ⟨rfl, Below.refl _ _⟩
    by_cases h5 : 1024 < len5
    · have h5' : (1024 : Int) < len5 := by omega
      go_enter Yba.func8, Yba.ntmps8
      go_wp2_with fail
      go_ret
      exact ⟨rfl, Below.refl _ _⟩
    · have h6' : (1024 : Int) < len6 := by omega
      go_enter Yba.func8, Yba.ntmps8
      go_wp2_with fail
      go_ret
      exact ⟨rfl, Below.refl _ _⟩

/-! ### THE ROW's STEP: WRITTEN OUT: LEAVE IT -/
set_option maxRecDepth 100000 in
theorem lifted (os : Os) (started : os.Started) (H : Type) (enc : TypeId × Value → H) :
    ReturnsInHanded {} Yba.checked os 8 .any (Rows.lawS3327CTopTwoSpec.pre6 enc Yba.prog Yba.f8 Rows.lawS3327CTopTwoRow.domain false) (Rows.lawS3327CTopTwoSpec.post enc Yba.prog Yba.f8 false true false false) := by
  refine returnsInHanded_of_change (C := Yba.checked) own started (by kernel_rfl) Yba.func8
    (ChangeSpec.witness6 (enc := enc) (C := Yba.checked) false ⟨#[], #[.int .u8 0, .int .u8 0, .int .i64 0, .slice none 0 0, .slice none 0 0, .slice none 0 0, .slice none 0 0], []⟩ 8 (by kernel_rfl) (by kernel_rfl) (by kernel_rfl) (by kernel_rfl)) ?_
  intro W base args ds gs before hval0 hW hcnd _
  have hval : ∀ (j : Nat) t v, Yba.f8.params[j]? = some t → args[j]? = some v → Value.okWide Yba.prog W .any base t v := hval0
  have hW' := hW
  obtain ⟨p, q, hA0, hV, rfl, hfz, hnd⟩ := hW
  have hA : DataW.TrodAll enc Yba.prog W 0 (fun _ => true) true Yba.f8.params.toList args.toList ds p := hA0
  rw [Yba.params8] at hA hval
  obtain ⟨v0, vs0, d0, ds0, p0, q0, hargs, rfl, rfl, h0, r0⟩ := trodAll_cons hA
  obtain ⟨v1, vs1, d1, ds1, p1, q1, rfl, rfl, rfl, h1, r1⟩ := trodAll_cons r0
  obtain ⟨v2, vs2, d2, ds2, p2, q2, rfl, rfl, rfl, h2, r2⟩ := trodAll_cons r1
  obtain ⟨v3, vs3, d3, ds3, p3, q3, rfl, rfl, rfl, h3, r3⟩ := trodAll_cons r2
  obtain ⟨v4, vs4, d4, ds4, p4, q4, rfl, rfl, rfl, h4, r4⟩ := trodAll_cons r3
  obtain ⟨v5, vs5, d5, ds5, p5, q5, rfl, rfl, rfl, h5, r5⟩ := trodAll_cons r4
  obtain ⟨v6, vs6, d6, ds6, p6, q6, rfl, rfl, rfl, h6, r6⟩ := trodAll_cons r5
  obtain ⟨rfl, rfl, rfl⟩ := trodAll_nil r6
  obtain rfl : args = #[v0, v1, v2, v3, v4, v5, v6] := by cases args; simp_all
  obtain ⟨rfl, rfl⟩ := trodVars_none hV
  obtain ⟨a0, rfl, rfl, rfl, w0⟩ := open_int Yba.underlying5 (hval 0 5 v0 rfl rfl) h0
  obtain ⟨a1, rfl, rfl, rfl, w1⟩ := open_int Yba.underlying5 (hval 1 5 v1 rfl rfl) h1
  obtain ⟨a2, rfl, rfl, rfl, w2⟩ := open_int Yba.underlying3 (hval 2 3 v2 rfl rfl) h2
  obtain ⟨a3, len3, cap3, rfl⟩ := okWide_slice Yba.underlying28 (hval 3 28 v3 rfl rfl)
  have k3 := h3
  have lt3 : ∀ x ∈ p3, x.block < W.heap.size := by obtain ⟨m, hm⟩ := k3; exact DataW.trod_lt m _ _ _ hm
  obtain ⟨z3, w3⟩ : ∃ zs, IsRow .u8 W a3 len3 cap3 zs := by
    obtain ⟨fuel, hf⟩ := h3
    rcases open_ints Yba.underlying28 Yba.underlying5 (by kernel_rfl) hf with ⟨hcs, _⟩ | ⟨x, l, c, zs, hcs, _, hl, hm, hz, _, hcell, hwz⟩
    · simp [Value.cells] at hcs
      obtain ⟨rfl, rfl, rfl⟩ := hcs
      exact ⟨[], .inl ⟨rfl, rfl, rfl, rfl⟩⟩
    · simp [Value.cells] at hcs
      obtain ⟨rfl, rfl, rfl⟩ := hcs
      exact ⟨zs, .inr ⟨_, rfl, hl, hm, by simpa using hz, hcell, hwz⟩⟩
  obtain ⟨a4, len4, cap4, rfl⟩ := okWide_slice Yba.underlying36 (hval 4 36 v4 rfl rfl)
  have k4 := h4
  have lt4 : ∀ x ∈ p4, x.block < W.heap.size := by obtain ⟨m, hm⟩ := k4; exact DataW.trod_lt m _ _ _ hm
  obtain ⟨z4, w4⟩ : ∃ zs, IsRow .u64 W a4 len4 cap4 zs := by
    obtain ⟨fuel, hf⟩ := h4
    rcases open_ints Yba.underlying36 Yba.underlying47 (by kernel_rfl) hf with ⟨hcs, _⟩ | ⟨x, l, c, zs, hcs, _, hl, hm, hz, _, hcell, hwz⟩
    · simp [Value.cells] at hcs
      obtain ⟨rfl, rfl, rfl⟩ := hcs
      exact ⟨[], .inl ⟨rfl, rfl, rfl, rfl⟩⟩
    · simp [Value.cells] at hcs
      obtain ⟨rfl, rfl, rfl⟩ := hcs
      exact ⟨zs, .inr ⟨_, rfl, hl, hm, by simpa using hz, hcell, hwz⟩⟩
  obtain ⟨a5, len5, cap5, rfl⟩ := okWide_slice Yba.underlying36 (hval 5 36 v5 rfl rfl)
  have k5 := h5
  have lt5 : ∀ x ∈ p5, x.block < W.heap.size := by obtain ⟨m, hm⟩ := k5; exact DataW.trod_lt m _ _ _ hm
  obtain ⟨z5, w5⟩ : ∃ zs, IsRow .u64 W a5 len5 cap5 zs := by
    obtain ⟨fuel, hf⟩ := h5
    rcases open_ints Yba.underlying36 Yba.underlying47 (by kernel_rfl) hf with ⟨hcs, _⟩ | ⟨x, l, c, zs, hcs, _, hl, hm, hz, _, hcell, hwz⟩
    · simp [Value.cells] at hcs
      obtain ⟨rfl, rfl, rfl⟩ := hcs
      exact ⟨[], .inl ⟨rfl, rfl, rfl, rfl⟩⟩
    · simp [Value.cells] at hcs
      obtain ⟨rfl, rfl, rfl⟩ := hcs
      exact ⟨zs, .inr ⟨_, rfl, hl, hm, by simpa using hz, hcell, hwz⟩⟩
  obtain ⟨a6, len6, cap6, rfl⟩ := okWide_slice Yba.underlying28 (hval 6 28 v6 rfl rfl)
  have k6 := h6
  have lt6 : ∀ x ∈ p6, x.block < W.heap.size := by obtain ⟨m, hm⟩ := k6; exact DataW.trod_lt m _ _ _ hm
  obtain ⟨z6, w6⟩ : ∃ zs, IsRow .u8 W a6 len6 cap6 zs := by
    obtain ⟨fuel, hf⟩ := h6
    rcases open_ints Yba.underlying28 Yba.underlying5 (by kernel_rfl) hf with ⟨hcs, _⟩ | ⟨x, l, c, zs, hcs, _, hl, hm, hz, _, hcell, hwz⟩
    · simp [Value.cells] at hcs
      obtain ⟨rfl, rfl, rfl⟩ := hcs
      exact ⟨[], .inl ⟨rfl, rfl, rfl, rfl⟩⟩
    · simp [Value.cells] at hcs
      obtain ⟨rfl, rfl, rfl⟩ := hcs
      exact ⟨zs, .inr ⟨_, rfl, hl, hm, by simpa using hz, hcell, hwz⟩⟩
  clear hA0 hval0
  refine (walk a0 a1 a2 a3 len3 cap3 z3 a4 len4 cap4 z4 a5 len5 cap5 z5 a6 len6 cap6 z6 W w0 w1 w2 w3 w4 w5 w6).mono fun e W' ⟨he, bel⟩ => ?_
  subst he
  exact ⟨_, rfl, _, _, _, [], _, [], hW', trodAll_mk1 (shut_bool Yba.underlying4 _), (trodAll_cons_mk (shut_int Yba.underlying5 w0) (trodAll_cons_mk (shut_int Yba.underlying5 w1) (trodAll_cons_mk (shut_int Yba.underlying3 w2) (trodAll_cons_mk (Below.trod laidOut (by kernel_rfl) (of_decide_eq_true (by kernel_rfl)) k3 bel lt3) (trodAll_cons_mk (Below.trod laidOut (by kernel_rfl) (of_decide_eq_true (by kernel_rfl)) k4 bel lt4) (trodAll_cons_mk (Below.trod laidOut (by kernel_rfl) (of_decide_eq_true (by kernel_rfl)) k5 bel lt5) (trodAll_cons_mk (Below.trod laidOut (by kernel_rfl) (of_decide_eq_true (by kernel_rfl)) k6 bel lt6) trodAll_mk0))))))), rfl, bel.frame _, fun h => by cases h⟩

theorem over : Rows.lawS3327CTopTwoRow.holds Yba.pinned (OpenSpec.ofChange Rows.lawS3327CTopTwoSpec) :=
  OpenClaim.holds_of_wide 8 Yba.f8 rfl rfl rfl rfl rfl rfl rfl ⟨rfl, rfl, rfl, rfl, rfl⟩ rfl rfl rfl rfl rfl (by kernel_rfl) Yba.func8 (by kernel_rfl)
    (of_decide_eq_true (by kernel_rfl)) (by unfold Func.isWrapper; first | (rw [if_pos (by decide +kernel)]; kernel_rfl) | (rw [if_neg (by decide +kernel)]; exact ⟨rfl, rfl⟩))
    (fun os started H enc _ => lifted os started H enc)

/-- ████ THE STATEMENT ████ -/
theorem proved : Rows.LawS3327CTopTwoSaid := over
end Go.Proofs.Ybulkbpwm.lawS3327CTopTwo
