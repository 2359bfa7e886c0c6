/-
  THE SHELL OF A PROOF OF 'Rows.LawS3322AModelSaid' ('example.com/draftline/draftline/internal/diff.LawS3322AModel'), WRITTEN BY PROGRAM (proof-skeleton.mjs, third state) off the guide's own print for that function. Not trusted: Lean checks it.
  ALL ELSE IS THE GUIDE's OWN WAY (howto/template/XProofs.lean; Derived/Test/ChunkProofs.lean for 'Below') at this function's number and types: leave it.
-/
import Derived.Test.YbulkbptuMeet
import Derived.WalkKit
import Derived.ProofKit
import Derived.OpenShut
import Derived.ShutString
import Derived.ChangeOld
import Derived.Below
import Derived.WalkSmall
import Derived.Deep.QuietTactic
import Derived.BigQuiet
namespace Go.Proofs.Ybulkbptu.lawS3322AModel
open Go.ChangeShapes Go.WideShapes Go.ChangeAt Go.RowKit
open Go.ChangeMaps (open_string shut_string)
set_option linter.unusedVariables false

theorem own : ownKnob Yba.prog.godebug = none := by kernel_rfl
theorem laidOut : laidOutB Yba.prog = true := by kernel_rfl

/-- WHAT THE WALK IS TOLD OF A SLICE OF INTEGERS THAT CAME IN: it is nil; or it leads to a row of 'cap' cells, the numbers 'zs' (the first 'len' are its elements, the rest its spare room), each fitting its kind. -/
def IsRow (k : IntKind) (w : World) (a : Option Addr) (len cap : Nat) (zs : List Int) : Prop :=
  (a = none ∧ len = 0 ∧ cap = 0 ∧ zs = []) ∨
  ∃ x, a = some x ∧ len ≤ cap ∧ cap ≤ maxLen ∧ zs.length = cap ∧ (∀ i, i < zs.length → w.cell? (x.add i) = some (.int k (zs.getD i 0))) ∧ ∀ n ∈ zs, (Lit.int k n).wf = true

/-! ### STEP 1: THE WALK -/
theorem walk_large (a0 : Option Addr) (len0 cap0 : Nat) (a1 : Option Addr) (len1 cap1 : Nat) (a2 : Int) (a3 : Int) (a4 : Int) (w : World) (h0 : 1024 < len0) (h1 : 1024 < len1)  (m0 : len0 ≤ maxLen) (m1 : len1 ≤ maxLen) :
    Calls Yba.prog 3 #[.slice a0 len0 cap0, .slice a1 len1 cap1, .int .u8 a2, .int .u8 a3, .int .u8 a4] w fun e w' => e = .returned (.bool true) ∧ Below w.heap.size w w' := by
  unfold maxLen at m0 m1
  by_cases hlt : len1 < len0
  all_goals
    go_enter Yba.func3, Yba.ntmps3
    go_wp2
    go_ret
    exact ⟨rfl, Below.refl _ _⟩

theorem walk_empty (a0 : Option Addr) (len0 cap0 : Nat) (a1 : Option Addr) (len1 cap1 : Nat) (a2 : Int) (a3 : Int) (a4 : Int) (n l h : Nat) (w : World) (hn : n ≤ 1024) (hne : (len1 < len0 ∧ len1 = n) ∨ (len0 ≤ len1 ∧ len0 = n))
    (b2 : 0 ≤ a2 ∧ a2 ≤ 255) (b3 : 0 ≤ a3 ∧ a3 ≤ 255) (b4 : 0 ≤ a4 ∧ a4 ≤ 255) (hl : a3 % ((n : Int) + 1) = l) (hh : a4 % ((n : Int) + 1) = h) (hlh : h ≤ l)  :
    Calls Yba.prog 3 #[.slice a0 len0 cap0, .slice a1 len1 cap1, .int .u8 a2, .int .u8 a3, .int .u8 a4] w fun e w' => e = .returned (.bool true) ∧ Below w.heap.size w w' := by
  have hl1 : (l : Int) ≤ n := by rw [← hl]; have := Int.emod_lt_of_pos a3 (show (0 : Int) < (n : Int) + 1 by omega); omega
  have hh1 : (h : Int) ≤ n := by rw [← hh]; have := Int.emod_lt_of_pos a4 (show (0 : Int) < (n : Int) + 1 by omega); omega
  rcases hne with ⟨hlt, rfl⟩ | ⟨hlt, rfl⟩
  all_goals
    go_enter Yba.func3, Yba.ntmps3
    go_wp2_with fail
    refine (meet_empty _ _ _ _ _ _ _ _ _ (by omega) _).mono ?_
    rintro e w' ⟨rfl, rfl⟩
    go_wp2
    refine wp_loop_rounds 1 ?_
    rw [rounds_succ]
    go_wp2
    go_ret
    exact ⟨rfl, Below.refl _ _⟩

/-- What the law's own loop has gathered below index j. -/
def Want (F B : Nat → Int) (o : Int) (l h : Nat) (j : Nat) (k : Int) (ok : Bool) : Prop :=
  (ok = false ∧ k = 0 ∧ ∀ i : Nat, l ≤ i → i < j → ((h : Int) - i) % 2 = 0 → F i < B i) ∨
  (ok = true ∧ ∃ i : Nat, l ≤ i ∧ i < j ∧ ((h : Int) - i) % 2 = 0 ∧ B i ≤ F i ∧ k = (i : Int) - o ∧ ∀ i' : Nat, i < i' → i' < j → ((h : Int) - i') % 2 = 0 → F i' < B i')

theorem want_meet {F B : Nat → Int} {o : Int} {l h : Nat} {k k' : Int} {ok ok' : Bool} (hm : MeetRes F B o l h k ok) (hw : Want F B o l h (h + 1) k' ok') : k = k' ∧ ok = ok' := by
  rcases hm with ⟨rfl, rfl, h1⟩ | ⟨rfl, i, hi1, hi2, hi3, hi4, rfl, hi5⟩ <;> rcases hw with ⟨rfl, rfl, g1⟩ | ⟨rfl, m, hm1, hm2, hm3, hm4, rfl, hm5⟩
  · exact ⟨rfl, rfl⟩
  · have := h1 m hm1 (by omega) hm3; omega
  · have := g1 i hi1 (by omega) hi3; omega
  · have : i = m := by
      rcases Nat.lt_trichotomy i m with h' | h' | h'
      · have := hi5 m h' (by omega) hm3; omega
      · exact h'
      · have := hm5 i h' (by omega) hi3; omega
    subst this
    exact ⟨rfl, rfl⟩

theorem want_start (F B : Nat → Int) (o : Int) (l h : Nat) : Want F B o l h l 0 false := .inl ⟨rfl, rfl, fun i h1 h2 => by omega⟩
theorem want_hit {F B : Nat → Int} {o : Int} {l h j : Nat} {k : Int} {ok : Bool} (hj : l ≤ j) (hp : ((h : Int) - j) % 2 = 0) (hle : B j ≤ F j) (hw : Want F B o l h j k ok) : Want F B o l h (j + 1) ((j : Int) - o) true :=
  .inr ⟨rfl, j, hj, by omega, hp, hle, rfl, fun i h1 h2 => by omega⟩
theorem want_miss {F B : Nat → Int} {o : Int} {l h j : Nat} {k : Int} {ok : Bool} (hm : ((h : Int) - j) % 2 = 0 → F j < B j) (hw : Want F B o l h j k ok) : Want F B o l h (j + 1) k ok := by
  rcases hw with ⟨rfl, rfl, g1⟩ | ⟨rfl, m, hm1, hm2, hm3, hm4, rfl, hm5⟩
  · refine .inl ⟨rfl, rfl, fun i h1 h2 h3 => ?_⟩
    by_cases e : i = j
    · subst e; exact hm h3
    · exact g1 i h1 (by omega) h3
  · refine .inr ⟨rfl, m, hm1, by omega, hm3, hm4, rfl, fun i h1 h2 h3 => ?_⟩
    by_cases e : i = j
    · subst e; exact hm h3
    · exact hm5 i h1 (by omega) h3

set_option maxHeartbeats 800000 in
theorem walk_main (bf oF len0 cap0 bb oB len1 cap1 : Nat) (F B : Nat → Int) (a2 : Int) (a3 : Int) (a4 : Int) (n l h : Nat) (w : World)
    (hF : ∀ i, i < len0 → w.cell? ⟨bf, oF + i, none⟩ = some (.int .i64 (F i)))
    (hB : ∀ i, i < len1 → w.cell? ⟨bb, oB + i, none⟩ = some (.int .i64 (B i)))
    (hn : n ≤ 1024) (hne : (len1 < len0 ∧ len1 = n) ∨ (len0 ≤ len1 ∧ len0 = n))
    (b2 : 0 ≤ a2 ∧ a2 ≤ 255) (b3 : 0 ≤ a3 ∧ a3 ≤ 255) (b4 : 0 ≤ a4 ∧ a4 ≤ 255) (hl : a3 % ((n : Int) + 1) = l) (hh : a4 % ((n : Int) + 1) = (h : Int) + 1) (hlh : l ≤ h)  :
    Calls Yba.prog 3 #[.slice (some ⟨bf, oF, none⟩) len0 cap0, .slice (some ⟨bb, oB, none⟩) len1 cap1, .int .u8 a2, .int .u8 a3, .int .u8 a4] w fun e w' => e = .returned (.bool true) ∧ Below w.heap.size w w' := by
  have hl1 : (l : Int) ≤ n := by rw [← hl]; have := Int.emod_lt_of_pos a3 (show (0 : Int) < (n : Int) + 1 by omega); omega
  have hh1 : (h : Int) + 1 ≤ n := by rw [← hh]; have := Int.emod_lt_of_pos a4 (show (0 : Int) < (n : Int) + 1 by omega); omega
  rcases hne with ⟨hlt, rfl⟩ | ⟨hlt, rfl⟩
  all_goals
    go_enter Yba.func3, Yba.ntmps3
    go_wp2_with fail
    refine (meet_any _ _ _ _ _ _ _ _ F B _ l h _ hF hB hlh (by omega) (by omega) (by omega) (by omega) (by omega)).mono ?_
    rintro e w' ⟨k, ok, rfl, hm, nd, rfl⟩
    have HM : Hid (MeetRes F B (a2 % 5 - 2) l h k ok) := hm
    clear hm
    go_wp2
    go_loopw [17, 18, 19] (fun kv okv jv wr => ∃ (j : Nat) (k' : Int) (ok' : Bool), l ≤ j ∧ j ≤ h + 1 ∧ jv = .int .i64 j ∧ kv = .int .i64 k' ∧ okv = .bool ok' ∧ Want F B (a2 % 5 - 2) l h j k' ok' ∧ ∃ n, wr = w.drewN n)
      (fun _ _ jv _ => h + 1 - (intOf jv).toNat)
    case atStart => exact ⟨l, 0, false, Nat.le_refl _, by omega, rfl, rfl, rfl, want_start _ _ _ _ _, _, rfl⟩
    case round =>
      obtain ⟨j, k', ok', hj1, hj2, rfl, rfl, rfl, hw, n', rfl⟩ := hrel
      have HW : Hid (Want F B (a2 % 5 - 2) l h j k' ok') := hw
      clear hw
      by_cases hjl : j ≤ h
      · have cF := hF j (by omega)
        have cB := hB j (by omega)
        by_cases hp : (((h : Int) - j) % 2 == 0) = true
        · go_wp2
          go_quiet (fail)
          go_wp2
          · have hle : B j ≤ F j := by assumption
            go_roundw
            case rel => exact ⟨j + 1, _, _, by omega, by omega, by go_num, rfl, rfl, want_hit hj1 (by simpa using hp) hle HW.out, _, rfl⟩
            case measure => simp [intOf]; omega
          · have hgt : F j < B j := by assumption
            go_roundw
            case rel => exact ⟨j + 1, _, _, by omega, by omega, by go_num, rfl, rfl, want_miss (fun _ => hgt) HW.out, _, rfl⟩
            case measure => simp [intOf]; omega
        · have hpf : (((h : Int) - j) % 2 == 0) = false := by simpa using hp
          go_wp2
          go_quiet (fail)
          go_wp2
          go_roundw
          case rel => exact ⟨j + 1, _, _, by omega, by omega, by go_num, rfl, rfl, want_miss (fun h' => absurd h' (by simpa using hp)) HW.out, _, rfl⟩
          case measure => simp [intOf]; omega
      · have ej : j = h + 1 := by omega
        have HR : k = k' ∧ ok = ok' := want_meet HM.out (by have := HW.out; rwa [ej] at this)
        clear ej
        obtain ⟨rfl, rfl⟩ := HR
        go_wp2
        go_ret
        exact ⟨by simp, below_drewN (Below.refl _ _) _⟩

/-- The cells of a row, at an address without a spot. -/
theorem row_at {w : World} {a : Option Addr} {len cap : Nat} {zs : List Int} (h : IsRow .i64 w a len cap zs) (hp : 0 < len) :
    ∃ b off, a = some ⟨b, off, none⟩ ∧ ∀ i, i < len → w.cell? ⟨b, off + i, none⟩ = some (.int .i64 (zs.getD i 0)) := by
  rcases h with ⟨_, rfl, _⟩ | ⟨x, rfl, hl, hm, hz, hcell, hwz⟩
  · omega
  · obtain ⟨b, off, spot⟩ := x
    have hc := hcell 0 (by omega)
    have hspot : spot = none := by simpa [Addr.add] using World.cell?_spot hc
    subst hspot
    exact ⟨b, off, rfl, fun i hi => by rw [← add_plain]; exact hcell i (by omega)⟩
theorem row_len {w : World} {a : Option Addr} {len cap : Nat} {zs : List Int} (h : IsRow .i64 w a len cap zs) : len ≤ maxLen := by
  rcases h with ⟨_, rfl, _⟩ | ⟨x, rfl, hl, hm, hz, hcell, hwz⟩
  · exact Nat.zero_le _
  · omega

theorem walk (a0 : Option Addr) (len0 cap0 : Nat) (z0 : List Int) (a1 : Option Addr) (len1 cap1 : Nat) (z1 : List Int) (a2 : Int) (a3 : Int) (a4 : Int) (w : World) (w0 : IsRow .i64 w a0 len0 cap0 z0) (w1 : IsRow .i64 w a1 len1 cap1 z1) (w2 : (Lit.int .u8 a2).wf = true) (w3 : (Lit.int .u8 a3).wf = true) (w4 : (Lit.int .u8 a4).wf = true) :
    Calls Yba.prog 3 #[.slice a0 len0 cap0, .slice a1 len1 cap1, .int .u8 a2, .int .u8 a3, .int .u8 a4] w fun e w' => e = .returned (.bool true) ∧ Below w.heap.size w w' := by
  have b2 := bounds_u8 w2
  have b3 := bounds_u8 w3
  have b4 := bounds_u8 w4
  obtain ⟨n, hn⟩ : ∃ n : Nat, (len1 < len0 ∧ len1 = n) ∨ (len0 ≤ len1 ∧ len0 = n) := by
    by_cases h : len1 < len0
    · exact ⟨len1, .inl ⟨h, rfl⟩⟩
    · exact ⟨len0, .inr ⟨by omega, rfl⟩⟩
  by_cases hbig : 1024 < n
  · exact walk_large _ _ _ _ _ _ _ _ _ _ (by omega) (by omega) (row_len w0) (row_len w1)
  · obtain ⟨l, hl⟩ : ∃ l : Nat, a3 % ((n : Int) + 1) = l := ⟨(a3 % ((n : Int) + 1)).toNat, by have := Int.emod_nonneg a3 (show (n : Int) + 1 ≠ 0 by omega); omega⟩
    obtain ⟨h, hh⟩ : ∃ h : Nat, a4 % ((n : Int) + 1) = h := ⟨(a4 % ((n : Int) + 1)).toNat, by have := Int.emod_nonneg a4 (show (n : Int) + 1 ≠ 0 by omega); omega⟩
    by_cases hlh : h ≤ l
    · exact walk_empty _ _ _ _ _ _ _ _ _ n l h _ (by omega) hn b2 b3 b4 hl hh hlh
    · have hh1 : (h : Int) ≤ n := by rw [← hh]; have := Int.emod_lt_of_pos a4 (show (0 : Int) < (n : Int) + 1 by omega); omega
      obtain ⟨bf, oF, rfl, hF⟩ := row_at w0 (by omega)
      obtain ⟨bb, oB, rfl, hB⟩ := row_at w1 (by omega)
      obtain ⟨h', rfl⟩ : ∃ h', h = h' + 1 := ⟨h - 1, by omega⟩
      exact walk_main _ _ _ _ _ _ _ _ (fun i => z0.getD i 0) (fun i => z1.getD i 0) _ _ _ n l h' _ hF hB (by omega) hn b2 b3 b4 hl (by rw [hh]; simp) (by omega)

/-! ### THE ROW's STEP: WRITTEN OUT: LEAVE IT -/
set_option maxRecDepth 100000 in
theorem lifted (os : Os) (started : os.Started) (H : Type) (enc : TypeId × Value → H) :
    ReturnsInHanded {} Yba.checked os 3 .any (Rows.lawS3322AModelSpec.pre6 enc Yba.prog Yba.f3 Rows.lawS3322AModelRow.domain false) (Rows.lawS3322AModelSpec.post enc Yba.prog Yba.f3 false true false false) := by
  refine returnsInHanded_of_change (C := Yba.checked) own started (by kernel_rfl) Yba.func3
    (ChangeSpec.witness6 (enc := enc) (C := Yba.checked) false ⟨#[], #[.slice none 0 0, .slice none 0 0, .int .u8 0, .int .u8 0, .int .u8 0], []⟩ 8 (by kernel_rfl) (by kernel_rfl) (by kernel_rfl) (by kernel_rfl)) ?_
  intro W base args ds gs before hval0 hW hcnd _
  have hval : ∀ (j : Nat) t v, Yba.f3.params[j]? = some t → args[j]? = some v → Value.okWide Yba.prog W .any base t v := hval0
  have hW' := hW
  obtain ⟨p, q, hA0, hV, rfl, hfz, hnd⟩ := hW
  have hA : DataW.TrodAll enc Yba.prog W 0 (fun _ => true) true Yba.f3.params.toList args.toList ds p := hA0
  rw [Yba.params3] at hA hval
  obtain ⟨v0, vs0, d0, ds0, p0, q0, hargs, rfl, rfl, h0, r0⟩ := trodAll_cons hA
  obtain ⟨v1, vs1, d1, ds1, p1, q1, rfl, rfl, rfl, h1, r1⟩ := trodAll_cons r0
  obtain ⟨v2, vs2, d2, ds2, p2, q2, rfl, rfl, rfl, h2, r2⟩ := trodAll_cons r1
  obtain ⟨v3, vs3, d3, ds3, p3, q3, rfl, rfl, rfl, h3, r3⟩ := trodAll_cons r2
  obtain ⟨v4, vs4, d4, ds4, p4, q4, rfl, rfl, rfl, h4, r4⟩ := trodAll_cons r3
  obtain ⟨rfl, rfl, rfl⟩ := trodAll_nil r4
  obtain rfl : args = #[v0, v1, v2, v3, v4] := by cases args; simp_all
  obtain ⟨rfl, rfl⟩ := trodVars_none hV
  obtain ⟨a0, len0, cap0, rfl⟩ := okWide_slice Yba.underlying22 (hval 0 22 v0 rfl rfl)
  have k0 := h0
  have lt0 : ∀ x ∈ p0, x.block < W.heap.size := by obtain ⟨m, hm⟩ := k0; exact DataW.trod_lt m _ _ _ hm
  obtain ⟨z0, w0⟩ : ∃ zs, IsRow .i64 W a0 len0 cap0 zs := by
    obtain ⟨fuel, hf⟩ := h0
    rcases open_ints Yba.underlying22 Yba.underlying3 (by kernel_rfl) hf with ⟨hcs, _⟩ | ⟨x, l, c, zs, hcs, _, hl, hm, hz, _, hcell, hwz⟩
    · simp [Value.cells] at hcs
      obtain ⟨rfl, rfl, rfl⟩ := hcs
      exact ⟨[], .inl ⟨rfl, rfl, rfl, rfl⟩⟩
    · simp [Value.cells] at hcs
      obtain ⟨rfl, rfl, rfl⟩ := hcs
      exact ⟨zs, .inr ⟨_, rfl, hl, hm, by simpa using hz, hcell, hwz⟩⟩
  obtain ⟨a1, len1, cap1, rfl⟩ := okWide_slice Yba.underlying22 (hval 1 22 v1 rfl rfl)
  have k1 := h1
  have lt1 : ∀ x ∈ p1, x.block < W.heap.size := by obtain ⟨m, hm⟩ := k1; exact DataW.trod_lt m _ _ _ hm
  obtain ⟨z1, w1⟩ : ∃ zs, IsRow .i64 W a1 len1 cap1 zs := by
    obtain ⟨fuel, hf⟩ := h1
    rcases open_ints Yba.underlying22 Yba.underlying3 (by kernel_rfl) hf with ⟨hcs, _⟩ | ⟨x, l, c, zs, hcs, _, hl, hm, hz, _, hcell, hwz⟩
    · simp [Value.cells] at hcs
      obtain ⟨rfl, rfl, rfl⟩ := hcs
      exact ⟨[], .inl ⟨rfl, rfl, rfl, rfl⟩⟩
    · simp [Value.cells] at hcs
      obtain ⟨rfl, rfl, rfl⟩ := hcs
      exact ⟨zs, .inr ⟨_, rfl, hl, hm, by simpa using hz, hcell, hwz⟩⟩
  obtain ⟨a2, rfl, rfl, rfl, w2⟩ := open_int Yba.underlying5 (hval 2 5 v2 rfl rfl) h2
  obtain ⟨a3, rfl, rfl, rfl, w3⟩ := open_int Yba.underlying5 (hval 3 5 v3 rfl rfl) h3
  obtain ⟨a4, rfl, rfl, rfl, w4⟩ := open_int Yba.underlying5 (hval 4 5 v4 rfl rfl) h4
  clear hA0 hval0
  refine (walk a0 len0 cap0 z0 a1 len1 cap1 z1 a2 a3 a4 W w0 w1 w2 w3 w4).mono fun e W' ⟨he, bel⟩ => ?_
  subst he
  exact ⟨_, rfl, _, _, _, [], _, [], hW', trodAll_mk1 (shut_bool Yba.underlying4 _), (trodAll_cons_mk (Below.trod laidOut (by kernel_rfl) (of_decide_eq_true (by kernel_rfl)) k0 bel lt0) (trodAll_cons_mk (Below.trod laidOut (by kernel_rfl) (of_decide_eq_true (by kernel_rfl)) k1 bel lt1) (trodAll_cons_mk (shut_int Yba.underlying5 w2) (trodAll_cons_mk (shut_int Yba.underlying5 w3) (trodAll_cons_mk (shut_int Yba.underlying5 w4) trodAll_mk0))))), rfl, bel.frame _, fun h => by cases h⟩

theorem over : Rows.lawS3322AModelRow.holds Yba.pinned (OpenSpec.ofChange Rows.lawS3322AModelSpec) :=
  OpenClaim.holds_of_wide 3 Yba.f3 rfl rfl rfl rfl rfl rfl rfl ⟨rfl, rfl, rfl, rfl, rfl⟩ rfl rfl rfl rfl rfl (by kernel_rfl) Yba.func3 (by kernel_rfl)
    (of_decide_eq_true (by kernel_rfl)) (by unfold Func.isWrapper; first | (rw [if_pos (by decide +kernel)]; kernel_rfl) | (rw [if_neg (by decide +kernel)]; exact ⟨rfl, rfl⟩))
    (fun os started H enc _ => lifted os started H enc)

/-- ████ THE STATEMENT ████ -/
theorem proved : Rows.LawS3322AModelSaid := over
end Go.Proofs.Ybulkbptu.lawS3322AModel
