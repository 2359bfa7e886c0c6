import Derived.Test.YbulkbpuiF1
import Derived.WalkKit
import Derived.ProofKit
import Derived.OpenShut
import Derived.ChangeOld
import Derived.Below
import Derived.Deep.Fields
namespace Go.Proofs.Ybulkbpui.lawS3323BLock
open Go.ChangeShapes Go.WideShapes Go.ChangeAt Go.RowKit
set_option linter.unusedVariables false

theorem own : ownKnob Yba.prog.godebug = none := by kernel_rfl
theorem laidOut : laidOutB Yba.prog = true := by kernel_rfl

section
variable {H : Type} {enc : TypeId × Value → H} {P : Program} {w : World} {base : Nat} {spare : Nat → Bool} {held : Bool}
/-- A slice of structs whose fields are one cell each, opened. -/
theorem open_rows {t e : TypeId} {fs : Array Field} {fuel : Nat} {a : Option Addr} {len cap : Nat} {x : DataW H × List MemPlace} (ht : P.underlying t = some (.slice e)) (hs : P.underlying e = some (.struct fs))
    (hone : ∀ (i : Nat) (f : Field), fs[i]? = some f → f.offset = i ∧ P.cellsOf f.type = 1) (hC : P.cellsOf e = fs.size) (hpos : 0 < fs.size) (h : DataW.trod enc P w base spare held fuel t [.slice a len cap] = some x) :
    len ≤ maxLen ∧ (len = 0 ∨ ∃ b o, a = some ⟨b, o, none⟩ ∧ b < w.heap.size ∧ ∃ V : Nat → Nat → Value, ∀ (u j : Nat) (f : Field), u < len → fs[j]? = some f → w.cell? ⟨b, o + u * fs.size + j, none⟩ = some (V u j) ∧ ∃ n y, DataW.trod enc P w base spare held n f.type [V u j] = some y) := by
  rcases Deep.open_slice ht h with ⟨h0, _⟩ | ⟨a', len', cap', m, n, D, Pl, h0, hb, hl, hm, hmm, _, hx⟩
  · simp at h0
    obtain ⟨_, rfl, _⟩ := h0
    exact ⟨Nat.zero_le _, .inl rfl⟩
  · simp at h0
    obtain ⟨rfl, rfl, rfl⟩ := h0
    refine ⟨by omega, ?_⟩
    by_cases hz : len = 0
    · exact .inl hz
    right
    have hlm : len ≤ m := by rw [hmm]; split <;> omega
    obtain ⟨C, hCC⟩ := Deep.choose_lt (α := List Value) (p := fun i cs => w.cells? base (a'.add (i * P.cellsOf e)) (P.cellsOf e) = some cs ∧ DataW.trod enc P w base spare held n e cs = some (D i, Pl i)) hx
    obtain ⟨b, o, spot⟩ := a'
    have hcell : ∀ u j, u < len → j < fs.size → w.cell? ((⟨b, o, spot⟩ : Addr).add (u * fs.size + j)) = some ((C u).getD j undef) := by
      intro u j hu hj
      obtain ⟨h1, h2⟩ := hCC u (by omega)
      obtain ⟨_, hlen, hc⟩ := World.cells?_some h1
      rw [hC] at hlen hc
      have := hc j hj
      rw [Deep.add_add, List.getElem?_eq_getElem (by omega)] at this
      rw [this]
      simp [List.getD, List.getElem?_eq_getElem (show j < (C u).length by omega)]
    have h00 := hcell 0 0 (by omega) hpos
    have hspot : spot = none := by simpa [Addr.add] using World.cell?_spot h00
    subst hspot
    refine ⟨b, o, rfl, ?_, fun u j => (C u).getD j undef, fun u j f hu hf => ?_⟩
    · rw [add_plain] at h00
      exact World.block_lt_of_cell? _ _ h00
    · have hj : j < fs.size := (Array.getElem?_eq_some_iff.1 hf).1
      have h1 := hcell u j hu hj
      rw [add_plain, ← Nat.add_assoc] at h1
      refine ⟨h1, ?_⟩
      obtain ⟨g1, g2⟩ := hCC u (by omega)
      obtain ⟨_, hlen, _⟩ := World.cells?_some g1
      rw [hC] at hlen
      obtain ⟨xs, n', _, _, _, hxl, hff⟩ := DataW.trod_struct hs g2
      obtain ⟨ho, hc1⟩ := hone j f hf
      have g := hff j f hf
      rw [ho, hc1, Deep.take1_drop (C u) j undef (by omega), List.getElem?_eq_getElem (by omega)] at g
      exact ⟨n', _, g⟩
theorem leaf_int {t : TypeId} {k : IntKind} {n : Nat} {v : Value} {y : DataW H × List MemPlace} (ht : P.underlying t = some (.int k)) (h : DataW.trod enc P w base spare held n t [v] = some y) : ∃ x, v = .int k x ∧ (Lit.int k x).wf = true := by
  cases n with
  | zero => simp [DataW.trod] at h
  | succ n =>
    unfold DataW.trod at h
    rw [ht] at h
    split at h <;> simp_all
theorem leaf_bool {t : TypeId} {n : Nat} {v : Value} {y : DataW H × List MemPlace} (ht : P.underlying t = some .bool) (h : DataW.trod enc P w base spare held n t [v] = some y) : ∃ x, v = .bool x := by
  cases n with
  | zero => simp [DataW.trod] at h
  | succ n =>
    unfold DataW.trod at h
    rw [ht] at h
    split at h <;> simp_all
theorem leaf_string {t : TypeId} {n : Nat} {v : Value} {y : DataW H × List MemPlace} (ht : P.underlying t = some .string) (h : DataW.trod enc P w base spare held n t [v] = some y) : ∃ x, v = .string x := by
  cases n with
  | zero => simp [DataW.trod] at h
  | succ n =>
    unfold DataW.trod at h
    rw [ht] at h
    split at h <;> simp_all
end
/-- What a cell of an integer holds. -/
def num : Value → Int
  | .int _ x => x
  | _ => 0
def str : Value → ByteArray
  | .string s => s
  | _ => "".toUTF8
def flag : Value → Bool
  | .bool b => b
  | _ => false

theorem arg_tx {H : Type} {enc : TypeId × Value → H} {W : World} {base : Nat} {spare : Nat → Bool} {held : Bool} {fuel : Nat} {a : Option Addr} {len cap : Nat} {x : DataW H × List MemPlace} (h : DataW.trod enc Yba.prog W base spare held fuel 22 [.slice a len cap] = some x) :
    len ≤ maxLen ∧ ∃ (N : Nat → ByteArray) (E K : Nat → Bool) (X : Nat → Int), ArgAt W a len 4 (inT N E K X) ∧ ∀ u, u < len → -128 ≤ X u ∧ X u ≤ 127 := by
  obtain ⟨h0, h1⟩ := open_rows Yba.underlying22 Yba.underlying38 (Deep.hone_of (by kernel_rfl)) (by kernel_rfl) (by decide) h
  refine ⟨h0, ?_⟩
  rcases h1 with hz | ⟨b, o, rfl, hb, V, hV⟩
  · subst hz
    exact ⟨fun _ => "".toUTF8, fun _ => false, fun _ => false, fun _ => 0, .inl rfl, fun u hu => by omega⟩
  · refine ⟨fun u => str (V u 0), fun u => flag (V u 1), fun u => flag (V u 2), fun u => num (V u 3), .inr ⟨b, o, rfl, hb, fun u j hu hj => ?_⟩, fun u hu => ?_⟩
    · match j, hj with
      | 0, _ =>
        obtain ⟨c, n, y, g⟩ := hV u 0 _ hu rfl
        obtain ⟨s, hs⟩ := leaf_string Yba.underlying9 g
        rw [hs] at c
        show W.cell? _ = some (.string (str (V u 0)))
        rw [hs]
        exact c
      | 1, _ =>
        obtain ⟨c, n, y, g⟩ := hV u 1 _ hu rfl
        obtain ⟨s, hs⟩ := leaf_bool Yba.underlying4 g
        rw [hs] at c
        show W.cell? _ = some (.bool (flag (V u 1)))
        rw [hs]
        exact c
      | 2, _ =>
        obtain ⟨c, n, y, g⟩ := hV u 2 _ hu rfl
        obtain ⟨s, hs⟩ := leaf_bool Yba.underlying4 g
        rw [hs] at c
        show W.cell? _ = some (.bool (flag (V u 2)))
        rw [hs]
        exact c
      | 3, _ =>
        obtain ⟨c, n, y, g⟩ := hV u 3 _ hu rfl
        obtain ⟨s, hs, _⟩ := leaf_int Yba.underlying36 g
        rw [hs] at c
        show W.cell? _ = some (.int .i8 (num (V u 3)))
        rw [hs]
        exact c
    · obtain ⟨c, n, y, g⟩ := hV u 3 _ hu rfl
      obtain ⟨s, hs, hw⟩ := leaf_int Yba.underlying36 g
      show -128 ≤ num (V u 3) ∧ num (V u 3) ≤ 127
      rw [hs]
      exact bounds_i8 hw
theorem arg_u16 {H : Type} {enc : TypeId × Value → H} {W : World} {base : Nat} {spare : Nat → Bool} {held : Bool} {fuel : Nat} {t e : TypeId} {fs : Array Field} {a : Option Addr} {len cap : Nat} {x : DataW H × List MemPlace} (ht : Yba.prog.underlying t = some (.slice e)) (hs : Yba.prog.underlying e = some (.struct fs))
    (hone : ∀ (i : Nat) (f : Field), fs[i]? = some f → f.offset = i ∧ Yba.prog.cellsOf f.type = 1) (hC : Yba.prog.cellsOf e = fs.size) (hpos : 0 < fs.size) (h25 : ∀ (j : Nat), j < fs.size → ∃ f, fs[j]? = some f ∧ f.type = 25) (h : DataW.trod enc Yba.prog W base spare held fuel t [.slice a len cap] = some x) :
    len ≤ maxLen ∧ ∃ (Y : Nat → Nat → Int), ArgAt W a len fs.size (in16 Y) ∧ ∀ u j, u < len → j < fs.size → 0 ≤ Y u j ∧ Y u j ≤ 65535 := by
  obtain ⟨h0, h1⟩ := open_rows ht hs hone hC hpos h
  refine ⟨h0, ?_⟩
  rcases h1 with hz | ⟨b, o, rfl, hb, V, hV⟩
  · subst hz
    exact ⟨fun _ _ => 0, .inl rfl, fun u j hu => by omega⟩
  · refine ⟨fun u j => num (V u j), .inr ⟨b, o, rfl, hb, fun u j hu hj => ?_⟩, fun u j hu hj => ?_⟩
    · obtain ⟨f, hf, e1⟩ := h25 j hj
      obtain ⟨c, n, y, g⟩ := hV u j f hu hf
      rw [e1] at g
      obtain ⟨s, hs, _⟩ := leaf_int Yba.underlying25 g
      rw [hs] at c
      show W.cell? _ = some (.int .u16 (num (V u j)))
      rw [hs]
      exact c
    · obtain ⟨f, hf, e1⟩ := h25 j hj
      obtain ⟨c, n, y, g⟩ := hV u j f hu hf
      rw [e1] at g
      obtain ⟨s, hs, hw⟩ := leaf_int Yba.underlying25 g
      show 0 ≤ num (V u j) ∧ num (V u j) ≤ 65535
      rw [hs]
      exact bounds_u16 hw

set_option maxRecDepth 100000 in
theorem walk (a0 a1 a2 : Option Addr) (n0 n1 n2 c0 c1 c2 : Nat) (N : Nat → ByteArray) (E K : Nat → Bool) (X : Nat → Int) (Y Z : Nat → Nat → Int) (tt ii ev act mx : Int) (dp : Bool) (w : World)
    (l0 : n0 ≤ maxLen) (l1 : n1 ≤ maxLen) (l2 : n2 ≤ maxLen) (bt : 0 ≤ tt ∧ tt ≤ 65535) (bi : 0 ≤ ii ∧ ii ≤ 65535) (bv : -2147483648 ≤ ev ∧ ev ≤ 2147483647) (ba : -32768 ≤ act ∧ act ≤ 32767) (bm : -32768 ≤ mx ∧ mx ≤ 32767)
    (bX : ∀ u, u < n0 → -128 ≤ X u ∧ X u ≤ 127) (bY : ∀ u j, u < n1 → j < 3 → 0 ≤ Y u j ∧ Y u j ≤ 65535) (bZ : ∀ u j, u < n2 → j < 2 → 0 ≤ Z u j ∧ Z u j ≤ 65535)
    (k0 : ArgAt w a0 n0 4 (inT N E K X)) (k1 : ArgAt w a1 n1 3 (in16 Y)) (k2 : ArgAt w a2 n2 2 (in16 Z)) :
    Calls Yba.prog 3 #[.slice a0 n0 c0, .slice a1 n1 c1, .slice a2 n2 c2, .int .u16 tt, .int .u16 ii, .int .i32 ev, .int .i16 act, .int .i16 mx, .bool dp] w fun e w' => e = .returned (.bool true) ∧ Below w.heap.size w w' := by
  by_cases h : n0 ≤ 1024 ∧ n1 ≤ 1024 ∧ n2 ≤ 1024
  · exact front a0 a1 a2 n0 n1 n2 c0 c1 c2 N E K X Y Z tt ii ev act mx dp w h.1 h.2.1 h.2.2 bt bi bv ba bm bX bY bZ k0 k1 k2
  · clear bX bY bZ k0 k1 k2
    unfold maxLen at l0 l1 l2
    by_cases h3 : 1024 < n0
    · have h3' : (1024 : Int) < n0 := by omega
      go_enter Yba.func3, Yba.ntmps3
      go_wp2_with fail
      go_ret
      exact ⟨rfl, Below.refl _ _⟩
    by_cases h4 : 1024 < n1
    · have h4' : (1024 : Int) < n1 := by omega
      go_enter Yba.func3, Yba.ntmps3
      go_wp2_with fail
      go_ret
      exact ⟨rfl, Below.refl _ _⟩
    · have h6' : (1024 : Int) < n2 := by omega
      go_enter Yba.func3, Yba.ntmps3
      go_wp2_with fail
      go_ret
      exact ⟨rfl, Below.refl _ _⟩

set_option maxRecDepth 100000 in
theorem lifted (os : Os) (started : os.Started) (H : Type) (enc : TypeId × Value → H) :
    ReturnsInHanded {} Yba.checked os 3 .any (Rows.lawS3323BLockSpec.pre6 enc Yba.prog Yba.f3 Rows.lawS3323BLockRow.domain false) (Rows.lawS3323BLockSpec.post enc Yba.prog Yba.f3 false true false false) := by
  refine returnsInHanded_of_change (C := Yba.checked) own started (by kernel_rfl) Yba.func3
    (ChangeSpec.witness6 (enc := enc) (C := Yba.checked) false ⟨#[], #[.slice none 0 0, .slice none 0 0, .slice none 0 0, .int .u16 0, .int .u16 0, .int .i32 0, .int .i16 0, .int .i16 0, .bool false], []⟩ 3 (by kernel_rfl) (by kernel_rfl) (by kernel_rfl) (by kernel_rfl)) ?_
  intro W base args ds gs before hval0 hW hcnd _
  have hval : ∀ (j : Nat) t v, Yba.f3.params[j]? = some t → args[j]? = some v → Value.okWide Yba.prog W .any base t v := hval0
  have hW' := hW
  obtain ⟨p, q, hA0, hV, rfl, hfz, hnd⟩ := hW
  have hA : DataW.TrodAll enc Yba.prog W 0 (fun _ => true) true Yba.f3.params.toList args.toList ds p := hA0
  rw [Yba.params3] at hA hval
  obtain ⟨v0, vs0, d0, ds0, p0, q0, hargs, rfl, rfl, h0, r0⟩ := trodAll_cons hA
  obtain ⟨v1, vs1, d1, ds1, p1, q1, rfl, rfl, rfl, h1, r1⟩ := trodAll_cons r0
  obtain ⟨v2, vs2, d2, ds2, p2, q2, rfl, rfl, rfl, h2, r2⟩ := trodAll_cons r1
  obtain ⟨v3, vs3, d3, ds3, p3, q3, rfl, rfl, rfl, h3, r3⟩ := trodAll_cons r2
  obtain ⟨v4, vs4, d4, ds4, p4, q4, rfl, rfl, rfl, h4, r4⟩ := trodAll_cons r3
  obtain ⟨v5, vs5, d5, ds5, p5, q5, rfl, rfl, rfl, h5, r5⟩ := trodAll_cons r4
  obtain ⟨v6, vs6, d6, ds6, p6, q6, rfl, rfl, rfl, h6, r6⟩ := trodAll_cons r5
  obtain ⟨v7, vs7, d7, ds7, p7, q7, rfl, rfl, rfl, h7, r7⟩ := trodAll_cons r6
  obtain ⟨v8, vs8, d8, ds8, p8, q8, rfl, rfl, rfl, h8, r8⟩ := trodAll_cons r7
  obtain ⟨rfl, rfl, rfl⟩ := trodAll_nil r8
  obtain rfl : args = #[v0, v1, v2, v3, v4, v5, v6, v7, v8] := by cases args; simp_all
  obtain ⟨rfl, rfl⟩ := trodVars_none hV
  obtain ⟨a0, n0, c0, rfl⟩ := okWide_slice Yba.underlying22 (hval 0 22 v0 rfl rfl)
  have k0 := h0
  have lt0 : ∀ x ∈ p0, x.block < W.heap.size := by obtain ⟨m, hm⟩ := k0; exact DataW.trod_lt m _ _ _ hm
  obtain ⟨f0, g0⟩ := h0
  obtain ⟨a1, n1, c1, rfl⟩ := okWide_slice Yba.underlying23 (hval 1 23 v1 rfl rfl)
  have k1 := h1
  have lt1 : ∀ x ∈ p1, x.block < W.heap.size := by obtain ⟨m, hm⟩ := k1; exact DataW.trod_lt m _ _ _ hm
  obtain ⟨f1, g1⟩ := h1
  obtain ⟨a2, n2, c2, rfl⟩ := okWide_slice Yba.underlying24 (hval 2 24 v2 rfl rfl)
  have k2 := h2
  have lt2 : ∀ x ∈ p2, x.block < W.heap.size := by obtain ⟨m, hm⟩ := k2; exact DataW.trod_lt m _ _ _ hm
  obtain ⟨f2, g2⟩ := h2
  obtain ⟨l0, N, E, K, X, A0, BX⟩ := arg_tx (a := a0) (len := n0) (cap := c0) g0
  obtain ⟨l1, Y, A1, BY⟩ := arg_u16 Yba.underlying23 Yba.underlying45 (Deep.hone_of (by kernel_rfl)) (by kernel_rfl) (by decide) (fun j hj => by match j, hj with | 0, _ | 1, _ | 2, _ => exact ⟨_, rfl, rfl⟩) (a := a1) (len := n1) (cap := c1) g1
  obtain ⟨l2, Z, A2, BZ⟩ := arg_u16 Yba.underlying24 Yba.underlying48 (Deep.hone_of (by kernel_rfl)) (by kernel_rfl) (by decide) (fun j hj => by match j, hj with | 0, _ | 1, _ => exact ⟨_, rfl, rfl⟩) (a := a2) (len := n2) (cap := c2) g2
  obtain ⟨tt, rfl, rfl, rfl, w3⟩ := open_int Yba.underlying25 (hval 3 25 v3 rfl rfl) h3
  obtain ⟨ii, rfl, rfl, rfl, w4⟩ := open_int Yba.underlying25 (hval 4 25 v4 rfl rfl) h4
  obtain ⟨ev, rfl, rfl, rfl, w5⟩ := open_int Yba.underlying21 (hval 5 21 v5 rfl rfl) h5
  obtain ⟨act, rfl, rfl, rfl, w6⟩ := open_int Yba.underlying26 (hval 6 26 v6 rfl rfl) h6
  obtain ⟨mx, rfl, rfl, rfl, w7⟩ := open_int Yba.underlying26 (hval 7 26 v7 rfl rfl) h7
  obtain ⟨dp, rfl, rfl, rfl⟩ := open_bool Yba.underlying4 (hval 8 4 v8 rfl rfl) h8
  clear hA0 hval0
  refine (walk a0 a1 a2 n0 n1 n2 c0 c1 c2 N E K X Y Z tt ii ev act mx dp W l0 l1 l2 (bounds_u16 w3) (bounds_u16 w4) (bounds_i32 w5) (bounds_i16 w6) (bounds_i16 w7) BX BY BZ A0 A1 A2).mono fun e W' ⟨he, bel⟩ => ?_
  subst he
  exact ⟨_, rfl, _, _, _, [], _, [], hW', trodAll_mk1 (shut_bool Yba.underlying4 _), (trodAll_cons_mk (Below.trod laidOut (by kernel_rfl) (of_decide_eq_true (by kernel_rfl)) k0 bel lt0) (trodAll_cons_mk (Below.trod laidOut (by kernel_rfl) (of_decide_eq_true (by kernel_rfl)) k1 bel lt1) (trodAll_cons_mk (Below.trod laidOut (by kernel_rfl) (of_decide_eq_true (by kernel_rfl)) k2 bel lt2) (trodAll_cons_mk (shut_int Yba.underlying25 w3) (trodAll_cons_mk (shut_int Yba.underlying25 w4) (trodAll_cons_mk (shut_int Yba.underlying21 w5) (trodAll_cons_mk (shut_int Yba.underlying26 w6) (trodAll_cons_mk (shut_int Yba.underlying26 w7) (trodAll_cons_mk (shut_bool Yba.underlying4 _) trodAll_mk0))))))))), rfl, bel.frame _, fun h => by cases h⟩

theorem over : Rows.lawS3323BLockRow.holds Yba.pinned (OpenSpec.ofChange Rows.lawS3323BLockSpec) :=
  OpenClaim.holds_of_wide 3 Yba.f3 rfl rfl rfl rfl rfl rfl rfl ⟨rfl, rfl, rfl, rfl, rfl⟩ rfl rfl rfl rfl rfl (by kernel_rfl) Yba.func3 (by kernel_rfl)
    (of_decide_eq_true (by kernel_rfl)) (by unfold Func.isWrapper; first | (rw [if_pos (by decide +kernel)]; kernel_rfl) | (rw [if_neg (by decide +kernel)]; exact ⟨rfl, rfl⟩))
    (fun os started H enc _ => lifted os started H enc)

/-- The statement. -/
theorem proved : Rows.LawS3323BLockSaid := over
end Go.Proofs.Ybulkbpui.lawS3323BLock
