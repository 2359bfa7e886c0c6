import Derived.Test.YbulkbptuBuild
import Derived.Test.YbulkbptuMs
import Derived.Test.YbulkbptuAlloc
namespace Go.Proofs.Ybulkbptu
open Go.ChangeShapes Go.WideShapes Go.ChangeAt Go.RowKit
set_option linter.unusedVariables false
set_option linter.unusedSimpArgs false

/-- A new aligner's fields. -/
def alA (bx b2 b5 b6 bf bb n m cx cy : Nat) (bd : Bool) : Array Value :=
  #[.slice (some ⟨bx, 0, none⟩) n cx, .slice (some ⟨b2, 0, none⟩) m cy, .slice (some ⟨b5, 0, none⟩) n n, .slice (some ⟨b6, 0, none⟩) m m, .slice (some ⟨bf, 0, none⟩) (n + m + 5) (n + m + 5), .slice (some ⟨bb, 0, none⟩) (n + m + 5) (n + m + 5), .int .i64 ((m : Int) + 2), .bool bd, .slice none 0 0, .slice none 0 0, .slice none 0 0, .slice none 0 0, .slice none 0 0]
theorem run_mk {P : Program} {a : Act} {o : Oper} {t : TypeId} {l c : Operand} {vl vc v : Value} {w w' : World} (ho : o.op = .makeSlice t l c) (hl : a.eval l = vl) (hc : a.eval c = vc)
    (hr : (Instr.makeSlice t vl vc).run P w = .ok v w') : (execOp a.eval o).run P w = .ok (.value v) w' := by
  simp [execOp, ho, hl, hc, hr, Result.andThen]
def newSp (n m : Nat) : Nat → Option Spec
  | 3 => some (4, n, n, .bool false)
  | 5 => some (4, m, m, .bool false)
  | 10 => some (3, n + m + 5, n + m + 5, .int .i64 0)
  | 15 => some (3, n + m + 5, n + m + 5, .int .i64 0)
  | _ => none
def newFx : Nat → Value := fun _ => .pointer none
theorem newFx_none {n m : Nat} : ∀ j, newSp n m j = none → (newFx j).ownBlock = none := fun _ _ => rfl
def newIdx : List (Nat × Tmp) := [(3, 16), (5, 18), (10, 23), (15, 28)]
def newEv (n m : Nat) : List (Tmp × Value) := [(15, .int .i64 n), (17, .int .i64 m), (22, .int .i64 ((n : Int) + m + 5)), (27, .int .i64 ((n : Int) + m + 5))]

/-- How a call of 'new' ends. -/
def NewEnd (bx n cx b2 m cy : Nat) (bd : Bool) (w : World) (e : Ending) (w' : World) : Prop :=
  ∃ ab bf bb b5 b6, e = .returned (.pointer (some ⟨ab, 0, none⟩)) ∧
      w'.rowIs ab 37 13 (fun i => ((alA bx b2 b5 b6 bf bb n m cx cy bd)[i]?).getD undef) ∧ w'.rowIs bf 3 (n + m + 5) (fun _ => .int .i64 0) ∧ w'.rowIs bb 3 (n + m + 5) (fun _ => .int .i64 0) ∧ w.heap.size ≤ ab ∧ w.heap.size ≤ bf ∧ w.heap.size ≤ bb ∧ ab ≠ bf ∧ ab ≠ bb ∧ bf ≠ bb ∧ Wrote [] w w'
set_option maxRecDepth 100000 in
set_option maxHeartbeats 4000000 in
theorem new_any (bx n cx b2 m cy : Nat) (bd : Bool) (w : World) (hn : n ≤ 1000) (hm : m ≤ 1000) :
    Calls Yba.prog 8 #[.slice (some ⟨bx, 0, none⟩) n cx, .slice (some ⟨b2, 0, none⟩) m cy, .bool bd] w (NewEnd bx n cx b2 m cy bd w) := by
  have m1 := run_make_row' (P := Yba.prog) 35 4 (.bool false) 1 Yba.underlying35 info4 rfl .i64 .i64 n (by omega) (by omega)
  have m2 := run_make_row' (P := Yba.prog) 35 4 (.bool false) 1 Yba.underlying35 info4 rfl .i64 .i64 m (by omega) (by omega)
  have m3 := run_make_row' (P := Yba.prog) 22 3 (.int .i64 0) 8 Yba.underlying22 info3 rfl .i64 .i64 (n + m + 5) (by omega) (by omega)
  rw [show ((n + m + 5 : Nat) : Int) = (n : Int) + m + 5 by omega] at m3
  go_enter Yba.func8, Yba.ntmps8
  go_upto_region 2 with fail
  refine wp_region_any (by kernel_rfl) ?_
  change wpAny _ _ _ _ _ _ _ (World.drew _)
  refine wpAny_takeAt 0 13 (?v0 : Value) rfl (by kernel_rfl) (by kernel_rfl) (by kernel_rfl) rfl (fun _ _ _ h => h) (Or.inl ⟨by rfl, ?h0⟩) ?_
  case h0 => intro wz; go_simp; with_reducible rfl
  refine wpAny_takeAt 1 14 (?v1 : Value) rfl (by kernel_rfl) (by kernel_rfl) (by kernel_rfl) rfl (fun _ _ _ h => h) (Or.inl ⟨by rfl, ?h1⟩) ?_
  case h1 => intro wz; go_simp; with_reducible rfl
  refine wpAny_takeAt 2 15 (?v2 : Value) rfl (by kernel_rfl) (by kernel_rfl) (by kernel_rfl) rfl (fun _ _ _ h => h) (Or.inl ⟨by rfl, ?h2⟩) ?_
  case h2 => intro wz; go_simp; with_reducible rfl
  refine wpAny_takeAt 4 17 (?v4 : Value) rfl (by kernel_rfl) (by kernel_rfl) (by kernel_rfl) rfl (fun _ _ _ h => h) (Or.inl ⟨by rfl, ?h4⟩) ?_
  case h4 => intro wz; go_simp; with_reducible rfl
  refine wpAny_takeAt 6 19 (?v6 : Value) rfl (by kernel_rfl) (by kernel_rfl) (by kernel_rfl) rfl (fun _ _ _ h => h) (Or.inl ⟨by rfl, ?h6⟩) ?_
  case h6 => intro wz; go_simp; with_reducible rfl
  refine wpAny_takeAt 7 20 (?v7 : Value) rfl (by kernel_rfl) (by kernel_rfl) (by kernel_rfl) rfl (fun _ _ _ h => h) (Or.inl ⟨by rfl, ?h7⟩) ?_
  case h7 => intro wz; go_simp; with_reducible rfl
  refine wpAny_takeAt 8 21 (.int .i64 ((n : Int) + m)) rfl (by kernel_rfl) (by kernel_rfl) (by kernel_rfl) rfl (fun _ _ _ h => h) (Or.inl ⟨by rfl, ?h8⟩) ?_
  case h8 => intro wz; go_simp; exact wrap_i64 (by omega) (by omega)
  refine wpAny_takeAt 9 22 (.int .i64 ((n : Int) + m + 5)) rfl (by kernel_rfl) (by kernel_rfl) (by kernel_rfl) rfl (fun _ _ _ h => h) (Or.inl ⟨by rfl, ?h9⟩) ?_
  case h9 => intro wz; go_simp; exact wrap_i64 (by omega) (by omega)
  refine wpAny_takeAt 11 24 (?v11 : Value) rfl (by kernel_rfl) (by kernel_rfl) (by kernel_rfl) rfl (fun _ _ _ h => h) (Or.inl ⟨by rfl, ?h11⟩) ?_
  case h11 => intro wz; go_simp; with_reducible rfl
  refine wpAny_takeAt 12 25 (?v12 : Value) rfl (by kernel_rfl) (by kernel_rfl) (by kernel_rfl) rfl (fun _ _ _ h => h) (Or.inl ⟨by rfl, ?h12⟩) ?_
  case h12 => intro wz; go_simp; with_reducible rfl
  refine wpAny_takeAt 13 26 (.int .i64 ((n : Int) + m)) rfl (by kernel_rfl) (by kernel_rfl) (by kernel_rfl) rfl (fun _ _ _ h => h) (Or.inl ⟨by rfl, ?h13⟩) ?_
  case h13 => intro wz; go_simp; exact wrap_i64 (by omega) (by omega)
  refine wpAny_takeAt 14 27 (.int .i64 ((n : Int) + m + 5)) rfl (by kernel_rfl) (by kernel_rfl) (by kernel_rfl) rfl (fun _ _ _ h => h) (Or.inl ⟨by rfl, ?h14⟩) ?_
  case h14 => intro wz; go_simp; exact wrap_i64 (by omega) (by omega)
  refine wpAny_takeAt 16 29 (?v16 : Value) rfl (by kernel_rfl) (by kernel_rfl) (by kernel_rfl) rfl (fun _ _ _ h => h) (Or.inl ⟨by rfl, ?h16⟩) ?_
  case h16 => intro wz; go_simp; with_reducible rfl
  refine wpAny_takeAt 17 30 (.int .i64 ((m : Int) + 2)) rfl (by kernel_rfl) (by kernel_rfl) (by kernel_rfl) rfl (fun _ _ _ h => h) (Or.inl ⟨by rfl, ?h17⟩) ?_
  case h17 => intro wz; go_simp; exact wrap_i64 (by omega) (by omega)
  refine wpAny_takeAt 18 31 (?v18 : Value) rfl (by kernel_rfl) (by kernel_rfl) (by kernel_rfl) rfl (fun _ _ _ h => h) (Or.inl ⟨by rfl, ?h18⟩) ?_
  case h18 => intro wz; go_simp; with_reducible rfl
  change wpAny _ _ _ _ (3 + newIdx.length) _ _ _
  refine wpAny_phase_ev newIdx (newEv n m) _ _ (Allocs w.drew (newSp n m) newFx) 3 (by kernel_rfl) (by decide) (by decide) (by kernel_rfl) (by simp [newEv, newIdx]) (Allocs.start _ _ _) ?hstep ?hfin
  case hstep =>
    intro p hp D wz a ha hΦ hnew
    simp only [newEv, List.mem_cons, List.not_mem_nil, or_false, forall_eq_or_imp, forall_eq] at ha
    obtain ⟨e15, e17, e22, e27⟩ := ha
    simp only [newIdx, List.mem_cons, List.not_mem_nil, or_false] at hp
    rcases hp with rfl | rfl | rfl | rfl
    · exact ⟨_, _, _, rfl, rfl, rfl, run_mk rfl e15 e15 (m1 _), hΦ.make newFx_none 3 16 4 (n) (n) (.bool false) rfl _ rfl⟩
    · exact ⟨_, _, _, rfl, rfl, rfl, run_mk rfl e17 e17 (m2 _), hΦ.make newFx_none 5 18 4 (m) (m) (.bool false) rfl _ rfl⟩
    · exact ⟨_, _, _, rfl, rfl, rfl, run_mk rfl e22 e22 (m3 _), hΦ.make newFx_none 10 23 3 (n + m + 5) (n + m + 5) (.int .i64 0) rfl _ rfl⟩
    · exact ⟨_, _, _, rfl, rfl, rfl, run_mk rfl e27 e27 (m3 _), hΦ.make newFx_none 15 28 3 (n + m + 5) (n + m + 5) (.int .i64 0) rfl _ rfl⟩
  case hfin =>
    intro val D wz hD hΦ
    obtain ⟨b5, hv3, hg3, hr3⟩ := hΦ.laid (3, 16, val 3) (hD (3, 16) (by simp [newIdx])) (4, n, n, (.bool false : Value)) rfl
    have hv3 : val 3 = .slice (some ⟨b5, 0, none⟩) (n) (n) := hv3
    obtain ⟨b6, hv5, hg5, hr5⟩ := hΦ.laid (5, 18, val 5) (hD (5, 18) (by simp [newIdx])) (4, m, m, (.bool false : Value)) rfl
    have hv5 : val 5 = .slice (some ⟨b6, 0, none⟩) (m) (m) := hv5
    obtain ⟨bf, hv10, hg10, hr10⟩ := hΦ.laid (10, 23, val 10) (hD (10, 23) (by simp [newIdx])) (3, n + m + 5, n + m + 5, (.int .i64 0 : Value)) rfl
    have hv10 : val 10 = .slice (some ⟨bf, 0, none⟩) (n + m + 5) (n + m + 5) := hv10
    obtain ⟨bb, hv15, hg15, hr15⟩ := hΦ.laid (15, 28, val 15) (hD (15, 28) (by simp [newIdx])) (3, n + m + 5, n + m + 5, (.int .i64 0 : Value)) rfl
    have hv15 : val 15 = .slice (some ⟨bb, 0, none⟩) (n + m + 5) (n + m + 5) := hv15
    refine wpAny_frame (a' := ⟨#[.slice (some ⟨bx, 0, none⟩) n cx, .slice (some ⟨b2, 0, none⟩) m cy, .bool bd, undef, undef, undef, .pointer none, .int .i64 n, .int .i64 m, .slice (some ⟨bx, 0, none⟩) n cx, .int .i64 n, .slice (some ⟨b2, 0, none⟩) m cy, .int .i64 m, .slice (some ⟨bx, 0, none⟩) n cx, .slice (some ⟨b2, 0, none⟩) m cy, .int .i64 n, val 3, .int .i64 m, val 5, .int .i64 n, .int .i64 m, .int .i64 ((n : Int) + m), .int .i64 ((n : Int) + m + 5), val 10, .int .i64 n, .int .i64 m, .int .i64 ((n : Int) + m), .int .i64 ((n : Int) + m + 5), val 15, .int .i64 m, .int .i64 ((m : Int) + 2), .bool bd, undef, undef], []⟩) (by kernel_rfl) ?_
    rw [hv3, hv5, hv10, hv15]
    refine wpAny_takeAt 19 32 (.agg #[.slice (some ⟨bx, 0, none⟩) n cx, .slice (some ⟨b2, 0, none⟩) m cy, .slice (some ⟨b5, 0, none⟩) n n, .slice (some ⟨b6, 0, none⟩) m m, .slice (some ⟨bf, 0, none⟩) (n + m + 5) (n + m + 5), .slice (some ⟨bb, 0, none⟩) (n + m + 5) (n + m + 5), .int .i64 ((m : Int) + 2), .bool bd, .slice none 0 0, .slice none 0 0, .slice none 0 0, .slice none 0 0, .slice none 0 0]) rfl (by kernel_rfl) (by kernel_rfl) (by kernel_rfl) rfl (fun _ _ _ h => h) (Or.inl ⟨by rfl, fun wy => by kernel_rfl⟩) ?_
    refine wpAny_oneAt 20 33 (.pointer (some ⟨wz.heap.size, 0, none⟩)) (w' := wz.alloc (.cells #[.slice (some ⟨bx, 0, none⟩) n cx, .slice (some ⟨b2, 0, none⟩) m cy, .slice (some ⟨b5, 0, none⟩) n n, .slice (some ⟨b6, 0, none⟩) m m, .slice (some ⟨bf, 0, none⟩) (n + m + 5) (n + m + 5), .slice (some ⟨bb, 0, none⟩) (n + m + 5) (n + m + 5), .int .i64 ((m : Int) + 2), .bool bd, .slice none 0 0, .slice none 0 0, .slice none 0 0, .slice none 0 0, .slice none 0 0] 37)) rfl (by kernel_rfl) rfl rfl (by kernel_rfl) ?_
    refine wpAny_takeAt 21 6 (.pointer (some ⟨wz.heap.size, 0, none⟩)) rfl (by kernel_rfl) (by kernel_rfl) (by kernel_rfl) rfl (fun _ _ _ h => h) (Or.inl ⟨by rfl, fun wy => by kernel_rfl⟩) ?_
    refine wpAny_done (by kernel_rfl) ?_ _
    have hlt : ∀ b t m f, wz.rowIs b t m f → wz.heap.size ≠ b := fun b t m f h => by have := h.lt; omega
    have hne : bf ≠ bb := fun e => hΦ.apart (10, 23, val 10) (hD (10, 23) (by simp [newIdx])) (15, 28, val 15) (hD (15, 28) (by simp [newIdx])) (by show (10 : Nat) ≠ 15; decide) bf (by rw [hv10]; rfl) (by rw [hv15, e]; rfl)
    have HFIN := Hid.mk' (show ∃ ab bf' bb' b5' b6', ab = wz.heap.size ∧ (wz.alloc (.cells #[.slice (some ⟨bx, 0, none⟩) n cx, .slice (some ⟨b2, 0, none⟩) m cy, .slice (some ⟨b5, 0, none⟩) n n, .slice (some ⟨b6, 0, none⟩) m m, .slice (some ⟨bf, 0, none⟩) (n + m + 5) (n + m + 5), .slice (some ⟨bb, 0, none⟩) (n + m + 5) (n + m + 5), .int .i64 ((m : Int) + 2), .bool bd, .slice none 0 0, .slice none 0 0, .slice none 0 0, .slice none 0 0, .slice none 0 0] 37)).rowIs ab 37 13 (fun i => ((alA bx b2 b5' b6' bf' bb' n m cx cy bd)[i]?).getD undef) ∧ (wz.alloc (.cells #[.slice (some ⟨bx, 0, none⟩) n cx, .slice (some ⟨b2, 0, none⟩) m cy, .slice (some ⟨b5, 0, none⟩) n n, .slice (some ⟨b6, 0, none⟩) m m, .slice (some ⟨bf, 0, none⟩) (n + m + 5) (n + m + 5), .slice (some ⟨bb, 0, none⟩) (n + m + 5) (n + m + 5), .int .i64 ((m : Int) + 2), .bool bd, .slice none 0 0, .slice none 0 0, .slice none 0 0, .slice none 0 0, .slice none 0 0] 37)).rowIs bf' 3 (n + m + 5) (fun _ => .int .i64 0) ∧ (wz.alloc (.cells #[.slice (some ⟨bx, 0, none⟩) n cx, .slice (some ⟨b2, 0, none⟩) m cy, .slice (some ⟨b5, 0, none⟩) n n, .slice (some ⟨b6, 0, none⟩) m m, .slice (some ⟨bf, 0, none⟩) (n + m + 5) (n + m + 5), .slice (some ⟨bb, 0, none⟩) (n + m + 5) (n + m + 5), .int .i64 ((m : Int) + 2), .bool bd, .slice none 0 0, .slice none 0 0, .slice none 0 0, .slice none 0 0, .slice none 0 0] 37)).rowIs bb' 3 (n + m + 5) (fun _ => .int .i64 0) ∧ w.heap.size ≤ ab ∧ w.heap.size ≤ bf' ∧ w.heap.size ≤ bb' ∧ ab ≠ bf' ∧ ab ≠ bb' ∧ bf' ≠ bb' ∧ Wrote [] w (wz.alloc (.cells #[.slice (some ⟨bx, 0, none⟩) n cx, .slice (some ⟨b2, 0, none⟩) m cy, .slice (some ⟨b5, 0, none⟩) n n, .slice (some ⟨b6, 0, none⟩) m m, .slice (some ⟨bf, 0, none⟩) (n + m + 5) (n + m + 5), .slice (some ⟨bb, 0, none⟩) (n + m + 5) (n + m + 5), .int .i64 ((m : Int) + 2), .bool bd, .slice none 0 0, .slice none 0 0, .slice none 0 0, .slice none 0 0, .slice none 0 0] 37)) from
      ⟨_, bf, bb, b5, b6, rfl, World.rowIs_alloc wz (alA bx b2 b5 b6 bf bb n m cx cy bd) 37 _ (fun i hi => by rw [Array.getElem?_eq_getElem hi]; rfl), hr10.alloc _, hr15.alloc _, hΦ.wrote.size, hg10, hg15, hlt _ _ _ _ hr10, hlt _ _ _ _ hr15, hne, (⟨hΦ.wrote.os, hΦ.wrote.tape, hΦ.wrote.output, hΦ.wrote.size, hΦ.wrote.block⟩ : Wrote [] w wz).alloc _⟩)
    clear hv3 hv5 hv10 hv15 hr3 hr5 hr10 hr15 hg3 hg5 hg10 hg15 hlt hne hΦ hD m1 m2 m3
    go_wp2
    go_ret
    obtain ⟨ab, bf', bb', b5', b6', rfl, h⟩ := HFIN.out
    exact ⟨_, bf', bb', b5', b6', rfl, h⟩
end Go.Proofs.Ybulkbptu
