import Derived.Test.YbulkbptuRows
import Derived.WalkKit
import Derived.ProofKit
import Derived.OpenShut
import Derived.Below
import Derived.WalkSmall
import Derived.Deep.OwnRows
import Derived.Deep.Draws
namespace Go.Proofs.Ybulkbptu
open Go.ChangeShapes Go.WideShapes Go.ChangeAt Go.RowKit
set_option linter.unusedVariables false

/-- From w to w' only blocks of S, of those that were there, have been written; the streams stand. -/
structure Wrote (S : List Nat) (w w' : World) : Prop where
  os : w'.os = w.os
  tape : w'.tape = w.tape
  output : w'.output = w.output
  size : w.heap.size ≤ w'.heap.size
  block : ∀ k, k < w.heap.size → k ∉ S → w'.heap[k]? = w.heap[k]?

namespace Wrote
variable {S S' : List Nat} {w w' w'' : World}
theorem refl (S : List Nat) (w : World) : Wrote S w w := ⟨rfl, rfl, rfl, Nat.le_refl _, fun _ _ _ => rfl⟩
theorem trans (h : Wrote S w w') (k : Wrote S w' w'') : Wrote S w w'' :=
  ⟨k.os.trans h.os, k.tape.trans h.tape, k.output.trans h.output, Nat.le_trans h.size k.size, fun i hi hs => (k.block i (Nat.lt_of_lt_of_le hi h.size) hs).trans (h.block i hi hs)⟩
theorem mono (h : Wrote S w w') (hs : ∀ k, k ∈ S → k ∈ S') : Wrote S' w w' := ⟨h.os, h.tape, h.output, h.size, fun k hk hn => h.block k hk (fun e => hn (hs k e))⟩
/-- What was written above the old heap's end does not count. -/
theorem fewer (h : Wrote S w w') (hs : ∀ k, k ∈ S → k < w.heap.size → k ∈ S') : Wrote S' w w' := ⟨h.os, h.tape, h.output, h.size, fun k hk hn => h.block k hk (fun e => hn (hs k e hk))⟩
theorem alloc (h : Wrote S w w') (o : Obj) : Wrote S w (w'.alloc o) :=
  ⟨h.os, h.tape, h.output, by have := h.size; simp; omega, fun k hk hs => by rw [Below.heap_alloc _ _ _ (Nat.lt_of_lt_of_le hk h.size)]; exact h.block k hk hs⟩
theorem setCell (h : Wrote S w w') {p : Addr} (hp : p.block ∈ S ∨ w.heap.size ≤ p.block) (u : Value) : Wrote S w (w'.setCell p u) :=
  ⟨h.os, h.tape, h.output, by have := h.size; simp [World.setCell]; omega, fun k hk hs => by
    rw [Below.heap_setCell _ _ _ _ (by rintro rfl; rcases hp with hp | hp; exact hs hp; omega)]; exact h.block k hk hs⟩
theorem drew (h : Wrote S w w') : Wrote S w w'.drew := ⟨h.os, h.tape, h.output, h.size, h.block⟩
theorem drewN (h : Wrote S w w') (n : Nat) : Wrote S w (w'.drewN n) := ⟨h.os, h.tape, h.output, h.size, h.block⟩
theorem grown {row : Option Nat} (h : Wrote S w w') (hg : w'.grownBy w'' row) (hr : ∀ k, row = some k → k ∈ S ∨ w.heap.size ≤ k) : Wrote S w w'' :=
  ⟨hg.os.trans h.os, hg.tape.trans h.tape, hg.output.trans h.output, Nat.le_trans h.size hg.size, fun k hk hs => by
    rw [hg.block k (Nat.lt_of_lt_of_le hk h.size) (fun e => by rcases hr k e.symm with h1 | h1; exact hs h1; omega)]; exact h.block k hk hs⟩
theorem cell (h : Wrote S w w') {p : Addr} (hp : p.block < w.heap.size) (hs : p.block ∉ S) : w'.cell? p = w.cell? p := World.cell?_of_block (w := w) (h.block p.block hp hs)
theorem frozen (h : Wrote S w w') {p : Addr} (hp : p.block < w.heap.size) (hs : p.block ∉ S) : w'.frozen? p = w.frozen? p := World.frozen?_of_block (w := w) (h.block p.block hp hs)
theorem row {b : Nat} {t : TypeId} {n : Nat} {f : Nat → Value} (h : Wrote S w w') (hr : w.rowIs b t n f) (hs : b ∉ S) : w'.rowIs b t n f := hr.of_block (h.block b hr.lt hs)
theorem ofBelow (h : Below w.heap.size w w') : Wrote S w w' := ⟨h.os, h.tape, h.output, h.size, fun k hk _ => h.block k hk⟩
theorem below {B : Nat} (h : Wrote S w w') (hB : B ≤ w.heap.size) (hs : ∀ k, k ∈ S → B ≤ k) : Below B w w' :=
  ⟨h.os, h.tape, h.output, h.size, fun k hk => h.block k (by omega) (fun e => by have := hs k e; omega)⟩
/-- A cell that holds something lies in a block that is there. -/
theorem cell_of {p : Addr} {v : Value} (h : Wrote S w w') (hc : w.cell? p = some v) (hs : p.block ∉ S) : w'.cell? p = some v := by
  rw [h.cell (World.block_lt_of_cell? _ _ hc) hs]; exact hc
end Wrote
theorem rowIs_drewN {w : World} {b : Nat} {t : TypeId} {n : Nat} {f : Nat → Value} (h : w.rowIs b t n f) (k : Nat) : (w.drewN k).rowIs b t n f := h
theorem rowIs_setInt {w : World} {b : Nat} {t : TypeId} {n : Nat} {k : IntKind} {F : Nat → Int} (h : w.rowIs b t n (fun i => .int k (F i))) (q : Nat) (x : Int) :
    (w.setCell ⟨b, q, none⟩ (.int k x)).rowIs b t n (fun i => .int k (if i = q then x else F i)) :=
  (h.set q _).congr (fun j hj => by by_cases e : j = q <;> simp [e])
theorem rowIs_cells {w : World} {b : Nat} {t : TypeId} {n : Nat} {k : IntKind} {F : Nat → Int} (h : w.rowIs b t n (fun i => .int k (F i))) : ∀ i, i < n → w.cell? ⟨b, i, none⟩ = some (.int k (F i)) := fun i hi => h.cell hi
theorem wrap_i64 {x : Int} (h : -1000000000000 ≤ x) (h2 : x ≤ 1000000000000) : IntKind.i64.wrap x = x := by
  simp [IntKind.wrap, IntKind.signed, IntKind.bits]
  omega
theorem ret_bool {a b : Bool} (h : a = b) : Ending.returned (.bool a) = .returned (.bool b) := by rw [h]
theorem ret_int {k : IntKind} {a b : Int} (h : a = b) : Ending.returned (.int k a) = .returned (.int k b) := by rw [h]
end Go.Proofs.Ybulkbptu
