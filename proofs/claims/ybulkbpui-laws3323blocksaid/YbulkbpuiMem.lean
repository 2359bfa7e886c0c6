import Derived.Test.YbulkbpuiRows
import Derived.WalkKit
import Derived.ProofKit
import Derived.OpenShut
import Derived.Below
import Derived.WalkSmall
import Derived.Deep.OwnRows
import Derived.Deep.Draws
namespace Go.Proofs.Ybulkbpui
open Go.ChangeShapes Go.WideShapes Go.ChangeAt Go.RowKit
set_option linter.unusedVariables false

/-- From w to w' only blocks of S, of those that were there, have been written; the streams stand. -/
structure Wrote (S : List Nat) (w w' : World) : Prop where
  os : w'.os = w.os
  tape : w'.tape = w.tape
  output : w'.output = w.output
  size : w.heap.size ≤ w'.heap.size
  block : ∀ k, k < w.heap.size → k ∉ S → w'.heap[k]? = w.heap[k]?

namespace Wrote
variable {S S' : List Nat} {w w' w'' : World}
theorem refl (S : List Nat) (w : World) : Wrote S w w := ⟨rfl, rfl, rfl, Nat.le_refl _, fun _ _ _ => rfl⟩
theorem trans (h : Wrote S w w') (k : Wrote S w' w'') : Wrote S w w'' :=
  ⟨k.os.trans h.os, k.tape.trans h.tape, k.output.trans h.output, Nat.le_trans h.size k.size, fun i hi hs => (k.block i (Nat.lt_of_lt_of_le hi h.size) hs).trans (h.block i hi hs)⟩
theorem mono (h : Wrote S w w') (hs : ∀ k, k ∈ S → k ∈ S') : Wrote S' w w' := ⟨h.os, h.tape, h.output, h.size, fun k hk hn => h.block k hk (fun e => hn (hs k e))⟩
/-- What was written above the old heap's end does not count. -/
theorem fewer (h : Wrote S w w') (hs : ∀ k, k ∈ S → k < w.heap.size → k ∈ S') : Wrote S' w w' := ⟨h.os, h.tape, h.output, h.size, fun k hk hn => h.block k hk (fun e => hn (hs k e hk))⟩
theorem alloc (h : Wrote S w w') (o : Obj) : Wrote S w (w'.alloc o) :=
  ⟨h.os, h.tape, h.output, by have := h.size; simp; omega, fun k hk hs => by rw [Below.heap_alloc _ _ _ (Nat.lt_of_lt_of_le hk h.size)]; exact h.block k hk hs⟩
theorem setCell (h : Wrote S w w') {p : Addr} (hp : p.block ∈ S ∨ w.heap.size ≤ p.block) (u : Value) : Wrote S w (w'.setCell p u) :=
  ⟨h.os, h.tape, h.output, by have := h.size; simp [World.setCell]; omega, fun k hk hs => by
    rw [Below.heap_setCell _ _ _ _ (by rintro rfl; rcases hp with hp | hp; exact hs hp; omega)]; exact h.block k hk hs⟩
theorem drew (h : Wrote S w w') : Wrote S w w'.drew := ⟨h.os, h.tape, h.output, h.size, h.block⟩
theorem drewN (h : Wrote S w w') (n : Nat) : Wrote S w (w'.drewN n) := ⟨h.os, h.tape, h.output, h.size, h.block⟩
theorem grown {row : Option Nat} (h : Wrote S w w') (hg : w'.grownBy w'' row) (hr : ∀ k, row = some k → k ∈ S ∨ w.heap.size ≤ k) : Wrote S w w'' :=
  ⟨hg.os.trans h.os, hg.tape.trans h.tape, hg.output.trans h.output, Nat.le_trans h.size hg.size, fun k hk hs => by
    rw [hg.block k (Nat.lt_of_lt_of_le hk h.size) (fun e => by rcases hr k e.symm with h1 | h1; exact hs h1; omega)]; exact h.block k hk hs⟩
theorem cell (h : Wrote S w w') {p : Addr} (hp : p.block < w.heap.size) (hs : p.block ∉ S) : w'.cell? p = w.cell? p := World.cell?_of_block (w := w) (h.block p.block hp hs)
theorem frozen (h : Wrote S w w') {p : Addr} (hp : p.block < w.heap.size) (hs : p.block ∉ S) : w'.frozen? p = w.frozen? p := World.frozen?_of_block (w := w) (h.block p.block hp hs)
theorem row {b : Nat} {t : TypeId} {n : Nat} {f : Nat → Value} (h : Wrote S w w') (hr : w.rowIs b t n f) (hs : b ∉ S) : w'.rowIs b t n f := hr.of_block (h.block b hr.lt hs)
theorem ofBelow (h : Below w.heap.size w w') : Wrote S w w' := ⟨h.os, h.tape, h.output, h.size, fun k hk _ => h.block k hk⟩
theorem below {B : Nat} (h : Wrote S w w') (hB : B ≤ w.heap.size) (hs : ∀ k, k ∈ S → B ≤ k) : Below B w w' :=
  ⟨h.os, h.tape, h.output, h.size, fun k hk => h.block k (by omega) (fun e => by have := hs k e; omega)⟩
/-- A cell that holds something lies in a block that is there. -/
theorem cell_of {p : Addr} {v : Value} (h : Wrote S w w') (hc : w.cell? p = some v) (hs : p.block ∉ S) : w'.cell? p = some v := by
  rw [h.cell (World.block_lt_of_cell? _ _ hc) hs]; exact hc
end Wrote
theorem rowIs_drewN {w : World} {b : Nat} {t : TypeId} {n : Nat} {f : Nat → Value} (h : w.rowIs b t n f) (k : Nat) : (w.drewN k).rowIs b t n f := h
theorem rowIs_setInt {w : World} {b : Nat} {t : TypeId} {n : Nat} {k : IntKind} {F : Nat → Int} (h : w.rowIs b t n (fun i => .int k (F i))) (q : Nat) (x : Int) :
    (w.setCell ⟨b, q, none⟩ (.int k x)).rowIs b t n (fun i => .int k (if i = q then x else F i)) :=
  (h.set q _).congr (fun j hj => by by_cases e : j = q <;> simp [e])
theorem rowIs_cells {w : World} {b : Nat} {t : TypeId} {n : Nat} {k : IntKind} {F : Nat → Int} (h : w.rowIs b t n (fun i => .int k (F i))) : ∀ i, i < n → w.cell? ⟨b, i, none⟩ = some (.int k (F i)) := fun i hi => h.cell hi
theorem wrap_i64 {x : Int} (h : -1000000000000 ≤ x) (h2 : x ≤ 1000000000000) : IntKind.i64.wrap x = x := by
  simp [IntKind.wrap, IntKind.signed, IntKind.bits]
  omega
theorem ret_bool {a b : Bool} (h : a = b) : Ending.returned (.bool a) = .returned (.bool b) := by rw [h]
theorem ret_int {k : IntKind} {a b : Int} (h : a = b) : Ending.returned (.int k a) = .returned (.int k b) := by rw [h]

/-! ### A row of n elements of k cells each -/
/-- Block b is a row of n elements of k cells, cell j of element u holding 'T u j'. -/
def Grid (w : World) (b : Nat) (t : TypeId) (n k : Nat) (T : Nat → Nat → Value) : Prop := w.rowIs b t (n * k) (fun i => T (i / k) (i % k))
/-- One cell turned. -/
def upd (T : Nat → Nat → Value) (u j : Nat) (v : Value) : Nat → Nat → Value := fun a b => if a = u ∧ b = j then v else T a b
theorem idx_lt {n k u j : Nat} (hu : u < n) (hj : j < k) : u * k + j < n * k := by
  have : (u + 1) * k ≤ n * k := Nat.mul_le_mul_right k hu
  rw [Nat.add_mul] at this
  omega
theorem idx_div {k u j : Nat} (hj : j < k) : (u * k + j) / k = u := by
  rw [Nat.add_comm, Nat.add_mul_div_right _ _ (by omega), Nat.div_eq_of_lt hj, Nat.zero_add]
theorem idx_mod {k u j : Nat} (hj : j < k) : (u * k + j) % k = j := by
  rw [Nat.add_comm, Nat.add_mul_mod_self_right, Nat.mod_eq_of_lt hj]
namespace Grid
variable {w w' : World} {b : Nat} {t : TypeId} {n k : Nat} {T T' : Nat → Nat → Value}
theorem cell (h : Grid w b t n k T) {u j : Nat} (hu : u < n) (hj : j < k) : w.cell? ⟨b, u * k + j, none⟩ = some (T u j) := by
  have := World.rowIs.cell h (idx_lt hu hj)
  rw [this, idx_div hj, idx_mod hj]
theorem cell0 (h : Grid w b t n k T) {u : Nat} (hu : u < n) (hk : 0 < k) : w.cell? ⟨b, u * k, none⟩ = some (T u 0) := h.cell hu hk
theorem frozen (h : Grid w b t n k T) (i : Nat) : w.frozen? ⟨b, i, none⟩ = false := World.rowIs.frozen h i
theorem lt (h : Grid w b t n k T) : b < w.heap.size := World.rowIs.lt h
theorem congr (h : Grid w b t n k T) (e : ∀ u j, u < n → j < k → T u j = T' u j) : Grid w b t n k T' :=
  World.rowIs.congr h fun i hi => by
    have hk : 0 < k := Nat.pos_of_ne_zero (fun e => by subst e; simp at hi)
    exact e _ _ ((Nat.div_lt_iff_lt_mul hk).2 hi) (Nat.mod_lt _ hk)
theorem set (h : Grid w b t n k T) {u j : Nat} (hj : j < k) (v : Value) : Grid (w.setCell ⟨b, u * k + j, none⟩ v) b t n k (upd T u j v) := by
  refine (World.rowIs.set h (u * k + j) v).congr fun i hi => ?_
  have hk : 0 < k := by omega
  unfold upd
  by_cases e : i = u * k + j
  · subst e
    simp [idx_div hj, idx_mod hj]
  · rw [if_neg e, if_neg]
    rintro ⟨e1, e2⟩
    exact e (by rw [← e1, ← e2, Nat.mul_comm, Nat.div_add_mod])
theorem set0 (h : Grid w b t n k T) {u : Nat} (hk : 0 < k) (v : Value) : Grid (w.setCell ⟨b, u * k, none⟩ v) b t n k (upd T u 0 v) := h.set hk v
theorem setOther (h : Grid w b t n k T) {a : Addr} (ha : b ≠ a.block) (v : Value) : Grid (w.setCell a v) b t n k T := World.rowIs.setOther h ha v
theorem alloc (h : Grid w b t n k T) (o : Obj) : Grid (w.alloc o) b t n k T := World.rowIs.alloc h o
theorem wrote {S : List Nat} (hw : Wrote S w w') (h : Grid w b t n k T) (hb : b ∉ S) : Grid w' b t n k T := hw.row h hb
theorem block (h : Grid w b t n k T) (e : w'.heap[b]? = w.heap[b]?) : Grid w' b t n k T := World.rowIs.of_block h e
end Grid
end Go.Proofs.Ybulkbpui
