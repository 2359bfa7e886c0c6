import Derived.Test.YbulkbptuClo
import Derived.Test.YbulkbptuPlain
import Derived.Test.YbulkbptuMeet
import Derived.Test.YbulkbptuQT
import Derived.Deep.RegionHeld3
import Derived.Deep.WholeRow
namespace Go.Proofs.Ybulkbptu
open Go.ChangeShapes Go.WideShapes Go.ChangeAt Go.RowKit
set_option linter.unusedVariables false
set_option linter.unusedSimpArgs false

theorem i64_and1 (n : Int) : bits .and .i64 n 1 = n % 2 := by
  have h1 : (BitVec.ofInt 64 1).toNat = 2 ^ 1 - 1 := by decide
  have key : (BitVec.ofInt 64 n &&& BitVec.ofInt 64 1).toNat = (n % ((2 ^ 64 : Nat) : Int)).toNat % 2 ^ 1 := by
    rw [BitVec.toNat_and, BitVec.toNat_ofInt, h1, Nat.and_two_pow_sub_one_eq_mod]
  show IntKind.i64.wrap ((BitVec.ofInt 64 n &&& BitVec.ofInt 64 1).toNat : Nat) = n % 2
  rw [key, IntKind.wrap_i64]
  omega
theorem cell_new' {w : World} {g : Nat} {cs : Array Value} {ty : TypeId} {j : Nat} {v : Value} (hg : g = w.heap.size) (h : cs[j]? = some v) : (w.alloc (.cells cs ty)).cell? ⟨g, j, none⟩ = some v := by
  subst hg
  unfold World.cell?
  rw [heap_alloc_last]
  exact h
/-- The boxed parameters. -/
structure Bx (v7 v8 v9 v10 v11 v12 ab n m : Nat) (dist : Int) (w : World) : Prop where
  c7 : w.cell? ⟨v7, 0, none⟩ = some (.pointer (some ⟨ab, 0, none⟩))
  c8 : w.cell? ⟨v8, 0, none⟩ = some (.int .i64 0)
  c9 : w.cell? ⟨v9, 0, none⟩ = some (.int .i64 n)
  c10 : w.cell? ⟨v10, 0, none⟩ = some (.int .i64 0)
  c11 : w.cell? ⟨v11, 0, none⟩ = some (.int .i64 m)
  c12 : w.cell? ⟨v12, 0, none⟩ = some (.int .i64 dist)
theorem Bx.wrote {S : List Nat} {v7 v8 v9 v10 v11 v12 ab n m : Nat} {dist : Int} {w w' : World} (h : Bx v7 v8 v9 v10 v11 v12 ab n m dist w) (k : Wrote S w w') (hv : ∀ v ∈ [v7, v8, v9, v10, v11, v12], v ∉ S) : Bx v7 v8 v9 v10 v11 v12 ab n m dist w' :=
  ⟨k.cell_of h.c7 (hv _ (by simp)), k.cell_of h.c8 (hv _ (by simp)), k.cell_of h.c9 (hv _ (by simp)), k.cell_of h.c10 (hv _ (by simp)), k.cell_of h.c11 (hv _ (by simp)), k.cell_of h.c12 (hv _ (by simp))⟩
/-- What 'middle' has in memory. -/
structure Ms (v7 v8 v9 v10 v11 v12 v23 v24 v25 ab bx b2 bf bb n m cx cy : Nat) (bd : Bool) (x y : Nat → Int) (px py : Nat → Nat) (dist : Int) (F B : Nat → Int) (w : World) : Prop where
  al : Al ab bx b2 bf bb n m cx cy bd x y px py w
  bx : Bx v7 v8 v9 v10 v11 v12 ab n m dist w
  c23 : w.cell? ⟨v23, 0, none⟩ = some (.slice (some ⟨bf, 0, none⟩) (n + m + 5) (n + m + 5))
  c24 : w.cell? ⟨v24, 0, none⟩ = some (.slice (some ⟨bb, 0, none⟩) (n + m + 5) (n + m + 5))
  c25 : w.cell? ⟨v25, 0, none⟩ = some (.int .i64 ((m : Int) + 2))
  rf : w.rowIs bf 3 (n + m + 5) (fun i => .int .i64 (F i))
  rb : w.rowIs bb 3 (n + m + 5) (fun i => .int .i64 (B i))
  nv : ∀ v ∈ [v7, v8, v9, v10, v11, v12, v23, v24, v25], v ∉ [bf, bb]
theorem Ms.next {v7 v8 v9 v10 v11 v12 v23 v24 v25 ab bx b2 bf bb n m cx cy : Nat} {bd : Bool} {x y : Nat → Int} {px py : Nat → Nat} {dist : Int} {F B F' B' : Nat → Int} {w w' : World} (h : Ms v7 v8 v9 v10 v11 v12 v23 v24 v25 ab bx b2 bf bb n m cx cy bd x y px py dist F B w) (k : Wrote [bf, bb] w w') (hf : w'.rowIs bf 3 (n + m + 5) (fun i => .int .i64 (F' i))) (hb : w'.rowIs bb 3 (n + m + 5) (fun i => .int .i64 (B' i))) : Ms v7 v8 v9 v10 v11 v12 v23 v24 v25 ab bx b2 bf bb n m cx cy bd x y px py dist F' B' w' :=
  ⟨h.al.wrote k, h.bx.wrote k (fun v hv => h.nv v (by simp at hv ⊢; omega)), k.cell_of h.c23 (h.nv _ (by simp)), k.cell_of h.c24 (h.nv _ (by simp)), k.cell_of h.c25 (h.nv _ (by simp)), hf, hb, h.nv⟩
theorem Ms.wrote {v7 v8 v9 v10 v11 v12 v23 v24 v25 ab bx b2 bf bb n m cx cy : Nat} {bd : Bool} {x y : Nat → Int} {px py : Nat → Nat} {dist : Int} {F B : Nat → Int} {w w' : World} (h : Ms v7 v8 v9 v10 v11 v12 v23 v24 v25 ab bx b2 bf bb n m cx cy bd x y px py dist F B w) (k : Wrote [] w w') : Ms v7 v8 v9 v10 v11 v12 v23 v24 v25 ab bx b2 bf bb n m cx cy bd x y px py dist F B w' :=
  h.next (k.mono (by simp)) (k.row h.rf (by simp)) (k.row h.rb (by simp))
theorem Ms.setF {v7 v8 v9 v10 v11 v12 v23 v24 v25 ab bx b2 bf bb n m cx cy : Nat} {bd : Bool} {x y : Nat → Int} {px py : Nat → Nat} {dist : Int} {F B : Nat → Int} {w : World} (h : Ms v7 v8 v9 v10 v11 v12 v23 v24 v25 ab bx b2 bf bb n m cx cy bd x y px py dist F B w) (i : Nat) (v : Int) : Ms v7 v8 v9 v10 v11 v12 v23 v24 v25 ab bx b2 bf bb n m cx cy bd x y px py dist (at1 F i v) B (w.setCell ⟨bf, i, none⟩ (.int .i64 v)) :=
  h.next ((Wrote.refl _ _).setCell (.inl (by simp)) _) (rowIs_setInt h.rf i v) (h.rb.setOther (Ne.symm h.al.ne.2.2.2.2.2.2) _)
theorem Ms.setB {v7 v8 v9 v10 v11 v12 v23 v24 v25 ab bx b2 bf bb n m cx cy : Nat} {bd : Bool} {x y : Nat → Int} {px py : Nat → Nat} {dist : Int} {F B : Nat → Int} {w : World} (h : Ms v7 v8 v9 v10 v11 v12 v23 v24 v25 ab bx b2 bf bb n m cx cy bd x y px py dist F B w) (i : Nat) (v : Int) : Ms v7 v8 v9 v10 v11 v12 v23 v24 v25 ab bx b2 bf bb n m cx cy bd x y px py dist F (at1 B i v) (w.setCell ⟨bb, i, none⟩ (.int .i64 v)) :=
  h.next ((Wrote.refl _ _).setCell (.inl (by simp)) _) (h.rf.setOther h.al.ne.2.2.2.2.2.2 _) (rowIs_setInt h.rb i v)
end Go.Proofs.Ybulkbptu
