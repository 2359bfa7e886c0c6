import Derived.Test.YbulkbpuiTailA
namespace Go.Proofs.Ybulkbpui
open Go.ChangeShapes Go.WideShapes Go.ChangeAt Go.RowKit
open Go.Maps
set_option linter.unusedVariables false
set_option linter.unusedSimpArgs false

/-- What came in: rows of k cells from an offset on. -/
def ArgAt (w : World) (a : Option Addr) (n k : Nat) (T : Nat → Nat → Value) : Prop := n = 0 ∨ ∃ b o, a = some ⟨b, o, none⟩ ∧ b < w.heap.size ∧ ∀ u j, u < n → j < k → w.cell? ⟨b, o + u * k + j, none⟩ = some (T u j)
def inT (N : Nat → ByteArray) (E K : Nat → Bool) (X : Nat → Int) (u : Nat) : Nat → Value
  | 0 => .string (N u) | 1 => .bool (E u) | 2 => .bool (K u) | _ => .int .i8 (X u)
def in16 (X : Nat → Nat → Int) (u j : Nat) : Value := .int .u16 (X u j)
theorem cell_drew (w : World) (a : Addr) : w.drew.cell? a = w.cell? a := rfl
theorem cell_oth {w : World} {b c i j : Nat} {v : Value} (h : b ≠ c) : (w.setCell ⟨c, j, none⟩ v).cell? ⟨b, i, none⟩ = w.cell? ⟨b, i, none⟩ := World.cell?_of_block (w := w) (Below.heap_setCell _ _ _ _ h)
theorem rowIs_new {w : World} {b n : Nat} {c : Array Value} {t : TypeId} {f : Nat → Value} (hb : b = w.heap.size) (hn : c.size = n) (hc : ∀ i, i < n → c[i]? = some (f i)) : (w.alloc (.cells c t)).rowIs b t n f := by
  subst hb hn
  exact World.rowIs_alloc w c t f hc

/-- The checker, built; nothing that was there has been written. -/
structure Pre (cb tb ib mb nT nI : Nat) (ev : Int) (nm : Nat → ByteArray) (en lk : Nat → Bool) (hd : Nat → Int) (H L W : Nat → Int) (act mx : Int) (dr : Option Addr) (n : Nat) (D : DataW Unit) (w0 w : World) : Prop where
  ls : LS cb tb ib mb nT nI ev nm en lk hd nil3 nil3 nil3 H L W act mx dr n D w
  ge : ∀ k ∈ [cb, tb, ib, mb], w0.heap.size ≤ k
  wr : Wrote [] w0 w
namespace Pre
variable {cb tb ib mb nT nI : Nat} {ev : Int} {nm : Nat → ByteArray} {en lk : Nat → Bool} {hd : Nat → Int} {H L W : Nat → Int} {act mx : Int} {dr : Option Addr} {n : Nat} {D : DataW Unit} {w0 w w' : World}
theorem wrote (h : Pre cb tb ib mb nT nI ev nm en lk hd H L W act mx dr n D w0 w) (k : Wrote [] w w') : Pre cb tb ib mb nT nI ev nm en lk hd H L W act mx dr n D w0 w' := ⟨h.ls.wrote k, h.ge, h.wr.trans k⟩
/-- The world behind a store of an item. -/
def sit (w : World) (ib u : Nat) (x y z : Int) : World :=
  (((w.setCell ⟨ib, u * 4, none⟩ (.int .i64 x)).setCell ⟨ib, u * 4 + 1, none⟩ (.int .i64 y)).setCell ⟨ib, u * 4 + 2, none⟩ (.int .i64 z)).setCell ⟨ib, u * 4 + 3, none⟩ (.int .i64 0)
theorem setIt (h : Pre cb tb ib mb nT nI ev nm en lk hd H L W act mx dr n D w0 w) (u : Nat) (x y z : Int) : Pre cb tb ib mb nT nI ev nm en lk hd (fset H u x) (fset L u y) (fset W u z) act mx dr n D w0 (sit w ib u x y z) := by
  obtain ⟨e1, e2, e3, e4, e5, e6⟩ := LS.ne1 h.ls.nd
  have g2 := h.ge ib (by simp)
  have g : ∀ j : Nat, (⟨ib, j, none⟩ : Addr).block ∈ ([] : List Nat) ∨ w0.heap.size ≤ (⟨ib, j, none⟩ : Addr).block := fun j => .inr g2
  refine ⟨⟨h.ls.nd, ?_, ?_, ?_, ?_⟩, h.ge, ?_⟩
  · exact (((h.ls.chk.setOther e2 _).setOther e2 _).setOther e2 _).setOther e2 _
  · exact (((h.ls.txs.setOther e4 _).setOther e4 _).setOther e4 _).setOther e4 _
  · refine ((((h.ls.its.set0 (u := u) (by omega) _).set (u := u) (j := 1) (by omega) _).set (u := u) (j := 2) (by omega) _).set (u := u) (j := 3) (by omega) _).congr ?_
    intro a b ha hb
    by_cases e : a = u <;> match b, hb with | 0, _ | 1, _ | 2, _ | 3, _ => simp [upd, fset, itV, e]
  · exact (((h.ls.own.setCell (Ne.symm e6) _).setCell (Ne.symm e6) _).setCell (Ne.symm e6) _).setCell (Ne.symm e6) _
  · exact (((h.wr.setCell (g _) _).setCell (g _) _).setCell (g _) _).setCell (g _) _
end Pre
end Go.Proofs.Ybulkbpui
