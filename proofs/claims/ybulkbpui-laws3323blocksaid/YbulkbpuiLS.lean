import Derived.Test.YbulkbpuiReads
namespace Go.Proofs.Ybulkbpui
open Go.ChangeShapes Go.WideShapes Go.ChangeAt Go.RowKit
open Go.Maps
set_option linter.unusedVariables false

/-- A function turned at one place. -/
def fset {α : Type} (f : Nat → α) (u : Nat) (v : α) : Nat → α := fun a => if a = u then v else f a
theorem fset_same {α : Type} (f : Nat → α) (u : Nat) (v : α) : fset f u v u = v := by simp [fset]
theorem fset_other {α : Type} (f : Nat → α) {u a : Nat} (v : α) (h : a ≠ u) : fset f u v a = f a := by simp [fset, h]

/-- The cells of the transactions. -/
def txV (nm : Nat → ByteArray) (en lk : Nat → Bool) (hd : Nat → Int) (itm nx rd : Nat → Value) (u : Nat) : Nat → Value
  | 0 => .string (nm u) | 1 => .bool (en u) | 2 => .bool false | 3 => .bool (lk u) | 4 => .int .i64 (hd u) | 5 => itm u | 6 => nx u | _ => rd u
/-- The cells of the items. -/
def itV (H L W : Nat → Int) (u : Nat) : Nat → Value
  | 0 => .int .i64 (H u) | 1 => .int .i64 (L u) | 2 => .int .i64 (W u) | _ => .int .i64 0
/-- The cells of the checker. -/
def chV (ev : Int) (tb nT ib nI mb : Nat) (act mx : Int) (dr : Option Addr) : Nat → Value
  | 0 => .bool false | 1 => .int .i64 ev | 2 => .map none | 3 => .slice (some ⟨tb, 0, none⟩) nT nT | 4 => .map none | 5 => .slice (some ⟨ib, 0, none⟩) nI nI
  | 6 => .map (some mb) | 7 => .int .i64 act | 8 => .int .i64 mx | 9 => .slice none 0 0 | 10 => .pointer none | _ => .pointer dr

/-- The checker as it lies in memory. -/
structure LS (cb tb ib mb nT nI : Nat) (ev : Int) (nm : Nat → ByteArray) (en lk : Nat → Bool) (hd : Nat → Int) (itm nx rd : Nat → Value) (H L W : Nat → Int) (act mx : Int) (dr : Option Addr) (n : Nat) (D : DataW Unit) (w : World) : Prop where
  nd : [cb, tb, ib, mb].Nodup
  chk : w.rowIs cb 35 12 (chV ev tb nT ib nI mb act mx dr)
  txs : Grid w tb 41 nT 8 (txV nm en lk hd itm nx rd)
  its : Grid w ib 43 nI 4 (itV H L W)
  own : OwnM w mb n D

namespace LS
variable {cb tb ib mb nT nI : Nat} {ev : Int} {nm : Nat → ByteArray} {en lk : Nat → Bool} {hd : Nat → Int} {itm nx rd : Nat → Value} {H L W : Nat → Int} {act mx : Int} {dr : Option Addr} {n : Nat} {D : DataW Unit} {w w' : World}

theorem ne1 (h : [cb, tb, ib, mb].Nodup) : cb ≠ tb ∧ cb ≠ ib ∧ cb ≠ mb ∧ tb ≠ ib ∧ tb ≠ mb ∧ ib ≠ mb := by
  simp at h
  omega
theorem wrote (h : LS cb tb ib mb nT nI ev nm en lk hd itm nx rd H L W act mx dr n D w) (k : Wrote [] w w') : LS cb tb ib mb nT nI ev nm en lk hd itm nx rd H L W act mx dr n D w' := by
  refine ⟨h.nd, k.row h.chk (by simp), k.row h.txs (by simp), k.row h.its (by simp), ?_⟩
  obtain ⟨es, clock, hb, r⟩ := h.own
  exact ⟨es, clock, by rw [k.block mb h.own.lt (by simp)]; exact hb, r⟩
theorem setT (h : LS cb tb ib mb nT nI ev nm en lk hd itm nx rd H L W act mx dr n D w) {lk' : Nat → Bool} {hd' : Nat → Int} {itm' nx' rd' : Nat → Value} (u j : Nat) (v : Value) (hj : j < 8)
    (e : ∀ a b, a < nT → b < 8 → upd (txV nm en lk hd itm nx rd) u j v a b = txV nm en lk' hd' itm' nx' rd' a b) : LS cb tb ib mb nT nI ev nm en lk' hd' itm' nx' rd' H L W act mx dr n D (w.setCell ⟨tb, u * 8 + j, none⟩ v) := by
  obtain ⟨e1, e2, e3, e4, e5, e6⟩ := ne1 h.nd
  exact ⟨h.nd, h.chk.setOther e1 _, (h.txs.set hj v).congr e, h.its.setOther (Ne.symm e4) _, h.own.setCell (Ne.symm e5) _⟩
theorem setI (h : LS cb tb ib mb nT nI ev nm en lk hd itm nx rd H L W act mx dr n D w) {H' L' : Nat → Int} (u j : Nat) (v : Value) (hj : j < 4)
    (e : ∀ a b, a < nI → b < 4 → upd (itV H L W) u j v a b = itV H' L' W a b) : LS cb tb ib mb nT nI ev nm en lk hd itm nx rd H' L' W act mx dr n D (w.setCell ⟨ib, u * 4 + j, none⟩ v) := by
  obtain ⟨e1, e2, e3, e4, e5, e6⟩ := ne1 h.nd
  exact ⟨h.nd, h.chk.setOther e2 _, h.txs.setOther e4 _, (h.its.set hj v).congr e, h.own.setCell (Ne.symm e6) _⟩
theorem setC (h : LS cb tb ib mb nT nI ev nm en lk hd itm nx rd H L W act mx dr n D w) {act' mx' : Int} {dr' : Option Addr} (j : Nat) (v : Value)
    (e : ∀ i, i < 12 → (if i = j then v else chV ev tb nT ib nI mb act mx dr i) = chV ev tb nT ib nI mb act' mx' dr' i) : LS cb tb ib mb nT nI ev nm en lk hd itm nx rd H L W act' mx' dr' n D (w.setCell ⟨cb, j, none⟩ v) := by
  obtain ⟨e1, e2, e3, e4, e5, e6⟩ := ne1 h.nd
  exact ⟨h.nd, (h.chk.set j v).congr e, h.txs.setOther (Ne.symm e1) _, h.its.setOther (Ne.symm e2) _, h.own.setCell (Ne.symm e3) _⟩
theorem setLk (h : LS cb tb ib mb nT nI ev nm en lk hd itm nx rd H L W act mx dr n D w) (u : Nat) (x : Bool) : LS cb tb ib mb nT nI ev nm en (fset lk u x) hd itm nx rd H L W act mx dr n D (w.setCell ⟨tb, u * 8 + 3, none⟩ (.bool x)) :=
  h.setT u 3 _ (by omega) (fun a b _ hb => by by_cases e : a = u <;> match b, hb with | 0, _ | 1, _ | 2, _ | 3, _ | 4, _ | 5, _ | 6, _ | 7, _ => simp [upd, fset, txV, e])
theorem setHd (h : LS cb tb ib mb nT nI ev nm en lk hd itm nx rd H L W act mx dr n D w) (u : Nat) (x : Int) : LS cb tb ib mb nT nI ev nm en lk (fset hd u x) itm nx rd H L W act mx dr n D (w.setCell ⟨tb, u * 8 + 4, none⟩ (.int .i64 x)) :=
  h.setT u 4 _ (by omega) (fun a b _ hb => by by_cases e : a = u <;> match b, hb with | 0, _ | 1, _ | 2, _ | 3, _ | 4, _ | 5, _ | 6, _ | 7, _ => simp [upd, fset, txV, e])
theorem setItm (h : LS cb tb ib mb nT nI ev nm en lk hd itm nx rd H L W act mx dr n D w) (u : Nat) (x : Value) : LS cb tb ib mb nT nI ev nm en lk hd (fset itm u x) nx rd H L W act mx dr n D (w.setCell ⟨tb, u * 8 + 5, none⟩ x) :=
  h.setT u 5 _ (by omega) (fun a b _ hb => by by_cases e : a = u <;> match b, hb with | 0, _ | 1, _ | 2, _ | 3, _ | 4, _ | 5, _ | 6, _ | 7, _ => simp [upd, fset, txV, e])
theorem setNx (h : LS cb tb ib mb nT nI ev nm en lk hd itm nx rd H L W act mx dr n D w) (u : Nat) (x : Value) : LS cb tb ib mb nT nI ev nm en lk hd itm (fset nx u x) rd H L W act mx dr n D (w.setCell ⟨tb, u * 8 + 6, none⟩ x) :=
  h.setT u 6 _ (by omega) (fun a b _ hb => by by_cases e : a = u <;> match b, hb with | 0, _ | 1, _ | 2, _ | 3, _ | 4, _ | 5, _ | 6, _ | 7, _ => simp [upd, fset, txV, e])
theorem setRd (h : LS cb tb ib mb nT nI ev nm en lk hd itm nx rd H L W act mx dr n D w) (u : Nat) (x : Value) : LS cb tb ib mb nT nI ev nm en lk hd itm nx (fset rd u x) H L W act mx dr n D (w.setCell ⟨tb, u * 8 + 7, none⟩ x) :=
  h.setT u 7 _ (by omega) (fun a b _ hb => by by_cases e : a = u <;> match b, hb with | 0, _ | 1, _ | 2, _ | 3, _ | 4, _ | 5, _ | 6, _ | 7, _ => simp [upd, fset, txV, e])
theorem setH (h : LS cb tb ib mb nT nI ev nm en lk hd itm nx rd H L W act mx dr n D w) (u : Nat) (x : Int) : LS cb tb ib mb nT nI ev nm en lk hd itm nx rd (fset H u x) L W act mx dr n D (w.setCell ⟨ib, u * 4, none⟩ (.int .i64 x)) :=
  h.setI u 0 _ (by omega) (fun a b _ hb => by by_cases e : a = u <;> match b, hb with | 0, _ | 1, _ | 2, _ | 3, _ => simp [upd, fset, itV, e])
theorem setL (h : LS cb tb ib mb nT nI ev nm en lk hd itm nx rd H L W act mx dr n D w) (u : Nat) (x : Int) : LS cb tb ib mb nT nI ev nm en lk hd itm nx rd H (fset L u x) W act mx dr n D (w.setCell ⟨ib, u * 4 + 1, none⟩ (.int .i64 x)) :=
  h.setI u 1 _ (by omega) (fun a b _ hb => by by_cases e : a = u <;> match b, hb with | 0, _ | 1, _ | 2, _ | 3, _ => simp [upd, fset, itV, e])
theorem setAct (h : LS cb tb ib mb nT nI ev nm en lk hd itm nx rd H L W act mx dr n D w) (x : Int) : LS cb tb ib mb nT nI ev nm en lk hd itm nx rd H L W x mx dr n D (w.setCell ⟨cb, 7, none⟩ (.int .i64 x)) :=
  h.setC 7 _ (fun i hi => by match i, hi with | 0, _ | 1, _ | 2, _ | 3, _ | 4, _ | 5, _ | 6, _ | 7, _ | 8, _ | 9, _ | 10, _ | 11, _ => rfl)
theorem setMx (h : LS cb tb ib mb nT nI ev nm en lk hd itm nx rd H L W act mx dr n D w) (x : Int) : LS cb tb ib mb nT nI ev nm en lk hd itm nx rd H L W act x dr n D (w.setCell ⟨cb, 8, none⟩ (.int .i64 x)) :=
  h.setC 8 _ (fun i hi => by match i, hi with | 0, _ | 1, _ | 2, _ | 3, _ | 4, _ | 5, _ | 6, _ | 7, _ | 8, _ | 9, _ | 10, _ | 11, _ => rfl)
theorem setDr (h : LS cb tb ib mb nT nI ev nm en lk hd itm nx rd H L W act mx dr n D w) (x : Option Addr) : LS cb tb ib mb nT nI ev nm en lk hd itm nx rd H L W act mx x n D (w.setCell ⟨cb, 11, none⟩ (.pointer x)) :=
  h.setC 11 _ (fun i hi => by match i, hi with | 0, _ | 1, _ | 2, _ | 3, _ | 4, _ | 5, _ | 6, _ | 7, _ | 8, _ | 9, _ | 10, _ | 11, _ => rfl)
theorem setMap (h : LS cb tb ib mb nT nI ev nm en lk hd itm nx rd H L W act mx dr n D w) {n' : Nat} {D' : DataW Unit} (hg : w.grownBy w' (some mb)) (ho : OwnM w' mb n' D') : LS cb tb ib mb nT nI ev nm en lk hd itm nx rd H L W act mx dr n' D' w' := by
  obtain ⟨e1, e2, e3, e4, e5, e6⟩ := ne1 h.nd
  exact ⟨h.nd, h.chk.of_block (hg.block cb h.chk.lt (by simpa using e3)), h.txs.block (hg.block tb h.txs.lt (by simpa using e5)), h.its.block (hg.block ib h.its.lt (by simpa using e6)), ho⟩
end LS

/-- A slice of one integer in memory of its own. -/
def OneInt (S : List Nat) (w : World) (v : Value) (x : Int) : Prop := ∃ g c, v = .slice (some ⟨g, 0, none⟩) 1 c ∧ w.cell? ⟨g, 0, none⟩ = some (.int .i64 x) ∧ g ∉ S
theorem OneInt.wrote {S : List Nat} {w w' : World} {v : Value} {x : Int} (h : OneInt S w v x) (k : Wrote S w w') : OneInt S w' v x := by
  obtain ⟨g, c, rfl, hc, hg⟩ := h
  exact ⟨g, c, rfl, k.cell_of hc hg, hg⟩
/-- A record of a dirty read. -/
def RFAt (S : List Nat) (w : World) (p : Option Addr) (ev : Int) (st sf : ByteArray) : Prop := ∃ g, p = some ⟨g, 0, none⟩ ∧ w.cell? ⟨g, 0, none⟩ = some (.int .i64 ev) ∧ w.cell? ⟨g, 1, none⟩ = some (.string st) ∧ w.cell? ⟨g, 2, none⟩ = some (.string sf) ∧ g ∉ S
theorem RFAt.wrote {S : List Nat} {w w' : World} {p : Option Addr} {ev : Int} {st sf : ByteArray} (h : RFAt S w p ev st sf) (k : Wrote S w w') : RFAt S w' p ev st sf := by
  obtain ⟨g, rfl, h1, h2, h3, hg⟩ := h
  exact ⟨g, rfl, k.cell_of h1 hg, k.cell_of h2 hg, k.cell_of h3 hg, hg⟩
end Go.Proofs.Ybulkbpui
