import Derived.Test.YbulkbpuiPre
import Derived.Deep.MidRow
import Derived.Test.YbulkbpuiQT
namespace Go.Proofs.Ybulkbpui
open Go.ChangeShapes Go.WideShapes Go.ChangeAt Go.RowKit
open Go.Maps
set_option linter.unusedVariables false
set_option linter.unusedSimpArgs false

def zc41 : Array Value := #[.string "".toUTF8, .bool false, .bool false, .bool false, .int .i64 0, .slice none 0 0, .slice none 0 0, .slice none 0 0]
def zc43 : Array Value := #[.int .i64 0, .int .i64 0, .int .i64 0, .int .i64 0]
theorem zc41_eq : z41.cells = zc41 := by kernel_rfl
theorem zc43_eq : z43.cells = zc43 := by kernel_rfl
/-- make, elements of k cells. -/
theorem run_make_grid {P : Program} (t e : TypeId) (z : Value) (zc : Array Value) (hzc : z.cells = zc) (k bytes : Nat) (ht : P.underlying t = some (.slice e)) (hinfo : (P.info? e).map (fun i => (i.zero, i.size, i.bytes)) = some (some z, k, bytes))
    (n : Nat) (hbytes : bytes * n ≤ 281474976710656) (h63 : n ≤ 9223372036854775807) (w : World) :
    (Instr.makeSlice t (.int .i64 (n : Int)) (.int .i64 (n : Int))).run P w = .ok (.slice (some ⟨w.heap.size, 0, none⟩) n n) (w.alloc (.cells (madeCells zc (n * k)) e)) := by
  subst hzc
  obtain ⟨i, hi, hz, hs, hb⟩ := info_parts hinfo
  have hb' : (i.bytes : Int) * (n : Int) ≤ 281474976710656 := by
    have h : ((i.bytes * n : Nat) : Int) ≤ 281474976710656 := by rw [hb]; omega
    rwa [Int.natCast_mul] at h
  have hr := run_make (P := P) w t e i z ht hi hz .i64 .i64 n n (by omega) (Int.le_refl _) hb' (by omega)
  simp only [Int.toNat_natCast, hs] at hr
  exact hr
theorem grid_made (w : World) (z : Array Value) (n k : Nat) (t : TypeId) (T : Nat → Nat → Value) (hz : z.size = k) (hT : ∀ u j, j < k → z[j]? = some (T u j)) : Grid (w.alloc (.cells (madeCells z (n * k)) t)) w.heap.size t n k T := by
  refine ⟨_, heap_alloc_last _ _, size_madeCells _ _, fun i hi => ?_⟩
  have hk : 0 < k := Nat.pos_of_ne_zero (fun e => by subst e; simp at hi)
  have h1 := hT (i / k) (i % k) (Nat.mod_lt _ hk)
  have h2 : i % k < z.size := by rw [hz]; exact Nat.mod_lt _ hk
  rw [Array.getElem?_eq_getElem h2] at h1
  simp only [madeCells, Array.getElem?_map, Array.getElem?_range, if_pos hi, Option.map_some, hz]
  rw [getElem!_pos z (i % k) h2]
  exact h1

/-- f below i, g from there on. -/
def cutG {α : Type} (f g : Nat → α) (i : Nat) : Nat → α := fun u => if u < i then f u else g u
theorem cutG_succ {α : Type} (f g : Nat → α) (i : Nat) : cutG f g (i + 1) = fset (cutG f g i) i (f i) := by
  funext a
  simp only [cutG, fset]
  by_cases h1 : a = i
  · subst h1
    simp
  · by_cases h2 : a < i
    · rw [if_pos (by omega), if_neg h1, if_pos h2]
    · rw [if_neg (by omega), if_neg h1, if_neg h2]
theorem cutG_zero {α : Type} (f g : Nat → α) : cutG f g 0 = g := by
  funext a
  simp [cutG]

/-- The checker while it is built. -/
def chZ (v3 v5 : Value) (ev : Int) (mb : Nat) (act mx : Int) : Nat → Value
  | 0 => .bool false | 1 => .int .i64 ev | 2 => .map none | 3 => v3 | 4 => .map none | 5 => v5
  | 6 => .map (some mb) | 7 => .int .i64 act | 8 => .int .i64 mx | 9 => .slice none 0 0 | 10 => .pointer none | _ => .pointer none

structure S2 (cb tb mb nT : Nat) (ev act mx : Int) (nm : Nat → ByteArray) (en lk : Nat → Bool) (hd : Nat → Int) (v5 : Value) (w0 w : World) : Prop where
  nd : cb ≠ tb ∧ cb ≠ mb ∧ tb ≠ mb
  ge : w0.heap.size ≤ cb ∧ w0.heap.size ≤ tb ∧ w0.heap.size ≤ mb
  chk : w.rowIs cb 35 12 (chZ (.slice (some ⟨tb, 0, none⟩) nT nT) v5 ev mb act mx)
  txs : Grid w tb 41 nT 8 (txV nm en lk hd nil3 nil3 nil3)
  own : OwnM w mb 0 (.map [])
  wr : Wrote [] w0 w
namespace S2
variable {cb tb mb nT : Nat} {ev act mx : Int} {nm : Nat → ByteArray} {en lk : Nat → Bool} {hd : Nat → Int} {v5 : Value} {w0 w w' : World}
theorem wrote (h : S2 cb tb mb nT ev act mx nm en lk hd v5 w0 w) (k : Wrote [] w w') : S2 cb tb mb nT ev act mx nm en lk hd v5 w0 w' := by
  refine ⟨h.nd, h.ge, k.row h.chk (by simp), k.row h.txs (by simp), ?_, h.wr.trans k⟩
  obtain ⟨es, clock, hb, r⟩ := h.own
  exact ⟨es, clock, by rw [k.block mb h.own.lt (by simp)]; exact hb, r⟩
/-- The world behind a store of a transaction. -/
def stx (w : World) (tb u : Nat) (s : ByteArray) (e k : Bool) (h : Int) : World :=
  (((((((w.setCell ⟨tb, u * 8, none⟩ (.string s)).setCell ⟨tb, u * 8 + 1, none⟩ (.bool e)).setCell ⟨tb, u * 8 + 2, none⟩ (.bool false)).setCell ⟨tb, u * 8 + 3, none⟩ (.bool k)).setCell ⟨tb, u * 8 + 4, none⟩ (.int .i64 h)).setCell ⟨tb, u * 8 + 5, none⟩ (.slice none 0 0)).setCell ⟨tb, u * 8 + 6, none⟩ (.slice none 0 0)).setCell ⟨tb, u * 8 + 7, none⟩ (.slice none 0 0)
theorem setTx (h : S2 cb tb mb nT ev act mx nm en lk hd v5 w0 w) (u : Nat) (s : ByteArray) (e k : Bool) (x : Int) : S2 cb tb mb nT ev act mx (fset nm u s) (fset en u e) (fset lk u k) (fset hd u x) v5 w0 (stx w tb u s e k x) := by
  obtain ⟨e1, e2, e3⟩ := h.nd
  obtain ⟨g1, g2, g3⟩ := h.ge
  have g : ∀ j : Nat, (⟨tb, j, none⟩ : Addr).block ∈ ([] : List Nat) ∨ w0.heap.size ≤ (⟨tb, j, none⟩ : Addr).block := fun j => .inr g2
  refine ⟨h.nd, h.ge, ?_, ?_, ?_, ?_⟩
  · exact (((((((h.chk.setOther e1 _).setOther e1 _).setOther e1 _).setOther e1 _).setOther e1 _).setOther e1 _).setOther e1 _).setOther e1 _
  · refine ((((((((h.txs.set0 (u := u) (by omega) _).set (u := u) (j := 1) (by omega) _).set (u := u) (j := 2) (by omega) _).set (u := u) (j := 3) (by omega) _).set (u := u) (j := 4) (by omega) _).set (u := u) (j := 5) (by omega) _).set (u := u) (j := 6) (by omega) _).set (u := u) (j := 7) (by omega) _).congr ?_
    intro a b ha hb
    by_cases e : a = u <;> match b, hb with | 0, _ | 1, _ | 2, _ | 3, _ | 4, _ | 5, _ | 6, _ | 7, _ => simp [upd, fset, txV, nil3, e]
  · exact (((((((h.own.setCell (Ne.symm e3) _).setCell (Ne.symm e3) _).setCell (Ne.symm e3) _).setCell (Ne.symm e3) _).setCell (Ne.symm e3) _).setCell (Ne.symm e3) _).setCell (Ne.symm e3) _).setCell (Ne.symm e3) _
  · exact (((((((h.wr.setCell (g _) _).setCell (g _) _).setCell (g _) _).setCell (g _) _).setCell (g _) _).setCell (g _) _).setCell (g _) _).setCell (g _) _
end S2
theorem s2_new {cb mb nT : Nat} {ev act mx : Int} {w0 w : World} (hc : w.rowIs cb 35 12 (chZ (.slice none 0 0) (.slice none 0 0) ev mb act mx)) (ho : OwnM w mb 0 (.map [])) (hw : Wrote [] w0 w) (h1 : cb ≠ mb) (h2 : w0.heap.size ≤ cb) (h3 : w0.heap.size ≤ mb) :
    S2 cb w.heap.size mb nT ev act mx (fun _ => "".toUTF8) (fun _ => false) (fun _ => false) (fun _ => 0) (.slice none 0 0) w0 ((w.setCell ⟨cb, 3, none⟩ (.slice (some ⟨w.heap.size, 0, none⟩) nT nT)).alloc (.cells (madeCells zc41 (nT * 8)) 41)) := by
  have b1 := hc.lt
  have b2 := ho.lt
  have hs := hw.size
  have hg := grid_made (w.setCell ⟨cb, 3, none⟩ (.slice (some ⟨w.heap.size, 0, none⟩) nT nT)) zc41 nT 8 41 (txV (fun _ => "".toUTF8) (fun _ => false) (fun _ => false) (fun _ => 0) nil3 nil3 nil3) rfl (fun u j hj => by match j, hj with | 0, _ | 1, _ | 2, _ | 3, _ | 4, _ | 5, _ | 6, _ | 7, _ => rfl)
  rw [size_setCell] at hg
  refine ⟨⟨by omega, h1, by omega⟩, ⟨h2, hs, h3⟩, ?_, hg, (ho.setCell (Ne.symm h1) _).alloc _, (hw.setCell (p := ⟨cb, 3, none⟩) (.inr h2) _).alloc _⟩
  exact ((hc.set 3 _).alloc _).congr (fun i hi => by match i, hi with | 0, _ | 1, _ | 2, _ | 3, _ | 4, _ | 5, _ | 6, _ | 7, _ | 8, _ | 9, _ | 10, _ | 11, _ => rfl)

theorem pre_new {cb tb mb nT nI : Nat} {ev act mx : Int} {nm : Nat → ByteArray} {en lk : Nat → Bool} {hd : Nat → Int} {w0 w : World} (h : S2 cb tb mb nT ev act mx nm en lk hd (.slice none 0 0) w0 w) :
    Pre cb tb w.heap.size mb nT nI ev nm en lk hd (fun _ => 0) (fun _ => 0) (fun _ => 0) act mx none 0 (.map []) w0 ((w.setCell ⟨cb, 5, none⟩ (.slice (some ⟨w.heap.size, 0, none⟩) nI nI)).alloc (.cells (madeCells zc43 (nI * 4)) 43)) := by
  obtain ⟨e1, e2, e3⟩ := h.nd
  obtain ⟨g1, g2, g3⟩ := h.ge
  have b1 := h.chk.lt
  have b2 := h.txs.lt
  have b3 := h.own.lt
  have hs := h.wr.size
  have hg := grid_made (w.setCell ⟨cb, 5, none⟩ (.slice (some ⟨w.heap.size, 0, none⟩) nI nI)) zc43 nI 4 43 (itV (fun _ => 0) (fun _ => 0) (fun _ => 0)) rfl (fun u j hj => by match j, hj with | 0, _ | 1, _ | 2, _ | 3, _ => rfl)
  rw [size_setCell] at hg
  refine ⟨⟨?_, ?_, (h.txs.setOther (Ne.symm e1) _).alloc _, hg, (h.own.setCell (Ne.symm e2) _).alloc _⟩, ?_, (h.wr.setCell (p := ⟨cb, 5, none⟩) (.inr g1) _).alloc _⟩
  · simp
    omega
  · exact ((h.chk.set 5 _).alloc _).congr (fun i hi => by match i, hi with | 0, _ | 1, _ | 2, _ | 3, _ | 4, _ | 5, _ | 6, _ | 7, _ | 8, _ | 9, _ | 10, _ | 11, _ => rfl)
  · intro k hk
    simp at hk
    omega
/-- 0, and -1 at n. -/
def zl (n : Nat) : Nat → Int := fset (fun _ => 0) n (-1)
theorem itf_bound (f : Nat → Int) (nT n m : Nat) (h0 : 0 < nT) (u : Nat) : -1 ≤ cutG (fun v => pk (f v) nT) (zl n) m u ∧ cutG (fun v => pk (f v) nT) (zl n) m u < nT := by
  unfold cutG
  split
  · exact ⟨pk_ge _ _, pk_lt _ _⟩
  · unfold zl fset
    split
    · omega
    · show (-1 : Int) ≤ 0 ∧ (0 : Int) < nT
      omega
end Go.Proofs.Ybulkbpui
