import Derived.Test.YbulkbpuiLS
import Derived.Deep.DeepCutAuto
import Derived.Maps.AppendAt
import Derived.Deep.WholeRow
namespace Go.Proofs.Ybulkbpui
open Go.ChangeShapes Go.WideShapes Go.ChangeAt Go.RowKit
open Go.Maps
set_option linter.unusedVariables false

theorem info3 : (Yba.prog.info? 3).map (fun i => (i.zero, i.size, i.bytes)) = some (some (.int .i64 0), 1, 8) := by kernel_rfl
/-- append(nil, x). -/
theorem run_app1 (ty : TypeId) (w1 : World) (b : Nat) (x : Int) (h : w1.cell? ⟨b, 0, none⟩ = some (.int .i64 x)) :
    (Builtin.append_ #[39, 39] ty #[.slice none 0 0, .slice (some ⟨b, 0, none⟩) 1 1]).run Yba.prog w1 =
      .ok (.slice (some ⟨w1.heap.size, 0, none⟩) 1 (grownCap w1 1 0 3)) (w1.drew.alloc (.cells (#[.int .i64 x] ++ Builtin.zeroCells #[.int .i64 0] (grownCap w1 1 0 3 - 1)) 3)) := by
  obtain ⟨i0, hi, hz0, hz1, hz2⟩ := info_parts info3
  exact run_append_nil w1 39 ty 3 i0 (.int .i64 0) Yba.underlying39 hi hz0 ⟨b, 0, none⟩ 1 1 [.int .i64 x] (by rw [hz1]; rfl) (fun j v hj => by
    match j, hj with
    | 0, hj => simp at hj; subst hj; exact h) (by omega) (by omega) (by rw [hz2]; omega)
theorem Hid.mk' {p : Prop} (h : p) : Hid p := h
/-- No slice anywhere. -/
def nil3 : Nat → Value := fun _ => .slice none 0 0
/-- Behind an append to nil. -/
theorem oneInt_new {S : List Nat} {w : World} {x : Int} {c : Nat} {zs : Array Value} (hS : ∀ k ∈ S, k < w.heap.size) :
    OneInt S (w.alloc (.cells (#[.int .i64 x] ++ zs) 3)) (.slice (some ⟨w.heap.size, 0, none⟩) 1 c) x := by
  refine ⟨w.heap.size, c, rfl, ?_, fun h => by have := hS _ h; omega⟩
  have e : (#[Value.int .i64 x] ++ zs)[0]? = some (.int .i64 x) := by rw [Array.getElem?_append_left (by simp)]; rfl
  unfold World.cell?
  rw [heap_alloc_last]
  exact e
theorem fset_eq {α : Type} (f : Nat → α) (u : Nat) (v : α) (h : f u = v) : fset f u v = f := by
  funext a
  unfold fset
  split
  · next e => rw [e, h]
  · rfl
theorem LS.lts {cb tb ib mb nT nI : Nat} {ev : Int} {nm : Nat → ByteArray} {en lk : Nat → Bool} {hd : Nat → Int} {itm nx rd : Nat → Value} {H L W : Nat → Int} {act mx : Int} {dr : Option Addr} {n : Nat} {D : DataW Unit} {w : World}
    (h : LS cb tb ib mb nT nI ev nm en lk hd itm nx rd H L W act mx dr n D w) : ∀ k ∈ [cb, tb, ib, mb], k < w.heap.size := by
  have h1 := h.chk.lt
  have h2 := h.txs.lt
  have h3 := h.its.lt
  have h4 := h.own.lt
  intro k hk
  simp at hk
  omega

/-- What 'lock' leaves. pN: the last locker gets an edge; pW: a dirty read; pK: the pair was recorded; pH: t did not hold the item; pA: it is its first. -/
def LockEnd (cb tb ib mb nT nI : Nat) (ev : Int) (nm : Nat → ByteArray) (en lk : Nat → Bool) (hd : Nat → Int) (H L W : Nat → Int) (act mx : Int) (dr : Option Addr) (D : DataW Unit) (t it l r : Nat) (pN pW pK pH pA : Bool) (w : World) (e : Ending) (w' : World) : Prop :=
  e = .returned (.tuple #[]) ∧ ∃ vN vR vI dr' n', LS cb tb ib mb nT nI ev nm en (fset lk t true) (if pH then fset hd t (hd t + 1) else hd) (if pK then nil3 else fset nil3 t vI) (if pN then fset nil3 l vN else nil3) (if pW then fset nil3 t vR else nil3) (fset H it t) (fset L it t) W
      (if pA then act + 1 else act) (if pA then max mx (act + 1) else mx) dr' n' (if pK then D else D.put (.int .u64 (ky t it)) (.agg [])) w' ∧
    (pN = true → OneInt [cb, tb, ib, mb] w' vN t) ∧ (pW = true → OneInt [cb, tb, ib, mb] w' vR r) ∧ (pK = false → OneInt [cb, tb, ib, mb] w' vI it) ∧
    (pW = true → dr = none → RFAt [cb, tb, ib, mb] w' dr' ev (nm t) (nm r)) ∧ (pW = false ∨ dr ≠ none → dr' = dr) ∧ Wrote [cb, tb, ib, mb] w w'

/-- Behind the edge. -/
def C1 (cb tb ib mb nT nI : Nat) (ev : Int) (nm : Nat → ByteArray) (en lk : Nat → Bool) (hd : Nat → Int) (H L W : Nat → Int) (act mx : Int) (dr : Option Addr) (n : Nat) (D : DataW Unit) (t it l r : Nat) (pN pW pK pH pA : Bool) (w : World) (wc : World) : Prop := ∃ vN, LS cb tb ib mb nT nI ev nm en lk hd nil3 (if pN then fset nil3 l vN else nil3) nil3 H L W act mx dr n D wc ∧ (pN = true → OneInt [cb, tb, ib, mb] wc vN t) ∧ Wrote [cb, tb, ib, mb] w wc
/-- Behind the marks. -/
def C2 (cb tb ib mb nT nI : Nat) (ev : Int) (nm : Nat → ByteArray) (en lk : Nat → Bool) (hd : Nat → Int) (H L W : Nat → Int) (act mx : Int) (dr : Option Addr) (n : Nat) (D : DataW Unit) (t it l r : Nat) (pN pW pK pH pA : Bool) (w : World) (wc : World) : Prop := ∃ vN, LS cb tb ib mb nT nI ev nm en (fset lk t true) hd nil3 (if pN then fset nil3 l vN else nil3) nil3 H (fset L it t) W act mx dr n D wc ∧ (pN = true → OneInt [cb, tb, ib, mb] wc vN t) ∧ Wrote [cb, tb, ib, mb] w wc
/-- Behind 'readsFrom'. -/
def C2b (cb tb ib mb nT nI : Nat) (ev : Int) (nm : Nat → ByteArray) (en lk : Nat → Bool) (hd : Nat → Int) (H L W : Nat → Int) (act mx : Int) (dr : Option Addr) (n : Nat) (D : DataW Unit) (t it l r : Nat) (pN pW pK pH pA : Bool) (w : World) (wc : World) : Prop := ∃ vN vR, LS cb tb ib mb nT nI ev nm en (fset lk t true) hd nil3 (if pN then fset nil3 l vN else nil3) (fset nil3 t vR) H (fset L it t) W act mx dr n D wc ∧ (pN = true → OneInt [cb, tb, ib, mb] wc vN t) ∧ OneInt [cb, tb, ib, mb] wc vR r ∧ Wrote [cb, tb, ib, mb] w wc
/-- Behind the dirty read. -/
def C3 (cb tb ib mb nT nI : Nat) (ev : Int) (nm : Nat → ByteArray) (en lk : Nat → Bool) (hd : Nat → Int) (H L W : Nat → Int) (act mx : Int) (dr : Option Addr) (n : Nat) (D : DataW Unit) (t it l r : Nat) (pN pW pK pH pA : Bool) (w : World) (wc : World) : Prop := ∃ vN vR dr', LS cb tb ib mb nT nI ev nm en (fset lk t true) hd nil3 (if pN then fset nil3 l vN else nil3) (if pW then fset nil3 t vR else nil3) H (fset L it t) W act mx dr' n D wc ∧ (pN = true → OneInt [cb, tb, ib, mb] wc vN t) ∧ (pW = true → OneInt [cb, tb, ib, mb] wc vR r) ∧ (pW = true → dr = none → RFAt [cb, tb, ib, mb] wc dr' ev (nm t) (nm r)) ∧ (pW = false ∨ dr ≠ none → dr' = dr) ∧ Wrote [cb, tb, ib, mb] w wc
/-- Behind the map's entry. -/
def C3m (cb tb ib mb nT nI : Nat) (ev : Int) (nm : Nat → ByteArray) (en lk : Nat → Bool) (hd : Nat → Int) (H L W : Nat → Int) (act mx : Int) (dr : Option Addr) (n : Nat) (D : DataW Unit) (t it l r : Nat) (pN pW pK pH pA : Bool) (w : World) (wc : World) : Prop := ∃ vN vR dr', LS cb tb ib mb nT nI ev nm en (fset lk t true) hd nil3 (if pN then fset nil3 l vN else nil3) (if pW then fset nil3 t vR else nil3) H (fset L it t) W act mx dr' (n + 1) (D.put (.int .u64 (ky t it)) (.agg [])) wc ∧ (pN = true → OneInt [cb, tb, ib, mb] wc vN t) ∧ (pW = true → OneInt [cb, tb, ib, mb] wc vR r) ∧ (pW = true → dr = none → RFAt [cb, tb, ib, mb] wc dr' ev (nm t) (nm r)) ∧ (pW = false ∨ dr ≠ none → dr' = dr) ∧ Wrote [cb, tb, ib, mb] w wc
/-- Behind the record of the pair. -/
def C4 (cb tb ib mb nT nI : Nat) (ev : Int) (nm : Nat → ByteArray) (en lk : Nat → Bool) (hd : Nat → Int) (H L W : Nat → Int) (act mx : Int) (dr : Option Addr) (n : Nat) (D : DataW Unit) (t it l r : Nat) (pN pW pK pH pA : Bool) (w : World) (wc : World) : Prop := ∃ vN vR vI dr' n', LS cb tb ib mb nT nI ev nm en (fset lk t true) hd (if pK then nil3 else fset nil3 t vI) (if pN then fset nil3 l vN else nil3) (if pW then fset nil3 t vR else nil3) H (fset L it t) W act mx dr' n' (if pK then D else D.put (.int .u64 (ky t it)) (.agg [])) wc ∧ (pN = true → OneInt [cb, tb, ib, mb] wc vN t) ∧ (pW = true → OneInt [cb, tb, ib, mb] wc vR r) ∧ (pK = false → OneInt [cb, tb, ib, mb] wc vI it) ∧ (pW = true → dr = none → RFAt [cb, tb, ib, mb] wc dr' ev (nm t) (nm r)) ∧ (pW = false ∨ dr ≠ none → dr' = dr) ∧ Wrote [cb, tb, ib, mb] w wc
theorem oneInt_app {S : List Nat} {w1 w2 : World} {x : Int} {c : Nat} {zs : Array Value} {o : Obj} (hS : ∀ k ∈ S, k < w1.heap.size) (h : w2.heap.size = w1.heap.size) :
    OneInt S ((w2.alloc o).alloc (.cells (#[.int .i64 x] ++ zs) 3)) (.slice (some ⟨w1.heap.size + 1, 0, none⟩) 1 c) x := by
  have e : w1.heap.size + 1 = (w2.alloc o).heap.size := by simp [h]
  rw [e]
  exact oneInt_new (fun k hk => by have := hS k hk; simp; omega)
theorem rf_new {S : List Nat} {w1 w2 : World} {ev : Int} {st sf : ByteArray} (h : w2.heap.size = w1.heap.size) (hS : w1.heap.size ∉ S) :
    RFAt S (w2.alloc (.cells #[.int .i64 ev, .string st, .string sf] 53)) (some ⟨w1.heap.size, 0, none⟩) ev st sf := by
  have e : (w2.alloc (.cells #[.int .i64 ev, .string st, .string sf] 53)).heap[w1.heap.size]? = some (.cells #[.int .i64 ev, .string st, .string sf] 53) := by rw [← h]; exact heap_alloc_last _ _
  refine ⟨w1.heap.size, rfl, ?_, ?_, ?_, hS⟩ <;> (unfold World.cell?; rw [e]; rfl)
theorem size_setCell (w : World) (a : Addr) (v : Value) : (w.setCell a v).heap.size = w.heap.size := by simp [World.setCell]

set_option maxRecDepth 100000 in
set_option maxHeartbeats 4000000 in
theorem lock_any (cb tb ib mb nT nI : Nat) (ev : Int) (nm : Nat → ByteArray) (en lk : Nat → Bool) (hd : Nat → Int) (H L W : Nat → Int) (act mx : Int) (dr : Option Addr) (n : Nat) (D : DataW Unit) (t it l r : Nat) (pN pW pK pH pA : Bool) (w : World)
    (hT : nT ≤ 2000) (hI : nI ≤ 2000) (ht : t < nT) (hit : it < nI) (hln : l < nT) (hrn : r < nT) (hn : n ≤ 2000)
    (hN : pN = true → L it = (l : Int) ∧ l ≠ t) (hN' : pN = false → L it = (t : Int) ∨ L it < 0) (hW : pW = true → W it = (r : Int) ∧ r ≠ t ∧ en r = false) (hW' : pW = false → W it = (t : Int) ∨ W it < 0 ∨ (W it = (r : Int) ∧ r ≠ t ∧ en r = true))
    (hK : Maps.has D (.int .u64 (ky t it)) = pK) (hH : pH = true → (H it != (t : Int)) = true) (hH' : pH = false → H it = (t : Int)) (hA : pA = true → pH = true ∧ hd t = 0) (hA' : pA = false → pH = true → hd t ≠ 0) (bh : -1000 ≤ hd t ∧ hd t ≤ 1000) (ba : -100000 ≤ act ∧ act ≤ 100000) (bm : -100000 ≤ mx ∧ mx ≤ 100000)
    (hL : LS cb tb ib mb nT nI ev nm en lk hd nil3 nil3 nil3 H L W act mx dr n D w) :
    Calls Yba.prog 8 #[.pointer (some ⟨cb, 0, none⟩), .int .i64 t, .int .i64 it] w (LockEnd cb tb ib mb nT nI ev nm en lk hd H L W act mx dr D t it l r pN pW pK pH pA w) := by
  have hb3 : Yba.t3.bytes = 8 := by kernel_rfl
  have hnx : Builtin.nextslicecap 1 0 = 1 := by kernel_rfl
  have HN : Hid (pN = true → L it = (l : Int) ∧ l ≠ t) := hN
  have HN' : Hid (pN = false → L it = (t : Int) ∨ L it < 0) := hN'
  have HW : Hid (pW = true → W it = (r : Int) ∧ r ≠ t ∧ en r = false) := hW
  have HW' : Hid (pW = false → W it = (t : Int) ∨ W it < 0 ∨ (W it = (r : Int) ∧ r ≠ t ∧ en r = true)) := hW'
  have HK : Hid (Maps.has D (.int .u64 (ky t it)) = pK) := hK
  have HH : Hid (pH = true → (H it != (t : Int)) = true) := hH
  have HH' : Hid (pH = false → H it = (t : Int)) := hH'
  have HA : Hid (pA = true → pH = true ∧ hd t = 0) := hA
  have HA' : Hid (pA = false → pH = true → hd t ≠ 0) := hA'
  have HL : Hid (LS cb tb ib mb nT nI ev nm en lk hd nil3 nil3 nil3 H L W act mx dr n D w) := hL
  have c3 : w.cell? ⟨cb, 3, none⟩ = _ := hL.chk.cell (i := 3) (by omega)
  have c5 : w.cell? ⟨cb, 5, none⟩ = _ := hL.chk.cell (i := 5) (by omega)
  simp only [chV] at c3 c5
  clear hL hN hN' hW hW' hK hH hH' hA hA'
  go_enter Yba.func8, Yba.ntmps8
  go_upto_region 0 with fail
  go_cut [6, 7] (fun s6 s7 wc => s6 = .pointer (some ⟨tb, t * 8, none⟩) ∧ s7 = .pointer (some ⟨ib, it * 4, none⟩) ∧ Hid (LS cb tb ib mb nT nI ev nm en lk hd nil3 nil3 nil3 H L W act mx dr n D wc) ∧ Hid (Wrote [cb, tb, ib, mb] w wc))
  case first => as_aux_lemma =>
    go_quiet (fail)
    go_wp2
    go_meet
    case rel => exact ⟨rfl, rfl, HL.out.wrote ((Wrote.refl _ _).drewN _), (Wrote.refl _ _).drewN _⟩
  case rest => as_aux_lemma =>
    obtain ⟨rfl, rfl, H1, K1⟩ := hcut
    rename World => w1
    clear c3 c5 HL
    go_upto_region 1 with fail
    go_cut [34] (fun s34 wc => s34 = .bool pN ∧ w1 = wc)
    case first => as_aux_lemma =>
      have i1 : w1.cell? ⟨ib, it * 4 + 1, none⟩ = some (.int .i64 (L it)) := H1.out.its.cell hit (j := 1) (by omega)
      cases pN with
      | true =>
        obtain ⟨hl, hlt⟩ := HN.out rfl
        have hc' : ((l : Int) != (t : Int)) = true := by simp; omega
        rw [hl] at i1
        go_wp2
        go_meet
        case rel => exact ⟨rfl, rfl⟩
      | false =>
        rcases HN'.out rfl with hl | hl
        · rw [hl] at i1
          go_wp2
          go_meet
          case rel => exact ⟨rfl, rfl⟩
        · have hl' : ¬ (0 ≤ L it) := by omega
          go_wp2
          go_meet
          case rel => exact ⟨rfl, rfl⟩
    case rest => as_aux_lemma =>
      obtain ⟨rfl, rfl⟩ := hcut
      go_upto_if 34 with fail
      go_cut [] (fun wc => C1 cb tb ib mb nT nI ev nm en lk hd H L W act mx dr n D t it l r pN pW pK pH pA w wc)
      case first => as_aux_lemma =>
        have c3 : w1.cell? ⟨cb, 3, none⟩ = _ := H1.out.chk.cell (i := 3) (by omega)
        have i1 : w1.cell? ⟨ib, it * 4 + 1, none⟩ = some (.int .i64 (L it)) := H1.out.its.cell hit (j := 1) (by omega)
        have x6 : w1.cell? ⟨tb, l * 8 + 6, none⟩ = some (.slice none 0 0) := H1.out.txs.cell hln (j := 6) (by omega)
        have fz : ∀ i, w1.frozen? ⟨tb, i, none⟩ = false := fun i => H1.out.txs.frozen i
        have b1 := H1.out.chk.lt
        have b2 := H1.out.txs.lt
        have b3 := H1.out.its.lt
        simp only [chV] at c3
        cases pN with
        | true =>
          obtain ⟨hl, hlt⟩ := HN.out rfl
          have hc' : ((l : Int) != (t : Int)) = true := by simp; omega
          rw [hl] at i1
          go_wp2
          go_region
          go_wp2
          go_meet
          case rel => exact ⟨_, ((H1.out.setNx l _).wrote ((((Wrote.refl _ _).alloc _).alloc _).drew.drew)), fun _ => oneInt_app (w2 := w1.setCell _ _) H1.out.lts (size_setCell _ _ _), (((K1.out.setCell (p := ⟨tb, l * 8 + 6, none⟩) (.inl (by simp)) _).alloc _).alloc _).drew.drew⟩
        | false =>
          go_wp2
          go_meet
          case rel => exact ⟨.slice none 0 0, H1.out, (fun h => nomatch h), K1.out⟩
      case rest => as_aux_lemma =>
        rename World => w2
        have HC1 : Hid (C1 cb tb ib mb nT nI ev nm en lk hd H L W act mx dr n D t it l r pN pW pK pH pA w w2) := hcut
        clear H1 K1 hcut
        have f1 : ∀ i, w2.frozen? ⟨tb, i, none⟩ = false := fun i => by obtain ⟨v, h, _⟩ := HC1.out; exact h.txs.frozen i
        have f2 : ∀ i, w2.frozen? ⟨ib, i, none⟩ = false := fun i => by obtain ⟨v, h, _⟩ := HC1.out; exact h.its.frozen i
        have d1 : ∃ z, w2.cell? ⟨ib, it * 4 + 1, none⟩ = some z := by obtain ⟨v, h, _⟩ := HC1.out; exact ⟨_, h.its.cell hit (j := 1) (by omega)⟩
        have d2 : w2.cell? ⟨ib, it * 4 + 2, none⟩ = some (.int .i64 (W it)) := by obtain ⟨v, h, _⟩ := HC1.out; exact h.its.cell hit (j := 2) (by omega)
        have d3 : w2.cell? ⟨tb, t * 8 + 3, none⟩ = some (.bool (lk t)) := by obtain ⟨v, h, _⟩ := HC1.out; exact h.txs.cell ht (j := 3) (by omega)
        have ne : tb ≠ ib := by obtain ⟨v, h, _⟩ := HC1.out; exact (LS.ne1 h.nd).2.2.2.1
        obtain ⟨z1, d1⟩ := d1
        go_upto_region 5 with fail
        go_cut [8] (fun s8 wc => s8 = .int .i64 (W it) ∧ C2 cb tb ib mb nT nI ev nm en lk hd H L W act mx dr n D t it l r pN pW pK pH pA w wc)
        case first => as_aux_lemma =>
          go_wp2
          go_meet
          case rel =>
            obtain ⟨v, h, h2, h3⟩ := HC1.out
            exact ⟨rfl, v, (h.setL it t).setLk t true, fun e => (h2 e).wrote (((Wrote.refl _ _).setCell (p := ⟨ib, it * 4 + 1, none⟩) (.inl (by simp)) _).setCell (p := ⟨tb, t * 8 + 3, none⟩) (.inl (by simp)) _), (h3.setCell (p := ⟨ib, it * 4 + 1, none⟩) (.inl (by simp)) _).setCell (p := ⟨tb, t * 8 + 3, none⟩) (.inl (by simp)) _⟩
        case rest => as_aux_lemma =>
          obtain ⟨rfl, hcut⟩ := hcut
          clear f1 f2 d1 d2 d3 HC1
          rename World => w3
          have HC2 : Hid (C2 cb tb ib mb nT nI ev nm en lk hd H L W act mx dr n D t it l r pN pW pK pH pA w w3) := hcut
          clear hcut
          go_upto_region 6 with fail
          go_cut [8, 87] (fun s8 s87 wc => s8 = .int .i64 (W it) ∧ s87 = .bool pW ∧ w3 = wc)
          case first => as_aux_lemma =>
            have c3 : w3.cell? ⟨cb, 3, none⟩ = some (.slice (some ⟨tb, 0, none⟩) nT nT) := by obtain ⟨v, h, _⟩ := HC2.out; exact h.chk.cell (i := 3) (by omega)
            have x1 : w3.cell? ⟨tb, r * 8 + 1, none⟩ = some (.bool (en r)) := by obtain ⟨v, h, _⟩ := HC2.out; exact h.txs.cell hrn (j := 1) (by omega)
            cases pW with
            | true =>
              obtain ⟨hl, hlt, hen⟩ := HW.out rfl
              have hc' : ((r : Int) != (t : Int)) = true := by simp; omega
              rw [hen] at x1
              rw [hl]
              go_wp2
              go_meet
              case rel => exact ⟨by first | rfl | rw [hl], rfl, rfl⟩
            | false =>
              rcases HW'.out rfl with hl | hl | ⟨hl, hlt, hen⟩
              · rw [hl]
                go_wp2
                go_meet
                case rel => exact ⟨by first | rfl | rw [hl], rfl, rfl⟩
              · have hl' : ¬ (0 ≤ W it) := by omega
                go_wp2
                go_meet
                case rel => exact ⟨by first | rfl | rw [hl], rfl, rfl⟩
              · have hc' : ((r : Int) != (t : Int)) = true := by simp; omega
                rw [hen] at x1
                rw [hl]
                go_wp2
                go_meet
                case rel => exact ⟨by first | rfl | rw [hl], rfl, rfl⟩
          case rest => as_aux_lemma =>
            obtain ⟨rfl, rfl, rfl⟩ := hcut
            go_upto_if 87 with fail
            go_cut [8] (fun s8 wc => C3 cb tb ib mb nT nI ev nm en lk hd H L W act mx dr n D t it l r pN pW pK pH pA w wc)
            case first => as_aux_lemma =>
              cases pW with
              | true =>
                obtain ⟨hl, hlt, hen⟩ := HW.out rfl
                rw [hl]
                have x7 : w3.cell? ⟨tb, t * 8 + 7, none⟩ = some (.slice none 0 0) := by obtain ⟨v, h, _⟩ := HC2.out; exact h.txs.cell ht (j := 7) (by omega)
                have fz : ∀ i, w3.frozen? ⟨tb, i, none⟩ = false := fun i => by obtain ⟨v, h, _⟩ := HC2.out; exact h.txs.frozen i
                have b2 : tb < w3.heap.size := by obtain ⟨v, h, _⟩ := HC2.out; exact h.txs.lt
                go_upto_region 7 with fail
                go_cut [] (fun wc => C2b cb tb ib mb nT nI ev nm en lk hd H L W act mx dr n D t it l r pN true pK pH pA w wc)
                case first => as_aux_lemma =>
                  go_wp2
                  go_meet
                  case rel =>
                    obtain ⟨v, h, h2, h3⟩ := HC2.out
                    exact ⟨v, _, (h.setRd t _).wrote (((Wrote.refl _ _).alloc _).alloc _).drew, fun e => (h2 e).wrote ((((Wrote.refl _ _).setCell (p := ⟨tb, t * 8 + 7, none⟩) (.inl (by simp)) _).alloc _).alloc _).drew, oneInt_app (w2 := w3.setCell _ _) h.lts (size_setCell _ _ _), (((h3.setCell (p := ⟨tb, t * 8 + 7, none⟩) (.inl (by simp)) _).alloc _).alloc _).drew⟩
                case rest => as_aux_lemma =>
                  rename World => w4
                  have HC2b : Hid (C2b cb tb ib mb nT nI ev nm en lk hd H L W act mx dr n D t it l r pN true pK pH pA w w4) := hcut
                  clear hcut x7 fz b2 HC2
                  have c11 : w4.cell? ⟨cb, 11, none⟩ = some (.pointer dr) := by obtain ⟨v, v2, h, _⟩ := HC2b.out; exact h.chk.cell (i := 11) (by omega)
                  have c3 : w4.cell? ⟨cb, 3, none⟩ = some (.slice (some ⟨tb, 0, none⟩) nT nT) := by obtain ⟨v, v2, h, _⟩ := HC2b.out; exact h.chk.cell (i := 3) (by omega)
                  have c1 : w4.cell? ⟨cb, 1, none⟩ = some (.int .i64 ev) := by obtain ⟨v, v2, h, _⟩ := HC2b.out; exact h.chk.cell (i := 1) (by omega)
                  have d1 : w4.cell? ⟨tb, t * 8, none⟩ = some (.string (nm t)) := by obtain ⟨v, v2, h, _⟩ := HC2b.out; exact h.txs.cell0 ht (by omega)
                  have d2 : w4.cell? ⟨tb, r * 8, none⟩ = some (.string (nm r)) := by obtain ⟨v, v2, h, _⟩ := HC2b.out; exact h.txs.cell0 hrn (by omega)
                  have b1 : cb < w4.heap.size := by obtain ⟨v, v2, h, _⟩ := HC2b.out; exact h.chk.lt
                  have fc : w4.frozen? ⟨cb, 11, none⟩ = false := by obtain ⟨v, v2, h, _⟩ := HC2b.out; exact h.chk.frozen 11
                  cases dr with
                  | none =>
                    go_wp2_with fail
                    refine (newReads_any cb tb nT t r ev (nm t) (nm r) w4 ht hrn hT c1 c3 d1 d2).mono ?_
                    rintro e wx ⟨rfl, q, rfl⟩
                    have HD : Hid (C2b cb tb ib mb nT nI ev nm en lk hd H L W act mx none n D t it l r pN true pK pH pA w (w4.drewN q)) := by
                      obtain ⟨v, v2, h, h2, h3, h4⟩ := HC2b.out
                      exact ⟨v, v2, h.wrote ((Wrote.refl _ _).drewN _), fun e => (h2 e).wrote ((Wrote.refl _ _).drewN _), h3.wrote ((Wrote.refl _ _).drewN _), h4.drewN _⟩
                    have hsz : w4.heap.size = (w4.drewN q).heap.size := rfl
                    replace c11 : (w4.drewN q).cell? ⟨cb, 11, none⟩ = some (.pointer none) := c11
                    replace b1 : cb < (w4.drewN q).heap.size := b1
                    replace fc : (w4.drewN q).frozen? ⟨cb, 11, none⟩ = false := fc
                    rw [hsz]
                    clear hsz HC2b c1 c3 d1 d2
                    generalize w4.drewN q = w5 at *
                    go_wp2
                    go_meet
                    case rel =>
                      obtain ⟨v, v2, h, h2, h3, h4⟩ := HD.out
                      have hg : w5.heap.size ∉ [cb, tb, ib, mb] := fun hh => by have := h.lts _ hh; simp at this
                      have K : Wrote [cb, tb, ib, mb] w5 ((w5.setCell ⟨cb, 11, none⟩ (.pointer (some ⟨w5.heap.size, 0, none⟩))).alloc (.cells #[.int .i64 ev, .string (nm t), .string (nm r)] 53)) := ((Wrote.refl _ _).setCell (p := ⟨cb, 11, none⟩) (.inl (by simp)) _).alloc _
                      exact ⟨v, v2, _, (h.setDr _).wrote ((Wrote.refl _ _).alloc _), fun e => (h2 e).wrote K, fun _ => h3.wrote K, fun _ _ => rf_new (w1 := w5) (size_setCell _ _ _) hg, (fun e => by rcases e with e | e; cases e; exact absurd rfl e), h4.trans K⟩
                  | some a =>
                    go_wp2
                    go_meet
                    case rel =>
                      obtain ⟨v, v2, h, h2, h3, h4⟩ := HC2b.out
                      exact ⟨v, v2, some a, h, h2, fun _ => h3, (fun _ e => nomatch e), fun _ => rfl, h4⟩
              | false =>
                go_wp2
                go_meet
                case rel =>
                  obtain ⟨v, h, h2, h3⟩ := HC2.out
                  exact ⟨v, .slice none 0 0, dr, h, h2, (fun h => nomatch h), (fun h => nomatch h), fun _ => rfl, h3⟩
            case rest => as_aux_lemma =>
              rename World => w4
              have HC3 : Hid (C3 cb tb ib mb nT nI ev nm en lk hd H L W act mx dr n D t it l r pN pW pK pH pA w w4) := hcut
              clear hcut HC2
              have c6 : w4.cell? ⟨cb, 6, none⟩ = some (.map (some mb)) := by obtain ⟨v, v2, d, h, _⟩ := HC3.out; exact h.chk.cell (i := 6) (by omega)
              have ho : Hid (OwnM w4 mb n D) := by obtain ⟨v, v2, d, h, _⟩ := HC3.out; exact h.own
              go_wp2_with fail
              refine (lockKey_any t it w4 (by omega) (by omega)).mono ?_
              rintro e wx ⟨rfl, rfl⟩
              go_wp2_with fail
              refine (hasLocked_any cb mb n t it D wx c6 ho.out).mono ?_
              rintro e wy ⟨rfl, rfl⟩
              rw [HK.out]
              go_upto_if 116 with fail
              rename World => w5
              go_cut [] (fun wc => C4 cb tb ib mb nT nI ev nm en lk hd H L W act mx dr n D t it l r pN pW pK pH pA w wc)
              case first => as_aux_lemma =>
                cases pK with
                | true =>
                  go_wp2
                  go_meet
                  case rel =>
                    obtain ⟨v, v2, d, h, h2, h3, h4, h5, h6⟩ := HC3.out
                    have K : Wrote [cb, tb, ib, mb] w5 (w5.alloc (.cells #[] 49)) := (Wrote.refl _ _).alloc _
                    exact ⟨v, v2, .slice none 0 0, d, n, h.wrote ((Wrote.refl _ _).alloc _), fun e => (h2 e).wrote K, fun e => (h3 e).wrote K, (fun e => nomatch e), fun e f => (h4 e f).wrote K, h5, h6.trans K⟩
                | false =>
                  have hoA : Hid (OwnM (w5.alloc (.cells #[] 49)) mb n D) := ho.out.alloc _
                  have b1 : cb < w5.heap.size := by obtain ⟨v, v2, d, h, _⟩ := HC3.out; exact h.chk.lt
                  go_upto_region 12 with fail
                  go_cut [] (fun wc => C3m cb tb ib mb nT nI ev nm en lk hd H L W act mx dr n D t it l r pN pW false pH pA w wc)
                  case first => as_aux_lemma =>
                    go_wp2_with (at_mapUpdate; refine wpList_mapUpdate_own _ rfl _ _ _ 28 rfl 50 49 law50 Yba.underlying28 (unitElem (H := Unit)) mb n _ rfl hoA.out (by unfold maxLen; omega) _ _ _ rfl rfl (ky_key t it) _ [] unitElem_mk ?_; intro w6 hown1 hgrow1)
                    go_meet
                    case rel =>
                      obtain ⟨v, v2, d, h, h2, h3, h4, h5, h6⟩ := HC3.out
                      have K : Wrote [cb, tb, ib, mb] w5 w6 := ((Wrote.refl _ _).alloc (.cells #[] 49)).grown hgrow1 (fun k hk => by cases hk; exact .inl (by simp))
                      exact ⟨v, v2, d, (h.wrote ((Wrote.refl _ _).alloc (.cells #[] 49))).setMap hgrow1 hown1, fun e => (h2 e).wrote K, fun e => (h3 e).wrote K, fun e f => (h4 e f).wrote K, h5, h6.trans K⟩
                  case rest => as_aux_lemma =>
                    rename World => w6
                    have HC3m : Hid (C3m cb tb ib mb nT nI ev nm en lk hd H L W act mx dr n D t it l r pN pW false pH pA w w6) := hcut
                    clear hcut HC3 ho hoA c6 b1
                    have x5 : w6.cell? ⟨tb, t * 8 + 5, none⟩ = some (.slice none 0 0) := by obtain ⟨v, v2, d, h, _⟩ := HC3m.out; exact h.txs.cell ht (j := 5) (by omega)
                    have fz : ∀ i, w6.frozen? ⟨tb, i, none⟩ = false := fun i => by obtain ⟨v, v2, d, h, _⟩ := HC3m.out; exact h.txs.frozen i
                    have b2 : tb < w6.heap.size := by obtain ⟨v, v2, d, h, _⟩ := HC3m.out; exact h.txs.lt
                    go_wp2
                    go_meet
                    case rel =>
                      obtain ⟨v, v2, d, h, h2, h3, h4, h5, h6⟩ := HC3m.out
                      have K : ∀ x A B, Wrote [cb, tb, ib, mb] w6 (((w6.setCell ⟨tb, t * 8 + 5, none⟩ x).alloc A).alloc B).drew := fun x A B => ((((Wrote.refl _ _).setCell (p := ⟨tb, t * 8 + 5, none⟩) (.inl (by simp)) _).alloc _).alloc _).drew
                      exact ⟨v, v2, _, d, n + 1, (h.setItm t _).wrote (((Wrote.refl _ _).alloc _).alloc _).drew, fun e => (h2 e).wrote (K _ _ _), fun e => (h3 e).wrote (K _ _ _), fun _ => oneInt_app (w2 := w6.setCell _ _) h.lts (size_setCell _ _ _), fun e f => (h4 e f).wrote (K _ _ _), h5, h6.trans (K _ _ _)⟩
              case rest => as_aux_lemma =>
                rename World => w6
                have HC4 : Hid (C4 cb tb ib mb nT nI ev nm en lk hd H L W act mx dr n D t it l r pN pW pK pH pA w w6) := hcut
                clear hcut HC3 ho c6
                have i0 : w6.cell? ⟨ib, it * 4, none⟩ = some (.int .i64 (H it)) := by obtain ⟨v, v2, v3, d, n', h, _⟩ := HC4.out; exact h.its.cell0 hit (by omega)
                have x4 : w6.cell? ⟨tb, t * 8 + 4, none⟩ = some (.int .i64 (hd t)) := by obtain ⟨v, v2, v3, d, n', h, _⟩ := HC4.out; exact h.txs.cell ht (j := 4) (by omega)
                have c7 : w6.cell? ⟨cb, 7, none⟩ = some (.int .i64 act) := by obtain ⟨v, v2, v3, d, n', h, _⟩ := HC4.out; exact h.chk.cell (i := 7) (by omega)
                have c8 : w6.cell? ⟨cb, 8, none⟩ = some (.int .i64 mx) := by obtain ⟨v, v2, v3, d, n', h, _⟩ := HC4.out; exact h.chk.cell (i := 8) (by omega)
                have f1 : ∀ i, w6.frozen? ⟨tb, i, none⟩ = false := fun i => by obtain ⟨v, v2, v3, d, n', h, _⟩ := HC4.out; exact h.txs.frozen i
                have f2 : ∀ i, w6.frozen? ⟨ib, i, none⟩ = false := fun i => by obtain ⟨v, v2, v3, d, n', h, _⟩ := HC4.out; exact h.its.frozen i
                have f3 : ∀ i, w6.frozen? ⟨cb, i, none⟩ = false := fun i => by obtain ⟨v, v2, v3, d, n', h, _⟩ := HC4.out; exact h.chk.frozen i
                have ne2 : cb ≠ tb ∧ cb ≠ ib := by obtain ⟨v, v2, v3, d, n', h, _⟩ := HC4.out; exact ⟨(LS.ne1 h.nd).1, (LS.ne1 h.nd).2.1⟩
                obtain ⟨n1, n2⟩ := ne2
                cases pH with
                | true =>
                  have hh := HH.out rfl
                  cases pA with
                  | true =>
                    have h0 := (HA.out rfl).2
                    rw [h0] at x4
                    go_wp2
                    go_region
                    go_end0
                    obtain ⟨v, v2, v3, d, n', h, h2, h3, h4, h5, h6, h7⟩ := HC4.out
                    have K : ∀ x y z u, Wrote [cb, tb, ib, mb] w6 ((((w6.setCell ⟨ib, it * 4, none⟩ x).setCell ⟨tb, t * 8 + 4, none⟩ y).setCell ⟨cb, 7, none⟩ z).setCell ⟨cb, 8, none⟩ u).drew := fun x y z u => (((((Wrote.refl _ _).setCell (p := ⟨ib, it * 4, none⟩) (.inl (by simp)) _).setCell (p := ⟨tb, t * 8 + 4, none⟩) (.inl (by simp)) _).setCell (p := ⟨cb, 7, none⟩) (.inl (by simp)) _).setCell (p := ⟨cb, 8, none⟩) (.inl (by simp)) _).drew
                    have em : (if mx < act + 1 then act + 1 else mx) = max mx (act + 1) := by split <;> omega
                    rw [em, show (Value.int IntKind.i64 1) = .int .i64 (hd t + 1) from by rw [h0]; rfl]
                    exact ⟨rfl, v, v2, v3, d, n', ((((h.setH it t).setHd t _).setAct _).setMx _).wrote (Wrote.refl _ _).drew, fun e => (h2 e).wrote (K _ _ _ _), fun e => (h3 e).wrote (K _ _ _ _), fun e => (h4 e).wrote (K _ _ _ _), fun e f => (h5 e f).wrote (K _ _ _ _), h6, h7.trans (K _ _ _ _)⟩
                  | false =>
                    have h0 := HA'.out rfl rfl
                    have h1 : ((hd t : Int) + 1 == 1) = false := by simp; omega
                    go_wp2
                    go_end0
                    obtain ⟨v, v2, v3, d, n', h, h2, h3, h4, h5, h6, h7⟩ := HC4.out
                    have K : ∀ x y, Wrote [cb, tb, ib, mb] w6 ((w6.setCell ⟨ib, it * 4, none⟩ x).setCell ⟨tb, t * 8 + 4, none⟩ y) := fun x y => ((Wrote.refl _ _).setCell (p := ⟨ib, it * 4, none⟩) (.inl (by simp)) _).setCell (p := ⟨tb, t * 8 + 4, none⟩) (.inl (by simp)) _
                    exact ⟨rfl, v, v2, v3, d, n', (h.setH it t).setHd t _, fun e => (h2 e).wrote (K _ _), fun e => (h3 e).wrote (K _ _), fun e => (h4 e).wrote (K _ _), fun e f => (h5 e f).wrote (K _ _), h6, h7.trans (K _ _)⟩
                | false =>
                  have hh := HH'.out rfl
                  have ha : pA = false := by
                    cases pA with
                    | true => exact absurd (HA.out rfl).1 (by simp)
                    | false => rfl
                  subst ha
                  rw [hh] at i0
                  go_wp2
                  go_end0
                  obtain ⟨v, v2, v3, d, n', h, h2, h3, h4, h5, h6, h7⟩ := HC4.out
                  exact ⟨rfl, v, v2, v3, d, n', (fset_eq H it t hh).symm ▸ h, h2, h3, h4, h5, h6, h7⟩
end Go.Proofs.Ybulkbpui
