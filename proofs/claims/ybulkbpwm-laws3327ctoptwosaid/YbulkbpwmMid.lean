import Derived.Test.YbulkbpwmTail
import Derived.Test.YbulkbpwmCover
import Derived.Deep.DeepCutAuto
namespace Go.Proofs.Ybulkbpwm
open Go.ChangeShapes Go.WideShapes Go.ChangeAt Go.RowKit
set_option linter.unusedVariables false
set_option linter.unusedSimpArgs false

/-- A slice of integers of kind k whose first 'len' cells read F. -/
def SlK (k : IntKind) (w : World) (a : Option Addr) (len : Nat) (F : Nat → Int) : Prop :=
  len = 0 ∨ ∃ b off, a = some ⟨b, off, none⟩ ∧ b < w.heap.size ∧ ∀ i, i < len → w.cell? ⟨b, off + i, none⟩ = some (.int k (F i))
theorem SlK.later {k : IntKind} {w w' : World} {a : Option Addr} {len : Nat} {F : Nat → Int} {B : Nat} (h : SlK k w a len F) (hB : w.heap.size = B) (hb : Below B w w') : SlK k w' a len F := by
  subst hB
  rcases h with h | ⟨b, off, rfl, hlt, hc⟩
  · exact .inl h
  · exact .inr ⟨b, off, rfl, Nat.lt_of_lt_of_le hlt hb.size, fun i hi => by rw [hb.cell (p := ⟨b, off + i, none⟩) hlt]; exact hc i hi⟩

/-- What newCoverSearch has made, and the fills leave. -/
structure Made (n W N S bw bb bt bm bg br be : Nat) (T M G R : Nat → Int) (w0 w : World) : Prop where
  nd : [S, bw, bb, bt, bm, bg, br, be].Nodup
  ge : ∀ b ∈ [S, bw, bb, bt, bm, bg, br, be], w0.heap.size ≤ b ∧ b < w.heap.size
  bel : Below w0.heap.size w0 w
  s0 : w.cell? ⟨S, 0, none⟩ = some (.int .i64 (n : Int))
  s2 : w.cell? ⟨S, 2, none⟩ = some (.int .i64 (W : Int))
  s5 : w.cell? ⟨S, 5, none⟩ = some (.slice (some ⟨bw, 0, none⟩) n n)
  s6 : w.cell? ⟨S, 6, none⟩ = some (.slice (some ⟨bb, 0, none⟩) n n)
  s9 : w.cell? ⟨S, 9, none⟩ = some (.slice none 0 0)
  s10 : w.cell? ⟨S, 10, none⟩ = some (.slice (some ⟨bt, 0, none⟩) n n)
  s14 : w.cell? ⟨S, 14, none⟩ = some (.slice (some ⟨bm, 0, none⟩) W W)
  s15 : w.cell? ⟨S, 15, none⟩ = some (.slice (some ⟨bg, 0, none⟩) 4 4)
  s29 : w.cell? ⟨S, 29, none⟩ = some (.slice (some ⟨be, 0, none⟩) W W)
  g0 : w.cell? ⟨bg, 0, none⟩ = some (.slice (some ⟨br, 0, none⟩) N N)
  word : w.rowIs bw 3 n (fun i => .int .i64 (woF n i))
  bit : w.rowIs bb 47 n (fun i => .int .u64 (boF n i))
  tak : w.rowIs bt 5 n (fun i => .int .u8 (T i))
  mis : w.rowIs bm 47 W (fun i => .int .u64 (M i))
  row : w.rowIs br 47 N (fun i => .int .u64 (G i))
  rest : w.rowIs be 47 W (fun i => .int .u64 (R i))
theorem Made.ne {n W N S bw bb bt bm bg br be : Nat} {T M G R : Nat → Int} {w0 w : World} (h : Made n W N S bw bb bt bm bg br be T M G R w0 w) {a b : Nat} (i j : Nat) (hi : [S, bw, bb, bt, bm, bg, br, be][i]? = some a) (hj : [S, bw, bb, bt, bm, bg, br, be][j]? = some b) (hij : i ≠ j) : a ≠ b := nodup_ne h.nd i j hi hj hij
/-- A store into gain row 0. -/
theorem Made.setRow {n W N S bw bb bt bm bg br be : Nat} {T M G R : Nat → Int} {w0 w : World} (h : Made n W N S bw bb bt bm bg br be T M G R w0 w) (q : Nat) (x : Int) :
    Made n W N S bw bb bt bm bg br be T M (fun i => if i = q then x else G i) R w0 (w.setCell ⟨br, q, none⟩ (.int .u64 x)) := by
  have hw : Wrote [br] w (w.setCell ⟨br, q, none⟩ (.int .u64 x)) := (Wrote.refl _ _).setCell (.inl (by simp)) _
  have b1 : w0.heap.size ≤ br := (h.ge br (by simp)).1
  refine ⟨h.nd, fun b hb => ⟨(h.ge b hb).1, by simpa [World.setCell] using (h.ge b hb).2⟩, h.bel.setCell b1 _, hw.cell_of h.s0 ?_, hw.cell_of h.s2 ?_, hw.cell_of h.s5 ?_, hw.cell_of h.s6 ?_, hw.cell_of h.s9 ?_, hw.cell_of h.s10 ?_, hw.cell_of h.s14 ?_, hw.cell_of h.s15 ?_, hw.cell_of h.s29 ?_, hw.cell_of h.g0 ?_, hw.row h.word ?_, hw.row h.bit ?_, hw.row h.tak ?_, hw.row h.mis ?_, rowIs_setInt h.row q x, hw.row h.rest ?_⟩
  all_goals simp only [List.mem_singleton]
  all_goals first | exact h.ne 0 6 rfl rfl (by decide) | exact h.ne 1 6 rfl rfl (by decide) | exact h.ne 2 6 rfl rfl (by decide) | exact h.ne 3 6 rfl rfl (by decide) | exact h.ne 4 6 rfl rfl (by decide) | exact h.ne 5 6 rfl rfl (by decide) | exact h.ne 7 6 rfl rfl (by decide)
/-- A store into the missing set. -/
theorem Made.setMis {n W N S bw bb bt bm bg br be : Nat} {T M G R : Nat → Int} {w0 w : World} (h : Made n W N S bw bb bt bm bg br be T M G R w0 w) (q : Nat) (x : Int) :
    Made n W N S bw bb bt bm bg br be T (fun i => if i = q then x else M i) G R w0 (w.setCell ⟨bm, q, none⟩ (.int .u64 x)) := by
  have hw : Wrote [bm] w (w.setCell ⟨bm, q, none⟩ (.int .u64 x)) := (Wrote.refl _ _).setCell (.inl (by simp)) _
  have b1 : w0.heap.size ≤ bm := (h.ge bm (by simp)).1
  refine ⟨h.nd, fun b hb => ⟨(h.ge b hb).1, by simpa [World.setCell] using (h.ge b hb).2⟩, h.bel.setCell b1 _, hw.cell_of h.s0 ?_, hw.cell_of h.s2 ?_, hw.cell_of h.s5 ?_, hw.cell_of h.s6 ?_, hw.cell_of h.s9 ?_, hw.cell_of h.s10 ?_, hw.cell_of h.s14 ?_, hw.cell_of h.s15 ?_, hw.cell_of h.s29 ?_, hw.cell_of h.g0 ?_, hw.row h.word ?_, hw.row h.bit ?_, hw.row h.tak ?_, rowIs_setInt h.mis q x, hw.row h.row ?_, hw.row h.rest ?_⟩
  all_goals simp only [List.mem_singleton]
  all_goals first | exact h.ne 0 4 rfl rfl (by decide) | exact h.ne 1 4 rfl rfl (by decide) | exact h.ne 2 4 rfl rfl (by decide) | exact h.ne 3 4 rfl rfl (by decide) | exact h.ne 5 4 rfl rfl (by decide) | exact h.ne 6 4 rfl rfl (by decide) | exact h.ne 7 4 rfl rfl (by decide)
/-- A store into the taken counts. -/
theorem Made.setTak {n W N S bw bb bt bm bg br be : Nat} {T M G R : Nat → Int} {w0 w : World} (h : Made n W N S bw bb bt bm bg br be T M G R w0 w) (q : Nat) (x : Int) :
    Made n W N S bw bb bt bm bg br be (fun i => if i = q then x else T i) M G R w0 (w.setCell ⟨bt, q, none⟩ (.int .u8 x)) := by
  have hw : Wrote [bt] w (w.setCell ⟨bt, q, none⟩ (.int .u8 x)) := (Wrote.refl _ _).setCell (.inl (by simp)) _
  have b1 : w0.heap.size ≤ bt := (h.ge bt (by simp)).1
  refine ⟨h.nd, fun b hb => ⟨(h.ge b hb).1, by simpa [World.setCell] using (h.ge b hb).2⟩, h.bel.setCell b1 _, hw.cell_of h.s0 ?_, hw.cell_of h.s2 ?_, hw.cell_of h.s5 ?_, hw.cell_of h.s6 ?_, hw.cell_of h.s9 ?_, hw.cell_of h.s10 ?_, hw.cell_of h.s14 ?_, hw.cell_of h.s15 ?_, hw.cell_of h.s29 ?_, hw.cell_of h.g0 ?_, hw.row h.word ?_, hw.row h.bit ?_, rowIs_setInt h.tak q x, hw.row h.mis ?_, hw.row h.row ?_, hw.row h.rest ?_⟩
  all_goals simp only [List.mem_singleton]
  all_goals first | exact h.ne 0 3 rfl rfl (by decide) | exact h.ne 1 3 rfl rfl (by decide) | exact h.ne 2 3 rfl rfl (by decide) | exact h.ne 4 3 rfl rfl (by decide) | exact h.ne 5 3 rfl rfl (by decide) | exact h.ne 6 3 rfl rfl (by decide) | exact h.ne 7 3 rfl rfl (by decide)
/-- Nothing that was there has been written. -/
theorem Made.later {n W N S bw bb bt bm bg br be : Nat} {T M G R : Nat → Int} {w0 w w' : World} (h : Made n W N S bw bb bt bm bg br be T M G R w0 w) (hw : Wrote [] w w') : Made n W N S bw bb bt bm bg br be T M G R w0 w' :=
  ⟨h.nd, fun b hb => ⟨(h.ge b hb).1, Nat.lt_of_lt_of_le (h.ge b hb).2 hw.size⟩, h.bel.trans (hw.below h.bel.size (by simp)), hw.cell_of h.s0 (by simp), hw.cell_of h.s2 (by simp), hw.cell_of h.s5 (by simp), hw.cell_of h.s6 (by simp), hw.cell_of h.s9 (by simp), hw.cell_of h.s10 (by simp), hw.cell_of h.s14 (by simp), hw.cell_of h.s15 (by simp), hw.cell_of h.s29 (by simp), hw.cell_of h.g0 (by simp), hw.row h.word (by simp), hw.row h.bit (by simp), hw.row h.tak (by simp), hw.row h.mis (by simp), hw.row h.row (by simp), hw.row h.rest (by simp)⟩
theorem Made.drew {n W N S bw bb bt bm bg br be : Nat} {T M G R : Nat → Int} {w0 w : World} (h : Made n W N S bw bb bt bm bg br be T M G R w0 w) : Made n W N S bw bb bt bm bg br be T M G R w0 w.drew := h.later (Wrote.refl _ _).drew


set_option maxRecDepth 100000 in
def frT (want : Int) (S br bl g1 g2 g3 c1 c2 c3 n W N L u : Nat) (c : Nat → Value) : Act := ⟨#[c 0, c 1, .int .i64 want, c 3, c 4, c 5, c 6, c 7, c 8, c 9, c 10, c 11, c 12, c 13, c 14, .int .i64 n, .pointer (some ⟨S, 0, none⟩), .int .i64 W, .slice (some ⟨br, 0, none⟩) N N, c 19, c 20, c 21, .slice (some ⟨bl, 0, none⟩) L L, c 23, c 24, .int .i64 u, .slice (some ⟨g1, 0, none⟩) W c1, .slice (some ⟨g2, 0, none⟩) N c2, .slice (some ⟨g3, 0, none⟩) n c3, c 29, c 30, c 31, c 32, c 33, c 34, c 35, c 36, c 37, c 38, c 39, c 40, c 41, c 42, c 43, c 44, c 45, c 46, c 47, c 48, c 49, c 50, c 51, c 52, c 53, c 54, c 55, c 56, c 57, c 58, c 59, c 60, c 61, c 62, c 63, c 64, c 65, c 66, c 67, c 68, c 69, c 70, c 71, c 72, c 73, c 74, c 75, c 76, c 77, c 78, c 79, c 80, c 81, c 82, c 83, c 84, c 85, c 86, c 87, c 88, c 89, c 90, c 91, c 92, c 93, c 94, c 95, c 96, c 97, c 98, c 99, c 100, c 101, c 102, c 103, c 104, c 105, c 106, c 107, c 108, c 109, c 110, c 111, c 112, c 113, c 114, c 115, c 116, c 117, c 118, c 119, c 120, c 121, c 122, c 123, c 124, c 125, c 126, c 127, c 128, c 129, c 130, c 131, c 132, c 133, c 134, c 135, c 136, c 137, c 138, c 139, c 140, c 141, c 142, c 143, c 144, c 145, c 146, c 147, c 148, c 149, c 150, c 151, c 152, c 153, c 154, c 155, c 156, c 157, c 158, c 159, c 160, c 161, c 162, c 163, c 164, c 165, c 166, c 167, c 168, c 169, c 170, c 171, c 172, c 173, c 174, c 175, c 176, c 177, c 178, c 179, c 180, c 181, c 182, c 183, c 184, c 185, c 186, c 187, c 188, c 189, c 190, c 191, c 192, c 193, c 194, c 195, c 196, c 197, c 198, c 199, c 200, c 201, c 202, c 203, c 204, c 205, c 206, c 207, c 208, c 209, c 210, c 211, c 212, c 213, c 214, c 215, c 216, c 217, c 218, c 219, c 220, c 221, c 222, c 223, c 224, c 225, c 226, c 227, c 228, c 229, c 230, c 231, c 232, c 233, c 234, c 235, c 236, c 237, c 238, c 239, c 240, c 241, c 242, c 243, c 244, c 245, c 246, c 247, c 248, c 249, c 250, c 251, c 252, c 253, c 254, c 255, c 256, c 257, c 258, c 259, c 260, c 261, c 262, c 263, c 264, c 265, c 266, c 267, c 268, c 269, c 270, c 271, c 272, c 273, c 274, c 275, c 276, c 277, c 278, c 279, c 280, c 281, c 282, c 283, c 284, c 285, c 286, c 287, c 288, c 289, c 290, c 291, c 292, c 293, c 294, c 295, c 296, c 297, c 298, c 299, c 300, c 301, c 302, c 303, c 304, c 305, c 306, c 307, c 308, c 309, c 310, c 311, c 312, c 313, c 314, c 315, c 316, c 317, c 318, c 319, c 320, c 321, c 322, c 323, c 324, c 325, c 326, c 327, c 328, c 329, c 330, c 331, c 332, c 333, c 334, c 335, c 336, c 337], []⟩
set_option maxRecDepth 100000 in
def frM (a1 want : Int) (a3 : Option Addr) (S br n W N L c3 : Nat) (c : Nat → Value) : Act := ⟨#[c 0, .int .u8 a1, .int .i64 want, .slice a3 L c3, c 4, c 5, c 6, c 7, c 8, c 9, c 10, c 11, c 12, c 13, c 14, .int .i64 n, .pointer (some ⟨S, 0, none⟩), .int .i64 W, .slice (some ⟨br, 0, none⟩) N N, c 19, c 20, c 21, c 22, c 23, c 24, c 25, c 26, c 27, c 28, c 29, c 30, c 31, c 32, c 33, c 34, c 35, c 36, c 37, c 38, c 39, c 40, c 41, c 42, c 43, c 44, c 45, c 46, c 47, c 48, c 49, c 50, c 51, c 52, c 53, c 54, c 55, c 56, c 57, c 58, c 59, c 60, c 61, c 62, c 63, c 64, c 65, c 66, c 67, c 68, c 69, c 70, c 71, c 72, c 73, c 74, c 75, c 76, c 77, c 78, c 79, c 80, c 81, c 82, c 83, c 84, c 85, c 86, c 87, c 88, c 89, c 90, c 91, c 92, c 93, c 94, c 95, c 96, c 97, c 98, c 99, c 100, c 101, c 102, c 103, c 104, c 105, c 106, c 107, c 108, c 109, c 110, c 111, c 112, c 113, c 114, c 115, c 116, c 117, c 118, c 119, c 120, c 121, c 122, c 123, c 124, c 125, c 126, c 127, c 128, c 129, c 130, c 131, c 132, c 133, c 134, c 135, c 136, c 137, c 138, c 139, c 140, c 141, c 142, c 143, c 144, c 145, c 146, c 147, c 148, c 149, c 150, c 151, c 152, c 153, c 154, c 155, c 156, c 157, c 158, c 159, c 160, c 161, c 162, c 163, c 164, c 165, c 166, c 167, c 168, c 169, c 170, c 171, c 172, c 173, c 174, c 175, c 176, c 177, c 178, c 179, c 180, c 181, c 182, c 183, c 184, c 185, c 186, c 187, c 188, c 189, c 190, c 191, c 192, c 193, c 194, c 195, c 196, c 197, c 198, c 199, c 200, c 201, c 202, c 203, c 204, c 205, c 206, c 207, c 208, c 209, c 210, c 211, c 212, c 213, c 214, c 215, c 216, c 217, c 218, c 219, c 220, c 221, c 222, c 223, c 224, c 225, c 226, c 227, c 228, c 229, c 230, c 231, c 232, c 233, c 234, c 235, c 236, c 237, c 238, c 239, c 240, c 241, c 242, c 243, c 244, c 245, c 246, c 247, c 248, c 249, c 250, c 251, c 252, c 253, c 254, c 255, c 256, c 257, c 258, c 259, c 260, c 261, c 262, c 263, c 264, c 265, c 266, c 267, c 268, c 269, c 270, c 271, c 272, c 273, c 274, c 275, c 276, c 277, c 278, c 279, c 280, c 281, c 282, c 283, c 284, c 285, c 286, c 287, c 288, c 289, c 290, c 291, c 292, c 293, c 294, c 295, c 296, c 297, c 298, c 299, c 300, c 301, c 302, c 303, c 304, c 305, c 306, c 307, c 308, c 309, c 310, c 311, c 312, c 313, c 314, c 315, c 316, c 317, c 318, c 319, c 320, c 321, c 322, c 323, c 324, c 325, c 326, c 327, c 328, c 329, c 330, c 331, c 332, c 333, c 334, c 335, c 336, c 337], []⟩

theorem tail_wrap (pop : Int → Int) (hpop : PopOK pop) (S bb bw bt bm bg br be bl g1 g2 g3 c1 c2 c3 n W N L u : Nat) (want : Int) (T M G R : Nat → Int) (lv : Nat → Nat) (w0 w : World) (a : Act)
    (ha : a = frT want S br bl g1 g2 g3 c1 c2 c3 n W N L u (fun i => a.tmps.getD i undef))
    (hm : TwoMem S bw bb bt bm bg br be bl n W N L (woF n) (boF n) T M G lv w) (hr : w.rowIs be 47 W (fun i => .int .u64 (R i)))
    (hBe : S ∉ [be] ∧ bw ∉ [be] ∧ bb ∉ [be] ∧ bt ∉ [be] ∧ bm ∉ [be] ∧ bg ∉ [be] ∧ br ∉ [be] ∧ bl ∉ [be])
    (k1 : ∀ i, i < W → w.cell? ⟨g1, i, none⟩ = some (.int .u64 (M i))) (k2 : ∀ i, i < N → w.cell? ⟨g2, i, none⟩ = some (.int .u64 (G i))) (k3 : ∀ i, i < n → w.cell? ⟨g3, i, none⟩ = some (.int .u8 (T i)))
    (hg1 : g1 ≠ be) (hg2 : g2 ≠ be) (hg3 : g3 ≠ be) (hc2 : N ≤ c2) (hbe : w0.heap.size ≤ be) (hbel : Below w0.heap.size w0 w)
    (hn : 2 ≤ n ∧ n ≤ 200) (hW : 1 ≤ W ∧ W ≤ 2) (hN : n * W = N) (hu : u < n) (hL : L ≤ 1024) (hlv : ∀ i, i < L → lv i < n) :
    Code.wp Yba.prog ((Yba.f8.body.bind (fromRegion 34)).getD .skip) (bodyPost Yba.prog Yba.f8 fun e w' => e = .returned (.bool true) ∧ Below w0.heap.size w0 w') a w := by
  obtain ⟨c, hc⟩ : ∃ c, a = frT want S br bl g1 g2 g3 c1 c2 c3 n W N L u c := ⟨_, ha⟩
  subst hc
  exact tail_any pop hpop S bb bw bt bm bg br be bl g1 g2 g3 c1 c2 c3 n W N L u want T M G R lv w0 w c hm hr hBe k1 k2 k3 hg1 hg2 hg3 hc2 hbe hbel hn hW hN hu hL hlv

set_option maxRecDepth 100000 in
set_option maxHeartbeats 4000000 in
theorem mid_any (a1 want : Int) (a3 : Option Addr) (S bw bb bt bm bg br be n W N L c3 u : Nat) (T M G R X : Nat → Int) (w0 w : World) (a : Act)
    (ha : a = frM a1 want a3 S br n W N L c3 (fun i => a.tmps.getD i undef))
    (hM : Made n W N S bw bb bt bm bg br be T M G R w0 w) (k3 : SlK .u8 w0 a3 L X) (hX : ∀ i, i < L → 0 ≤ X i ∧ X i ≤ 255) (b1 : 0 ≤ a1 ∧ a1 ≤ 255)
    (hn : 2 ≤ n ∧ n ≤ 200) (hW : 1 ≤ W ∧ W ≤ 2) (hN : n * W = N) (huu : a1 % (n : Int) = (u : Int)) (hL : L ≤ 1024) :
    Code.wp Yba.prog ((Yba.f8.body.bind (fromRegion 24)).getD .skip) (bodyPost Yba.prog Yba.f8 fun e w' => e = .returned (.bool true) ∧ Below w0.heap.size w0 w') a w := by
  obtain ⟨c, hc⟩ : ∃ c, a = frM a1 want a3 S br n W N L c3 c := ⟨_, ha⟩
  subst hc
  clear ha
  have HM : Hid (Made n W N S bw bb bt bm bg br be T M G R w0 w) := hM
  have K3 : Hid (SlK .u8 w0 a3 L X) := k3
  have HX : Hid (∀ i, i < L → 0 ≤ X i ∧ X i ≤ 255) := hX
  have HNN : Hid (n * W = N) := hN
  have hu : u < n := by have := Int.emod_lt_of_pos a1 (show (0 : Int) < n by omega); omega
  have hN400 : N ≤ 400 := by rw [← hN]; exact Nat.le_trans (Nat.mul_le_mul hn.2 hW.2) (by omega)
  have hN2 : 2 ≤ N := by rw [← hN]; exact Nat.le_trans (by omega) (Nat.mul_le_mul hn.1 hW.1)
  clear hM k3 hX hN
  have mL := run_make_row' (P := Yba.prog) 22 3 (.int .i64 0) 8 Yba.underlying22 info3 rfl .i64 .i64 L (by omega) (by omega)
  unfold frM
  conv => arg 2; whnf
  go_wp2_with fail
  clear mL
  go_loopg [152] L (fun gk iv wr => ∃ i : Nat, i + gk = L ∧ iv = .int .i64 i ∧ Wrote [] w wr ∧ wr.rowIs w.heap.size 3 L (fun j => .int .i64 (if j < i then X j % (n : Int) else 0)))
  case atStart => exact ⟨0, by omega, rfl, (Wrote.refl _ _).alloc _, (World.rowIs_made w _ L 3).congr (fun j hj => by simp)⟩
  case round =>
    obtain ⟨i, hi, rfl, hwr, hrow⟩ := hrel
    have HWR : Hid (Wrote [] w wr) := hwr
    have HR : Hid (wr.rowIs w.heap.size 3 L (fun j => .int .i64 (if j < i then X j % (n : Int) else 0))) := hrow
    clear hwr hrow
    by_cases hiL : i < L
    · rcases K3.out with hz | ⟨b3, o3, rfl, hlt3, hc3⟩
      · omega
      have cx : wr.cell? ⟨b3, o3 + i, none⟩ = some (.int .u8 (X i)) := by
        have h1 := hc3 i hiL
        have h2 : w.cell? ⟨b3, o3 + i, none⟩ = some (.int .u8 (X i)) := by rw [HM.out.bel.cell (p := ⟨b3, o3 + i, none⟩) hlt3]; exact h1
        exact HWR.out.cell_of h2 (by simp)
      have hxi := HX.out i hiL
      have cr := HR.out.cell hiL
      have fr := HR.out.frozen i
      clear hc3
      go_wp2
      go_roundg (L - (i + 1))
      case measure => omega
      case rel => exact ⟨i + 1, by omega, by go_num, HWR.out.setCell (.inr (Nat.le_refl _)) _, (rowIs_setInt HR.out i (X i % (n : Int))).congr (fun j hj => by
          by_cases e : j = i
          · subst e; simp
          · simp [e, show (j < i + 1) ↔ (j < i) from by omega])⟩
    · obtain ⟨lv, hlv⟩ : ∃ lv : Nat → Nat, ∀ j, j < L → X j % (n : Int) = (lv j : Int) := ⟨fun j => (X j % (n : Int)).toNat, fun j _ => by show X j % (n : Int) = ((X j % (n : Int)).toNat : Int); have := Int.emod_nonneg (X j) (show (n : Int) ≠ 0 by omega); omega⟩
      have HLV : Hid ((∀ j, j < L → lv j < n) ∧ ∀ j, j < L → wr.cell? ⟨w.heap.size, j, none⟩ = some (.int .i64 (lv j : Int))) := by
        refine ⟨fun j hj => ?_, fun j hj => ?_⟩
        · have h1 := hlv j hj
          have h2 := Int.emod_lt_of_pos (X j) (show (0 : Int) < n by omega)
          omega
        · have h1 := HR.out.cell hj
          rw [if_pos (by omega), hlv j hj] at h1
          exact h1
      clear hlv HR K3
      have HM2 : Hid (Made n W N S bw bb bt bm bg br be T M G R w0 wr) := HM.out.later HWR.out
      have hle : w.heap.size < wr.heap.size ∨ L = 0 := by
        by_cases h : L = 0
        · exact .inr h
        · exact .inl (World.block_lt_of_cell? _ _ (HLV.out.2 0 (by omega)))
      have hsz := HWR.out.size
      have HM0 := HM
      clear HM
      have e14 := HM2.out.s14
      have e10 := HM2.out.s10
      rename World => w2
      go_wp2_with fail
      refine (clone64 bm W W M _ (by omega) (by omega) (rowIs_cells HM2.out.mis)).mono ?_
      rintro e w3 ⟨g1, c1, rfl, hg1, hc1, hk1, hb1⟩
      have HM3 : Hid (Made n W N S bw bb bt bm bg br be T M G R w0 w3) := HM2.out.later (Wrote.ofBelow hb1)
      have H1 : Hid (∀ i, i < W → w3.cell? ⟨g1, i, none⟩ = some (.int .u64 (M i))) := hk1
      have B1 : Hid (Below w2.heap.size w2 w3) := hb1
      clear hk1 hb1
      go_wp2_with fail
      refine (clone64 br N N G _ (by omega) (by omega) (rowIs_cells HM3.out.row)).mono ?_
      rintro e w4 ⟨g2, c2, rfl, hg2, hc2, hk2, hb2⟩
      have HM4 : Hid (Made n W N S bw bb bt bm bg br be T M G R w0 w4) := HM3.out.later (Wrote.ofBelow hb2)
      have H2 : Hid (∀ i, i < N → w4.cell? ⟨g2, i, none⟩ = some (.int .u64 (G i))) := hk2
      have B2 : Hid (Below w3.heap.size w3 w4) := hb2
      clear hk2 hb2
      have f10 := HM4.out.s10
      go_upto_region 33 with fail
      go_cut [28] (fun v wc => ∃ g3 c5, v = .slice (some ⟨g3, 0, none⟩) n c5 ∧ w4.heap.size ≤ g3 ∧ (∀ i, i < n → wc.cell? ⟨g3, i, none⟩ = some (.int .u8 (T i))) ∧ Below w4.heap.size w4 wc)
      case first =>
        go_wp2_with fail
        refine (clone8 bt n n T _ (by omega) (by omega) (rowIs_cells HM4.out.tak)).mono ?_
        rintro e w5 ⟨g3, c5, rfl, hg3, hc5, hk3, hb3⟩
        have H3 : Hid ((∀ i, i < n → w5.cell? ⟨g3, i, none⟩ = some (.int .u8 (T i))) ∧ Below w4.heap.size w4 w5) := ⟨hk3, hb3⟩
        clear hk3 hb3
        go_wp2
        go_meet
        case rel => exact ⟨g3, c5, rfl, hg3, H3.out⟩
      case rest =>
        obtain ⟨g3, c5, rfl, hg3, hk3, hb3⟩ := hcut
        rename ∀ (a : Act) (w : World), Code.wp Yba.prog _ _ a w → _ => hK
        refine hK _ _ ?_
        have HM5 : Made n W N S bw bb bt bm bg br be T M G R w0 wc := HM4.out.later (Wrote.ofBelow hb3)
        have b15 : Below w2.heap.size w2 wc := B1.out.trans ((B2.out.mono B1.out.size).trans (hb3.mono (Nat.le_trans B1.out.size B2.out.size)))
        have b25 : Below w3.heap.size w3 wc := B2.out.trans (hb3.mono B2.out.size)
        have hbe := (HM5.ge be (by simp)).1
        have hbe2 : be < w.heap.size := HM0.out.rest.lt
        have s12 := B1.out.size
        have s23 := B2.out.size
        refine wp_same (c' := (Yba.f8.body.bind (fromRegion 34)).getD .skip) (by kernel_rfl) rfl (tail_wrap popF popF_ok S bb bw bt bm bg br be w.heap.size g1 g2 g3 c1 c2 c5 n W N L u want T M G R lv w0 _ _ (by kernel_rfl) ?_ HM5.rest ?_ ?_ ?_ hk3 (by omega) (by omega) (by omega) hc2 hbe HM5.bel hn hW HNN.out hu hL HLV.out.1)
        · refine ⟨HM5.s0, HM5.s2, HM5.s5, HM5.s6, HM5.s9, HM5.s10, HM5.s14, HM5.s15, HM5.s29, HM5.g0, rowIs_cells HM5.word, rowIs_cells HM5.bit, rowIs_cells HM5.tak, rowIs_cells HM5.mis, rowIs_cells HM5.row, fun i hi => ?_⟩
          have hl : w.heap.size < w2.heap.size := by omega
          rw [b15.cell (p := ⟨w.heap.size, i, none⟩) hl]
          exact HLV.out.2 i hi
        · simp only [List.mem_singleton]
          exact ⟨HM5.ne 0 7 rfl rfl (by decide), HM5.ne 1 7 rfl rfl (by decide), HM5.ne 2 7 rfl rfl (by decide), HM5.ne 3 7 rfl rfl (by decide), HM5.ne 4 7 rfl rfl (by decide), HM5.ne 5 7 rfl rfl (by decide), HM5.ne 6 7 rfl rfl (by decide), by omega⟩
        · intro i hi
          have h1 := H1.out i hi
          have hl : g1 < w3.heap.size := World.block_lt_of_cell? _ _ h1
          rw [b25.cell (p := ⟨g1, i, none⟩) hl]
          exact h1
        · intro i hi
          have h1 := H2.out i hi
          have hl : g2 < w4.heap.size := World.block_lt_of_cell? _ _ h1
          rw [hb3.cell (p := ⟨g2, i, none⟩) hl]
          exact h1
end Go.Proofs.Ybulkbpwm
