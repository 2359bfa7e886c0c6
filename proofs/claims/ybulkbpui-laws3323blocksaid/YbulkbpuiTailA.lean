import Derived.Test.YbulkbpuiTailB
import Derived.RegionTactic
import Derived.BigRegion
import Derived.BigQuiet
import Derived.Maps.Views
import Derived.Deep.RegionWith
import Derived.Deep.RegionHeld3
namespace Go.Proofs.Ybulkbpui
open Go.ChangeShapes Go.WideShapes Go.ChangeAt Go.RowKit
open Go.Maps
set_option linter.unusedVariables false
set_option linter.unusedSimpArgs false

/-- The code from a test on. -/
def fromTest (id : Nat) : Code → Option Code
  | .seq (.seq (.region i ops b) c1) c2 => if i = id then some (.seq (.seq (.region i ops b) c1) c2) else fromTest id c2
  | .seq _ c => fromTest id c
  | _ => none
set_option maxRecDepth 100000 in
def frB (ev act mx : Int) (dp : Bool) (nI cb : Nat) (dr : Option Addr) (t it st nT cT si cI ob : Nat) (gb : Nat) (pW : Bool) (c : Nat → Value) : Act := ⟨#[c 0, c 1, c 2, c 3, c 4, .int .i32 ev, .int .i16 act, .int .i16 mx, .bool dp, c 9, c 10, c 11, c 12, c 13, c 14, c 15, c 16, c 17, c 18, c 19, .int .i64 nI, .pointer (some ⟨cb, 0, none⟩), c 22, c 23, c 24, c 25, c 26, c 27, .pointer dr, .int .i64 t, .int .i64 it, .slice (some ⟨st, 0, none⟩) nT cT, .slice (some ⟨si, 0, none⟩) nI cI, .pointer (some ⟨ob, 0, none⟩), c 34, c 35, c 36, c 37, c 38, c 39, c 40, .pointer (some ⟨gb, 0, none⟩), .bool pW, c 43, c 44, c 45, c 46, c 47, c 48, c 49, c 50, c 51, c 52, c 53, c 54, c 55, c 56, c 57, c 58, c 59, c 60, c 61, c 62, c 63, c 64, c 65, c 66, c 67, c 68, c 69, c 70, c 71, c 72, c 73, c 74, c 75, c 76, c 77, c 78, c 79, c 80, c 81, c 82, c 83, c 84, c 85, c 86, c 87, c 88, c 89, c 90, c 91, c 92, c 93, c 94, c 95, c 96, c 97, c 98, c 99, c 100, c 101, c 102, c 103, c 104, c 105, c 106, c 107, c 108, c 109, c 110, c 111, c 112, c 113, c 114, c 115, c 116, c 117, c 118, c 119, c 120, c 121, c 122, c 123, c 124, c 125, c 126, c 127, c 128, c 129, c 130, c 131, c 132, c 133, c 134, c 135, c 136, c 137, c 138, c 139, c 140, c 141, c 142, c 143, c 144, c 145, c 146, c 147, c 148, c 149, c 150, c 151, c 152, c 153, c 154, c 155, c 156, c 157, c 158, c 159, c 160, c 161, c 162, c 163, c 164, c 165, c 166, c 167, c 168, c 169, c 170, c 171, c 172, c 173, c 174, c 175, c 176, c 177, c 178, c 179, c 180, c 181, c 182, c 183, c 184, c 185, c 186, c 187, c 188, c 189, c 190, c 191, c 192, c 193, c 194, c 195, c 196, c 197, c 198, c 199, c 200, c 201, c 202, c 203, c 204, c 205, c 206, c 207, c 208, c 209, c 210, c 211, c 212, c 213, c 214, c 215, c 216, c 217, c 218, c 219, c 220, c 221, c 222, c 223, c 224, c 225, c 226, c 227, c 228, c 229, c 230, c 231, c 232, c 233, c 234, c 235, c 236, c 237, c 238, c 239, c 240, c 241, c 242, c 243, c 244, c 245, c 246, c 247, c 248, c 249, c 250, c 251, c 252, c 253, c 254, c 255, c 256, c 257, c 258, c 259, c 260, c 261, c 262, c 263, c 264, c 265, c 266, c 267, c 268, c 269, c 270, c 271, c 272, c 273, c 274, c 275, c 276, c 277, c 278, c 279, c 280, c 281, c 282, c 283, c 284, c 285, c 286, c 287, c 288, c 289, c 290, c 291, c 292, c 293, c 294, c 295, c 296, c 297, c 298, c 299, c 300, c 301, c 302, c 303, c 304, c 305, c 306, c 307, c 308, c 309, c 310, c 311, c 312, c 313, c 314, c 315, c 316, c 317, c 318, c 319, c 320, c 321, c 322, c 323, c 324, c 325, c 326, c 327, c 328, c 329, c 330, c 331, c 332, c 333, c 334, c 335, c 336, c 337, c 338, c 339, c 340, c 341, c 342, c 343, c 344, c 345, c 346, c 347, c 348, c 349, c 350, c 351, c 352, c 353, c 354, c 355, c 356, c 357, c 358, c 359, c 360, c 361, c 362, c 363, c 364, c 365, c 366, c 367, c 368, c 369, c 370, c 371, c 372, c 373, c 374, c 375, c 376, c 377, c 378, c 379, c 380, c 381, c 382, c 383, c 384, c 385, c 386, c 387, c 388, c 389, c 390, c 391, c 392, c 393, c 394, c 395, c 396, c 397, c 398, c 399, c 400, c 401, c 402, c 403, c 404, c 405, c 406, c 407, c 408, c 409, c 410, c 411, c 412, c 413, c 414, c 415, c 416, c 417, c 418, c 419, c 420, c 421, c 422, c 423, c 424, c 425, c 426, c 427, c 428, c 429, c 430, c 431, c 432, c 433, c 434, c 435, c 436, c 437, c 438, c 439, c 440, c 441, c 442, c 443, c 444, c 445, c 446, c 447, c 448, c 449, c 450, c 451, c 452, c 453, c 454, c 455, c 456, c 457, c 458, c 459, c 460, c 461, c 462, c 463, c 464, c 465, c 466, c 467, c 468, c 469, c 470, c 471, c 472, c 473, c 474, c 475, c 476, c 477, c 478, c 479, c 480, c 481, c 482, c 483, c 484, c 485, c 486, c 487, c 488, c 489, c 490, c 491, c 492, c 493, c 494, c 495, c 496, c 497, c 498, c 499, c 500, c 501, c 502, c 503, c 504, c 505, c 506, c 507, c 508, c 509, c 510, c 511, c 512, c 513, c 514, c 515, c 516, c 517, c 518, c 519, c 520, c 521, c 522, c 523, c 524, c 525, c 526, c 527, c 528, c 529, c 530, c 531, c 532, c 533, c 534, c 535, c 536, c 537, c 538, c 539, c 540, c 541, c 542, c 543, c 544, c 545, c 546, c 547, c 548, c 549, c 550, c 551, c 552, c 553, c 554, c 555, c 556, c 557, c 558, c 559, c 560, c 561, c 562, c 563, c 564, c 565, c 566, c 567, c 568, c 569, c 570, c 571, c 572, c 573, c 574, c 575, c 576, c 577, c 578, c 579, c 580, c 581, c 582, c 583, c 584, c 585, c 586], []⟩
theorem tailB_wrap (cb tb ib mb st si ob nT nI : Nat) (ev : Int) (nm : Nat → ByteArray) (en lk : Nat → Bool) (hd : Nat → Int) (H L W : Nat → Int) (act mx : Int) (dr : Option Addr) (D : DataW Unit) (t it l r : Nat) (pN pW pK pH pA : Bool) (vN vR vI : Value) (dr' : Option Addr) (n' : Nat) (pb gb cT cI : Nat) (dp : Bool) (a : Act) (w0 w : World) (hT : nT ≤ 2000) (hI : nI ≤ 2000) (ht : t < nT) (hit : it < nI) (hln : l < nT) (hrn : r < nT)
    (hN : pN = true → L it = (l : Int) ∧ l ≠ t) (hN' : pN = false → L it = (t : Int) ∨ L it < 0) (hW : pW = true → W it = (r : Int) ∧ r ≠ t ∧ en r = false) (hW' : pW = false → W it = (t : Int) ∨ W it < 0 ∨ (W it = (r : Int) ∧ r ≠ t ∧ en r = true))
    (hK : Maps.has D (.int .u64 (ky t it)) = pK) (hH : pH = true → (H it != (t : Int)) = true) (hH' : pH = false → H it = (t : Int)) (hA : pA = true → pH = true ∧ hd t = 0) (hA' : pA = false → pH = true → hd t ≠ 0)
    (bv : -2147483648 ≤ ev ∧ ev ≤ 2147483647) (bh : -128 ≤ hd t ∧ hd t ≤ 127) (ba : -32768 ≤ act ∧ act ≤ 32767) (bm : -32768 ≤ mx ∧ mx ≤ 32767) (hdr : dr = if dp then some ⟨pb, 0, none⟩ else none)
    (ha : a = frB ev act mx dp nI cb dr t it st nT cT si cI ob gb pW (fun i => a.tmps.getD i undef))
    (hP : Post cb tb ib mb st si ob nT nI ev nm en lk hd H L W act mx dr D t it l r pN pW pK pH pA vN vR vI dr' n' w) (hg : w.cell? ⟨gb, 4, none⟩ = some (.int .i64 (if pH then hd t + 1 else hd t))) (hb : Below w0.heap.size w0 w) :
    Code.wp Yba.prog ((Yba.f3.body.bind (fromRegion 69)).getD .skip) (bodyPost Yba.prog Yba.f3 fun e w' => e = .returned (.bool true) ∧ Below w0.heap.size w0 w') a w := by
  obtain ⟨c, hc⟩ : ∃ c, a = frB ev act mx dp nI cb dr t it st nT cT si cI ob gb pW c := ⟨_, ha⟩
  subst hc
  exact tailB cb tb ib mb st si ob nT nI ev nm en lk hd H L W act mx dr D t it l r pN pW pK pH pA vN vR vI dr' n' pb gb cT cI dp c w0 w hT hI ht hit hln hrn hN hN' hW hW' hK hH hH' hA hA' bv bh ba bm hdr hP hg hb

/-- A transaction's cells. -/
structure TxAt (w : World) (g : Nat) (s : ByteArray) (e k : Bool) (h : Int) (i n r : Value) : Prop where
  x0 : w.cell? ⟨g, 0, none⟩ = some (.string s)
  x1 : w.cell? ⟨g, 1, none⟩ = some (.bool e)
  x2 : w.cell? ⟨g, 2, none⟩ = some (.bool false)
  x3 : w.cell? ⟨g, 3, none⟩ = some (.bool k)
  x4 : w.cell? ⟨g, 4, none⟩ = some (.int .i64 h)
  x5 : w.cell? ⟨g, 5, none⟩ = some i
  x6 : w.cell? ⟨g, 6, none⟩ = some n
  x7 : w.cell? ⟨g, 7, none⟩ = some r
theorem TxAt.wrote {w w' : World} {g : Nat} {s : ByteArray} {e k : Bool} {h : Int} {i n r : Value} (H : TxAt w g s e k h i n r) (K : Wrote [] w w') : TxAt w' g s e k h i n r :=
  ⟨K.cell_of H.x0 (by simp), K.cell_of H.x1 (by simp), K.cell_of H.x2 (by simp), K.cell_of H.x3 (by simp), K.cell_of H.x4 (by simp), K.cell_of H.x5 (by simp), K.cell_of H.x6 (by simp), K.cell_of H.x7 (by simp)⟩
theorem TxAt.new (w : World) (s : ByteArray) (e k : Bool) (h : Int) (i n r : Value) : TxAt (w.alloc (.cells #[.string s, .bool e, .bool false, .bool k, .int .i64 h, i, n, r] 41)) w.heap.size s e k h i n r :=
  ⟨cell_new rfl, cell_new rfl, cell_new rfl, cell_new rfl, cell_new rfl, cell_new rfl, cell_new rfl, cell_new rfl⟩
theorem TxAt.new' {w : World} {g : Nat} (hg : g = w.heap.size) (s : ByteArray) (e k : Bool) (h : Int) (i n r : Value) : TxAt (w.alloc (.cells #[.string s, .bool e, .bool false, .bool k, .int .i64 h, i, n, r] 41)) g s e k h i n r := by
  subst hg
  exact TxAt.new w s e k h i n r
theorem look_run {w : World} {mb n : Nat} {D : DataW Unit} {key : Value} {kl : Lit} (h : OwnM w mb n D) (hk : keyOf Yba.prog 50 key = some kl) (hh : Maps.has D kl = true) : (Instr.lookup 28 (.map (some mb)) key true).run Yba.prog w = .ok (.tuple #[.agg #[], .bool true]) w := by
  obtain ⟨v, ps, h1, h2⟩ := h.look_ok law50 Yba.underlying28 (zero49 w) unitElem_mk hk
  obtain ⟨rfl, _⟩ := unitElem_inv h2
  rw [h1, hh]
/-- It is a slice. -/
def IsSl (v : Value) : Prop := ∃ a n c, v = .slice a n c
theorem isSl_if {b : Bool} {f g : Nat → Value} {u : Nat} (h1 : b = true → IsSl (f u)) (h2 : b = false → IsSl (g u)) : IsSl ((if b then f else g) u) := by
  cases b with
  | true => exact h1 rfl
  | false => exact h2 rfl
theorem isSl_nil (u : Nat) : IsSl (nil3 u) := ⟨none, 0, 0, rfl⟩
theorem isSl_fset {v : Value} {S : List Nat} {w : World} {x : Int} (h : OneInt S w v x) (t u : Nat) : IsSl (fset nil3 t v u) := by
  obtain ⟨g, c, rfl, _⟩ := h
  unfold fset
  split
  · exact ⟨_, _, _, rfl⟩
  · exact isSl_nil u

set_option maxRecDepth 100000 in
set_option maxHeartbeats 4000000 in
theorem tailA (cb tb ib mb st si ob nT nI : Nat) (ev : Int) (nm : Nat → ByteArray) (en lk : Nat → Bool) (hd : Nat → Int) (H L W : Nat → Int) (act mx : Int) (dr : Option Addr) (D : DataW Unit) (t it l r : Nat) (pN pW pK pH pA : Bool) (vN vR vI : Value) (dr' : Option Addr) (n' : Nat) (pb cT cI : Nat) (dp : Bool) (c : Nat → Value) (w0 w : World) (hT : nT ≤ 2000) (hI : nI ≤ 2000) (ht : t < nT) (hit : it < nI) (hln : l < nT) (hrn : r < nT)
    (hN : pN = true → L it = (l : Int) ∧ l ≠ t) (hN' : pN = false → L it = (t : Int) ∨ L it < 0) (hW : pW = true → W it = (r : Int) ∧ r ≠ t ∧ en r = false) (hW' : pW = false → W it = (t : Int) ∨ W it < 0 ∨ (W it = (r : Int) ∧ r ≠ t ∧ en r = true))
    (hK : Maps.has D (.int .u64 (ky t it)) = pK) (hH : pH = true → (H it != (t : Int)) = true) (hH' : pH = false → H it = (t : Int)) (hA : pA = true → pH = true ∧ hd t = 0) (hA' : pA = false → pH = true → hd t ≠ 0)
    (bv : -2147483648 ≤ ev ∧ ev ≤ 2147483647) (bh : -128 ≤ hd t ∧ hd t ≤ 127) (ba : -32768 ≤ act ∧ act ≤ 32767) (bm : -32768 ≤ mx ∧ mx ≤ 32767) (hdr : dr = if dp then some ⟨pb, 0, none⟩ else none) (hDs : Maps.size D ≤ 2000) (hTi : Tidy D)
    (hP : Post cb tb ib mb st si ob nT nI ev nm en lk hd H L W act mx dr D t it l r pN pW pK pH pA vN vR vI dr' n' w) (hb : Below w0.heap.size w0 w) :
    Code.wp Yba.prog ((Yba.f3.body.bind (fromTest 36)).getD .skip) (bodyPost Yba.prog Yba.f3 fun e w' => e = .returned (.bool true) ∧ Below w0.heap.size w0 w') ⟨#[c 0, c 1, c 2, c 3, c 4, .int .i32 ev, .int .i16 act, .int .i16 mx, .bool dp, c 9, c 10, c 11, c 12, c 13, c 14, c 15, c 16, c 17, c 18, .int .i64 nT, .int .i64 nI, .pointer (some ⟨cb, 0, none⟩), c 22, c 23, c 24, c 25, c 26, c 27, .pointer dr, .int .i64 t, .int .i64 it, .slice (some ⟨st, 0, none⟩) nT cT, .slice (some ⟨si, 0, none⟩) nI cI, .pointer (some ⟨ob, 0, none⟩), c 34, .bool pK, .int .i64 (Maps.size D), c 37, c 38, c 39, c 40, c 41, c 42, c 43, c 44, c 45, c 46, c 47, c 48, c 49, c 50, c 51, c 52, c 53, c 54, c 55, c 56, c 57, c 58, c 59, c 60, c 61, c 62, c 63, c 64, c 65, c 66, c 67, c 68, c 69, c 70, c 71, c 72, c 73, c 74, c 75, c 76, c 77, c 78, c 79, c 80, c 81, c 82, c 83, c 84, c 85, c 86, c 87, c 88, c 89, c 90, c 91, c 92, c 93, c 94, c 95, c 96, c 97, c 98, c 99, c 100, c 101, c 102, c 103, c 104, c 105, c 106, c 107, c 108, c 109, c 110, c 111, c 112, c 113, c 114, c 115, c 116, c 117, c 118, c 119, c 120, c 121, c 122, c 123, c 124, c 125, c 126, c 127, c 128, c 129, c 130, c 131, c 132, c 133, c 134, c 135, c 136, c 137, c 138, c 139, c 140, c 141, c 142, c 143, c 144, c 145, c 146, c 147, c 148, c 149, c 150, c 151, c 152, c 153, c 154, c 155, c 156, c 157, c 158, c 159, c 160, c 161, c 162, c 163, c 164, c 165, c 166, c 167, c 168, c 169, c 170, c 171, c 172, c 173, c 174, c 175, c 176, c 177, c 178, c 179, c 180, c 181, c 182, c 183, c 184, c 185, c 186, c 187, c 188, c 189, c 190, c 191, c 192, c 193, c 194, c 195, c 196, c 197, c 198, c 199, c 200, c 201, c 202, c 203, c 204, c 205, c 206, c 207, c 208, c 209, c 210, c 211, c 212, c 213, c 214, c 215, c 216, c 217, c 218, c 219, c 220, c 221, c 222, c 223, c 224, c 225, c 226, c 227, c 228, c 229, c 230, c 231, c 232, c 233, c 234, c 235, c 236, c 237, c 238, c 239, c 240, c 241, c 242, c 243, c 244, c 245, c 246, c 247, c 248, c 249, c 250, c 251, c 252, c 253, c 254, c 255, c 256, c 257, c 258, c 259, c 260, c 261, c 262, c 263, c 264, c 265, c 266, c 267, c 268, c 269, c 270, c 271, c 272, c 273, c 274, c 275, c 276, c 277, c 278, c 279, c 280, c 281, c 282, c 283, c 284, c 285, c 286, c 287, c 288, c 289, c 290, c 291, c 292, c 293, c 294, c 295, c 296, c 297, c 298, c 299, c 300, c 301, c 302, c 303, c 304, c 305, c 306, c 307, c 308, c 309, c 310, c 311, c 312, c 313, c 314, c 315, c 316, c 317, c 318, c 319, c 320, c 321, c 322, c 323, c 324, c 325, c 326, c 327, c 328, c 329, c 330, c 331, c 332, c 333, c 334, c 335, c 336, c 337, c 338, c 339, c 340, c 341, c 342, c 343, c 344, c 345, c 346, c 347, c 348, c 349, c 350, c 351, c 352, c 353, c 354, c 355, c 356, c 357, c 358, c 359, c 360, c 361, c 362, c 363, c 364, c 365, c 366, c 367, c 368, c 369, c 370, c 371, c 372, c 373, c 374, c 375, c 376, c 377, c 378, c 379, c 380, c 381, c 382, c 383, c 384, c 385, c 386, c 387, c 388, c 389, c 390, c 391, c 392, c 393, c 394, c 395, c 396, c 397, c 398, c 399, c 400, c 401, c 402, c 403, c 404, c 405, c 406, c 407, c 408, c 409, c 410, c 411, c 412, c 413, c 414, c 415, c 416, c 417, c 418, c 419, c 420, c 421, c 422, c 423, c 424, c 425, c 426, c 427, c 428, c 429, c 430, c 431, c 432, c 433, c 434, c 435, c 436, c 437, c 438, c 439, c 440, c 441, c 442, c 443, c 444, c 445, c 446, c 447, c 448, c 449, c 450, c 451, c 452, c 453, c 454, c 455, c 456, c 457, c 458, c 459, c 460, c 461, c 462, c 463, c 464, c 465, c 466, c 467, c 468, c 469, c 470, c 471, c 472, c 473, c 474, c 475, c 476, c 477, c 478, c 479, c 480, c 481, c 482, c 483, c 484, c 485, c 486, c 487, c 488, c 489, c 490, c 491, c 492, c 493, c 494, c 495, c 496, c 497, c 498, c 499, c 500, c 501, c 502, c 503, c 504, c 505, c 506, c 507, c 508, c 509, c 510, c 511, c 512, c 513, c 514, c 515, c 516, c 517, c 518, c 519, c 520, c 521, c 522, c 523, c 524, c 525, c 526, c 527, c 528, c 529, c 530, c 531, c 532, c 533, c 534, c 535, c 536, c 537, c 538, c 539, c 540, c 541, c 542, c 543, c 544, c 545, c 546, c 547, c 548, c 549, c 550, c 551, c 552, c 553, c 554, c 555, c 556, c 557, c 558, c 559, c 560, c 561, c 562, c 563, c 564, c 565, c 566, c 567, c 568, c 569, c 570, c 571, c 572, c 573, c 574, c 575, c 576, c 577, c 578, c 579, c 580, c 581, c 582, c 583, c 584, c 585, c 586], []⟩ w := by
  have HN : Hid (pN = true → L it = (l : Int) ∧ l ≠ t) := hN
  have HN' : Hid (pN = false → L it = (t : Int) ∨ L it < 0) := hN'
  have HW : Hid (pW = true → W it = (r : Int) ∧ r ≠ t ∧ en r = false) := hW
  have HW' : Hid (pW = false → W it = (t : Int) ∨ W it < 0 ∨ (W it = (r : Int) ∧ r ≠ t ∧ en r = true)) := hW'
  have HK : Hid (Maps.has D (.int .u64 (ky t it)) = pK) := hK
  have HH : Hid (pH = true → (H it != (t : Int)) = true) := hH
  have HH' : Hid (pH = false → H it = (t : Int)) := hH'
  have HA : Hid (pA = true → pH = true ∧ hd t = 0) := hA
  have HA' : Hid (pA = false → pH = true → hd t ≠ 0) := hA'
  have HDR : Hid (dr = if dp then some ⟨pb, 0, none⟩ else none) := hdr
  clear hN hN' hW hW' hK hH hH' hA hA' hdr

  have HP : Hid (Post cb tb ib mb st si ob nT nI ev nm en lk hd H L W act mx dr D t it l r pN pW pK pH pA vN vR vI dr' n' w) := hP
  have HB : Hid (Below w0.heap.size w0 w) := hb
  have HTI : Hid (Tidy D) := hTi
  clear hP hb hTi
  have c1 : w.cell? ⟨cb, 1, none⟩ = some (.int .i64 ev) := HP.out.ls.chk.cell (i := 1) (by omega)
  have c3 : w.cell? ⟨cb, 3, none⟩ = some (.slice (some ⟨tb, 0, none⟩) nT nT) := HP.out.ls.chk.cell (i := 3) (by omega)
  have c5 : w.cell? ⟨cb, 5, none⟩ = some (.slice (some ⟨ib, 0, none⟩) nI nI) := HP.out.ls.chk.cell (i := 5) (by omega)
  conv => arg 2; whnf
  go_wp2
  clear c1 c3 c5
  go_loopg [37] nT (fun gk iv wr => ∃ u : Nat, u + gk = nT ∧ iv = .int .i64 u ∧ Hid (Wrote [] w wr))
  case atStart => exact ⟨0, by omega, rfl, Wrote.refl _ _⟩
  case round =>
    obtain ⟨u, hu, rfl, K⟩ := hrel
    by_cases hlt : u < nT
    · have HP1 : Hid (Post cb tb ib mb st si ob nT nI ev nm en lk hd H L W act mx dr D t it l r pN pW pK pH pA vN vR vI dr' n' wr) := HP.out.wrote K.out
      obtain ⟨a5, n5, k5, e5⟩ : IsSl ((if pK then nil3 else fset nil3 t vI) u) := isSl_if (fun _ => isSl_nil u) (fun h => isSl_fset (HP1.out.oI h) t u)
      obtain ⟨a6, n6, k6, e6⟩ : IsSl ((if pN then fset nil3 l vN else nil3) u) := isSl_if (fun h => isSl_fset (HP1.out.oN h) l u) (fun _ => isSl_nil u)
      obtain ⟨a7, n7, k7, e7⟩ : IsSl ((if pW then fset nil3 t vR else nil3) u) := isSl_if (fun h => isSl_fset (HP1.out.oR h) t u) (fun _ => isSl_nil u)
      have E5 : Hid ((if pK then nil3 else fset nil3 t vI) u = .slice a5 n5 k5) := e5
      have E6 : Hid ((if pN then fset nil3 l vN else nil3) u = .slice a6 n6 k6) := e6
      have E7 : Hid ((if pW then fset nil3 t vR else nil3) u = .slice a7 n7 k7) := e7
      clear e5 e6 e7
      go_upto_region 41 with fail
      go_cut [38, 39] from 250 to 260 (fun s38 s39 wc => ∃ g s, s38 = .pointer (some ⟨g, 0, none⟩) ∧ s39 = .pointer (some ⟨s, 0, none⟩) ∧ Hid (TxAt wc g (nm u) (en u) (fset lk t true u) ((if pH then fset hd t (hd t + 1) else hd) u) (.slice a5 n5 k5) (.slice a6 n6 k6) (.slice a7 n7 k7)) ∧ Hid (TxAt wc s (nm u) (en u) (lk u) (hd u) (.slice none 0 0) (.slice none 0 0) (.slice none 0 0)) ∧ Hid (Wrote [] wr wc))
      case first => as_aux_lemma =>
        have x0 : wr.cell? ⟨tb, u * 8, none⟩ = some (.string (nm u)) := HP1.out.ls.txs.cell0 hlt (by omega)
        have x1 : wr.cell? ⟨tb, u * 8 + 1, none⟩ = some (.bool (en u)) := HP1.out.ls.txs.cell hlt (j := 1) (by omega)
        have x2 : wr.cell? ⟨tb, u * 8 + 2, none⟩ = some (.bool false) := HP1.out.ls.txs.cell hlt (j := 2) (by omega)
        have x3 : wr.cell? ⟨tb, u * 8 + 3, none⟩ = some (.bool (fset lk t true u)) := HP1.out.ls.txs.cell hlt (j := 3) (by omega)
        have x4 : wr.cell? ⟨tb, u * 8 + 4, none⟩ = some (.int .i64 ((if pH then fset hd t (hd t + 1) else hd) u)) := HP1.out.ls.txs.cell hlt (j := 4) (by omega)
        have x5 : wr.cell? ⟨tb, u * 8 + 5, none⟩ = some (.slice a5 n5 k5) := by rw [← E5.out]; exact HP1.out.ls.txs.cell hlt (j := 5) (by omega)
        have x6 : wr.cell? ⟨tb, u * 8 + 6, none⟩ = some (.slice a6 n6 k6) := by rw [← E6.out]; exact HP1.out.ls.txs.cell hlt (j := 6) (by omega)
        have x7 : wr.cell? ⟨tb, u * 8 + 7, none⟩ = some (.slice a7 n7 k7) := by rw [← E7.out]; exact HP1.out.ls.txs.cell hlt (j := 7) (by omega)
        have y0 : wr.cell? ⟨st, u * 8, none⟩ = some (.string (nm u)) := HP1.out.sT u 0 hlt (by omega)
        have y1 : wr.cell? ⟨st, u * 8 + 1, none⟩ = some (.bool (en u)) := HP1.out.sT u 1 hlt (by omega)
        have y2 : wr.cell? ⟨st, u * 8 + 2, none⟩ = some (.bool false) := HP1.out.sT u 2 hlt (by omega)
        have y3 : wr.cell? ⟨st, u * 8 + 3, none⟩ = some (.bool (lk u)) := HP1.out.sT u 3 hlt (by omega)
        have y4 : wr.cell? ⟨st, u * 8 + 4, none⟩ = some (.int .i64 (hd u)) := HP1.out.sT u 4 hlt (by omega)
        have y5 : wr.cell? ⟨st, u * 8 + 5, none⟩ = some (.slice none 0 0) := HP1.out.sT u 5 hlt (by omega)
        have y6 : wr.cell? ⟨st, u * 8 + 6, none⟩ = some (.slice none 0 0) := HP1.out.sT u 6 hlt (by omega)
        have y7 : wr.cell? ⟨st, u * 8 + 7, none⟩ = some (.slice none 0 0) := HP1.out.sT u 7 hlt (by omega)
        have c3 : wr.cell? ⟨cb, 3, none⟩ = some (.slice (some ⟨tb, 0, none⟩) nT nT) := HP1.out.ls.chk.cell (i := 3) (by omega)
        have b1 := HP1.out.ls.chk.lt
        have b2 := HP1.out.ls.txs.lt
        have b3 : st < wr.heap.size := World.block_lt_of_cell? _ _ y0
        generalize fset lk t true u = lk1 at *
        generalize (if pH then fset hd t (hd t + 1) else hd) u = hd1 at *
        go_region
        all_goals go_wp2
        all_goals go_meet
        all_goals (case rel => first
          | exact ⟨_, _, rfl, rfl, (TxAt.new wr _ _ _ _ _ _ _).wrote ((Wrote.refl _ _).alloc _).drew, (TxAt.new' (w := wr.alloc _) (by simp) _ _ _ _ _ _ _).wrote (Wrote.refl _ _).drew, (((Wrote.refl _ _).alloc _).alloc _).drew⟩
          | exact ⟨_, _, rfl, rfl, (TxAt.new' (w := wr.alloc _) (by simp) _ _ _ _ _ _ _).wrote (Wrote.refl _ _).drew, (TxAt.new wr _ _ _ _ _ _ _).wrote ((Wrote.refl _ _).alloc _).drew, (((Wrote.refl _ _).alloc _).alloc _).drew⟩)
      case rest => as_aux_lemma =>
        rename World => w1
        obtain ⟨g, s, rfl, rfl, HG, HS, K1⟩ := hcut
        have KW : Hid (Wrote [] w w1) := K.out.trans K1.out
        have HP2 : Hid (Post cb tb ib mb st si ob nT nI ev nm en lk hd H L W act mx dr D t it l r pN pW pK pH pA vN vR vI dr' n' w1) := HP.out.wrote KW.out
        clear HP1
        obtain ⟨q, hq⟩ : ∃ q : Bool, q = (pN && decide (u = l)) := ⟨_, rfl⟩
        have HQ : Hid (q = (pN && decide (u = l))) := hq
        clear hq
        go_upto_region 43 with fail
        go_cut [275] from 261 to 275 (fun s275 wc => s275 = .bool q ∧ w1 = wc)
        case first => as_aux_lemma =>
          have o1 : w1.cell? ⟨ob, 1, none⟩ = some (.int .i64 (L it)) := HP2.out.sO 1 (by omega)
          cases pN with
          | true =>
            obtain ⟨hl, hlt2⟩ := HN.out rfl
            have hc' : ((l : Int) != (t : Int)) = true := by simp; omega
            rw [hl] at o1
            by_cases he : u = l
            · have hqq : q = true := by rw [HQ.out]; simp [he]
              subst he
              go_wp2
              go_meet
              case rel => exact ⟨by rw [hqq], rfl⟩
            · have he' : ((u : Int) == (l : Int)) = false := by simp; omega
              have hqq : q = false := by rw [HQ.out]; simp [he]
              go_wp2
              go_meet
              case rel => exact ⟨by rw [hqq], rfl⟩
          | false =>
            have hqq : q = false := by rw [HQ.out]; rfl
            rcases HN'.out rfl with hl | hl
            · rw [hl] at o1
              go_wp2
              go_meet
              case rel => exact ⟨by rw [hqq], rfl⟩
            · have hl' : ¬ (0 ≤ L it) := by omega
              go_wp2
              go_meet
              case rel => exact ⟨by rw [hqq], rfl⟩
        case rest => as_aux_lemma =>
          obtain ⟨rfl, rfl⟩ := hcut
          go_upto_if 275 with fail
          go_cut [40] from 275 to 275 (fun s40 wc => s40 = .int .i64 (if q then 1 else 0) ∧ w1 = wc)
          case first => as_aux_lemma =>
            cases q with
            | true =>
              go_wp2
              go_meet
              case rel => exact ⟨rfl, rfl⟩
            | false =>
              go_wp2
              go_meet
              case rel => exact ⟨rfl, rfl⟩
          case rest => as_aux_lemma =>
            obtain ⟨rfl, rfl⟩ := hcut
            go_upto_region 45 with fail
            go_cut [40, 292] from 276 to 292 (fun s40 s292 wc => s292 = .bool false ∧ w1 = wc)
            case first => as_aux_lemma =>
              cases q with
              | true =>
                have hpN : pN = true := by
                  have := HQ.out
                  cases pN with
                  | true => rfl
                  | false => simp at this
                have hul : u = l := by have := HQ.out; rw [hpN] at this; simpa using this
                obtain ⟨gN, cN, hvN, hcN, _⟩ := HP2.out.oN hpN
                have e6 := E6.out
                rw [hpN, hul, if_pos rfl, fset_same, hvN] at e6
                injection e6 with j1 j2 j3
                have x6 := HG.out.x6
                rw [← j1, ← j2] at x6
                clear j1 j2 j3 hvN
                go_wp2
                go_meet
                case rel => exact ⟨rfl, rfl⟩
              | false =>
                have e6 := E6.out
                have hz : (if pN then fset nil3 l vN else nil3) u = .slice none 0 0 := by
                  cases pN with
                  | true =>
                    have hul : u ≠ l := by have := HQ.out; simpa using this
                    rw [if_pos rfl, fset_other _ _ hul]; rfl
                  | false => rfl
                rw [hz] at e6
                injection e6 with j1 j2 j3
                have x6 := HG.out.x6
                rw [← j1, ← j2] at x6
                clear j1 j2 j3 hz
                go_wp2
                go_meet
                case rel => exact ⟨rfl, rfl⟩
            case rest => as_aux_lemma =>
              obtain ⟨rfl, rfl⟩ := hcut
              go_upto_region 47 with fail
              go_cut [311] from 293 to 311 (fun s311 wc => s311 = .bool false ∧ w1 = wc)
              case first => as_aux_lemma =>
                have x0 := HG.out.x0
                have x1 := HG.out.x1
                have x2 := HG.out.x2
                have y0 := HS.out.x0
                have y1 := HS.out.x1
                have y2 := HS.out.x2
                go_wp2
                go_meet
                case rel => exact ⟨rfl, rfl⟩
              case rest => as_aux_lemma =>
                obtain ⟨rfl, rfl⟩ := hcut
                by_cases he : u = t
                · subst he
                  go_wp2
                  go_roundg (nT - (u + 1))
                  case measure => omega
                  case rel => exact ⟨u + 1, by omega, by go_num, KW⟩
                · have he' : ((u : Int) != (t : Int)) = true := by simp; omega
                  have h3 : fset lk t true u = lk u := fset_other _ _ he
                  have h4 : (if pH then fset hd t (hd t + 1) else hd) u = hd u := by
                    cases pH with
                    | true => rw [if_pos rfl]; exact fset_other _ _ he
                    | false => rfl
                  have h5 : (if pK then nil3 else fset nil3 t vI) u = .slice none 0 0 := by
                    cases pK with
                    | true => rfl
                    | false => rw [if_neg (by simp)]; exact fset_other _ _ he
                  have h7 : (if pW then fset nil3 t vR else nil3) u = .slice none 0 0 := by
                    cases pW with
                    | true => rw [if_pos rfl]; exact fset_other _ _ he
                    | false => rfl
                  have x3 := HG.out.x3
                  have x4 := HG.out.x4
                  have x5 := HG.out.x5
                  have x7 := HG.out.x7
                  have y3 := HS.out.x3
                  have y4 := HS.out.x4
                  rw [h3] at x3
                  rw [h4] at x4
                  rw [← E5.out, h5] at x5
                  rw [← E7.out, h7] at x7
                  clear h3 h4 h5 h7
                  go_wp2
                  go_roundg (nT - (u + 1))
                  case measure => omega
                  case rel => exact ⟨u + 1, by omega, by go_num, KW⟩
    · have HP1 : Hid (Post cb tb ib mb st si ob nT nI ev nm en lk hd H L W act mx dr D t it l r pN pW pK pH pA vN vR vI dr' n' wr) := HP.out.wrote K.out
      have HB1 : Hid (Below w0.heap.size w0 wr) := HB.out.trans (K.out.below HB.out.size (by simp))
      clear HP HB
      obtain ⟨a5, n5, k5, e5⟩ : IsSl ((if pK then nil3 else fset nil3 t vI) t) := isSl_if (fun _ => isSl_nil t) (fun h => isSl_fset (HP1.out.oI h) t t)
      obtain ⟨a6, n6, k6, e6⟩ : IsSl ((if pN then fset nil3 l vN else nil3) t) := isSl_if (fun h => isSl_fset (HP1.out.oN h) l t) (fun _ => isSl_nil t)
      obtain ⟨a7, n7, k7, e7⟩ : IsSl ((if pW then fset nil3 t vR else nil3) t) := isSl_if (fun h => isSl_fset (HP1.out.oR h) t t) (fun _ => isSl_nil t)
      have E5 : Hid ((if pK then nil3 else fset nil3 t vI) t = .slice a5 n5 k5) := e5
      have E6 : Hid ((if pN then fset nil3 l vN else nil3) t = .slice a6 n6 k6) := e6
      have E7 : Hid ((if pW then fset nil3 t vR else nil3) t = .slice a7 n7 k7) := e7
      clear e5 e6 e7
      go_upto_region 52 with fail
      go_cut [41] from 339 to 345 (fun s41 wc => ∃ g, s41 = .pointer (some ⟨g, 0, none⟩) ∧ Hid (TxAt wc g (nm t) (en t) true ((if pH then fset hd t (hd t + 1) else hd) t) (.slice a5 n5 k5) (.slice a6 n6 k6) (.slice a7 n7 k7)) ∧ Hid (Wrote [] wr wc))
      case first => as_aux_lemma =>
        have x0 : wr.cell? ⟨tb, t * 8, none⟩ = some (.string (nm t)) := HP1.out.ls.txs.cell0 ht (by omega)
        have x1 : wr.cell? ⟨tb, t * 8 + 1, none⟩ = some (.bool (en t)) := HP1.out.ls.txs.cell ht (j := 1) (by omega)
        have x2 : wr.cell? ⟨tb, t * 8 + 2, none⟩ = some (.bool false) := HP1.out.ls.txs.cell ht (j := 2) (by omega)
        have x3 : wr.cell? ⟨tb, t * 8 + 3, none⟩ = some (.bool true) := by rw [HP1.out.ls.txs.cell ht (j := 3) (by omega)]; simp [txV, fset]
        have x4 : wr.cell? ⟨tb, t * 8 + 4, none⟩ = some (.int .i64 ((if pH then fset hd t (hd t + 1) else hd) t)) := HP1.out.ls.txs.cell ht (j := 4) (by omega)
        have x5 : wr.cell? ⟨tb, t * 8 + 5, none⟩ = some (.slice a5 n5 k5) := by rw [← E5.out]; exact HP1.out.ls.txs.cell ht (j := 5) (by omega)
        have x6 : wr.cell? ⟨tb, t * 8 + 6, none⟩ = some (.slice a6 n6 k6) := by rw [← E6.out]; exact HP1.out.ls.txs.cell ht (j := 6) (by omega)
        have x7 : wr.cell? ⟨tb, t * 8 + 7, none⟩ = some (.slice a7 n7 k7) := by rw [← E7.out]; exact HP1.out.ls.txs.cell ht (j := 7) (by omega)
        have c3 : wr.cell? ⟨cb, 3, none⟩ = some (.slice (some ⟨tb, 0, none⟩) nT nT) := HP1.out.ls.chk.cell (i := 3) (by omega)
        have b1 := HP1.out.ls.chk.lt
        have b2 := HP1.out.ls.txs.lt
        generalize (if pH then fset hd t (hd t + 1) else hd) t = hd1 at *
        go_wp2
        go_meet
        case rel => exact ⟨_, rfl, TxAt.new wr _ _ _ _ _ _ _, (Wrote.refl _ _).alloc _⟩
      case rest => as_aux_lemma =>
        rename World => w2
        obtain ⟨g, rfl, HG, K2⟩ := hcut
        have HP2 : Hid (Post cb tb ib mb st si ob nT nI ev nm en lk hd H L W act mx dr D t it l r pN pW pK pH pA vN vR vI dr' n' w2) := HP1.out.wrote K2.out
        have HB2 : Hid (Below w0.heap.size w0 w2) := HB1.out.trans (K2.out.below HB1.out.size (by simp))
        clear HP1 HB1 K2 K
        have x3 := HG.out.x3
        go_upto_region 55 with fail
        clear x3
        go_cut [42] from 349 to 366 (fun s42 wc => s42 = .bool pW ∧ w2 = wc)
        case first => as_aux_lemma =>
          have o2 : w2.cell? ⟨ob, 2, none⟩ = some (.int .i64 (W it)) := HP2.out.sO 2 (by omega)
          have y1 : w2.cell? ⟨st, r * 8 + 1, none⟩ = some (.bool (en r)) := HP2.out.sT r 1 hrn (by omega)
          cases pW with
          | true =>
            obtain ⟨hl, hlt, hen⟩ := HW.out rfl
            have hc' : ((r : Int) != (t : Int)) = true := by simp; omega
            rw [hen] at y1
            rw [hl] at o2
            go_wp2
            go_meet
            case rel => exact ⟨rfl, rfl⟩
          | false =>
            rcases HW'.out rfl with hl | hl | ⟨hl, hlt, hen⟩
            · rw [hl] at o2
              go_wp2
              go_meet
              case rel => exact ⟨rfl, rfl⟩
            · have hl' : ¬ (0 ≤ W it) := by omega
              go_wp2
              go_meet
              case rel => exact ⟨rfl, rfl⟩
            · have hc' : ((r : Int) != (t : Int)) = true := by simp; omega
              rw [hen] at y1
              rw [hl] at o2
              go_wp2
              go_meet
              case rel => exact ⟨rfl, rfl⟩
        case rest => as_aux_lemma =>
          obtain ⟨rfl, rfl⟩ := hcut
          go_upto_if 367 with fail
          go_cut [] from 367 to 384 (fun wc => Hid (Wrote [] w2 wc))
          case first => as_aux_lemma =>
            have x7 := HG.out.x7
            have e7 := E7.out
            cases pW with
            | true =>
              obtain ⟨hl, hlt, hen⟩ := HW.out rfl
              have o2 : w2.cell? ⟨ob, 2, none⟩ = some (.int .i64 (W it)) := HP2.out.sO 2 (by omega)
              rw [hl] at o2
              obtain ⟨gR, cR, hvR, hcR, _⟩ := HP2.out.oR rfl
              rw [if_pos rfl, fset_same, hvR] at e7
              injection e7 with j1 j2 j3
              rw [← j1, ← j2] at x7
              clear j1 j2 j3 hvR E7
              go_wp2
              go_quiet (fail)
              go_wp2
              go_meet
              case rel => exact (Wrote.refl _ _).drewN _
            | false =>
              rw [if_neg (by simp)] at e7
              injection e7 with j1 j2 j3
              rw [← j1, ← j2] at x7
              clear j1 j2 j3 E7
              go_wp2
              go_meet
              case rel => exact Wrote.refl _ _
          case rest => as_aux_lemma =>
            rename World => w3
            have K3 := hcut
            clear hcut
            have HP3 : Hid (Post cb tb ib mb st si ob nT nI ev nm en lk hd H L W act mx dr D t it l r pN pW pK pH pA vN vR vI dr' n' w3) := HP2.out.wrote K3.out
            have HB3 : Hid (Below w0.heap.size w0 w3) := HB2.out.trans (K3.out.below HB2.out.size (by simp))
            have HG3 : Hid (TxAt w3 g (nm t) (en t) true ((if pH then fset hd t (hd t + 1) else hd) t) (.slice a5 n5 k5) (.slice a6 n6 k6) (.slice a7 n7 k7)) := HG.out.wrote K3.out
            clear HP2 HB2 HG K3
            go_upto_if 386 with fail
            go_cut [] from 385 to 421 (fun wc => w3 = wc)
            case first => as_aux_lemma =>
              have x5 := HG3.out.x5
              have e5 := E5.out
              have c6 : w3.cell? ⟨cb, 6, none⟩ = some (.map (some mb)) := HP3.out.ls.chk.cell (i := 6) (by omega)
              have hlen := fun ty => HP3.out.ls.own.len Yba.underlying28 ty
              cases pK with
              | true =>
                rw [if_pos rfl] at e5
                injection e5 with j1 j2 j3
                rw [← j1, ← j2] at x5
                clear j1 j2 j3 E5
                simp only [if_true] at hlen
                go_wp2
                go_meet
                case rel => rfl
              | false =>
                obtain ⟨gI, cI', hvI, hcI, _⟩ := HP3.out.oI rfl
                rw [if_neg (by simp), fset_same, hvI] at e5
                injection e5 with j1 j2 j3
                rw [← j1, ← j2] at x5
                clear j1 j2 j3 hvI E5
                have hsz : Maps.size (D.put (.int .u64 (ky t it)) (.agg [])) = Maps.size D + 1 := by rw [Maps.size_put HTI.out, HK.out]; rfl
                simp only [Bool.false_eq_true, if_false, hsz] at hlen
                go_wp2
                go_meet
                case rel => rfl
            case rest => as_aux_lemma =>
              subst hcut
              have c6 : w3.cell? ⟨cb, 6, none⟩ = some (.map (some mb)) := HP3.out.ls.chk.cell (i := 6) (by omega)
              have hhas : Maps.has (if pK then D else D.put (.int .u64 (ky t it)) (.agg [])) (.int .u64 (ky t it)) = true := by
                cases pK with
                | true => exact HK.out
                | false => exact Maps.has_put_same (k := .int .u64 (ky t it)) HTI.out.isMap (show WideAt.IsKeyLit (.int .u64 _) from trivial) _
              have keepL : ∀ w', Wrote [] w3 w' → w'.cell? ⟨cb, 6, none⟩ = some (.map (some mb)) ∧ (Instr.lookup 28 (.map (some mb)) (.int .u64 (ky t it)) true).run Yba.prog w' = .ok (.tuple #[.agg #[], .bool true]) w' := fun w' k => ⟨k.cell_of c6 (by simp), look_run (HP3.out.ls.wrote k).own (ky_key t it) hhas⟩
              have KL := Hid.mk' keepL
              clear keepL
              clear hhas
              go_upto_region 66 with fail
              go_cut [43, 44] from 422 to 432 (fun s43 s44 wc => s44 = .bool true ∧ Hid (Wrote [] w3 wc))
              case first => as_aux_lemma =>
                have b1 := HP3.out.ls.chk.lt
                go_region_held3 (fun w' => w'.cell? ⟨cb, 6, none⟩ = some (.map (some mb)) ∧ (Instr.lookup 28 (.map (some mb)) (.int .u64 (ky t it)) true).run Yba.prog w' = .ok (.tuple #[.agg #[], .bool true]) w') (first | exact KL.out _ (Wrote.refl _ _) | exact KL.out _ (Wrote.refl _ _).drew | exact KL.out _ ((Wrote.refl _ _).alloc _).drew | exact KL.out _ ((Wrote.refl _ _).drew.alloc _)) (first | (go_at_call 5; refine (key_any t it _ ?_ ?_).mono ?_; omega; omega; rintro e wx ⟨rfl, rfl⟩))
                all_goals go_wp2
                all_goals go_meet
                all_goals (case rel => exact ⟨rfl, ((Wrote.refl _ _).alloc _).drew⟩)
              case rest => as_aux_lemma =>
                rename World => w4
                obtain ⟨rfl, K4⟩ := hcut
                clear KL c6
                have HP4 : Hid (Post cb tb ib mb st si ob nT nI ev nm en lk hd H L W act mx dr D t it l r pN pW pK pH pA vN vR vI dr' n' w4) := HP3.out.wrote K4.out
                have HB4 : Hid (Below w0.heap.size w0 w4) := HB3.out.trans (K4.out.below HB3.out.size (by simp))
                have HG4 : Hid (TxAt w4 g (nm t) (en t) true ((if pH then fset hd t (hd t + 1) else hd) t) (.slice a5 n5 k5) (.slice a6 n6 k6) (.slice a7 n7 k7)) := HG3.out.wrote K4.out
                clear HP3 HB3 HG3 K4
                go_upto_if 434 with fail
                go_cut [] from 433 to 434 (fun wc => w4 = wc)
                case first => as_aux_lemma =>
                  go_wp2
                  go_meet
                  case rel => rfl
                case rest => as_aux_lemma =>
                  subst hcut
                  rename ∀ (a : Act) (w : World), Code.wp Yba.prog _ _ a w → _ => hK
                  refine hK _ _ ?_
                  exact wp_same (c' := (Yba.f3.body.bind (fromRegion 69)).getD .skip) (by kernel_rfl) rfl (tailB_wrap cb tb ib mb st si ob nT nI ev nm en lk hd H L W act mx dr D t it l r pN pW pK pH pA vN vR vI dr' n' pb g cT cI dp _ w0 w4 hT hI ht hit hln hrn HN.out HN'.out HW.out HW'.out HK.out HH.out HH'.out HA.out HA'.out bv bh ba bm HDR.out (by kernel_rfl) HP4.out (by
                    have := HG4.out.x4
                    rw [this]
                    cases pH with
                    | true => rw [if_pos rfl, if_pos rfl, fset_same]
                    | false => rfl) HB4.out)
end Go.Proofs.Ybulkbpui
