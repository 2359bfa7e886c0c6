import Derived.Test.YbulkbpuiPre
namespace Go.Proofs.Ybulkbpui
open Go.ChangeShapes Go.WideShapes Go.ChangeAt Go.RowKit
open Go.Maps
set_option linter.unusedVariables false
set_option linter.unusedSimpArgs false

set_option maxRecDepth 100000 in
def frA (ev act mx : Int) (dp : Bool) (nT nI cb : Nat) (dr : Option Addr) (t it st cT si cI ob : Nat) (pK : Bool) (D : DataW Unit) (c : Nat → Value) : Act := ⟨#[c 0, c 1, c 2, c 3, c 4, .int .i32 ev, .int .i16 act, .int .i16 mx, .bool dp, c 9, c 10, c 11, c 12, c 13, c 14, c 15, c 16, c 17, c 18, .int .i64 nT, .int .i64 nI, .pointer (some ⟨cb, 0, none⟩), c 22, c 23, c 24, c 25, c 26, c 27, .pointer dr, .int .i64 t, .int .i64 it, .slice (some ⟨st, 0, none⟩) nT cT, .slice (some ⟨si, 0, none⟩) nI cI, .pointer (some ⟨ob, 0, none⟩), c 34, .bool pK, .int .i64 (Maps.size D), c 37, c 38, c 39, c 40, c 41, c 42, c 43, c 44, c 45, c 46, c 47, c 48, c 49, c 50, c 51, c 52, c 53, c 54, c 55, c 56, c 57, c 58, c 59, c 60, c 61, c 62, c 63, c 64, c 65, c 66, c 67, c 68, c 69, c 70, c 71, c 72, c 73, c 74, c 75, c 76, c 77, c 78, c 79, c 80, c 81, c 82, c 83, c 84, c 85, c 86, c 87, c 88, c 89, c 90, c 91, c 92, c 93, c 94, c 95, c 96, c 97, c 98, c 99, c 100, c 101, c 102, c 103, c 104, c 105, c 106, c 107, c 108, c 109, c 110, c 111, c 112, c 113, c 114, c 115, c 116, c 117, c 118, c 119, c 120, c 121, c 122, c 123, c 124, c 125, c 126, c 127, c 128, c 129, c 130, c 131, c 132, c 133, c 134, c 135, c 136, c 137, c 138, c 139, c 140, c 141, c 142, c 143, c 144, c 145, c 146, c 147, c 148, c 149, c 150, c 151, c 152, c 153, c 154, c 155, c 156, c 157, c 158, c 159, c 160, c 161, c 162, c 163, c 164, c 165, c 166, c 167, c 168, c 169, c 170, c 171, c 172, c 173, c 174, c 175, c 176, c 177, c 178, c 179, c 180, c 181, c 182, c 183, c 184, c 185, c 186, c 187, c 188, c 189, c 190, c 191, c 192, c 193, c 194, c 195, c 196, c 197, c 198, c 199, c 200, c 201, c 202, c 203, c 204, c 205, c 206, c 207, c 208, c 209, c 210, c 211, c 212, c 213, c 214, c 215, c 216, c 217, c 218, c 219, c 220, c 221, c 222, c 223, c 224, c 225, c 226, c 227, c 228, c 229, c 230, c 231, c 232, c 233, c 234, c 235, c 236, c 237, c 238, c 239, c 240, c 241, c 242, c 243, c 244, c 245, c 246, c 247, c 248, c 249, c 250, c 251, c 252, c 253, c 254, c 255, c 256, c 257, c 258, c 259, c 260, c 261, c 262, c 263, c 264, c 265, c 266, c 267, c 268, c 269, c 270, c 271, c 272, c 273, c 274, c 275, c 276, c 277, c 278, c 279, c 280, c 281, c 282, c 283, c 284, c 285, c 286, c 287, c 288, c 289, c 290, c 291, c 292, c 293, c 294, c 295, c 296, c 297, c 298, c 299, c 300, c 301, c 302, c 303, c 304, c 305, c 306, c 307, c 308, c 309, c 310, c 311, c 312, c 313, c 314, c 315, c 316, c 317, c 318, c 319, c 320, c 321, c 322, c 323, c 324, c 325, c 326, c 327, c 328, c 329, c 330, c 331, c 332, c 333, c 334, c 335, c 336, c 337, c 338, c 339, c 340, c 341, c 342, c 343, c 344, c 345, c 346, c 347, c 348, c 349, c 350, c 351, c 352, c 353, c 354, c 355, c 356, c 357, c 358, c 359, c 360, c 361, c 362, c 363, c 364, c 365, c 366, c 367, c 368, c 369, c 370, c 371, c 372, c 373, c 374, c 375, c 376, c 377, c 378, c 379, c 380, c 381, c 382, c 383, c 384, c 385, c 386, c 387, c 388, c 389, c 390, c 391, c 392, c 393, c 394, c 395, c 396, c 397, c 398, c 399, c 400, c 401, c 402, c 403, c 404, c 405, c 406, c 407, c 408, c 409, c 410, c 411, c 412, c 413, c 414, c 415, c 416, c 417, c 418, c 419, c 420, c 421, c 422, c 423, c 424, c 425, c 426, c 427, c 428, c 429, c 430, c 431, c 432, c 433, c 434, c 435, c 436, c 437, c 438, c 439, c 440, c 441, c 442, c 443, c 444, c 445, c 446, c 447, c 448, c 449, c 450, c 451, c 452, c 453, c 454, c 455, c 456, c 457, c 458, c 459, c 460, c 461, c 462, c 463, c 464, c 465, c 466, c 467, c 468, c 469, c 470, c 471, c 472, c 473, c 474, c 475, c 476, c 477, c 478, c 479, c 480, c 481, c 482, c 483, c 484, c 485, c 486, c 487, c 488, c 489, c 490, c 491, c 492, c 493, c 494, c 495, c 496, c 497, c 498, c 499, c 500, c 501, c 502, c 503, c 504, c 505, c 506, c 507, c 508, c 509, c 510, c 511, c 512, c 513, c 514, c 515, c 516, c 517, c 518, c 519, c 520, c 521, c 522, c 523, c 524, c 525, c 526, c 527, c 528, c 529, c 530, c 531, c 532, c 533, c 534, c 535, c 536, c 537, c 538, c 539, c 540, c 541, c 542, c 543, c 544, c 545, c 546, c 547, c 548, c 549, c 550, c 551, c 552, c 553, c 554, c 555, c 556, c 557, c 558, c 559, c 560, c 561, c 562, c 563, c 564, c 565, c 566, c 567, c 568, c 569, c 570, c 571, c 572, c 573, c 574, c 575, c 576, c 577, c 578, c 579, c 580, c 581, c 582, c 583, c 584, c 585, c 586], []⟩
theorem tailA_wrap (cb tb ib mb st si ob nT nI : Nat) (ev : Int) (nm : Nat → ByteArray) (en lk : Nat → Bool) (hd : Nat → Int) (H L W : Nat → Int) (act mx : Int) (dr : Option Addr) (D : DataW Unit) (t it l r : Nat) (pN pW pK pH pA : Bool) (vN vR vI : Value) (dr' : Option Addr) (n' : Nat) (pb cT cI : Nat) (dp : Bool) (a : Act) (w0 w : World) (hT : nT ≤ 2000) (hI : nI ≤ 2000) (ht : t < nT) (hit : it < nI) (hln : l < nT) (hrn : r < nT)
    (hN : pN = true → L it = (l : Int) ∧ l ≠ t) (hN' : pN = false → L it = (t : Int) ∨ L it < 0) (hW : pW = true → W it = (r : Int) ∧ r ≠ t ∧ en r = false) (hW' : pW = false → W it = (t : Int) ∨ W it < 0 ∨ (W it = (r : Int) ∧ r ≠ t ∧ en r = true))
    (hK : Maps.has D (.int .u64 (ky t it)) = pK) (hH : pH = true → (H it != (t : Int)) = true) (hH' : pH = false → H it = (t : Int)) (hA : pA = true → pH = true ∧ hd t = 0) (hA' : pA = false → pH = true → hd t ≠ 0)
    (bv : -2147483648 ≤ ev ∧ ev ≤ 2147483647) (bh : -128 ≤ hd t ∧ hd t ≤ 127) (ba : -32768 ≤ act ∧ act ≤ 32767) (bm : -32768 ≤ mx ∧ mx ≤ 32767) (hdr : dr = if dp then some ⟨pb, 0, none⟩ else none) (hDs : Maps.size D ≤ 2000) (hTi : Tidy D)
    (ha : a = frA ev act mx dp nT nI cb dr t it st cT si cI ob pK D (fun i => a.tmps.getD i undef))
    (hP : Post cb tb ib mb st si ob nT nI ev nm en lk hd H L W act mx dr D t it l r pN pW pK pH pA vN vR vI dr' n' w) (hb : Below w0.heap.size w0 w) :
    Code.wp Yba.prog ((Yba.f3.body.bind (fromTest 36)).getD .skip) (bodyPost Yba.prog Yba.f3 fun e w' => e = .returned (.bool true) ∧ Below w0.heap.size w0 w') a w := by
  obtain ⟨c, hc⟩ : ∃ c, a = frA ev act mx dp nT nI cb dr t it st cT si cI ob pK D c := ⟨_, ha⟩
  subst hc
  exact tailA cb tb ib mb st si ob nT nI ev nm en lk hd H L W act mx dr D t it l r pN pW pK pH pA vN vR vI dr' n' pb cT cI dp c w0 w hT hI ht hit hln hrn hN hN' hW hW' hK hH hH' hA hA' bv bh ba bm hdr hDs hTi hP hb

/-- From the checker built on, up to the call of 'lock'. -/
def Snap (st si ob nT nI it : Nat) (nm : Nat → ByteArray) (en lk : Nat → Bool) (hd : Nat → Int) (H L W : Nat → Int) (dr : Option Addr) (w : World) : Prop :=
  (∀ u j, u < nT → j < 8 → w.cell? ⟨st, u * 8 + j, none⟩ = some (txV nm en lk hd nil3 nil3 nil3 u j)) ∧ (∀ u j, u < nI → j < 4 → w.cell? ⟨si, u * 4 + j, none⟩ = some (itV H L W u j)) ∧ (∀ j, j < 4 → w.cell? ⟨ob, j, none⟩ = some (itV H L W it j)) ∧ (∀ a, dr = some a → w.cell? a = some (.int .i64 (-7)))
theorem Snap.wrote {S : List Nat} {st si ob nT nI it : Nat} {nm : Nat → ByteArray} {en lk : Nat → Bool} {hd : Nat → Int} {H L W : Nat → Int} {dr : Option Addr} {w w' : World} (h : Snap st si ob nT nI it nm en lk hd H L W dr w) (k : Wrote S w w') (h1 : st ∉ S) (h2 : si ∉ S) (h3 : ob ∉ S) (h4 : ∀ a, dr = some a → a.block ∉ S) : Snap st si ob nT nI it nm en lk hd H L W dr w' :=
  ⟨fun u j hu hj => k.cell_of (h.1 u j hu hj) h1, fun u j hu hj => k.cell_of (h.2.1 u j hu hj) h2, fun j hj => k.cell_of (h.2.2.1 j hj) h3, fun a e => k.cell_of (h.2.2.2 a e) (h4 a e)⟩
theorem look_any {w : World} {mb n : Nat} {D : DataW Unit} {key : Value} {kl : Lit} (h : OwnM w mb n D) (hk : keyOf Yba.prog 50 key = some kl) : (Instr.lookup 28 (.map (some mb)) key true).run Yba.prog w = .ok (.tuple #[.agg #[], .bool (Maps.has D kl)]) w := by
  obtain ⟨v, ps, h1, h2⟩ := h.look_ok law50 Yba.underlying28 (zero49 w) unitElem_mk hk
  obtain ⟨rfl, _⟩ := unitElem_inv h2
  exact h1
theorem to_below {B w0 w w' : World} {S : List Nat} (h : Wrote [] w0 w) (k : Wrote S w w') (hS : ∀ b ∈ S, w0.heap.size ≤ b) : Below w0.heap.size w0 w' :=
  (h.below (Nat.le_refl _) (by simp)).trans (k.below h.size hS)

set_option maxRecDepth 100000 in
set_option maxHeartbeats 40000000 in
theorem mid (cb tb ib mb nT nI : Nat) (ev : Int) (nm : Nat → ByteArray) (en lk : Nat → Bool) (hd : Nat → Int) (H L W : Nat → Int) (act mx : Int) (dr : Option Addr) (n : Nat) (D : DataW Unit) (w0 : World) (w : World) (tt ii : Int) (pb : Nat) (dp : Bool) (c : Nat → Value) (hT : nT ≤ 2000) (hI : nI ≤ 2000) (hT0 : 0 < nT) (hI0 : 0 < nI) (bt : 0 ≤ tt ∧ tt ≤ 65535) (bi : 0 ≤ ii ∧ ii ≤ 65535)
    (bv : -2147483648 ≤ ev ∧ ev ≤ 2147483647) (bh : ∀ u, -128 ≤ hd u ∧ hd u ≤ 127) (ba : -32768 ≤ act ∧ act ≤ 32767) (bm : -32768 ≤ mx ∧ mx ≤ 32767) (hdr : dr = if dp then some ⟨pb, 0, none⟩ else none) (hn : n ≤ 2000)
    (bL : ∀ u, -1 ≤ L u ∧ L u < nT) (bW : ∀ u, -1 ≤ W u ∧ W u < nT) (hpre : ∀ a, dr = some a → w.cell? a = some (.int .i64 (-7)) ∧ a.block ∉ [cb, tb, ib, mb]) (hP : Pre cb tb ib mb nT nI ev nm en lk hd H L W act mx dr n D w0 w) :
    Code.wp Yba.prog ((Yba.f3.body.bind (fromRegion 28)).getD .skip) (bodyPost Yba.prog Yba.f3 fun e w' => e = .returned (.bool true) ∧ Below w0.heap.size w0 w') ⟨#[c 0, c 1, c 2, .int .u16 tt, .int .u16 ii, .int .i32 ev, .int .i16 act, .int .i16 mx, .bool dp, c 9, c 10, c 11, c 12, c 13, c 14, c 15, c 16, c 17, c 18, .int .i64 nT, .int .i64 nI, .pointer (some ⟨cb, 0, none⟩), c 22, c 23, c 24, c 25, c 26, c 27, .pointer dr, c 29, c 30, c 31, c 32, c 33, c 34, c 35, c 36, c 37, c 38, c 39, c 40, c 41, c 42, c 43, c 44, c 45, c 46, c 47, c 48, c 49, c 50, c 51, c 52, c 53, c 54, c 55, c 56, c 57, c 58, c 59, c 60, c 61, c 62, c 63, c 64, c 65, c 66, c 67, c 68, c 69, c 70, c 71, c 72, c 73, c 74, c 75, c 76, c 77, c 78, c 79, c 80, c 81, c 82, c 83, c 84, c 85, c 86, c 87, c 88, c 89, c 90, c 91, c 92, c 93, c 94, c 95, c 96, c 97, c 98, c 99, c 100, c 101, c 102, c 103, c 104, c 105, c 106, c 107, c 108, c 109, c 110, c 111, c 112, c 113, c 114, c 115, c 116, c 117, c 118, c 119, c 120, c 121, c 122, c 123, c 124, c 125, c 126, c 127, c 128, c 129, c 130, c 131, c 132, c 133, c 134, c 135, c 136, c 137, c 138, c 139, c 140, c 141, c 142, c 143, c 144, c 145, c 146, c 147, c 148, c 149, c 150, c 151, c 152, c 153, c 154, c 155, c 156, c 157, c 158, c 159, c 160, c 161, c 162, c 163, c 164, c 165, c 166, c 167, c 168, c 169, c 170, c 171, c 172, c 173, c 174, c 175, c 176, c 177, c 178, c 179, c 180, c 181, c 182, c 183, c 184, c 185, c 186, c 187, c 188, c 189, c 190, c 191, c 192, c 193, c 194, c 195, c 196, c 197, c 198, c 199, c 200, c 201, c 202, c 203, c 204, c 205, c 206, c 207, c 208, c 209, c 210, c 211, c 212, c 213, c 214, c 215, c 216, c 217, c 218, c 219, c 220, c 221, c 222, c 223, c 224, c 225, c 226, c 227, c 228, c 229, c 230, c 231, c 232, c 233, c 234, c 235, c 236, c 237, c 238, c 239, c 240, c 241, c 242, c 243, c 244, c 245, c 246, c 247, c 248, c 249, c 250, c 251, c 252, c 253, c 254, c 255, c 256, c 257, c 258, c 259, c 260, c 261, c 262, c 263, c 264, c 265, c 266, c 267, c 268, c 269, c 270, c 271, c 272, c 273, c 274, c 275, c 276, c 277, c 278, c 279, c 280, c 281, c 282, c 283, c 284, c 285, c 286, c 287, c 288, c 289, c 290, c 291, c 292, c 293, c 294, c 295, c 296, c 297, c 298, c 299, c 300, c 301, c 302, c 303, c 304, c 305, c 306, c 307, c 308, c 309, c 310, c 311, c 312, c 313, c 314, c 315, c 316, c 317, c 318, c 319, c 320, c 321, c 322, c 323, c 324, c 325, c 326, c 327, c 328, c 329, c 330, c 331, c 332, c 333, c 334, c 335, c 336, c 337, c 338, c 339, c 340, c 341, c 342, c 343, c 344, c 345, c 346, c 347, c 348, c 349, c 350, c 351, c 352, c 353, c 354, c 355, c 356, c 357, c 358, c 359, c 360, c 361, c 362, c 363, c 364, c 365, c 366, c 367, c 368, c 369, c 370, c 371, c 372, c 373, c 374, c 375, c 376, c 377, c 378, c 379, c 380, c 381, c 382, c 383, c 384, c 385, c 386, c 387, c 388, c 389, c 390, c 391, c 392, c 393, c 394, c 395, c 396, c 397, c 398, c 399, c 400, c 401, c 402, c 403, c 404, c 405, c 406, c 407, c 408, c 409, c 410, c 411, c 412, c 413, c 414, c 415, c 416, c 417, c 418, c 419, c 420, c 421, c 422, c 423, c 424, c 425, c 426, c 427, c 428, c 429, c 430, c 431, c 432, c 433, c 434, c 435, c 436, c 437, c 438, c 439, c 440, c 441, c 442, c 443, c 444, c 445, c 446, c 447, c 448, c 449, c 450, c 451, c 452, c 453, c 454, c 455, c 456, c 457, c 458, c 459, c 460, c 461, c 462, c 463, c 464, c 465, c 466, c 467, c 468, c 469, c 470, c 471, c 472, c 473, c 474, c 475, c 476, c 477, c 478, c 479, c 480, c 481, c 482, c 483, c 484, c 485, c 486, c 487, c 488, c 489, c 490, c 491, c 492, c 493, c 494, c 495, c 496, c 497, c 498, c 499, c 500, c 501, c 502, c 503, c 504, c 505, c 506, c 507, c 508, c 509, c 510, c 511, c 512, c 513, c 514, c 515, c 516, c 517, c 518, c 519, c 520, c 521, c 522, c 523, c 524, c 525, c 526, c 527, c 528, c 529, c 530, c 531, c 532, c 533, c 534, c 535, c 536, c 537, c 538, c 539, c 540, c 541, c 542, c 543, c 544, c 545, c 546, c 547, c 548, c 549, c 550, c 551, c 552, c 553, c 554, c 555, c 556, c 557, c 558, c 559, c 560, c 561, c 562, c 563, c 564, c 565, c 566, c 567, c 568, c 569, c 570, c 571, c 572, c 573, c 574, c 575, c 576, c 577, c 578, c 579, c 580, c 581, c 582, c 583, c 584, c 585, c 586], []⟩ w := by
  obtain ⟨t, htt⟩ : ∃ t : Nat, tt % (nT : Int) = (t : Int) := ⟨(tt % (nT : Int)).toNat, by have := Int.emod_nonneg tt (show (nT : Int) ≠ 0 by omega); omega⟩
  obtain ⟨it, hii⟩ : ∃ it : Nat, ii % (nI : Int) = (it : Int) := ⟨(ii % (nI : Int)).toNat, by have := Int.emod_nonneg ii (show (nI : Int) ≠ 0 by omega); omega⟩
  have ht : t < nT := by have := Int.emod_lt_of_pos tt (show (0 : Int) < nT by omega); omega
  have hit : it < nI := by have := Int.emod_lt_of_pos ii (show (0 : Int) < nI by omega); omega
  have z1 : ((nT : Int) == 0) = false := by simp; omega
  have z2 : ((nI : Int) == 0) = false := by simp; omega
  have HP : Hid (Pre cb tb ib mb nT nI ev nm en lk hd H L W act mx dr n D w0 w) := hP
  have HPR : Hid (∀ a, dr = some a → w.cell? a = some (.int .i64 (-7)) ∧ a.block ∉ [cb, tb, ib, mb]) := hpre
  have HDR : Hid (dr = if dp then some ⟨pb, 0, none⟩ else none) := hdr
  have BH : Hid (∀ u, -128 ≤ hd u ∧ hd u ≤ 127) := bh
  have BL : Hid (∀ u, -1 ≤ L u ∧ L u < nT) := bL
  have BW : Hid (∀ u, -1 ≤ W u ∧ W u < nT) := bW
  clear hP hpre hdr bh bL bW
  have c3 : w.cell? ⟨cb, 3, none⟩ = some (.slice (some ⟨tb, 0, none⟩) nT nT) := HP.out.ls.chk.cell (i := 3) (by omega)
  conv => arg 2; whnf
  go_wp2_with fail
  rw [htt, hii]
  clear z1 z2 c3 htt hii
  refine (cloneT tb nT nT _ w hT0 hT (txV_one nm en lk hd nil3 nil3 nil3 (fun _ => rfl) (fun _ => rfl) (fun _ => rfl)) HP.out.ls.txs).mono ?_
  rintro e w1 ⟨st, cT, rfl, hst, hcT, hsT, bel1⟩
  have K1 : Wrote [] w w1 := Wrote.ofBelow bel1
  have HP1 : Hid (Pre cb tb ib mb nT nI ev nm en lk hd H L W act mx dr n D w0 w1) := HP.out.wrote K1
  have HST : Hid (∀ u j, u < nT → j < 8 → w1.cell? ⟨st, u * 8 + j, none⟩ = some (txV nm en lk hd nil3 nil3 nil3 u j)) := hsT
  have HPR1 : Hid (∀ a, dr = some a → w1.cell? a = some (.int .i64 (-7)) ∧ a.block ∉ [cb, tb, ib, mb]) := fun a e => ⟨K1.cell_of (HPR.out a e).1 (by simp), (HPR.out a e).2⟩
  have n1 : st ∉ [cb, tb, ib, mb] := fun h => by have := HP.out.ls.lts st h; omega
  clear hsT HP HPR bel1 K1 hst
  have c5 : w1.cell? ⟨cb, 5, none⟩ = some (.slice (some ⟨ib, 0, none⟩) nI nI) := HP1.out.ls.chk.cell (i := 5) (by omega)
  have N1 := Hid.mk' n1
  clear n1
  go_wp2_with fail
  clear c5
  refine (cloneI ib nI nI _ w1 hI0 hI (itV_one H L W) HP1.out.ls.its).mono ?_
  rintro e w2 ⟨si, cI, rfl, hsi, hcI, hsI, bel2⟩
  have K2 : Wrote [] w1 w2 := Wrote.ofBelow bel2
  have HP2 : Hid (Pre cb tb ib mb nT nI ev nm en lk hd H L W act mx dr n D w0 w2) := HP1.out.wrote K2
  have HST2 : Hid (∀ u j, u < nT → j < 8 → w2.cell? ⟨st, u * 8 + j, none⟩ = some (txV nm en lk hd nil3 nil3 nil3 u j)) := fun u j hu hj => K2.cell_of (HST.out u j hu hj) (by simp)
  have HSI : Hid (∀ u j, u < nI → j < 4 → w2.cell? ⟨si, u * 4 + j, none⟩ = some (itV H L W u j)) := hsI
  have HPR2 : Hid (∀ a, dr = some a → w2.cell? a = some (.int .i64 (-7)) ∧ a.block ∉ [cb, tb, ib, mb]) := fun a e => ⟨K2.cell_of (HPR1.out a e).1 (by simp), (HPR1.out a e).2⟩
  have N2 : Hid (si ∉ [cb, tb, ib, mb]) := fun h => by have := HP1.out.ls.lts si h; omega
  clear hsI HP1 HPR1 bel2 K2 hsi HST
  have s0 : w2.cell? ⟨si, it * 4, none⟩ = some (.int .i64 (H it)) := HSI.out it 0 hit (by omega)
  have s1 : w2.cell? ⟨si, it * 4 + 1, none⟩ = some (.int .i64 (L it)) := HSI.out it 1 hit (by omega)
  have s2 : w2.cell? ⟨si, it * 4 + 2, none⟩ = some (.int .i64 (W it)) := HSI.out it 2 hit (by omega)
  have s3 : w2.cell? ⟨si, it * 4 + 3, none⟩ = some (.int .i64 0) := HSI.out it 3 hit (by omega)
  have bs : si < w2.heap.size := World.block_lt_of_cell? _ _ s0
  go_upto_region 32 with fail
  go_cut [33] from 196 to 199 (fun s33 wc => ∃ ob, s33 = .pointer (some ⟨ob, 0, none⟩) ∧ Hid (Pre cb tb ib mb nT nI ev nm en lk hd H L W act mx dr n D w0 wc) ∧ Hid (Snap st si ob nT nI it nm en lk hd H L W dr wc) ∧ Hid (ob ∉ [cb, tb, ib, mb]))
  case first => as_aux_lemma =>
    go_wp2
    go_meet
    case rel =>
      refine ⟨_, rfl, HP2.out.wrote ((Wrote.refl _ _).alloc _), ⟨fun u j hu hj => ((Wrote.refl [] _).alloc _).cell_of (HST2.out u j hu hj) (by simp), fun u j hu hj => ((Wrote.refl [] _).alloc _).cell_of (HSI.out u j hu hj) (by simp), fun j hj => ?_, fun a e => ((Wrote.refl [] _).alloc _).cell_of (HPR2.out a e).1 (by simp)⟩, fun h => by have := HP2.out.ls.lts _ h; simp at this⟩
      match j, hj with | 0, _ | 1, _ | 2, _ | 3, _ => exact cell_new rfl
  case rest => as_aux_lemma =>
    rename World => w3
    obtain ⟨ob, rfl, HP3, HS3, N3⟩ := hcut
    have NP : Hid (∀ a, dr = some a → a.block ∉ [cb, tb, ib, mb]) := fun a e => (HPR2.out a e).2
    clear s0 s1 s2 s3 bs HP2 HST2 HSI HPR2
    obtain ⟨pK, hpK⟩ : ∃ pK, Maps.has D (.int .u64 (ky t it)) = pK := ⟨_, rfl⟩
    have HK : Hid (Maps.has D (.int .u64 (ky t it)) = pK) := hpK
    clear hpK
    have c6 : w3.cell? ⟨cb, 6, none⟩ = some (.map (some mb)) := HP3.out.ls.chk.cell (i := 6) (by omega)
    have KL : Hid (∀ w', Wrote [] w3 w' → w'.cell? ⟨cb, 6, none⟩ = some (.map (some mb)) ∧ (Instr.lookup 28 (.map (some mb)) (.int .u64 (ky t it)) true).run Yba.prog w' = .ok (.tuple #[.agg #[], .bool pK]) w') := fun w' k => ⟨k.cell_of c6 (by simp), by rw [← HK.out]; exact look_any (HP3.out.ls.wrote k).own (ky_key t it)⟩
    go_upto_region 33 with fail
    go_cut [34, 35] from 200 to 210 (fun s34 s35 wc => s35 = .bool pK ∧ Hid (Wrote [] w3 wc))
    case first => as_aux_lemma =>
      have b1 := HP3.out.ls.chk.lt
      go_region_held3 (fun w' => w'.cell? ⟨cb, 6, none⟩ = some (.map (some mb)) ∧ (Instr.lookup 28 (.map (some mb)) (.int .u64 (ky t it)) true).run Yba.prog w' = .ok (.tuple #[.agg #[], .bool pK]) w') (first | exact KL.out _ (Wrote.refl _ _) | exact KL.out _ (Wrote.refl _ _).drew | exact KL.out _ ((Wrote.refl _ _).alloc _).drew | exact KL.out _ ((Wrote.refl _ _).drew.alloc _)) (first | (go_at_call 5; refine (key_any t it _ ?_ ?_).mono ?_; omega; omega; rintro e wx ⟨rfl, rfl⟩))
      all_goals go_wp2
      all_goals go_meet
      all_goals (case rel => exact ⟨rfl, ((Wrote.refl _ _).alloc _).drew⟩)
    case rest => as_aux_lemma =>
      rename World => w4
      obtain ⟨rfl, K4⟩ := hcut
      clear KL c6
      have HP4 : Hid (Pre cb tb ib mb nT nI ev nm en lk hd H L W act mx dr n D w0 w4) := HP3.out.wrote K4.out
      have HS4 : Hid (Snap st si ob nT nI it nm en lk hd H L W dr w4) := HS3.out.wrote K4.out (by simp) (by simp) (by simp) (by simp)
      clear HP3 HS3 K4
      have c6 : w4.cell? ⟨cb, 6, none⟩ = some (.map (some mb)) := HP4.out.ls.chk.cell (i := 6) (by omega)
      have hlen := fun ty => HP4.out.ls.own.len Yba.underlying28 ty
      obtain ⟨l, hl⟩ : ∃ l : Nat, l < nT ∧ (0 ≤ L it → L it = (l : Int)) := by
        by_cases h : 0 ≤ L it
        · exact ⟨(L it).toNat, by have := BL.out it; omega, fun _ => by omega⟩
        · exact ⟨t, ht, fun h' => absurd h' h⟩
      obtain ⟨r, hr⟩ : ∃ r : Nat, r < nT ∧ (0 ≤ W it → W it = (r : Int)) := by
        by_cases h : 0 ≤ W it
        · exact ⟨(W it).toNat, by have := BW.out it; omega, fun _ => by omega⟩
        · exact ⟨t, ht, fun h' => absurd h' h⟩
      have HLL := Hid.mk' hl
      have HRR := Hid.mk' hr
      clear hl hr
      have hsz : Maps.size D ≤ 2000 := Nat.le_trans HP4.out.ls.own.size_le hn
      have HTI : Hid (Tidy D) := HP4.out.ls.own.tidy law50
      have hN : (0 ≤ L it ∧ L it ≠ (t : Int) : Prop) = ((decide (0 ≤ L it ∧ L it ≠ (t : Int))) = true) := by simp
      obtain ⟨pN, hpN⟩ : ∃ b : Bool, b = decide (0 ≤ L it ∧ L it ≠ (t : Int)) := ⟨_, rfl⟩
      obtain ⟨pW, hpW⟩ : ∃ b : Bool, b = decide (0 ≤ W it ∧ W it ≠ (t : Int) ∧ en r = false) := ⟨_, rfl⟩
      obtain ⟨pH, hpH⟩ : ∃ b : Bool, b = decide (H it ≠ (t : Int)) := ⟨_, rfl⟩
      obtain ⟨pA, hpA⟩ : ∃ b : Bool, b = decide (H it ≠ (t : Int) ∧ hd t = 0) := ⟨_, rfl⟩
      have A1 : Hid (pN = true → L it = (l : Int) ∧ l ≠ t) := fun h => by rw [hpN] at h; have := of_decide_eq_true h; have e := HLL.out.2 this.1; exact ⟨e, by omega⟩
      have A2 : Hid (pN = false → L it = (t : Int) ∨ L it < 0) := fun h => by rw [hpN] at h; have := of_decide_eq_false h; omega
      have A3 : Hid (pW = true → W it = (r : Int) ∧ r ≠ t ∧ en r = false) := fun h => by rw [hpW] at h; have := of_decide_eq_true h; have e := HRR.out.2 this.1; exact ⟨e, by omega, this.2.2⟩
      have A4 : Hid (pW = false → W it = (t : Int) ∨ W it < 0 ∨ (W it = (r : Int) ∧ r ≠ t ∧ en r = true)) := fun h => by
        rw [hpW] at h
        have h3 := of_decide_eq_false h
        by_cases h1 : W it = (t : Int)
        · exact .inl h1
        · by_cases h2 : W it < 0
          · exact .inr (.inl h2)
          · have e := HRR.out.2 (by omega)
            refine .inr (.inr ⟨e, by omega, ?_⟩)
            cases her : en r with
            | true => rfl
            | false => exact absurd ⟨by omega, h1, her⟩ h3
      have A5 : Hid (pH = true → (H it != (t : Int)) = true) := fun h => by rw [hpH] at h; have := of_decide_eq_true h; simpa using this
      have A6 : Hid (pH = false → H it = (t : Int)) := fun h => by rw [hpH] at h; have := of_decide_eq_false h; omega
      have A7 : Hid (pA = true → pH = true ∧ hd t = 0) := fun h => by rw [hpA] at h; have := of_decide_eq_true h; exact ⟨by rw [hpH]; exact decide_eq_true this.1, this.2⟩
      have A8 : Hid (pA = false → pH = true → hd t ≠ 0) := fun h h' => by rw [hpA] at h; rw [hpH] at h'; have h1 := of_decide_eq_false h; have h2 := of_decide_eq_true h'; exact fun h3 => h1 ⟨h2, h3⟩
      clear hN hpN hpW hpH hpA
      go_upto_region 35 with fail
      clear hlen c6
      go_cut [] from 216 to 219 (fun wc => ∃ vN vR vI dr' n', Hid (Post cb tb ib mb st si ob nT nI ev nm en lk hd H L W act mx dr D t it l r pN pW pK pH pA vN vR vI dr' n' wc ∧ Below w0.heap.size w0 wc))
      case first => as_aux_lemma =>
        have bh := BH.out t
        have bh' : -1000 ≤ hd t ∧ hd t ≤ 1000 := by omega
        have ba' : -100000 ≤ act ∧ act ≤ 100000 := by omega
        have bm' : -100000 ≤ mx ∧ mx ≤ 100000 := by omega
        have HL := lock_any cb tb ib mb nT nI ev nm en lk hd H L W act mx dr n D t it l r pN pW pK pH pA w4 hT hI ht hit HLL.out.1 HRR.out.1 hn A1.out A2.out A3.out A4.out HK.out A5.out A6.out A7.out A8.out bh' ba' bm' HP4.out.ls
        have HLK := Hid.mk' HL
        clear HL
        go_wp2_with fail
        refine HLK.out.mono ?_
        rintro e w5 ⟨rfl, vN, vR, vI, dr', n', hls, q1, q2, q3, q4, q5, q6⟩
        have HX : Hid (Post cb tb ib mb st si ob nT nI ev nm en lk hd H L W act mx dr D t it l r pN pW pK pH pA vN vR vI dr' n' w5) := ⟨hls, q1, q2, q3, q4, q5, (HS4.out.wrote q6 N1.out N2.out N3.out NP.out).1, (HS4.out.wrote q6 N1.out N2.out N3.out NP.out).2.1, (HS4.out.wrote q6 N1.out N2.out N3.out NP.out).2.2.1, (HS4.out.wrote q6 N1.out N2.out N3.out NP.out).2.2.2⟩
        have HB5 : Hid (Below w0.heap.size w0 w5) := to_below (B := w0) HP4.out.wr q6 HP4.out.ge
        clear hls q1 q2 q3 q4 q5 q6
        go_wp2
        go_meet
        case rel => exact ⟨vN, vR, vI, dr', n', Hid.mk' ⟨HX.out, HB5.out⟩⟩
      case rest => as_aux_lemma =>
        rename World => w5
        obtain ⟨vN, vR, vI, dr', n', HX⟩ := hcut
        rename ∀ (a : Act) (w : World), Code.wp Yba.prog _ _ a w → _ => hK
        refine hK _ _ ?_
        exact wp_same (c' := (Yba.f3.body.bind (fromTest 36)).getD .skip) (by kernel_rfl) rfl (tailA_wrap cb tb ib mb st si ob nT nI ev nm en lk hd H L W act mx dr D t it l r pN pW pK pH pA vN vR vI dr' n' pb cT cI dp _ w0 w5 hT hI ht hit HLL.out.1 HRR.out.1 A1.out A2.out A3.out A4.out HK.out A5.out A6.out A7.out A8.out bv (BH.out t) ba bm HDR.out hsz HTI.out (by kernel_rfl) HX.out.1 HX.out.2)
end Go.Proofs.Ybulkbpui
