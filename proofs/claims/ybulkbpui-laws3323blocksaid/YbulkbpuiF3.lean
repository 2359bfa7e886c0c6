import Derived.Test.YbulkbpuiMid
import Derived.Test.YbulkbpuiS2
namespace Go.Proofs.Ybulkbpui
open Go.ChangeShapes Go.WideShapes Go.ChangeAt Go.RowKit
open Go.Maps
set_option linter.unusedVariables false
set_option linter.unusedSimpArgs false


set_option maxRecDepth 100000 in
def fr28 (tt ii ev act mx : Int) (dp : Bool) (nT nI cb : Nat) (dr : Option Addr) (c : Nat → Value) : Act := ⟨#[c 0, c 1, c 2, .int .u16 tt, .int .u16 ii, .int .i32 ev, .int .i16 act, .int .i16 mx, .bool dp, c 9, c 10, c 11, c 12, c 13, c 14, c 15, c 16, c 17, c 18, .int .i64 nT, .int .i64 nI, .pointer (some ⟨cb, 0, none⟩), c 22, c 23, c 24, c 25, c 26, c 27, .pointer dr, c 29, c 30, c 31, c 32, c 33, c 34, c 35, c 36, c 37, c 38, c 39, c 40, c 41, c 42, c 43, c 44, c 45, c 46, c 47, c 48, c 49, c 50, c 51, c 52, c 53, c 54, c 55, c 56, c 57, c 58, c 59, c 60, c 61, c 62, c 63, c 64, c 65, c 66, c 67, c 68, c 69, c 70, c 71, c 72, c 73, c 74, c 75, c 76, c 77, c 78, c 79, c 80, c 81, c 82, c 83, c 84, c 85, c 86, c 87, c 88, c 89, c 90, c 91, c 92, c 93, c 94, c 95, c 96, c 97, c 98, c 99, c 100, c 101, c 102, c 103, c 104, c 105, c 106, c 107, c 108, c 109, c 110, c 111, c 112, c 113, c 114, c 115, c 116, c 117, c 118, c 119, c 120, c 121, c 122, c 123, c 124, c 125, c 126, c 127, c 128, c 129, c 130, c 131, c 132, c 133, c 134, c 135, c 136, c 137, c 138, c 139, c 140, c 141, c 142, c 143, c 144, c 145, c 146, c 147, c 148, c 149, c 150, c 151, c 152, c 153, c 154, c 155, c 156, c 157, c 158, c 159, c 160, c 161, c 162, c 163, c 164, c 165, c 166, c 167, c 168, c 169, c 170, c 171, c 172, c 173, c 174, c 175, c 176, c 177, c 178, c 179, c 180, c 181, c 182, c 183, c 184, c 185, c 186, c 187, c 188, c 189, c 190, c 191, c 192, c 193, c 194, c 195, c 196, c 197, c 198, c 199, c 200, c 201, c 202, c 203, c 204, c 205, c 206, c 207, c 208, c 209, c 210, c 211, c 212, c 213, c 214, c 215, c 216, c 217, c 218, c 219, c 220, c 221, c 222, c 223, c 224, c 225, c 226, c 227, c 228, c 229, c 230, c 231, c 232, c 233, c 234, c 235, c 236, c 237, c 238, c 239, c 240, c 241, c 242, c 243, c 244, c 245, c 246, c 247, c 248, c 249, c 250, c 251, c 252, c 253, c 254, c 255, c 256, c 257, c 258, c 259, c 260, c 261, c 262, c 263, c 264, c 265, c 266, c 267, c 268, c 269, c 270, c 271, c 272, c 273, c 274, c 275, c 276, c 277, c 278, c 279, c 280, c 281, c 282, c 283, c 284, c 285, c 286, c 287, c 288, c 289, c 290, c 291, c 292, c 293, c 294, c 295, c 296, c 297, c 298, c 299, c 300, c 301, c 302, c 303, c 304, c 305, c 306, c 307, c 308, c 309, c 310, c 311, c 312, c 313, c 314, c 315, c 316, c 317, c 318, c 319, c 320, c 321, c 322, c 323, c 324, c 325, c 326, c 327, c 328, c 329, c 330, c 331, c 332, c 333, c 334, c 335, c 336, c 337, c 338, c 339, c 340, c 341, c 342, c 343, c 344, c 345, c 346, c 347, c 348, c 349, c 350, c 351, c 352, c 353, c 354, c 355, c 356, c 357, c 358, c 359, c 360, c 361, c 362, c 363, c 364, c 365, c 366, c 367, c 368, c 369, c 370, c 371, c 372, c 373, c 374, c 375, c 376, c 377, c 378, c 379, c 380, c 381, c 382, c 383, c 384, c 385, c 386, c 387, c 388, c 389, c 390, c 391, c 392, c 393, c 394, c 395, c 396, c 397, c 398, c 399, c 400, c 401, c 402, c 403, c 404, c 405, c 406, c 407, c 408, c 409, c 410, c 411, c 412, c 413, c 414, c 415, c 416, c 417, c 418, c 419, c 420, c 421, c 422, c 423, c 424, c 425, c 426, c 427, c 428, c 429, c 430, c 431, c 432, c 433, c 434, c 435, c 436, c 437, c 438, c 439, c 440, c 441, c 442, c 443, c 444, c 445, c 446, c 447, c 448, c 449, c 450, c 451, c 452, c 453, c 454, c 455, c 456, c 457, c 458, c 459, c 460, c 461, c 462, c 463, c 464, c 465, c 466, c 467, c 468, c 469, c 470, c 471, c 472, c 473, c 474, c 475, c 476, c 477, c 478, c 479, c 480, c 481, c 482, c 483, c 484, c 485, c 486, c 487, c 488, c 489, c 490, c 491, c 492, c 493, c 494, c 495, c 496, c 497, c 498, c 499, c 500, c 501, c 502, c 503, c 504, c 505, c 506, c 507, c 508, c 509, c 510, c 511, c 512, c 513, c 514, c 515, c 516, c 517, c 518, c 519, c 520, c 521, c 522, c 523, c 524, c 525, c 526, c 527, c 528, c 529, c 530, c 531, c 532, c 533, c 534, c 535, c 536, c 537, c 538, c 539, c 540, c 541, c 542, c 543, c 544, c 545, c 546, c 547, c 548, c 549, c 550, c 551, c 552, c 553, c 554, c 555, c 556, c 557, c 558, c 559, c 560, c 561, c 562, c 563, c 564, c 565, c 566, c 567, c 568, c 569, c 570, c 571, c 572, c 573, c 574, c 575, c 576, c 577, c 578, c 579, c 580, c 581, c 582, c 583, c 584, c 585, c 586], []⟩
theorem mid_wrap (cb tb ib mb nT nI : Nat) (ev : Int) (nm : Nat → ByteArray) (en lk : Nat → Bool) (hd : Nat → Int) (H L W : Nat → Int) (act mx : Int) (dr : Option Addr) (n : Nat) (D : DataW Unit) (w0 : World) (w : World) (tt ii : Int) (pb : Nat) (dp : Bool) (a : Act) (hT : nT ≤ 2000) (hI : nI ≤ 2000) (hT0 : 0 < nT) (hI0 : 0 < nI) (bt : 0 ≤ tt ∧ tt ≤ 65535) (bi : 0 ≤ ii ∧ ii ≤ 65535)
    (bv : -2147483648 ≤ ev ∧ ev ≤ 2147483647) (bh : ∀ u, -128 ≤ hd u ∧ hd u ≤ 127) (ba : -32768 ≤ act ∧ act ≤ 32767) (bm : -32768 ≤ mx ∧ mx ≤ 32767) (hdr : dr = if dp then some ⟨pb, 0, none⟩ else none) (hn : n ≤ 2000)
    (bL : ∀ u, -1 ≤ L u ∧ L u < nT) (bW : ∀ u, -1 ≤ W u ∧ W u < nT) (hpre : ∀ a, dr = some a → w.cell? a = some (.int .i64 (-7)) ∧ a.block ∉ [cb, tb, ib, mb]) (hP : Pre cb tb ib mb nT nI ev nm en lk hd H L W act mx dr n D w0 w)
    (ha : a = fr28 tt ii ev act mx dp nT nI cb dr (fun i => a.tmps.getD i undef)) :
    Code.wp Yba.prog ((Yba.f3.body.bind (fromRegion 28)).getD .skip) (bodyPost Yba.prog Yba.f3 fun e w' => e = .returned (.bool true) ∧ Below w0.heap.size w0 w') a w := by
  obtain ⟨c, hc⟩ : ∃ c, a = fr28 tt ii ev act mx dp nT nI cb dr c := ⟨_, ha⟩
  subst hc
  exact mid cb tb ib mb nT nI ev nm en lk hd H L W act mx dr n D w0 w tt ii pb dp c hT hI hT0 hI0 bt bi bv bh ba bm hdr hn bL bW hpre hP

theorem cell_new' {w : World} {g : Nat} {cs : Array Value} {ty : TypeId} {j : Nat} {v : Value} (hg : g = w.heap.size) (h : cs[j]? = some v) : (w.alloc (.cells cs ty)).cell? ⟨g, j, none⟩ = some v := by
  subst hg
  exact cell_new h
set_option maxRecDepth 100000 in
set_option maxHeartbeats 40000000 in
theorem front3 (cb tb ib mb nT nI : Nat) (ev : Int) (nm : Nat → ByteArray) (en lk : Nat → Bool) (hd : Nat → Int) (H L W : Nat → Int) (act mx : Int) (w0 w : World) (a2 : Option Addr) (n2 c2 : Nat) (Z : Nat → Nat → Int) (tt ii : Int) (dp : Bool) (c : Nat → Value) (hT : nT ≤ 2000) (hI : nI ≤ 2000) (hT0 : 0 < nT) (bt : 0 ≤ tt ∧ tt ≤ 65535) (bi : 0 ≤ ii ∧ ii ≤ 65535)
    (bv : -2147483648 ≤ ev ∧ ev ≤ 2147483647) (bh : ∀ u, -128 ≤ hd u ∧ hd u ≤ 127) (ba : -32768 ≤ act ∧ act ≤ 32767) (bm : -32768 ≤ mx ∧ mx ≤ 32767) (hI0 : 0 < nI) (h2 : n2 ≤ 1024) (bZ : ∀ u j, u < n2 → j < 2 → 0 ≤ Z u j ∧ Z u j ≤ 65535)
    (k2 : ArgAt w0 a2 n2 2 (in16 Z)) (bL : ∀ u, -1 ≤ L u ∧ L u < nT) (bW : ∀ u, -1 ≤ W u ∧ W u < nT) (hP : Pre cb tb ib mb nT nI ev nm en lk hd H L W act mx none 0 (.map []) w0 w) :
    Code.wp Yba.prog ((Yba.f3.body.bind (fromTest 19)).getD .skip) (bodyPost Yba.prog Yba.f3 fun e w' => e = .returned (.bool true) ∧ Below w0.heap.size w0 w') ⟨#[c 0, c 1, .slice a2 n2 c2, .int .u16 tt, .int .u16 ii, .int .i32 ev, .int .i16 act, .int .i16 mx, .bool dp, c 9, c 10, c 11, c 12, c 13, c 14, c 15, c 16, c 17, c 18, .int .i64 nT, .int .i64 nI, .pointer (some ⟨cb, 0, none⟩), c 22, c 23, c 24, c 25, c 26, c 27, c 28, c 29, c 30, c 31, c 32, c 33, c 34, c 35, c 36, c 37, c 38, c 39, c 40, c 41, c 42, c 43, c 44, c 45, c 46, c 47, c 48, c 49, c 50, c 51, c 52, c 53, c 54, c 55, c 56, c 57, c 58, c 59, c 60, c 61, c 62, c 63, c 64, c 65, c 66, c 67, c 68, c 69, c 70, c 71, c 72, c 73, c 74, c 75, c 76, c 77, c 78, c 79, c 80, c 81, c 82, c 83, c 84, c 85, c 86, c 87, c 88, c 89, c 90, c 91, c 92, c 93, c 94, c 95, c 96, c 97, c 98, c 99, c 100, c 101, c 102, c 103, c 104, c 105, c 106, c 107, c 108, c 109, c 110, c 111, c 112, c 113, c 114, c 115, c 116, c 117, c 118, c 119, c 120, c 121, c 122, c 123, c 124, c 125, c 126, c 127, c 128, c 129, c 130, c 131, c 132, c 133, c 134, c 135, c 136, c 137, c 138, c 139, c 140, c 141, c 142, c 143, c 144, c 145, c 146, c 147, c 148, c 149, c 150, c 151, c 152, c 153, c 154, c 155, c 156, c 157, c 158, c 159, c 160, c 161, c 162, c 163, c 164, c 165, c 166, c 167, c 168, c 169, c 170, c 171, c 172, c 173, c 174, c 175, c 176, c 177, c 178, c 179, c 180, c 181, c 182, c 183, c 184, c 185, c 186, c 187, c 188, c 189, c 190, c 191, c 192, c 193, c 194, c 195, c 196, c 197, c 198, c 199, c 200, c 201, c 202, c 203, c 204, c 205, c 206, c 207, c 208, c 209, c 210, c 211, c 212, c 213, c 214, c 215, c 216, c 217, c 218, c 219, c 220, c 221, c 222, c 223, c 224, c 225, c 226, c 227, c 228, c 229, c 230, c 231, c 232, c 233, c 234, c 235, c 236, c 237, c 238, c 239, c 240, c 241, c 242, c 243, c 244, c 245, c 246, c 247, c 248, c 249, c 250, c 251, c 252, c 253, c 254, c 255, c 256, c 257, c 258, c 259, c 260, c 261, c 262, c 263, c 264, c 265, c 266, c 267, c 268, c 269, c 270, c 271, c 272, c 273, c 274, c 275, c 276, c 277, c 278, c 279, c 280, c 281, c 282, c 283, c 284, c 285, c 286, c 287, c 288, c 289, c 290, c 291, c 292, c 293, c 294, c 295, c 296, c 297, c 298, c 299, c 300, c 301, c 302, c 303, c 304, c 305, c 306, c 307, c 308, c 309, c 310, c 311, c 312, c 313, c 314, c 315, c 316, c 317, c 318, c 319, c 320, c 321, c 322, c 323, c 324, c 325, c 326, c 327, c 328, c 329, c 330, c 331, c 332, c 333, c 334, c 335, c 336, c 337, c 338, c 339, c 340, c 341, c 342, c 343, c 344, c 345, c 346, c 347, c 348, c 349, c 350, c 351, c 352, c 353, c 354, c 355, c 356, c 357, c 358, c 359, c 360, c 361, c 362, c 363, c 364, c 365, c 366, c 367, c 368, c 369, c 370, c 371, c 372, c 373, c 374, c 375, c 376, c 377, c 378, c 379, c 380, c 381, c 382, c 383, c 384, c 385, c 386, c 387, c 388, c 389, c 390, c 391, c 392, c 393, c 394, c 395, c 396, c 397, c 398, c 399, c 400, c 401, c 402, c 403, c 404, c 405, c 406, c 407, c 408, c 409, c 410, c 411, c 412, c 413, c 414, c 415, c 416, c 417, c 418, c 419, c 420, c 421, c 422, c 423, c 424, c 425, c 426, c 427, c 428, c 429, c 430, c 431, c 432, c 433, c 434, c 435, c 436, c 437, c 438, c 439, c 440, c 441, c 442, c 443, c 444, c 445, c 446, c 447, c 448, c 449, c 450, c 451, c 452, c 453, c 454, c 455, c 456, c 457, c 458, c 459, c 460, c 461, c 462, c 463, c 464, c 465, c 466, c 467, c 468, c 469, c 470, c 471, c 472, c 473, c 474, c 475, c 476, c 477, c 478, c 479, c 480, c 481, c 482, c 483, c 484, c 485, c 486, c 487, c 488, c 489, c 490, c 491, c 492, c 493, c 494, c 495, c 496, c 497, c 498, c 499, c 500, c 501, c 502, c 503, c 504, c 505, c 506, c 507, c 508, c 509, c 510, c 511, c 512, c 513, c 514, c 515, c 516, c 517, c 518, c 519, c 520, c 521, c 522, c 523, c 524, c 525, c 526, c 527, c 528, c 529, c 530, c 531, c 532, c 533, c 534, c 535, c 536, c 537, c 538, c 539, c 540, c 541, c 542, c 543, c 544, c 545, c 546, c 547, c 548, c 549, c 550, c 551, c 552, c 553, c 554, c 555, c 556, c 557, c 558, c 559, c 560, c 561, c 562, c 563, c 564, c 565, c 566, c 567, c 568, c 569, c 570, c 571, c 572, c 573, c 574, c 575, c 576, c 577, c 578, c 579, c 580, c 581, c 582, c 583, c 584, c 585, c 586], []⟩ w := by
  have HP : Hid (Pre cb tb ib mb nT nI ev nm en lk hd H L W act mx none 0 (.map []) w0 w) := hP
  have K2 : Hid (ArgAt w0 a2 n2 2 (in16 Z)) := k2
  have BZ : Hid (∀ u j, u < n2 → j < 2 → 0 ≤ Z u j ∧ Z u j ≤ 65535) := bZ
  have BH : Hid (∀ u, -128 ≤ hd u ∧ hd u ≤ 127) := bh
  have BL : Hid (∀ u, -1 ≤ L u ∧ L u < nT) := bL
  have BW : Hid (∀ u, -1 ≤ W u ∧ W u < nT) := bW
  clear hP k2 bZ bh bL bW
  conv => arg 2; whnf
  refine wp_seq_k ?_
  intro KK hKK
  dsimp only
  go_cut [] from 148 to 170 (fun wc => ∃ n D, Hid (n ≤ n2 ∧ Pre cb tb ib mb nT nI ev nm en lk hd H L W act mx none n D w0 wc))
  case first => as_aux_lemma =>
    go_wp2
    go_loopg [150] n2 (fun gk iv wr => ∃ u : Nat, u + gk = n2 ∧ iv = .int .i64 u ∧ ∃ n D, Hid (n ≤ u ∧ Pre cb tb ib mb nT nI ev nm en lk hd H L W act mx none n D w0 wr))
    case atStart => exact ⟨0, by omega, rfl, 0, .map [], Nat.le_refl _, HP.out⟩
    case round =>
      obtain ⟨u, hu, rfl, n, D, HR⟩ := hrel
      clear HP
      by_cases hlt : u < n2
      · rcases K2.out with hz | ⟨b0, o0, rfl, hlt0, hc0⟩
        · omega
        have HC0 : Hid (∀ u j, u < n2 → j < 2 → w0.cell? ⟨b0, o0 + u * 2 + j, none⟩ = some (in16 Z u j)) := hc0
        clear hc0
        go_upto_region 21 with fail
        go_cut [27] from 152 to 153 (fun s27 wc => ∃ xb, s27 = .pointer (some ⟨xb, 0, none⟩) ∧ wc.cell? ⟨xb, 0, none⟩ = some (.int .u16 (Z u 0)) ∧ wc.cell? ⟨xb, 1, none⟩ = some (.int .u16 (Z u 1)) ∧ Hid (Wrote [] wr wc))
        case first => as_aux_lemma =>
          have y0 : wr.cell? ⟨b0, o0 + u * 2, none⟩ = some (.int .u16 (Z u 0)) := HR.out.2.wr.cell_of (HC0.out u 0 hlt (by omega)) (by simp)
          have y1 : wr.cell? ⟨b0, o0 + u * 2 + 1, none⟩ = some (.int .u16 (Z u 1)) := HR.out.2.wr.cell_of (HC0.out u 1 hlt (by omega)) (by simp)
          have b1 : b0 < wr.heap.size := World.block_lt_of_cell? _ _ y0
          go_wp2
          go_meet
          case rel => exact ⟨_, rfl, cell_new rfl, cell_new rfl, (Wrote.refl _ _).alloc _⟩
        case rest => as_aux_lemma =>
          rename World => w3
          obtain ⟨xb, rfl, x0, x1, K3⟩ := hcut
          have HR4 : Hid (n ≤ u ∧ Pre cb tb ib mb nT nI ev nm en lk hd H L W act mx none n D w0 w3) := ⟨HR.out.1, HR.out.2.wrote K3.out⟩
          clear HR K3
          have p0 := BZ.out u 0 hlt (by omega)
          have p1 := BZ.out u 1 hlt (by omega)
          have c6 : w3.cell? ⟨cb, 6, none⟩ = some (.map (some mb)) := HR4.out.2.ls.chk.cell (i := 6) (by omega)
          have hnu := HR4.out.1
          obtain ⟨q0, hq0⟩ : ∃ q : Nat, Z u 0 % (nT : Int) = (q : Int) := ⟨(Z u 0 % (nT : Int)).toNat, by have := Int.emod_nonneg (Z u 0) (show (nT : Int) ≠ 0 by omega); omega⟩
          obtain ⟨q1, hq1⟩ : ∃ q : Nat, Z u 1 % (nI : Int) = (q : Int) := ⟨(Z u 1 % (nI : Int)).toNat, by have := Int.emod_nonneg (Z u 1) (show (nI : Int) ≠ 0 by omega); omega⟩
          have hl0 : q0 < nT := by have := Int.emod_lt_of_pos (Z u 0) (show (0 : Int) < nT by omega); omega
          have hl1 : q1 < nI := by have := Int.emod_lt_of_pos (Z u 1) (show (0 : Int) < nI by omega); omega
          have z1 : ((nT : Int) == 0) = false := by simp; omega
          have z2 : ((nI : Int) == 0) = false := by simp; omega
          go_wp2_with fail
          refine wp_region_qt 16 (by kernel_rfl) (by kernel_rfl) ?_
          simp only [List.take_succ_cons, List.take_zero, List.drop_succ_cons, List.drop_zero]
          repeat (first | go_big_quiet_skip | (go_big_quiet_want; go_big_quiet_op; first | go_big_quiet_on | (apply Exists.intro; refine ⟨?_, ?_⟩; (· exact key_any q0 q1 _ (by omega) (by omega)); go_big_quiet_on)))
          refine wpQuiet_nil ?_
          have hown : OwnM w3.drew mb n D := HR4.out.2.ls.own
          refine wpList_mapUpdate_own _ rfl _ _ _ 28 rfl 50 49 law50 Yba.underlying28 (unitElem (H := Unit)) mb n _ rfl hown (by unfold maxLen; omega) _ _ _ rfl rfl (ky_key q0 q1) _ [] unitElem_mk ?_
          intro w6 hown1 hgrow1
          have HR6 : Hid (n + 1 ≤ u + 1 ∧ Pre cb tb ib mb nT nI ev nm en lk hd H L W act mx none (n + 1) (D.put (.int .u64 (ky q0 q1)) (.agg [])) w0 w6) := ⟨by omega, ⟨(HR4.out.2.ls.wrote (Wrote.refl _ _).drew).setMap hgrow1 hown1, HR4.out.2.ge, HR4.out.2.wr.drew.grown hgrow1 (fun k hk => by cases hk; exact .inr (HR4.out.2.ge mb (by simp)))⟩⟩
          clear hown hown1 hgrow1 HR4 x0 x1 c6
          go_wp2
          go_roundg (n2 - (u + 1))
          case measure => omega
          case rel => exact ⟨u + 1, by omega, by go_num, _, _, HR6⟩
      · go_wp2
        go_meet
        case rel => exact ⟨n, D, by have := HR.out.1; omega, HR.out.2⟩
  case rest => as_aux_lemma =>
    rename World => w1
    obtain ⟨n, D, HR⟩ := hcut
    clear HP
    refine hKK _ _ ?_
    clear hKK KK
    go_upto_if 171 with fail
    go_cut [28] from 171 to 177 (fun s28 wc => ∃ pb dr, s28 = .pointer dr ∧ Hid (dr = if dp then some ⟨pb, 0, none⟩ else none) ∧ Hid (Pre cb tb ib mb nT nI ev nm en lk hd H L W act mx dr n D w0 wc) ∧ Hid (∀ a, dr = some a → wc.cell? a = some (.int .i64 (-7)) ∧ a.block ∉ [cb, tb, ib, mb]))
    case first => as_aux_lemma =>
      cases dp with
      | true =>
        have c11 : w1.cell? ⟨cb, 11, none⟩ = some (.pointer none) := HR.out.2.ls.chk.cell (i := 11) (by omega)
        have f11 := HR.out.2.ls.chk.frozen 11
        have b1 := HR.out.2.ls.chk.lt
        go_wp2
        go_meet
        case rel =>
          refine ⟨_, _, rfl, rfl, ⟨(HR.out.2.ls.setDr _).wrote ((Wrote.refl _ _).alloc _), HR.out.2.ge, (HR.out.2.wr.setCell (p := ⟨cb, 11, none⟩) (.inr (HR.out.2.ge cb (by simp))) _).alloc _⟩, ?_⟩
          intro a ha
          cases ha
          refine ⟨cell_new' (size_setCell _ _ _).symm rfl, fun h => by have := HR.out.2.ls.lts _ h; simp at this⟩
      | false =>
        go_wp2
        go_meet
        case rel => exact ⟨0, none, rfl, rfl, HR.out.2, (fun a ha => nomatch ha)⟩
    case rest => as_aux_lemma =>
      rename World => w2
      obtain ⟨pb, dr, rfl, HDR, HP2, HPR⟩ := hcut
      have hn : n ≤ 2000 := by have := HR.out.1; omega
      rename ∀ (a : Act) (w : World), Code.wp Yba.prog _ _ a w → _ => hK
      refine hK _ _ ?_
      exact wp_same (c' := (Yba.f3.body.bind (fromRegion 28)).getD .skip) (by kernel_rfl) rfl (mid_wrap cb tb ib mb nT nI ev nm en lk hd H L W act mx dr n D w0 w2 tt ii pb dp _ hT hI hT0 hI0 bt bi bv BH.out ba bm HDR.out hn BL.out BW.out HPR.out HP2.out (by kernel_rfl))
end Go.Proofs.Ybulkbpui
