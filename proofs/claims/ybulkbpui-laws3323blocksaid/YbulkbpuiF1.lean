import Derived.Test.YbulkbpuiF2
namespace Go.Proofs.Ybulkbpui
open Go.ChangeShapes Go.WideShapes Go.ChangeAt Go.RowKit
open Go.Maps
set_option linter.unusedVariables false
set_option linter.unusedSimpArgs false


set_option maxRecDepth 100000 in
def fr12 (tt ii ev act mx : Int) (dp : Bool) (nT nI cb : Nat) (a1 a2 : Option Addr) (n1 n2 c1 c2 : Nat) (c : Nat → Value) : Act := ⟨#[c 0, .slice a1 n1 c1, .slice a2 n2 c2, .int .u16 tt, .int .u16 ii, .int .i32 ev, .int .i16 act, .int .i16 mx, .bool dp, c 9, c 10, c 11, c 12, c 13, c 14, c 15, c 16, c 17, c 18, .int .i64 nT, .int .i64 nI, .pointer (some ⟨cb, 0, none⟩), c 22, c 23, c 24, c 25, c 26, c 27, c 28, c 29, c 30, c 31, c 32, c 33, c 34, c 35, c 36, c 37, c 38, c 39, c 40, c 41, c 42, c 43, c 44, c 45, c 46, c 47, c 48, c 49, c 50, c 51, c 52, c 53, c 54, c 55, c 56, c 57, c 58, c 59, c 60, c 61, c 62, c 63, c 64, c 65, c 66, c 67, c 68, c 69, c 70, c 71, c 72, c 73, c 74, c 75, c 76, c 77, c 78, c 79, c 80, c 81, c 82, c 83, c 84, c 85, c 86, c 87, c 88, c 89, c 90, c 91, c 92, c 93, c 94, c 95, c 96, c 97, c 98, c 99, c 100, c 101, c 102, c 103, c 104, c 105, c 106, c 107, c 108, c 109, c 110, c 111, c 112, c 113, c 114, c 115, c 116, c 117, c 118, c 119, c 120, c 121, c 122, c 123, c 124, c 125, c 126, c 127, c 128, c 129, c 130, c 131, c 132, c 133, c 134, c 135, c 136, c 137, c 138, c 139, c 140, c 141, c 142, c 143, c 144, c 145, c 146, c 147, c 148, c 149, c 150, c 151, c 152, c 153, c 154, c 155, c 156, c 157, c 158, c 159, c 160, c 161, c 162, c 163, c 164, c 165, c 166, c 167, c 168, c 169, c 170, c 171, c 172, c 173, c 174, c 175, c 176, c 177, c 178, c 179, c 180, c 181, c 182, c 183, c 184, c 185, c 186, c 187, c 188, c 189, c 190, c 191, c 192, c 193, c 194, c 195, c 196, c 197, c 198, c 199, c 200, c 201, c 202, c 203, c 204, c 205, c 206, c 207, c 208, c 209, c 210, c 211, c 212, c 213, c 214, c 215, c 216, c 217, c 218, c 219, c 220, c 221, c 222, c 223, c 224, c 225, c 226, c 227, c 228, c 229, c 230, c 231, c 232, c 233, c 234, c 235, c 236, c 237, c 238, c 239, c 240, c 241, c 242, c 243, c 244, c 245, c 246, c 247, c 248, c 249, c 250, c 251, c 252, c 253, c 254, c 255, c 256, c 257, c 258, c 259, c 260, c 261, c 262, c 263, c 264, c 265, c 266, c 267, c 268, c 269, c 270, c 271, c 272, c 273, c 274, c 275, c 276, c 277, c 278, c 279, c 280, c 281, c 282, c 283, c 284, c 285, c 286, c 287, c 288, c 289, c 290, c 291, c 292, c 293, c 294, c 295, c 296, c 297, c 298, c 299, c 300, c 301, c 302, c 303, c 304, c 305, c 306, c 307, c 308, c 309, c 310, c 311, c 312, c 313, c 314, c 315, c 316, c 317, c 318, c 319, c 320, c 321, c 322, c 323, c 324, c 325, c 326, c 327, c 328, c 329, c 330, c 331, c 332, c 333, c 334, c 335, c 336, c 337, c 338, c 339, c 340, c 341, c 342, c 343, c 344, c 345, c 346, c 347, c 348, c 349, c 350, c 351, c 352, c 353, c 354, c 355, c 356, c 357, c 358, c 359, c 360, c 361, c 362, c 363, c 364, c 365, c 366, c 367, c 368, c 369, c 370, c 371, c 372, c 373, c 374, c 375, c 376, c 377, c 378, c 379, c 380, c 381, c 382, c 383, c 384, c 385, c 386, c 387, c 388, c 389, c 390, c 391, c 392, c 393, c 394, c 395, c 396, c 397, c 398, c 399, c 400, c 401, c 402, c 403, c 404, c 405, c 406, c 407, c 408, c 409, c 410, c 411, c 412, c 413, c 414, c 415, c 416, c 417, c 418, c 419, c 420, c 421, c 422, c 423, c 424, c 425, c 426, c 427, c 428, c 429, c 430, c 431, c 432, c 433, c 434, c 435, c 436, c 437, c 438, c 439, c 440, c 441, c 442, c 443, c 444, c 445, c 446, c 447, c 448, c 449, c 450, c 451, c 452, c 453, c 454, c 455, c 456, c 457, c 458, c 459, c 460, c 461, c 462, c 463, c 464, c 465, c 466, c 467, c 468, c 469, c 470, c 471, c 472, c 473, c 474, c 475, c 476, c 477, c 478, c 479, c 480, c 481, c 482, c 483, c 484, c 485, c 486, c 487, c 488, c 489, c 490, c 491, c 492, c 493, c 494, c 495, c 496, c 497, c 498, c 499, c 500, c 501, c 502, c 503, c 504, c 505, c 506, c 507, c 508, c 509, c 510, c 511, c 512, c 513, c 514, c 515, c 516, c 517, c 518, c 519, c 520, c 521, c 522, c 523, c 524, c 525, c 526, c 527, c 528, c 529, c 530, c 531, c 532, c 533, c 534, c 535, c 536, c 537, c 538, c 539, c 540, c 541, c 542, c 543, c 544, c 545, c 546, c 547, c 548, c 549, c 550, c 551, c 552, c 553, c 554, c 555, c 556, c 557, c 558, c 559, c 560, c 561, c 562, c 563, c 564, c 565, c 566, c 567, c 568, c 569, c 570, c 571, c 572, c 573, c 574, c 575, c 576, c 577, c 578, c 579, c 580, c 581, c 582, c 583, c 584, c 585, c 586], []⟩
theorem front2_wrap (cb tb mb nT nI : Nat) (ev : Int) (nm : Nat → ByteArray) (en lk : Nat → Bool) (hd : Nat → Int) (act mx : Int) (w0 w : World) (a1 a2 : Option Addr) (n1 n2 c1 c2 : Nat) (Y Z : Nat → Nat → Int) (tt ii : Int) (dp : Bool) (a : Act) (hT : nT ≤ 2000) (hI : nI ≤ 2000) (hT0 : 0 < nT) (bt : 0 ≤ tt ∧ tt ≤ 65535) (bi : 0 ≤ ii ∧ ii ≤ 65535)
    (bv : -2147483648 ≤ ev ∧ ev ≤ 2147483647) (bh : ∀ u, -128 ≤ hd u ∧ hd u ≤ 127) (ba : -32768 ≤ act ∧ act ≤ 32767) (bm : -32768 ≤ mx ∧ mx ≤ 32767) (hnI : n1 + 1 = nI) (h1 : n1 ≤ 1024) (h2 : n2 ≤ 1024)
    (bY : ∀ u j, u < n1 → j < 3 → 0 ≤ Y u j ∧ Y u j ≤ 65535) (bZ : ∀ u j, u < n2 → j < 2 → 0 ≤ Z u j ∧ Z u j ≤ 65535)
    (k1 : ArgAt w0 a1 n1 3 (in16 Y)) (k2 : ArgAt w0 a2 n2 2 (in16 Z)) (hS : S2 cb tb mb nT ev act mx nm en lk hd (.slice none 0 0) w0 w)
    (ha : a = fr12 tt ii ev act mx dp nT nI cb a1 a2 n1 n2 c1 c2 (fun i => a.tmps.getD i undef)) :
    Code.wp Yba.prog ((Yba.f3.body.bind (fromRegion 12)).getD .skip) (bodyPost Yba.prog Yba.f3 fun e w' => e = .returned (.bool true) ∧ Below w0.heap.size w0 w') a w := by
  obtain ⟨c, hc⟩ : ∃ c, a = fr12 tt ii ev act mx dp nT nI cb a1 a2 n1 n2 c1 c2 c := ⟨_, ha⟩
  subst hc
  exact front2 cb tb mb nT nI ev nm en lk hd act mx w0 w a1 a2 n1 n2 c1 c2 Y Z tt ii dp c hT hI hT0 bt bi bv bh ba bm hnI h1 h2 bY bZ k1 k2 hS

set_option maxRecDepth 100000 in
set_option maxHeartbeats 40000000 in
theorem front (a0 a1 a2 : Option Addr) (n0 n1 n2 c0 c1 c2 : Nat) (N : Nat → ByteArray) (E K : Nat → Bool) (X : Nat → Int) (Y Z : Nat → Nat → Int) (tt ii ev act mx : Int) (dp : Bool) (w : World)
    (h0 : n0 ≤ 1024) (h1 : n1 ≤ 1024) (h2 : n2 ≤ 1024) (bt : 0 ≤ tt ∧ tt ≤ 65535) (bi : 0 ≤ ii ∧ ii ≤ 65535) (bv : -2147483648 ≤ ev ∧ ev ≤ 2147483647) (ba : -32768 ≤ act ∧ act ≤ 32767) (bm : -32768 ≤ mx ∧ mx ≤ 32767)
    (bX : ∀ u, u < n0 → -128 ≤ X u ∧ X u ≤ 127) (bY : ∀ u j, u < n1 → j < 3 → 0 ≤ Y u j ∧ Y u j ≤ 65535) (bZ : ∀ u j, u < n2 → j < 2 → 0 ≤ Z u j ∧ Z u j ≤ 65535)
    (k0 : ArgAt w a0 n0 4 (inT N E K X)) (k1 : ArgAt w a1 n1 3 (in16 Y)) (k2 : ArgAt w a2 n2 2 (in16 Z)) :
    Calls Yba.prog 3 #[.slice a0 n0 c0, .slice a1 n1 c1, .slice a2 n2 c2, .int .u16 tt, .int .u16 ii, .int .i32 ev, .int .i16 act, .int .i16 mx, .bool dp] w fun e w' => e = .returned (.bool true) ∧ Below w.heap.size w w' := by
  have BX : Hid (∀ u, u < n0 → -128 ≤ X u ∧ X u ≤ 127) := bX
  have BY : Hid (∀ u j, u < n1 → j < 3 → 0 ≤ Y u j ∧ Y u j ≤ 65535) := bY
  have BZ : Hid (∀ u j, u < n2 → j < 2 → 0 ≤ Z u j ∧ Z u j ≤ 65535) := bZ
  have K0 : Hid (ArgAt w a0 n0 4 (inT N E K X)) := k0
  have K1 : Hid (ArgAt w a1 n1 3 (in16 Y)) := k1
  have K2 : Hid (ArgAt w a2 n2 2 (in16 Z)) := k2
  clear bX bY bZ k0 k1 k2
  have hmm := @run_makeMap Yba.prog
  go_enter Yba.func3, Yba.ntmps3
  go_upto_region 5 with fail
  go_cut [21] from 70 to 78 (fun s21 wc => ∃ cb mb, s21 = .pointer (some ⟨cb, 0, none⟩) ∧ cb ≠ mb ∧ w.heap.size ≤ cb ∧ w.heap.size ≤ mb ∧ wc.rowIs cb 35 12 (chZ (.slice none 0 0) (.slice none 0 0) ev mb act mx) ∧ OwnM wc mb 0 (.map []) ∧ Hid (Wrote [] w wc))
  case first => as_aux_lemma =>
    go_wp2
    go_meet
    case rel => exact ⟨_, _, rfl, by omega, by omega, Nat.le_refl _, rowIs_new (by simp) rfl (fun i hi => by match i, hi with | 0, _ | 1, _ | 2, _ | 3, _ | 4, _ | 5, _ | 6, _ | 7, _ | 8, _ | 9, _ | 10, _ | 11, _ => rfl), (World.ownsMap_made _ _ _ _).alloc _, ((Wrote.refl _ _).alloc _).alloc _⟩
  case rest => as_aux_lemma =>
    rename World => w1
    obtain ⟨cb, mb, rfl, hcm, hgc, hgm, hchk, hown, HW1⟩ := hcut
    have HC : Hid (w1.rowIs cb 35 12 (chZ (.slice none 0 0) (.slice none 0 0) ev mb act mx)) := hchk
    have HO : Hid (OwnM w1 mb 0 (.map [])) := hown
    clear hchk hown hmm
    have mk := run_make_grid (P := Yba.prog) 30 41 z41 zc41 zc41_eq 8 104 Yba.underlying30 info41 (n0 + 1) (by omega) (by omega)
    have hca : (((n0 + 1 : Nat) : Int)) = (n0 : Int) + 1 := by omega
    obtain ⟨nT, hnT⟩ : ∃ nT : Nat, n0 + 1 = nT := ⟨_, rfl⟩
    rw [hnT] at mk hca
    rw [← hca]
    have HnT : Hid (n0 + 1 = nT) := hnT
    clear hnT hca
    obtain ⟨nI, hnI⟩ : ∃ nI : Nat, n1 + 1 = nI := ⟨_, rfl⟩
    have hcb : (nI : Int) = (n1 : Int) + 1 := by omega
    rw [← hcb]
    have HnI : Hid (n1 + 1 = nI) := hnI
    clear hnI hcb
    go_upto_region 6 with fail
    go_cut [] from 79 to 83 (fun wc => ∃ tb, Hid (S2 cb tb mb nT ev act mx (fun _ => "".toUTF8) (fun _ => false) (fun _ => false) (fun _ => 0) (.slice none 0 0) w wc))
    case first => as_aux_lemma =>
      have f3 := HC.out.frozen 3
      have c3 : w1.cell? ⟨cb, 3, none⟩ = some (.slice none 0 0) := HC.out.cell (i := 3) (by omega)
      have b1 := HC.out.lt
      go_wp2
      go_meet
      case rel => exact ⟨_, s2_new HC.out HO.out HW1.out hcm hgc hgm⟩
    case rest => as_aux_lemma =>
      rename World => w2
      obtain ⟨tb, HS⟩ := hcut
      clear mk HC HO HW1 hcm hgc hgm
      rename ∀ (a : Act) (w : World), Code.wp Yba.prog _ _ a w → _ => hK
      refine hK _ _ ?_
      clear hK
      refine wp_seq_k ?_
      intro KK hKK
      go_cut [] from 84 to 107 (fun wc => Hid (S2 cb tb mb nT ev act mx (cutG N (fun _ => "".toUTF8) n0) (cutG E (fun _ => false) n0) (cutG K (fun _ => false) n0) (cutG X (fun _ => 0) n0) (.slice none 0 0) w wc))
      case first => as_aux_lemma =>
        go_wp2
        go_loopg [86] n0 (fun gk iv wr => ∃ u : Nat, u + gk = n0 ∧ iv = .int .i64 u ∧ Hid (S2 cb tb mb nT ev act mx (cutG N (fun _ => "".toUTF8) u) (cutG E (fun _ => false) u) (cutG K (fun _ => false) u) (cutG X (fun _ => 0) u) (.slice none 0 0) w wr))
        case atStart => exact ⟨0, by omega, rfl, by simp only [cutG_zero]; exact HS⟩
        case round =>
          obtain ⟨u, hu, rfl, HR⟩ := hrel
          clear HS
          by_cases hlt : u < n0
          · rcases K0.out with hz | ⟨b0, o0, rfl, hlt0, hc0⟩
            · omega
            have HC0 : Hid (∀ u j, u < n0 → j < 4 → w.cell? ⟨b0, o0 + u * 4 + j, none⟩ = some (inT N E K X u j)) := hc0
            clear hc0
            go_upto_region 9 with fail
            go_cut [22, 23] from 88 to 90 (fun s22 s23 wc => s22 = .int .i64 u ∧ ∃ xb, s23 = .pointer (some ⟨xb, 0, none⟩) ∧ wc.cell? ⟨xb, 0, none⟩ = some (.string (N u)) ∧ wc.cell? ⟨xb, 1, none⟩ = some (.bool (E u)) ∧ wc.cell? ⟨xb, 2, none⟩ = some (.bool (K u)) ∧ wc.cell? ⟨xb, 3, none⟩ = some (.int .i8 (X u)) ∧ xb ≠ tb ∧ Hid (Wrote [] wr wc))
            case first => as_aux_lemma =>
              have y0 : wr.cell? ⟨b0, o0 + u * 4, none⟩ = some (.string (N u)) := HR.out.wr.cell_of (HC0.out u 0 hlt (by omega)) (by simp)
              have y1 : wr.cell? ⟨b0, o0 + u * 4 + 1, none⟩ = some (.bool (E u)) := HR.out.wr.cell_of (HC0.out u 1 hlt (by omega)) (by simp)
              have y2 : wr.cell? ⟨b0, o0 + u * 4 + 2, none⟩ = some (.bool (K u)) := HR.out.wr.cell_of (HC0.out u 2 hlt (by omega)) (by simp)
              have y3 : wr.cell? ⟨b0, o0 + u * 4 + 3, none⟩ = some (.int .i8 (X u)) := HR.out.wr.cell_of (HC0.out u 3 hlt (by omega)) (by simp)
              have b1 : b0 < wr.heap.size := World.block_lt_of_cell? _ _ y0
              have b2 := HR.out.txs.lt
              go_wp2
              go_meet
              case rel => exact ⟨rfl, _, rfl, cell_new rfl, cell_new rfl, cell_new rfl, cell_new rfl, by omega, (Wrote.refl _ _).alloc _⟩
            case rest => as_aux_lemma =>
              rename World => w3
              obtain ⟨rfl, xb, rfl, x0, x1, x2, x3, hne, K3⟩ := hcut
              have HR3 := HR.out.wrote K3.out
              have HR4 : Hid (S2 cb tb mb nT ev act mx (cutG N (fun _ => "".toUTF8) u) (cutG E (fun _ => false) u) (cutG K (fun _ => false) u) (cutG X (fun _ => 0) u) (.slice none 0 0) w w3) := HR3
              clear HR3 HR K3
              have bx := BX.out u hlt
              have huT : u < nT := by have := HnT.out; omega
              have c3 : w3.cell? ⟨cb, 3, none⟩ = some (.slice (some ⟨tb, 0, none⟩) nT nT) := HR4.out.chk.cell (i := 3) (by omega)
              have fz : ∀ i, w3.frozen? ⟨tb, i, none⟩ = false := fun i => HR4.out.txs.frozen i
              have hT2 : nT ≤ 2000 := by have := HnT.out; omega
              go_wp2_with fail
              refine wp_region_qt 16 (by kernel_rfl) (by kernel_rfl) ?_
              simp only [List.take_succ_cons, List.take_zero, List.drop_succ_cons, List.drop_zero]
              repeat (first | go_big_quiet_skip | (go_big_quiet_want; go_big_quiet_op; go_big_quiet_on))
              refine wpQuiet_nil ?_
              refine wpList_store_mid rfl 41 _ _ rfl tb (u * 8) _ rfl rfl ?ht (by kernel_rfl) (by simp [Value.oneCell']) ?h
              case ht =>
                intro j hj
                have hj' : j < 8 := hj
                exact ⟨by rw [cell_drew, HR4.out.txs.cell huT hj']; rfl, HR4.out.txs.frozen _⟩
              case h =>
                have hs := (HR4.out.wrote (Wrote.refl _ _).drew).setTx u (N u) (E u) (K u) (X u)
                simp only [← cutG_succ] at hs
                have HR5 : Hid (S2 cb tb mb nT ev act mx (cutG N (fun _ => "".toUTF8) (u + 1)) (cutG E (fun _ => false) (u + 1)) (cutG K (fun _ => false) (u + 1)) (cutG X (fun _ => 0) (u + 1)) (.slice none 0 0) w (w3.drew.setCells tb (u * 8) [.string (N u), .bool (E u), .bool false, .bool (K u), .int .i64 (X u), .slice none 0 0, .slice none 0 0, .slice none 0 0])) := hs
                generalize w3.drew.setCells tb (u * 8) [.string (N u), .bool (E u), .bool false, .bool (K u), .int .i64 (X u), .slice none 0 0, .slice none 0 0, .slice none 0 0] = w4 at HR5 ⊢
                clear hs HR4 x0 x1 x2 x3 c3 fz
                go_wp2
                go_roundg (n0 - (u + 1))
                case measure => omega
                case rel => exact ⟨u + 1, by omega, by go_num, HR5⟩
          · have hun : u = n0 := by omega
            go_wp2
            go_meet
            case rel => rw [← hun]; exact hun ▸ HR
      case rest => as_aux_lemma =>
        rename World => w3
        have HS3 := hcut
        refine hKK _ _ ?_
        exact wp_same (c' := (Yba.f3.body.bind (fromRegion 12)).getD .skip) (by kernel_rfl) rfl (front2_wrap cb tb mb nT nI ev (cutG N (fun _ => "".toUTF8) n0) (cutG E (fun _ => false) n0) (cutG K (fun _ => false) n0) (cutG X (fun _ => 0) n0) act mx w w3 a1 a2 n1 n2 c1 c2 Y Z tt ii dp _ (by have := HnT.out; omega) (by have := HnI.out; omega) (by have := HnT.out; omega) bt bi bv (fun u => by
          unfold cutG
          split
          · next h => exact BX.out u h
          · show (-128 : Int) ≤ 0 ∧ (0 : Int) ≤ 127
            omega) ba bm HnI.out h1 h2 BY.out BZ.out K1.out K2.out HS3.out (by kernel_rfl))
end Go.Proofs.Ybulkbpui
