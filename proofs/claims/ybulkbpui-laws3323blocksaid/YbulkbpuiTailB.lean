import Derived.Test.YbulkbpuiLock
import Derived.Test.YbulkbpuiClone
import Derived.Deep.LoopGhost
import Derived.Deep.CutRange
import Derived.Lib.Builder
namespace Go.Proofs.Ybulkbpui
open Go.ChangeShapes Go.WideShapes Go.ChangeAt Go.RowKit
open Go.Maps
set_option linter.unusedVariables false
set_option linter.unusedSimpArgs false

/-- The code from a region on. -/
def fromRegion (id : Nat) : Code → Option Code
  | .seq (.region i ops b) c => if i = id then some (.seq (.region i ops b) c) else fromRegion id c
  | .seq _ c => fromRegion id c
  | .region i ops b => if i = id then some (.region i ops b) else none
  | _ => none
theorem wp_same {P : Program} {c c' : Code} {Q : Exit → Act → World → Prop} {a a' : Act} {w : World} (hc : c = c') (ha : a = a') (h : Code.wp P c' Q a' w) : Code.wp P c Q a w := by rw [hc, ha]; exact h

theorem info53 : (Yba.prog.info? 53).map (fun i => (i.zero, i.size, i.bytes)) = some (some (.agg #[.int .i64 0, .string "".toUTF8, .string "".toUTF8]), 3, 40) := by kernel_rfl
theorem neq_ptr (w : World) (b : Nat) : (binOp .neq 33 (.pointer (some ⟨b, 0, none⟩)) (.pointer (some ⟨b, 0, none⟩))).run Yba.prog w = .ok (.bool false) w := by
  obtain ⟨i0, hi, _⟩ := info_parts info53
  exact Lib.run_neq_ptr_same w _ Yba.underlying33 hi
theorem cell_new {w : World} {cs : Array Value} {ty : TypeId} {j : Nat} {v : Value} (h : cs[j]? = some v) : (w.alloc (.cells cs ty)).cell? ⟨w.heap.size, j, none⟩ = some v := by
  unfold World.cell?
  rw [heap_alloc_last]
  exact h
/-- What stands behind the call of 'lock'. -/
structure Post (cb tb ib mb st si ob nT nI : Nat) (ev : Int) (nm : Nat → ByteArray) (en lk : Nat → Bool) (hd : Nat → Int) (H L W : Nat → Int) (act mx : Int) (dr : Option Addr) (D : DataW Unit) (t it l r : Nat) (pN pW pK pH pA : Bool) (vN vR vI : Value) (dr' : Option Addr) (n' : Nat) (w : World) : Prop where
  ls : LS cb tb ib mb nT nI ev nm en (fset lk t true) (if pH then fset hd t (hd t + 1) else hd) (if pK then nil3 else fset nil3 t vI) (if pN then fset nil3 l vN else nil3) (if pW then fset nil3 t vR else nil3) (fset H it t) (fset L it t) W
      (if pA then act + 1 else act) (if pA then max mx (act + 1) else mx) dr' n' (if pK then D else D.put (.int .u64 (ky t it)) (.agg [])) w
  oN : pN = true → OneInt [cb, tb, ib, mb] w vN t
  oR : pW = true → OneInt [cb, tb, ib, mb] w vR r
  oI : pK = false → OneInt [cb, tb, ib, mb] w vI it
  rf : pW = true → dr = none → RFAt [cb, tb, ib, mb] w dr' ev (nm t) (nm r)
  kd : pW = false ∨ dr ≠ none → dr' = dr
  sT : ∀ u j, u < nT → j < 8 → w.cell? ⟨st, u * 8 + j, none⟩ = some (txV nm en lk hd nil3 nil3 nil3 u j)
  sI : ∀ u j, u < nI → j < 4 → w.cell? ⟨si, u * 4 + j, none⟩ = some (itV H L W u j)
  sO : ∀ j, j < 4 → w.cell? ⟨ob, j, none⟩ = some (itV H L W it j)
  pre : ∀ a, dr = some a → w.cell? a = some (.int .i64 (-7))
theorem Post.wrote {cb tb ib mb st si ob nT nI : Nat} {ev : Int} {nm : Nat → ByteArray} {en lk : Nat → Bool} {hd : Nat → Int} {H L W : Nat → Int} {act mx : Int} {dr : Option Addr} {D : DataW Unit} {t it l r : Nat} {pN pW pK pH pA : Bool} {vN vR vI : Value} {dr' : Option Addr} {n' : Nat} {w w' : World} (h : Post cb tb ib mb st si ob nT nI ev nm en lk hd H L W act mx dr D t it l r pN pW pK pH pA vN vR vI dr' n' w) (k : Wrote [] w w') : Post cb tb ib mb st si ob nT nI ev nm en lk hd H L W act mx dr D t it l r pN pW pK pH pA vN vR vI dr' n' w' :=
  ⟨h.ls.wrote k, fun e => (h.oN e).wrote (k.mono (by simp)), fun e => (h.oR e).wrote (k.mono (by simp)), fun e => (h.oI e).wrote (k.mono (by simp)), fun e f => (h.rf e f).wrote (k.mono (by simp)), h.kd,
    fun u j hu hj => k.cell_of (h.sT u j hu hj) (by simp), fun u j hu hj => k.cell_of (h.sI u j hu hj) (by simp), fun j hj => k.cell_of (h.sO j hj) (by simp), fun a e => k.cell_of (h.pre a e) (by simp)⟩


set_option maxRecDepth 100000 in
set_option maxHeartbeats 4000000 in
theorem tailB (cb tb ib mb st si ob nT nI : Nat) (ev : Int) (nm : Nat → ByteArray) (en lk : Nat → Bool) (hd : Nat → Int) (H L W : Nat → Int) (act mx : Int) (dr : Option Addr) (D : DataW Unit) (t it l r : Nat) (pN pW pK pH pA : Bool) (vN vR vI : Value) (dr' : Option Addr) (n' : Nat) (pb gb cT cI : Nat) (dp : Bool) (c : Nat → Value) (w0 w : World) (hT : nT ≤ 2000) (hI : nI ≤ 2000) (ht : t < nT) (hit : it < nI) (hln : l < nT) (hrn : r < nT)
    (hN : pN = true → L it = (l : Int) ∧ l ≠ t) (hN' : pN = false → L it = (t : Int) ∨ L it < 0) (hW : pW = true → W it = (r : Int) ∧ r ≠ t ∧ en r = false) (hW' : pW = false → W it = (t : Int) ∨ W it < 0 ∨ (W it = (r : Int) ∧ r ≠ t ∧ en r = true))
    (hK : Maps.has D (.int .u64 (ky t it)) = pK) (hH : pH = true → (H it != (t : Int)) = true) (hH' : pH = false → H it = (t : Int)) (hA : pA = true → pH = true ∧ hd t = 0) (hA' : pA = false → pH = true → hd t ≠ 0)
    (bv : -2147483648 ≤ ev ∧ ev ≤ 2147483647) (bh : -128 ≤ hd t ∧ hd t ≤ 127) (ba : -32768 ≤ act ∧ act ≤ 32767) (bm : -32768 ≤ mx ∧ mx ≤ 32767) (hdr : dr = if dp then some ⟨pb, 0, none⟩ else none)
    (hP : Post cb tb ib mb st si ob nT nI ev nm en lk hd H L W act mx dr D t it l r pN pW pK pH pA vN vR vI dr' n' w) (hg : w.cell? ⟨gb, 4, none⟩ = some (.int .i64 (if pH then hd t + 1 else hd t))) (hb : Below w0.heap.size w0 w) :
    Code.wp Yba.prog ((Yba.f3.body.bind (fromRegion 69)).getD .skip) (bodyPost Yba.prog Yba.f3 fun e w' => e = .returned (.bool true) ∧ Below w0.heap.size w0 w') ⟨#[c 0, c 1, c 2, c 3, c 4, .int .i32 ev, .int .i16 act, .int .i16 mx, .bool dp, c 9, c 10, c 11, c 12, c 13, c 14, c 15, c 16, c 17, c 18, c 19, .int .i64 nI, .pointer (some ⟨cb, 0, none⟩), c 22, c 23, c 24, c 25, c 26, c 27, .pointer dr, .int .i64 t, .int .i64 it, .slice (some ⟨st, 0, none⟩) nT cT, .slice (some ⟨si, 0, none⟩) nI cI, .pointer (some ⟨ob, 0, none⟩), c 34, c 35, c 36, c 37, c 38, c 39, c 40, .pointer (some ⟨gb, 0, none⟩), .bool pW, c 43, c 44, c 45, c 46, c 47, c 48, c 49, c 50, c 51, c 52, c 53, c 54, c 55, c 56, c 57, c 58, c 59, c 60, c 61, c 62, c 63, c 64, c 65, c 66, c 67, c 68, c 69, c 70, c 71, c 72, c 73, c 74, c 75, c 76, c 77, c 78, c 79, c 80, c 81, c 82, c 83, c 84, c 85, c 86, c 87, c 88, c 89, c 90, c 91, c 92, c 93, c 94, c 95, c 96, c 97, c 98, c 99, c 100, c 101, c 102, c 103, c 104, c 105, c 106, c 107, c 108, c 109, c 110, c 111, c 112, c 113, c 114, c 115, c 116, c 117, c 118, c 119, c 120, c 121, c 122, c 123, c 124, c 125, c 126, c 127, c 128, c 129, c 130, c 131, c 132, c 133, c 134, c 135, c 136, c 137, c 138, c 139, c 140, c 141, c 142, c 143, c 144, c 145, c 146, c 147, c 148, c 149, c 150, c 151, c 152, c 153, c 154, c 155, c 156, c 157, c 158, c 159, c 160, c 161, c 162, c 163, c 164, c 165, c 166, c 167, c 168, c 169, c 170, c 171, c 172, c 173, c 174, c 175, c 176, c 177, c 178, c 179, c 180, c 181, c 182, c 183, c 184, c 185, c 186, c 187, c 188, c 189, c 190, c 191, c 192, c 193, c 194, c 195, c 196, c 197, c 198, c 199, c 200, c 201, c 202, c 203, c 204, c 205, c 206, c 207, c 208, c 209, c 210, c 211, c 212, c 213, c 214, c 215, c 216, c 217, c 218, c 219, c 220, c 221, c 222, c 223, c 224, c 225, c 226, c 227, c 228, c 229, c 230, c 231, c 232, c 233, c 234, c 235, c 236, c 237, c 238, c 239, c 240, c 241, c 242, c 243, c 244, c 245, c 246, c 247, c 248, c 249, c 250, c 251, c 252, c 253, c 254, c 255, c 256, c 257, c 258, c 259, c 260, c 261, c 262, c 263, c 264, c 265, c 266, c 267, c 268, c 269, c 270, c 271, c 272, c 273, c 274, c 275, c 276, c 277, c 278, c 279, c 280, c 281, c 282, c 283, c 284, c 285, c 286, c 287, c 288, c 289, c 290, c 291, c 292, c 293, c 294, c 295, c 296, c 297, c 298, c 299, c 300, c 301, c 302, c 303, c 304, c 305, c 306, c 307, c 308, c 309, c 310, c 311, c 312, c 313, c 314, c 315, c 316, c 317, c 318, c 319, c 320, c 321, c 322, c 323, c 324, c 325, c 326, c 327, c 328, c 329, c 330, c 331, c 332, c 333, c 334, c 335, c 336, c 337, c 338, c 339, c 340, c 341, c 342, c 343, c 344, c 345, c 346, c 347, c 348, c 349, c 350, c 351, c 352, c 353, c 354, c 355, c 356, c 357, c 358, c 359, c 360, c 361, c 362, c 363, c 364, c 365, c 366, c 367, c 368, c 369, c 370, c 371, c 372, c 373, c 374, c 375, c 376, c 377, c 378, c 379, c 380, c 381, c 382, c 383, c 384, c 385, c 386, c 387, c 388, c 389, c 390, c 391, c 392, c 393, c 394, c 395, c 396, c 397, c 398, c 399, c 400, c 401, c 402, c 403, c 404, c 405, c 406, c 407, c 408, c 409, c 410, c 411, c 412, c 413, c 414, c 415, c 416, c 417, c 418, c 419, c 420, c 421, c 422, c 423, c 424, c 425, c 426, c 427, c 428, c 429, c 430, c 431, c 432, c 433, c 434, c 435, c 436, c 437, c 438, c 439, c 440, c 441, c 442, c 443, c 444, c 445, c 446, c 447, c 448, c 449, c 450, c 451, c 452, c 453, c 454, c 455, c 456, c 457, c 458, c 459, c 460, c 461, c 462, c 463, c 464, c 465, c 466, c 467, c 468, c 469, c 470, c 471, c 472, c 473, c 474, c 475, c 476, c 477, c 478, c 479, c 480, c 481, c 482, c 483, c 484, c 485, c 486, c 487, c 488, c 489, c 490, c 491, c 492, c 493, c 494, c 495, c 496, c 497, c 498, c 499, c 500, c 501, c 502, c 503, c 504, c 505, c 506, c 507, c 508, c 509, c 510, c 511, c 512, c 513, c 514, c 515, c 516, c 517, c 518, c 519, c 520, c 521, c 522, c 523, c 524, c 525, c 526, c 527, c 528, c 529, c 530, c 531, c 532, c 533, c 534, c 535, c 536, c 537, c 538, c 539, c 540, c 541, c 542, c 543, c 544, c 545, c 546, c 547, c 548, c 549, c 550, c 551, c 552, c 553, c 554, c 555, c 556, c 557, c 558, c 559, c 560, c 561, c 562, c 563, c 564, c 565, c 566, c 567, c 568, c 569, c 570, c 571, c 572, c 573, c 574, c 575, c 576, c 577, c 578, c 579, c 580, c 581, c 582, c 583, c 584, c 585, c 586], []⟩ w := by
  have HN : Hid (pN = true → L it = (l : Int) ∧ l ≠ t) := hN
  have HN' : Hid (pN = false → L it = (t : Int) ∨ L it < 0) := hN'
  have HW : Hid (pW = true → W it = (r : Int) ∧ r ≠ t ∧ en r = false) := hW
  have HW' : Hid (pW = false → W it = (t : Int) ∨ W it < 0 ∨ (W it = (r : Int) ∧ r ≠ t ∧ en r = true)) := hW'
  have HK : Hid (Maps.has D (.int .u64 (ky t it)) = pK) := hK
  have HH : Hid (pH = true → (H it != (t : Int)) = true) := hH
  have HH' : Hid (pH = false → H it = (t : Int)) := hH'
  have HA : Hid (pA = true → pH = true ∧ hd t = 0) := hA
  have HA' : Hid (pA = false → pH = true → hd t ≠ 0) := hA'
  have HDR : Hid (dr = if dp then some ⟨pb, 0, none⟩ else none) := hdr
  clear hN hN' hW hW' hK hH hH' hA hA' hdr

  have HP : Hid (Post cb tb ib mb st si ob nT nI ev nm en lk hd H L W act mx dr D t it l r pN pW pK pH pA vN vR vI dr' n' w) := hP
  have HG : Hid (w.cell? ⟨gb, 4, none⟩ = some (.int .i64 (if pH then hd t + 1 else hd t))) := hg
  have HB : Hid (Below w0.heap.size w0 w) := hb
  clear hP hg hb
  have x4 : w.cell? ⟨st, t * 8 + 4, none⟩ = some (.int .i64 (hd t)) := HP.out.sT t 4 ht (by omega)
  have o0 : w.cell? ⟨ob, 0, none⟩ = some (.int .i64 (H it)) := HP.out.sO 0 (by omega)
  conv => arg 2; whnf
  go_upto_if 447 with fail
  clear x4 o0
  go_cut [45, 46, 47] from 435 to 457 (fun s45 s46 s47 wc => s45 = .int .i64 (if pH then hd t + 1 else hd t) ∧ s46 = .int .i64 (if pA then act + 1 else act) ∧ s47 = .int .i64 (if pA then max mx (act + 1) else mx) ∧ w = wc)
  case first => as_aux_lemma =>
    cases pH with
    | true =>
      have hh := HH.out rfl
      cases pA with
      | true =>
        have h0 := (HA.out rfl).2
        rw [h0]
        by_cases hm : mx < act + 1
        · go_wp2
          go_meet
          case rel => exact ⟨congrArg (Value.int .i64) (by simp only [if_true]; omega), rfl, congrArg (Value.int .i64) (by simp only [if_true]; omega), rfl⟩
        · go_wp2
          go_meet
          case rel => exact ⟨congrArg (Value.int .i64) (by simp only [if_true]; omega), rfl, congrArg (Value.int .i64) (by simp only [if_true]; omega), rfl⟩
      | false =>
        have h0 := HA'.out rfl rfl
        have h1 : ((hd t : Int) + 1 == 1) = false := by simp; omega
        go_wp2
        go_meet
        case rel => exact ⟨rfl, rfl, rfl, rfl⟩
    | false =>
      have hh := HH'.out rfl
      have ha : pA = false := by
        cases pA with
        | true => exact absurd (HA.out rfl).1 (by simp)
        | false => rfl
      subst ha
      rw [hh]
      go_wp2
      go_meet
      case rel => exact ⟨rfl, rfl, rfl, rfl⟩
  case rest => as_aux_lemma =>
    obtain ⟨rfl, rfl, rfl, rfl⟩ := hcut
    have c7 : w.cell? ⟨cb, 7, none⟩ = some (.int .i64 (if pA then act + 1 else act)) := HP.out.ls.chk.cell (i := 7) (by omega)
    have c8 : w.cell? ⟨cb, 8, none⟩ = some (.int .i64 (if pA then max mx (act + 1) else mx)) := HP.out.ls.chk.cell (i := 8) (by omega)
    have g4 := HG.out
    generalize (if pH then hd t + 1 else hd t) = x1 at *
    generalize (if pA then act + 1 else act) = x2 at *
    generalize (if pA then max mx (act + 1) else mx) = x3 at *
    go_wp2
    clear c7 c8 g4 HG
    have HB1 := HB
    go_loopg [48] nI (fun gk iv wr => ∃ u : Nat, u + gk = nI ∧ iv = .int .i64 u ∧ Hid (Wrote [] w wr))
    case atStart => exact ⟨0, by omega, rfl, Wrote.refl _ _⟩
    case round =>
      obtain ⟨u, hu, rfl, K⟩ := hrel
      by_cases hlt : u < nI
      · by_cases he : u = it
        · have he' : (u : Int) = (it : Int) := by omega
          go_wp2
          go_roundg (nI - (u + 1))
          case measure => omega
          case rel => exact ⟨u + 1, by omega, by go_num, K⟩
        · have he' : ¬ ((u : Int) = (it : Int)) := by omega
          have i0 : wr.cell? ⟨ib, u * 4, none⟩ = some (.int .i64 (H u)) := by have := (HP.out.wrote K.out).ls.its.cell0 hlt (by omega); rw [this]; simp [itV, fset, he]
          have i1 : wr.cell? ⟨ib, u * 4 + 1, none⟩ = some (.int .i64 (L u)) := by have := (HP.out.wrote K.out).ls.its.cell hlt (j := 1) (by omega); rw [this]; simp [itV, fset, he]
          have i2 : wr.cell? ⟨ib, u * 4 + 2, none⟩ = some (.int .i64 (W u)) := (HP.out.wrote K.out).ls.its.cell hlt (j := 2) (by omega)
          have i3 : wr.cell? ⟨ib, u * 4 + 3, none⟩ = some (.int .i64 0) := (HP.out.wrote K.out).ls.its.cell hlt (j := 3) (by omega)
          have s0 : wr.cell? ⟨si, u * 4, none⟩ = some (.int .i64 (H u)) := (HP.out.wrote K.out).sI u 0 hlt (by omega)
          have s1 : wr.cell? ⟨si, u * 4 + 1, none⟩ = some (.int .i64 (L u)) := (HP.out.wrote K.out).sI u 1 hlt (by omega)
          have s2 : wr.cell? ⟨si, u * 4 + 2, none⟩ = some (.int .i64 (W u)) := (HP.out.wrote K.out).sI u 2 hlt (by omega)
          have s3 : wr.cell? ⟨si, u * 4 + 3, none⟩ = some (.int .i64 0) := (HP.out.wrote K.out).sI u 3 hlt (by omega)
          have c5 : wr.cell? ⟨cb, 5, none⟩ = some (.slice (some ⟨ib, 0, none⟩) nI nI) := (HP.out.wrote K.out).ls.chk.cell (i := 5) (by omega)
          go_wp2
          go_quiet (fail)
          go_wp2
          go_roundg (nI - (u + 1))
          case measure => omega
          case rel => exact ⟨u + 1, by omega, by go_num, Hid.mk' (K.out.drewN _)⟩
      · have HP1 : Hid (Post cb tb ib mb st si ob nT nI ev nm en lk hd H L W act mx dr D t it l r pN pW pK pH pA vN vR vI dr' n' wr) := HP.out.wrote K.out
        have HB2 : Hid (Below w0.heap.size w0 wr) := HB1.out.trans (K.out.below HB1.out.size (by simp))
        clear HP HB HB1
        have o2 : wr.cell? ⟨ob, 2, none⟩ = some (.int .i64 (W it)) := HP1.out.sO 2 (by omega)
        have o3 : wr.cell? ⟨ob, 3, none⟩ = some (.int .i64 0) := HP1.out.sO 3 (by omega)
        go_upto_region 86 with fail
        go_cut [49] from 498 to 504 (fun s49 wc => ∃ g, s49 = .pointer (some ⟨g, 0, none⟩) ∧ wc.cell? ⟨g, 0, none⟩ = some (.int .i64 t) ∧ wc.cell? ⟨g, 1, none⟩ = some (.int .i64 t) ∧ wc.cell? ⟨g, 2, none⟩ = some (.int .i64 (W it)) ∧ wc.cell? ⟨g, 3, none⟩ = some (.int .i64 0) ∧ Hid (Wrote [] wr wc))
        case first => as_aux_lemma =>
          have b1 : ob < wr.heap.size := World.block_lt_of_cell? _ _ o2
          go_wp2
          go_meet
          case rel => exact ⟨_, rfl, cell_new rfl, cell_new rfl, cell_new rfl, cell_new rfl, Hid.mk' ((Wrote.refl _ _).alloc _)⟩
        case rest => as_aux_lemma =>
          rename World => w2
          obtain ⟨g, rfl, g0, g1, g2, g3, K2⟩ := hcut
          have HP2 : Hid (Post cb tb ib mb st si ob nT nI ev nm en lk hd H L W act mx dr D t it l r pN pW pK pH pA vN vR vI dr' n' w2) := HP1.out.wrote K2.out
          have HB3 : Hid (Below w0.heap.size w0 w2) := HB2.out.trans (K2.out.below HB2.out.size (by simp))
          clear HP1 HB2 o2 o3
          have i0 : w2.cell? ⟨ib, it * 4, none⟩ = some (.int .i64 t) := by have := HP2.out.ls.its.cell0 hit (by omega); rw [this]; simp [itV, fset]
          have i1 : w2.cell? ⟨ib, it * 4 + 1, none⟩ = some (.int .i64 t) := by have := HP2.out.ls.its.cell hit (j := 1) (by omega); rw [this]; simp [itV, fset]
          have i2 : w2.cell? ⟨ib, it * 4 + 2, none⟩ = some (.int .i64 (W it)) := HP2.out.ls.its.cell hit (j := 2) (by omega)
          have i3 : w2.cell? ⟨ib, it * 4 + 3, none⟩ = some (.int .i64 0) := HP2.out.ls.its.cell hit (j := 3) (by omega)
          have c5 : w2.cell? ⟨cb, 5, none⟩ = some (.slice (some ⟨ib, 0, none⟩) nI nI) := HP2.out.ls.chk.cell (i := 5) (by omega)
          have c9 : w2.cell? ⟨cb, 9, none⟩ = some (.slice none 0 0) := HP2.out.ls.chk.cell (i := 9) (by omega)
          have c10 : w2.cell? ⟨cb, 10, none⟩ = some (.pointer none) := HP2.out.ls.chk.cell (i := 10) (by omega)
          have c11 : w2.cell? ⟨cb, 11, none⟩ = some (.pointer dr') := HP2.out.ls.chk.cell (i := 11) (by omega)
          have o2 : w2.cell? ⟨ob, 2, none⟩ = some (.int .i64 (W it)) := HP2.out.sO 2 (by omega)
          cases dp with
          | true =>
            have hdr : dr = some ⟨pb, 0, none⟩ := HDR.out
            have hd' : dr' = dr := HP2.out.kd (.inr (by rw [hdr]; simp))
            have hp := HP2.out.pre _ hdr
            rw [hd', hdr] at c11
            rw [hdr]
            have hpp := fun wx => neq_ptr wx pb
            go_wp2
            go_quiet (fail)
            go_wp2
            go_ret
            exact ⟨rfl, HB3.out.trans (((Wrote.refl [] _).drewN _).below HB3.out.size (by simp))⟩
          | false =>
            have hdr : dr = none := HDR.out
            cases pW with
            | true =>
              obtain ⟨hwr, hrt, her⟩ := HW.out rfl
              obtain ⟨f, hf, f0, f1, f2, hfS⟩ := HP2.out.rf rfl hdr
              rw [hf] at c11
              have t0 : w2.cell? ⟨st, t * 8, none⟩ = some (.string (nm t)) := HP2.out.sT t 0 ht (by omega)
              have r0 : w2.cell? ⟨st, r * 8, none⟩ = some (.string (nm r)) := HP2.out.sT r 0 hrn (by omega)
              rw [hwr] at o2 i2 g2
              go_wp2
              go_quiet (fail)
              go_wp2
              go_quiet (fail)
              go_wp2
              go_ret
              exact ⟨rfl, HB3.out.trans (((Wrote.refl [] _).drewN _).below HB3.out.size (by simp))⟩
            | false =>
              have hd' : dr' = dr := HP2.out.kd (.inl rfl)
              rw [hd', hdr] at c11
              go_wp2
              go_quiet (fail)
              go_wp2
              go_ret
              exact ⟨rfl, HB3.out.trans (((Wrote.refl [] _).drewN _).below HB3.out.size (by simp))⟩
end Go.Proofs.Ybulkbpui
