import Derived.Test.YbulkbptuMs
import Derived.Test.YbulkbptuBack
namespace Go.Proofs.Ybulkbptu
open Go.ChangeShapes Go.WideShapes Go.ChangeAt Go.RowKit
set_option linter.unusedVariables false
set_option linter.unusedSimpArgs false
/-- The code from a region on. -/
def fromRegion (id : Nat) : Code → Option Code
  | .seq (.region i ops b) c => if i = id then some (.seq (.region i ops b) c) else fromRegion id c
  | .seq _ c => fromRegion id c
  | _ => none
theorem wp_same {P : Program} {c c' : Code} {Q : Exit → Act → World → Prop} {a a' : Act} {w : World} (hc : c = c') (ha : a = a') (h : Code.wp P c' Q a' w) : Code.wp P c Q a w := by rw [hc, ha]; exact h
theorem results_tmp4 {fn : Func} {t u v z : Tmp} (h : fn.results = #[.tmp t, .tmp u, .tmp v, .tmp z]) (tmps : Array Value) (P : Program) (w : World) :
    (results fn tmps).run P w = .ok (.tuple #[tmps.getD t undef, tmps.getD u undef, tmps.getD v undef, tmps.getD z undef]) w := by
  simp [results, h]
/-- How a call of 'middle' ends. -/
def MidEnd (bf bb n m : Nat) (x y : Nat → Int) (w : World) (e : Ending) (w' : World) : Prop :=
  ∃ i j : Nat, e = .returned (.tuple #[.int .i64 i, .int .i64 j, .int .i64 (Di (eqM n m x y) n m), .bool true]) ∧ i ≤ n ∧ j ≤ m ∧ Ed (eqM n m x y) i j = (Di (eqM n m x y) n m + 1) / 2 ∧ Rest (eqM n m x y) n m i j = Di (eqM n m x y) n m - (Di (eqM n m x y) n m + 1) / 2 ∧ Wrote [bf, bb] w w'
/-- What holds at the start of round d; in its middle the forward search is one step ahead (e1 = d, e2 = d - 1). -/
structure LoopR (v7 v8 v9 v10 v11 v12 v23 v24 v25 ab bx b2 bf bb n m cx cy : Nat) (bd : Bool) (x y : Nat → Int) (sx sy : Nat → Bool) (dist : Int) (w0 : World) (d v33 e1 e2 : Nat) (flo fhi blo bhi vis : Int) (F B : Nat → Int) (w : World) : Prop where
  ms : Ms v7 v8 v9 v10 v11 v12 v23 v24 v25 ab bx b2 bf bb n m cx cy bd x y (cnt sx) (cnt sy) dist F B w
  wr : Wrote [bf, bb] w0 w
  cd : w.cell? ⟨v33, 0, none⟩ = some (.int .i64 d)
  nd : v33 ∉ [bf, bb]
  i1 : Inv (eqM n m x y) n m e1 flo fhi (fX m F)
  i2 : Inv (rev (eqM n m x y) n m) n m e2 ((n : Int) - m - bhi) ((n : Int) - m - blo) (bY n m B)
  hD : 2 * (d : Int) - 2 < Di (eqM n m x y) n m
  d1 : 1 ≤ d
  v0 : 0 ≤ vis
  v1 : vis ≤ ((e1 : Int) + 2) * 3000
  lF : ∀ i, -1 ≤ F i
  lB : ∀ i, -3000 ≤ B i ∧ B i ≤ top

set_option maxRecDepth 100000 in
set_option maxHeartbeats 40000000 in
theorem mid_loop (v7 v8 v9 v10 v11 v12 v23 v24 v25 ab bx b2 bf bb n m cx cy : Nat) (bd : Bool) (x y : Nat → Int) (sx sy : Nat → Bool) (dist : Int) (ls : Int) (nw odd : Bool) (F0 B0 : Nat → Int) (c : Nat → Value) (w0 w : World) (hM : Ms v7 v8 v9 v10 v11 v12 v23 v24 v25 ab bx b2 bf bb n m cx cy bd x y (cnt sx) (cnt sy) dist F0 B0 w) (hW : Wrote [bf, bb] w0 w) (hn : 1 ≤ n ∧ n ≤ 1000) (hm : 1 ≤ m ∧ m ≤ 1000) (hcx : n ≤ cx) (hcy : m ≤ cy)
    (I1 : Inv (eqM n m x y) n m 0 0 0 (fX m F0)) (I2 : Inv (rev (eqM n m x y) n m) n m 0 0 0 (bY n m B0)) (hpos : 0 < Di (eqM n m x y) n m) (hD2 : Di (eqM n m x y) n m ≤ 2000) (hs1 : ∀ i j, eqM n m x y i j = true → sx i = true) (hs2 : ∀ i j, eqM n m x y i j = true → sy j = true)
    (hls : -10 ≤ ls ∧ ls ≤ Di (eqM n m x y) n m) (hnw : nw = (decide (0 ≤ dist) && !bd)) (hdd : dist = -1 ∨ dist = Di (eqM n m x y) n m) (hodd : odd = decide (((n : Int) - m) % 2 ≠ 0)) (hF0 : ∀ i, -1 ≤ F0 i) (hB0 : ∀ i, -3000 ≤ B0 i ∧ B0 i ≤ top) :
    Code.wp Yba.prog ((Yba.f12.body.bind (fromRegion 11)).getD .skip) (bodyPost Yba.prog Yba.f12 (MidEnd bf bb n m x y w0)) ⟨#[c 0, c 1, c 2, c 3, c 4, c 5, .int .i64 1099511627776, .pointer (some ⟨v7, 0, none⟩), .pointer (some ⟨v8, 0, none⟩), .pointer (some ⟨v9, 0, none⟩), .pointer (some ⟨v10, 0, none⟩), .pointer (some ⟨v11, 0, none⟩), .pointer (some ⟨v12, 0, none⟩), c 13, c 14, c 15, c 16, c 17, .int .i64 (-(m : Int)), .int .i64 n, c 20, c 21, .bool odd, .pointer (some ⟨v23, 0, none⟩), .pointer (some ⟨v24, 0, none⟩), .pointer (some ⟨v25, 0, none⟩), .int .i64 0, .int .i64 0, .int .i64 ((n : Int) - m), .int .i64 ((n : Int) - m), .int .i64 ls, .bool nw, c 32, c 33, c 34, c 35, c 36, c 37, c 38, c 39, c 40, c 41, c 42, c 43, c 44, c 45, c 46, c 47, c 48, c 49, c 50, c 51, c 52, c 53, c 54, c 55, c 56, c 57, c 58, c 59, c 60, c 61, c 62, c 63, c 64, c 65, c 66, c 67, c 68, c 69, c 70, c 71, c 72, c 73, c 74, c 75, c 76, c 77, c 78, c 79, c 80, c 81, c 82, c 83, c 84, c 85, c 86, c 87, c 88, c 89, c 90, c 91, c 92, c 93, c 94, c 95, c 96, c 97, c 98, c 99, c 100, c 101, c 102, c 103, c 104, c 105, c 106, c 107, c 108, c 109, c 110, c 111, c 112, c 113, c 114, c 115, c 116, c 117, c 118, c 119, c 120, c 121, c 122, c 123, c 124, c 125, c 126, c 127, c 128, c 129, c 130, c 131, c 132, c 133, c 134, c 135, c 136, c 137, c 138, c 139, c 140, c 141, c 142, c 143, c 144, c 145, c 146, c 147, c 148, c 149, c 150, c 151, c 152, c 153, c 154, c 155, c 156, c 157, c 158, c 159, c 160, c 161, c 162, c 163, c 164, c 165, c 166, c 167, c 168, c 169, c 170, c 171, c 172, c 173, c 174, c 175, c 176, c 177, c 178, c 179, c 180, c 181, c 182, c 183, c 184, c 185, c 186, c 187, c 188, c 189, c 190, c 191, c 192, c 193, c 194, c 195, c 196, c 197, c 198, c 199, c 200, c 201, c 202, c 203, c 204, c 205, c 206, c 207, c 208, c 209, c 210, c 211, c 212, c 213, c 214, c 215, c 216, c 217, c 218, c 219, c 220, c 221, c 222, c 223, c 224, c 225, c 226, c 227, c 228, c 229, c 230, c 231, c 232, c 233, c 234, c 235, c 236, c 237, c 238, c 239, c 240, c 241, c 242, c 243, c 244, c 245, c 246, c 247, c 248, c 249, c 250, c 251, c 252, c 253, c 254, c 255, c 256, c 257, c 258, c 259, c 260, c 261, c 262, c 263, c 264, c 265, c 266, c 267, c 268, c 269, c 270, c 271, c 272, c 273, c 274, c 275, c 276, c 277, c 278, c 279, c 280, c 281, c 282, c 283, c 284, c 285, c 286, c 287, c 288, c 289, c 290, c 291, c 292, c 293, c 294, c 295, c 296, c 297, c 298, c 299, c 300, c 301, c 302, c 303, c 304, c 305, c 306, c 307, c 308, c 309, c 310, c 311, c 312, c 313, c 314, c 315], []⟩ w := by
  have HM := Hid.mk' hM
  have HW := Hid.mk' hW
  have HI1 := Hid.mk' I1
  have HI2 := Hid.mk' I2
  have HS1 := Hid.mk' hs1
  have HS2 := Hid.mk' hs2
  have HNW := Hid.mk' hnw
  have HDD := Hid.mk' hdd
  have HO := Hid.mk' hodd
  have HF0 := Hid.mk' hF0
  have HB0 := Hid.mk' hB0
  have hdist : -1 ≤ dist ∧ dist ≤ 2000 := by omega
  clear hM hW I1 I2 hs1 hs2 hnw hdd hodd hF0 hB0
  have hin := Hid.mk' (eqM_inside n m x y)
  conv => arg 2; whnf
  go_wp2
  go_loopg [26, 27, 28, 29, 32, 33] 1001 (fun gk s26 s27 s28 s29 s32 s33 wr => ∃ (d v33 : Nat) (flo fhi blo bhi vis : Int) (F B : Nat → Int), d + gk = 1002 ∧ s26 = .int .i64 flo ∧ s27 = .int .i64 fhi ∧ s28 = .int .i64 blo ∧ s29 = .int .i64 bhi ∧ s32 = .int .i64 vis ∧ s33 = .pointer (some ⟨v33, 0, none⟩) ∧ Hid (LoopR v7 v8 v9 v10 v11 v12 v23 v24 v25 ab bx b2 bf bb n m cx cy bd x y sx sy dist w0 d v33 (d - 1) (d - 1) flo fhi blo bhi vis F B wr))
  case atStart =>
    have hb := HM.out.rf.lt
    have hb2 := HM.out.rb.lt
    refine ⟨1, _, 0, 0, _, _, 0, F0, B0, by omega, rfl, rfl, rfl, rfl, rfl, rfl, ⟨HM.out.wrote ((Wrote.refl [] _).alloc _), HW.out.alloc _, cell_new' rfl rfl, by simp; omega, HI1.out, ?_, by omega, by omega, by omega, by omega, HF0.out, HB0.out⟩⟩
    rw [show (n : Int) - m - ((n : Int) - m) = 0 by omega]
    exact HI2.out
  case round =>
    obtain ⟨d, v33, flo, fhi, blo, bhi, vis, F, B, hdg, rfl, rfl, rfl, rfl, rfl, rfl, HR⟩ := hrel
    clear HM HW HI1 HI2 HF0 HB0
    have hd1 := HR.out.d1
    have hd2 := HR.out.hD
    have j1 := HR.out.i1.le
    have j2 := HR.out.i1.lo_ge
    have j3 := HR.out.i1.hi_le
    have j4 := HR.out.i2.le
    have j5 := HR.out.i2.lo_ge
    have j6 := HR.out.i2.hi_le
    have v0 := HR.out.v0
    have v1 := HR.out.v1
    have hdb : d ≤ 1001 := by omega
    obtain ⟨vis2, hvis2⟩ : ∃ vis2 : Int, vis2 = vis + ((fhi - flo) / 2 + (bhi - blo) / 2 + 2) := ⟨_, rfl⟩
    go_upto_region 14 with fail
    go_cut [32] from 103 to 114 (fun s32 wc => s32 = .int .i64 vis2 ∧ wc = wr)
    case first => as_aux_lemma =>
      go_wp2
      go_meet
      case rel => exact ⟨by rw [hvis2], rfl⟩
    case rest => as_aux_lemma =>
      obtain ⟨rfl, rfl⟩ := hcut
      have hvb : ¬ (1099511627776 < vis2) := by omega
      have hvc : 0 ≤ vis2 ∧ vis2 ≤ ((d : Int) + 2) * 3000 := by omega
      clear hvis2 v0 v1
      rename World => wr
      go_upto_if 120 with fail
      go_cut [26] from 115 to 130 (fun s26 wc => s26 = .int .i64 (widLo m flo) ∧ Hid (Ms v7 v8 v9 v10 v11 v12 v23 v24 v25 ab bx b2 bf bb n m cx cy bd x y (cnt sx) (cnt sy) dist (if -(m : Int) < flo then at1 F (flo - 2 + m + 2).toNat (-1) else F) B wc ∧ Wrote [bf, bb] wr wc))
      case first => as_aux_lemma =>
        by_cases hw : -(m : Int) < flo
        · obtain ⟨i0, hi0⟩ : ∃ i0 : Nat, flo - 2 + m + 2 = (i0 : Int) := ⟨(flo - 2 + m + 2).toNat, by omega⟩
          have hix1 : flo - 1 - 1 + ((m : Int) + 2) = i0 := by omega
          have hix2 : flo - 2 + ((m : Int) + 2) = i0 := by omega
          have hlt : (i0 : Int) < ((n + m + 5 : Nat) : Int) := by omega
          have c23 := HR.out.ms.c23
          have c25 := HR.out.ms.c25
          have cf := HR.out.ms.rf.cell (i := i0) (by omega)
          have ff := HR.out.ms.rf.frozen i0
          have HI0 := Hid.mk' hi0
          clear hi0
          go_wp2
          go_meet
          case rel =>
            refine ⟨by unfold widLo; rw [if_pos hw], ?_, ?_⟩
            · rw [if_pos hw, HI0.out]
              exact HR.out.ms.setF i0 (-1)
            · exact (Wrote.refl _ _).setCell (.inl (by simp)) _
        · go_wp2
          go_meet
          case rel => exact ⟨by unfold widLo; rw [if_neg (by omega)], by rw [if_neg (by omega)]; exact HR.out.ms, Wrote.refl _ _⟩
      case rest => as_aux_lemma =>
        rename World => w1
        obtain ⟨rfl, H1⟩ := hcut
        go_upto_if 133 with fail
        go_cut [27] from 131 to 143 (fun s27 wc => s27 = .int .i64 (widHi n fhi) ∧ Hid (Ms v7 v8 v9 v10 v11 v12 v23 v24 v25 ab bx b2 bf bb n m cx cy bd x y (cnt sx) (cnt sy) dist (mark n m flo fhi (-1) F) B wc ∧ Wrote [bf, bb] wr wc))
        case first => as_aux_lemma =>
          by_cases hw : fhi < (n : Int)
          · obtain ⟨i0, hi0⟩ : ∃ i0 : Nat, fhi + 2 + m + 2 = (i0 : Int) := ⟨(fhi + 2 + m + 2).toNat, by omega⟩
            have hix1 : fhi + 1 + 1 + ((m : Int) + 2) = i0 := by omega
            have hix2 : fhi + 2 + ((m : Int) + 2) = i0 := by omega
            have hlt : (i0 : Int) < ((n + m + 5 : Nat) : Int) := by omega
            have c23 := H1.out.1.c23
            have c25 := H1.out.1.c25
            have cf := H1.out.1.rf.cell (i := i0) (by omega)
            have ff := H1.out.1.rf.frozen i0
            have HI0 := Hid.mk' hi0
            clear hi0
            go_wp2
            go_meet
            case rel =>
              refine ⟨by unfold widHi; rw [if_pos hw], ?_, ?_⟩
              · unfold mark
                rw [if_pos hw, HI0.out]
                exact H1.out.1.setF i0 (-1)
              · exact H1.out.2.setCell (.inl (by simp)) _
          · go_wp2
            go_meet
            case rel => exact ⟨by unfold widHi; rw [if_neg (by omega)], by unfold mark; rw [if_neg (by omega)]; exact H1.out.1, H1.out.2⟩
        case rest => as_aux_lemma =>
          rename World => w2
          obtain ⟨rfl, H2⟩ := hcut
          clear H1
          obtain ⟨g1, g2, g3, g4, g5⟩ := fwd_pre (M := eqM n m x y) (by omega) HR.out.i1
          have HG5 := Hid.mk' g5
          clear g5
          obtain ⟨L, hL⟩ : ∃ L : Nat, (widHi n fhi - widLo m flo + 3).toNat = L := ⟨_, rfl⟩
          obtain ⟨oN, hoN⟩ : ∃ oN : Nat, (widLo m flo - 1 + m + 2).toNat = oN := ⟨_, rfl⟩
          have hs1 : widLo m flo - 1 + ((m : Int) + 2) = (oN : Int) := by omega
          have hs2 : widHi n fhi + 2 + ((m : Int) + 2) = ((oN + L : Nat) : Int) := by omega
          have hs3 : oN + L ≤ n + m + 5 := by omega
          have hL3 : 3 ≤ L ∧ L % 2 = 1 := by omega
          have hk0 : -5000 ≤ widLo m flo - 1 ∧ widLo m flo - 1 ≤ 5000 := by omega
          have HLL := Hid.mk' (And.intro hL hoN)
          clear hL hoN
          have c23 := H2.out.1.c23
          have c25 := H2.out.1.c25
          have c7 := H2.out.1.bx.c7
          have c9 := H2.out.1.bx.c9
          have c11 := H2.out.1.bx.c11
          have a0 := H2.out.1.al.a0
          have a1 := H2.out.1.al.a1
          have hcx' : (n : Int) ≤ cx := by omega
          have hcy' : (m : Int) ≤ cy := by omega
          have hs4 : ((oN + L : Nat) : Int) ≤ ((n + m + 5 : Nat) : Int) := by omega
          have hs5 : (oN : Int) ≤ ((oN + L : Nat) : Int) := by omega
          go_upto_region 25 with fail
          go_cut [] from 144 to 168 (fun wc => ∃ G, Hid (Stepped (eqM n m x y) (widLo m flo - 1) oN L (mark n m flo fhi (-1) F) G ∧ Ms v7 v8 v9 v10 v11 v12 v23 v24 v25 ab bx b2 bf bb n m cx cy bd x y (cnt sx) (cnt sy) dist G B wc ∧ Wrote [bf, bb] wr wc))
          case first => as_aux_lemma =>
            refine wp_region_qt 24 (by kernel_rfl) (by kernel_rfl) ?_
            simp only [List.take_succ_cons, List.take_zero, List.drop_succ_cons, List.drop_zero]
            repeat (first | go_big_quiet_skip | (go_big_quiet_want; go_big_quiet_op; go_big_quiet_on))
            refine wpQuiet_nil ?_
            have hst := stepF_any bf (n + m + 5) oN L (n + m + 5 - oN) bx n cx b2 m cy (mark n m flo fhi (-1) F) x y (widLo m flo - 1) w2.drew H2.out.1.rf hs3 hL3.1 hL3.2 (by omega) (by omega) (by omega) hk0 H2.out.1.al.xs H2.out.1.al.ys H2.out.1.al.ne.2.2.1 H2.out.1.al.ne.2.2.2.2.1
              (fun i => by
                rcases mark_or (n := n) (m := m) flo fhi (-1) F i with h | h
                · rw [h]; have := HR.out.lF i; omega
                · rw [h]; omega)
              (fun j hj hl => by
                have := HG5.out j hj (by rw [HLL.out.1]; exact hl)
                rw [HLL.out.2] at this
                refine ⟨this.1, this.2.1, ?_⟩
                have := this.2.2
                omega)
            have HST := Hid.mk' hst
            clear hst
            go_wp2_with fail
            refine HST.out.mono ?_
            rintro e wx ⟨rfl, G, hS, hr, hw⟩
            have HX : Hid (Stepped (eqM n m x y) (widLo m flo - 1) oN L (mark n m flo fhi (-1) F) G ∧ Ms v7 v8 v9 v10 v11 v12 v23 v24 v25 ab bx b2 bf bb n m cx cy bd x y (cnt sx) (cnt sy) dist G B wx ∧ Wrote [bf, bb] wr wx) := ⟨hS, (H2.out.1.wrote (Wrote.refl [] _).drew).next (hw.mono (by simp)) hr (hw.row (H2.out.1.wrote (Wrote.refl [] _).drew).rb (by simpa using Ne.symm H2.out.1.al.ne.2.2.2.2.2.2)), H2.out.2.drew.trans (hw.mono (by simp))⟩
            clear hS hr hw
            go_wp2
            go_meet
            case rel => exact ⟨G, HX⟩
          case rest => as_aux_lemma =>
            rename World => w3
            obtain ⟨G, HG⟩ := hcut
            have HL1 : Hid (LoopR v7 v8 v9 v10 v11 v12 v23 v24 v25 ab bx b2 bf bb n m cx cy bd x y sx sy dist w0 d v33 d (d - 1) (widLo m flo) (widHi n fhi) blo bhi vis2 G B w3) := by
              have i1 := fwd_step hin.out (by omega) HR.out.i1 (by rw [HLL.out.1, HLL.out.2]; exact HG.out.1)
              have lo := fwd_low (by omega) HR.out.i1 HR.out.lF (by rw [HLL.out.1, HLL.out.2]; exact HG.out.1)
              rw [show d - 1 + 1 = d by omega] at i1
              exact ⟨HG.out.2.1, HR.out.wr.trans HG.out.2.2, HG.out.2.2.cell_of HR.out.cd HR.out.nd, HR.out.nd, i1, HR.out.i2, hd2, hd1, hvc.1, hvc.2, lo, HR.out.lB⟩
            clear HR HG H2 HLL HG5 c23 c25 c7 c9 c11 a0 a1 hs1 hs2 hs3 hs4 hs5 hL3 hk0 g1 g2 g3 g4 j1 j2 j3 j4 j5 j6 hvb
            generalize widLo m flo = flo1 at *
            generalize widHi n fhi = fhi1 at *
            have j1 := HL1.out.i1.le
            have j2 := HL1.out.i1.lo_ge
            have j3 := HL1.out.i1.hi_le
            have j4 := HL1.out.i2.le
            have j5 := HL1.out.i2.lo_ge
            have j6 := HL1.out.i2.hi_le
            obtain ⟨bt, hbt⟩ : ∃ bt : Bool, bt = (odd && decide (ls ≤ 2 * (d : Int) - 1)) := ⟨_, rfl⟩
            have HBT := Hid.mk' hbt
            clear hbt
            go_upto_region 26 with fail
            go_cut [176] from 169 to 176 (fun s176 wc => s176 = .bool bt ∧ w3 = wc)
            case first => as_aux_lemma =>
              have cd := HL1.out.cd
              cases odd with
              | true =>
                go_wp2
                go_meet
                case rel => exact ⟨by rw [HBT.out]; simp, rfl⟩
              | false =>
                go_wp2
                go_meet
                case rel => exact ⟨by rw [HBT.out]; simp, rfl⟩
            case rest => as_aux_lemma =>
              obtain ⟨rfl, rfl⟩ := hcut
              go_upto_if 176 with fail
              go_cut [34, 35] from 177 to 207 (fun s34 s35 wc => Hid (odd = true → Di (eqM n m x y) n m ≠ 2 * (d : Int) - 1) ∧ ∃ q, wc = w3.drewN q)
              case first => as_aux_lemma =>
                cases bt with
                | false =>
                  go_wp2
                  go_meet
                  case rel => exact ⟨fun ho => by have := HBT.out; rw [ho] at this; simp at this; omega, 0, rfl⟩
                | true =>
                  have HOB : Hid (odd = true ∧ ls ≤ 2 * (d : Int) - 1) := by have := HBT.out; simpa [Hid] using this.symm
                  have c23 := HL1.out.ms.c23
                  have c24 := HL1.out.ms.c24
                  have c25 := HL1.out.ms.c25
                  have HK : Hid (∀ lo hi : Int, lo = max flo1 blo → hi = min fhi1 bhi → Calls Yba.prog 6 #[.slice (some ⟨bf, 0, none⟩) (n + m + 5) (n + m + 5), .slice (some ⟨bb, 0, none⟩) (n + m + 5) (n + m + 5), .int .i64 ((m : Int) + 2), .int .i64 lo, .int .i64 hi] w3 (fun e w' => ∃ k ok, e = .returned (.tuple #[.int .i64 k, .bool ok]) ∧ Hid ((ok = true ∧ Di (eqM n m x y) n m = 2 * (d : Int) - 1 ∧ Met n m d (d - 1) flo1 fhi1 ((n : Int) - m - bhi) ((n : Int) - m - blo) (fX m G) (bY n m B) k ∧ 0 ≤ k + m + 2 ∧ k + m + 2 < n + m + 5) ∨ (ok = false ∧ Di (eqM n m x y) n m ≠ 2 * (d : Int) - 1)) ∧ ∃ q, w' = w3.drewN q)) := by
                    intro lo hi hlo hhi
                    by_cases he : hi < lo
                    · refine (meet_empty _ _ _ _ _ _ _ _ _ he w3).mono ?_
                      rintro e w' ⟨rfl, rfl⟩
                      have := meet_dec_empty hin.out HL1.out.i1 HL1.out.i2 (by omega)
                      exact ⟨0, false, rfl, .inr ⟨rfl, by omega⟩, 0, rfl⟩
                    · obtain ⟨l, hl⟩ : ∃ l : Nat, (l : Int) = lo + m + 2 := ⟨(lo + m + 2).toNat, by omega⟩
                      obtain ⟨h, hh⟩ : ∃ h : Nat, (h : Int) = hi + m + 2 := ⟨(hi + m + 2).toNat, by omega⟩
                      rw [show lo = (l : Int) - ((m : Int) + 2) by omega, show hi = (h : Int) - ((m : Int) + 2) by omega]
                      refine (meet_any bf 0 (n + m + 5) (n + m + 5) bb 0 (n + m + 5) (n + m + 5) G B ((m : Int) + 2) l h w3 (fun i hi => by rw [Nat.zero_add]; exact HL1.out.ms.rf.cell hi) (fun i hi => by rw [Nat.zero_add]; exact HL1.out.ms.rb.cell hi) (by omega) (by omega) (by omega) (by omega) (by omega) (by omega)).mono ?_
                      rintro e w' ⟨k, ok, rfl, hres, q, rfl⟩
                      have hpar : ((n : Int) - m) % 2 ≠ 0 := by have := HO.out; rw [HOB.out.1] at this; simpa using this.symm
                      have dec := meet_dec hin.out HL1.out.i1 HL1.out.i2 (by omega) hres (by omega) (by omega) (by omega)
                      refine ⟨k, ok, rfl, ?_, q, rfl⟩
                      rcases dec with ⟨e1, e2, e3, e4, e5⟩ | ⟨e1, e2⟩
                      · exact .inl ⟨e1, by omega, e3, e4, by omega⟩
                      · exact .inr ⟨e1, by omega⟩
                  go_wp2_with fail
                  all_goals
                    refine (HK.out _ _ (by omega) (by omega)).mono ?_
                    rintro e wx ⟨k, ok, rfl, HRES, q, rfl⟩
                    cases ok with
                    | false =>
                      go_wp2
                      go_meet
                      case rel => exact ⟨fun _ => by rcases HRES.out with h | h; exact absurd h.1 (by simp); exact h.2, q, rfl⟩
                    | true =>
                      have hm := HRES.out.resolve_right (by simp)
                      obtain ⟨i, j, hi, hj, ei, ej, e1, e2⟩ := meet_good hin.out HL1.out.i1 HL1.out.i2 hm.2.2.1 (by omega)
                      obtain ⟨id, hid⟩ : ∃ id : Nat, (k + m + 2).toNat = id := ⟨_, rfl⟩
                      have hidx : k + ((m : Int) + 2) = (id : Int) := by omega
                      have hidl : (id : Int) < ((n + m + 5 : Nat) : Int) := by omega
                      have cg : w3.cell? ⟨bf, id, none⟩ = some (.int .i64 i) := by
                        have := HL1.out.ms.rf.cell (i := id) (by omega)
                        unfold fX at ei
                        rw [hid] at ei
                        rw [this, ei]
                      have hsub : (i : Int) - k = j := by rw [← ei]; exact ej
                      have cd := HL1.out.cd
                      have HE := Hid.mk' (show Di (eqM n m x y) n m = 2 * (d : Int) - 1 ∧ Ed (eqM n m x y) i j = d ∧ Rest (eqM n m x y) n m i j = ((d - 1 : Nat) : Int) from ⟨hm.2.1, e1, e2⟩)
                      clear ei ej e1 e2 hid hm HRES HK
                      go_wp2
                      go_quiet (fail)
                      go_wp2
                      try simp only [Exit.inBlock, Exit.then]
                      refine bodyPost_ret (results_tmp4 rfl _ _ _) rfl ?_
                      obtain ⟨g1, g2, g3⟩ := HE.out
                      refine ⟨i, j, ?_, hi, hj, by omega, by omega, (HL1.out.wr.drewN _).drewN _⟩
                      rw [g1]
                      rfl
              case rest => as_aux_lemma =>
                obtain ⟨HND, q3, rfl⟩ := hcut
                have HL2 : Hid (LoopR v7 v8 v9 v10 v11 v12 v23 v24 v25 ab bx b2 bf bb n m cx cy bd x y sx sy dist w0 d v33 d (d - 1) flo1 fhi1 blo bhi vis2 G B (w3.drewN q3)) := ⟨HL1.out.ms.wrote ((Wrote.refl [] _).drewN _), HL1.out.wr.drewN _, HL1.out.cd, HL1.out.nd, HL1.out.i1, HL1.out.i2, HL1.out.hD, HL1.out.d1, HL1.out.v0, HL1.out.v1, HL1.out.lF, HL1.out.lB⟩
                clear HL1 HBT
                generalize w3.drewN q3 = w4 at *
                go_upto_if 208 with fail
                go_cut [26, 27] from 208 to 215 (fun s26 s27 wc => ∃ flo2 fhi2, s26 = .int .i64 flo2 ∧ s27 = .int .i64 fhi2 ∧ Hid (LoopR v7 v8 v9 v10 v11 v12 v23 v24 v25 ab bx b2 bf bb n m cx cy bd x y sx sy dist w0 d v33 d (d - 1) flo2 fhi2 blo bhi vis2 G B wc))
                case first => as_aux_lemma =>
                  cases nw with
                  | false =>
                    go_wp2
                    go_meet
                    case rel => exact ⟨flo1, fhi1, rfl, rfl, HL2⟩
                  | true =>
                    have HBD : Hid (bd = false ∧ dist = Di (eqM n m x y) n m) := by
                      have h := HNW.out
                      simp only [Bool.true_eq, Bool.and_eq_true, decide_eq_true_eq, Bool.not_eq_true'] at h
                      refine ⟨h.2, ?_⟩
                      rcases HDD.out with h2 | h2
                      · omega
                      · exact h2
                    have HNA : Hid (Calls Yba.prog 19 #[.int .i64 flo1, .int .i64 fhi1, .func (.func 20) #[] #[.pointer (some ⟨v23, 0, none⟩), .pointer (some ⟨v25, 0, none⟩), .pointer (some ⟨v9, 0, none⟩), .pointer (some ⟨v11, 0, none⟩), .pointer (some ⟨v33, 0, none⟩), .pointer (some ⟨v7, 0, none⟩), .pointer (some ⟨v12, 0, none⟩)]] w4 (fun e w' => ∃ lo2 hi2, e = .returned (.tuple #[.int .i64 lo2, .int .i64 hi2]) ∧ Hid (LoopR v7 v8 v9 v10 v11 v12 v23 v24 v25 ab bx b2 bf bb n m cx cy bd x y sx sy dist w0 d v33 d (d - 1) lo2 hi2 blo bhi vis2 G B w'))) := by
                      have p1 := HL2.out.i1.plo
                      have p2 := HL2.out.i1.phi
                      refine (narrow20_any v23 v25 v9 v11 v33 v7 v12 flo1 fhi1 (fun k => dropF n m (cnt sx) (cnt sy) d dist (fX m G k) (fX m G k - k)) w4 j1 (by omega) (by omega) (by omega) (fun k q h1 h2 h3 => ?_)).mono ?_
                      · obtain ⟨x1, x2, x3⟩ := HL2.out.i1.x0 k h1 h2 (by omega)
                        have hms := HL2.out.ms.wrote ((Wrote.refl [] _).drewN q)
                        refine (clo20_any v23 v25 v9 v11 v33 v7 v12 ab bx b2 bf bb n m cx cy (k + m + 2).toNat bd x y (cnt sx) (cnt sy) k d dist (fX m G k) (fX m G k - k) (w4.drewN q) hms.al (by omega) (by omega) (cnt_le sx) (cnt_le sy) (by omega) (by omega) (by omega) (by omega) rfl (by omega) (by omega) (by omega) (by omega) hms.c23 hms.c25 hms.bx.c9 hms.bx.c11 HL2.out.cd hms.bx.c7 hms.bx.c12 (hms.rf.cell (by omega))).mono ?_
                        rintro e w' ⟨rfl, q', rfl⟩
                        exact ⟨rfl, _, World.drewN_drewN _ _ _⟩
                      · rintro e w' ⟨lo2, hi2, rfl, hN, q, rfl⟩
                        obtain ⟨n1, n2, n3, n4, n5, n6, n7⟩ := hN
                        refine ⟨lo2, hi2, rfl, ⟨HL2.out.ms.wrote ((Wrote.refl [] _).drewN _), HL2.out.wr.drewN _, HL2.out.cd, HL2.out.nd, ?_, HL2.out.i2, HL2.out.hD, HL2.out.d1, HL2.out.v0, HL2.out.v1, HL2.out.lF, HL2.out.lB⟩⟩
                        refine HL2.out.i1.narrow (fun a b => fewZ (cnt sx) (cnt sy) a.toNat b.toNat n m) (fun i j hi hj => by simpa using few_le_Rest HS1.out HS2.out hi hj) n1 n3 n2 (by omega) (by omega) (fun k k1 k2 k3 k4 => ?_)
                        have hdr : dropF n m (cnt sx) (cnt sy) d dist (fX m G k) (fX m G k - k) = true := by
                          rcases k4 with k4 | k4
                          · exact n6 k k1 k4 (by omega)
                          · exact n7 k k4 k2 (by omega)
                        simp only [dropF, Bool.and_eq_true, decide_eq_true_eq] at hdr
                        rw [HBD.out.2] at hdr
                        exact ⟨hdr.1.1, hdr.1.2, hdr.2⟩
                    have hmf : ∀ (fn : Fn) (first cap : Array Value) (w : World), (Instr.makeFunc fn first cap).run Yba.prog w = .ok (.func fn first cap) w := fun _ _ _ _ => rfl
                    go_wp2_with fail
                    refine HNA.out.mono ?_
                    rintro e wx ⟨lo2, hi2, rfl, HL3⟩
                    clear HNA hmf
                    go_wp2
                    go_meet
                    case rel => exact ⟨lo2, hi2, rfl, rfl, HL3⟩
                case rest => as_aux_lemma =>
                  rename World => w5
                  obtain ⟨flo2, fhi2, rfl, rfl, HL3⟩ := hcut
                  clear HL2 j1 j2 j3 j4 j5 j6
                  have j1 := HL3.out.i1.le
                  have j2 := HL3.out.i1.lo_ge
                  have j3 := HL3.out.i1.hi_le
                  have j4 := HL3.out.i2.le
                  have j5 := HL3.out.i2.lo_ge
                  have j6 := HL3.out.i2.hi_le
                  go_upto_if 218 with fail
                  go_cut [28] from 216 to 228 (fun s28 wc => s28 = .int .i64 (widLo m blo) ∧ Hid (Ms v7 v8 v9 v10 v11 v12 v23 v24 v25 ab bx b2 bf bb n m cx cy bd x y (cnt sx) (cnt sy) dist G (if -(m : Int) < blo then at1 B (blo - 2 + m + 2).toNat top else B) wc ∧ Wrote [bf, bb] w5 wc))
                  case first => as_aux_lemma =>
                    by_cases hw : -(m : Int) < blo
                    · obtain ⟨i0, hi0⟩ : ∃ i0 : Nat, blo - 2 + m + 2 = (i0 : Int) := ⟨(blo - 2 + m + 2).toNat, by omega⟩
                      have hix1 : blo - 1 - 1 + ((m : Int) + 2) = i0 := by omega
                      have hix2 : blo - 2 + ((m : Int) + 2) = i0 := by omega
                      have hlt : (i0 : Int) < ((n + m + 5 : Nat) : Int) := by omega
                      have c24 := HL3.out.ms.c24
                      have c25 := HL3.out.ms.c25
                      have cf := HL3.out.ms.rb.cell (i := i0) (by omega)
                      have ff := HL3.out.ms.rb.frozen i0
                      have HI0 := Hid.mk' hi0
                      clear hi0
                      go_wp2
                      go_meet
                      case rel =>
                        refine ⟨by unfold widLo; rw [if_pos hw], ?_, ?_⟩
                        · rw [if_pos hw, HI0.out]
                          exact HL3.out.ms.setB i0 top
                        · exact (Wrote.refl _ _).setCell (.inl (by simp)) _
                    · go_wp2
                      go_meet
                      case rel => exact ⟨by unfold widLo; rw [if_neg (by omega)], by rw [if_neg (by omega)]; exact HL3.out.ms, Wrote.refl _ _⟩
                  case rest => as_aux_lemma =>
                    rename World => w6
                    obtain ⟨rfl, H1⟩ := hcut
                    go_upto_if 231 with fail
                    go_cut [29] from 229 to 241 (fun s29 wc => s29 = .int .i64 (widHi n bhi) ∧ Hid (Ms v7 v8 v9 v10 v11 v12 v23 v24 v25 ab bx b2 bf bb n m cx cy bd x y (cnt sx) (cnt sy) dist G (mark n m blo bhi top B) wc ∧ Wrote [bf, bb] w5 wc))
                    case first => as_aux_lemma =>
                      by_cases hw : bhi < (n : Int)
                      · obtain ⟨i0, hi0⟩ : ∃ i0 : Nat, bhi + 2 + m + 2 = (i0 : Int) := ⟨(bhi + 2 + m + 2).toNat, by omega⟩
                        have hix1 : bhi + 1 + 1 + ((m : Int) + 2) = i0 := by omega
                        have hix2 : bhi + 2 + ((m : Int) + 2) = i0 := by omega
                        have hlt : (i0 : Int) < ((n + m + 5 : Nat) : Int) := by omega
                        have c24 := H1.out.1.c24
                        have c25 := H1.out.1.c25
                        have cf := H1.out.1.rb.cell (i := i0) (by omega)
                        have ff := H1.out.1.rb.frozen i0
                        have HI0 := Hid.mk' hi0
                        clear hi0
                        go_wp2
                        go_meet
                        case rel =>
                          refine ⟨by unfold widHi; rw [if_pos hw], ?_, ?_⟩
                          · unfold mark
                            rw [if_pos hw, HI0.out]
                            exact H1.out.1.setB i0 top
                          · exact H1.out.2.setCell (.inl (by simp)) _
                      · go_wp2
                        go_meet
                        case rel => exact ⟨by unfold widHi; rw [if_neg (by omega)], by unfold mark; rw [if_neg (by omega)]; exact H1.out.1, H1.out.2⟩
                    case rest => as_aux_lemma =>
                      rename World => w7
                      obtain ⟨rfl, H2⟩ := hcut
                      clear H1
                      obtain ⟨g1, g2, g3, g4, g5⟩ := bwd_pre (M := eqM n m x y) (by omega) (by omega) (by omega) (by omega) HL3.out.i2
                      have HG5 := Hid.mk' g5
                      clear g5
                      obtain ⟨L, hL⟩ : ∃ L : Nat, (widHi n bhi - widLo m blo + 3).toNat = L := ⟨_, rfl⟩
                      obtain ⟨oN, hoN⟩ : ∃ oN : Nat, (widLo m blo - 1 + m + 2).toNat = oN := ⟨_, rfl⟩
                      have hs1 : widLo m blo - 1 + ((m : Int) + 2) = (oN : Int) := by omega
                      have hs2 : widHi n bhi + 2 + ((m : Int) + 2) = ((oN + L : Nat) : Int) := by omega
                      have hs3 : oN + L ≤ n + m + 5 := by omega
                      have hL3 : 3 ≤ L ∧ L % 2 = 1 := by omega
                      have hk0 : -5000 ≤ widLo m blo - 1 ∧ widLo m blo - 1 ≤ 5000 := by omega
                      have HLL := Hid.mk' (And.intro hL hoN)
                      clear hL hoN
                      have c24 := H2.out.1.c24
                      have c25 := H2.out.1.c25
                      have c7 := H2.out.1.bx.c7
                      have c8 := H2.out.1.bx.c8
                      have c10 := H2.out.1.bx.c10
                      have a0 := H2.out.1.al.a0
                      have a1 := H2.out.1.al.a1
                      have hcx' : (n : Int) ≤ cx := by omega
                      have hcy' : (m : Int) ≤ cy := by omega
                      have hs4 : ((oN + L : Nat) : Int) ≤ ((n + m + 5 : Nat) : Int) := by omega
                      have hs5 : (oN : Int) ≤ ((oN + L : Nat) : Int) := by omega
                      go_upto_region 40 with fail
                      go_cut [] from 242 to 268 (fun wc => ∃ C, Hid (SteppedB (eqM n m x y) (widLo m blo - 1) oN L (mark n m blo bhi top B) C ∧ Ms v7 v8 v9 v10 v11 v12 v23 v24 v25 ab bx b2 bf bb n m cx cy bd x y (cnt sx) (cnt sy) dist G C wc ∧ Wrote [bf, bb] w5 wc))
                      case first => as_aux_lemma =>
                        refine wp_region_qt 26 (by kernel_rfl) (by kernel_rfl) ?_
                        simp only [List.take_succ_cons, List.take_zero, List.drop_succ_cons, List.drop_zero]
                        repeat (first | go_big_quiet_skip | (go_big_quiet_want; go_big_quiet_op; go_big_quiet_on))
                        refine wpQuiet_nil ?_
                        have hst := stepB_any bb (n + m + 5) oN L (n + m + 5 - oN) bx n cx b2 m cy (mark n m blo bhi top B) x y (widLo m blo - 1) w7.drew H2.out.1.rb hs3 hL3.1 hL3.2 (by omega) (by omega) (by omega) hk0 H2.out.1.al.xs H2.out.1.al.ys H2.out.1.al.ne.2.2.2.1 H2.out.1.al.ne.2.2.2.2.2.1
                          (fun i => by
                            rcases mark_or (n := n) (m := m) blo bhi top B i with h | h
                            · rw [h]; have := HL3.out.lB i; unfold top at this; omega
                            · rw [h]; unfold top; omega)
                          (fun j hj hl => by
                            have := HG5.out j hj (by rw [HLL.out.1]; exact hl)
                            rw [HLL.out.2] at this
                            refine ⟨this.1, this.2.1, ?_⟩
                            have := this.2.2
                            omega)
                        have HST := Hid.mk' hst
                        clear hst
                        go_wp2_with fail
                        refine HST.out.mono ?_
                        rintro e wx ⟨rfl, C, hS, hr, hw⟩
                        have HX : Hid (SteppedB (eqM n m x y) (widLo m blo - 1) oN L (mark n m blo bhi top B) C ∧ Ms v7 v8 v9 v10 v11 v12 v23 v24 v25 ab bx b2 bf bb n m cx cy bd x y (cnt sx) (cnt sy) dist G C wx ∧ Wrote [bf, bb] w5 wx) := ⟨hS, (H2.out.1.wrote (Wrote.refl [] _).drew).next (hw.mono (by simp)) (hw.row (H2.out.1.wrote (Wrote.refl [] _).drew).rf (by simpa using H2.out.1.al.ne.2.2.2.2.2.2)) hr, H2.out.2.drew.trans (hw.mono (by simp))⟩
                        clear hS hr hw
                        go_wp2
                        go_meet
                        case rel => exact ⟨C, HX⟩
                      case rest => as_aux_lemma =>
                        rename World => w8
                        obtain ⟨C, HG⟩ := hcut
                        have HL4 : Hid (LoopR v7 v8 v9 v10 v11 v12 v23 v24 v25 ab bx b2 bf bb n m cx cy bd x y sx sy dist w0 d v33 d d flo2 fhi2 (widLo m blo) (widHi n bhi) vis2 G C w8) := by
                          have i2 := bwd_step (by omega) (by omega) (by omega) (by omega) HL3.out.i2 (by rw [HLL.out.1, HLL.out.2]; exact HG.out.1)
                          have lo := bwd_low (by omega) (by omega) (by omega) (by omega) HL3.out.i2 HL3.out.lB (by rw [HLL.out.1, HLL.out.2]; exact HG.out.1)
                          rw [show d - 1 + 1 = d by omega] at i2
                          exact ⟨HG.out.2.1, HL3.out.wr.trans HG.out.2.2, HG.out.2.2.cell_of HL3.out.cd HL3.out.nd, HL3.out.nd, HL3.out.i1, i2, HL3.out.hD, HL3.out.d1, HL3.out.v0, HL3.out.v1, HL3.out.lF, lo⟩
                        clear HL3 HG H2 HLL HG5 c24 c25 c7 c8 c10 a0 a1 hs1 hs2 hs3 hs4 hs5 hL3 hk0 g1 g2 g3 g4 j1 j2 j3 j4 j5 j6
                        generalize widLo m blo = blo1 at *
                        generalize widHi n bhi = bhi1 at *
                        have j1 := HL4.out.i1.le
                        have j2 := HL4.out.i1.lo_ge
                        have j3 := HL4.out.i1.hi_le
                        have j4 := HL4.out.i2.le
                        have j5 := HL4.out.i2.lo_ge
                        have j6 := HL4.out.i2.hi_le
                        obtain ⟨bt, hbt⟩ : ∃ bt : Bool, bt = (!odd && decide (ls ≤ 2 * (d : Int))) := ⟨_, rfl⟩
                        have HBT := Hid.mk' hbt
                        clear hbt
                        go_upto_region 41 with fail
                        go_cut [276] from 269 to 276 (fun s276 wc => s276 = .bool bt ∧ w8 = wc)
                        case first => as_aux_lemma =>
                          have cd := HL4.out.cd
                          cases odd with
                          | true =>
                            go_wp2
                            go_meet
                            case rel => exact ⟨by rw [HBT.out]; simp, rfl⟩
                          | false =>
                            go_wp2
                            go_meet
                            case rel => exact ⟨by rw [HBT.out]; simp, rfl⟩
                        case rest => as_aux_lemma =>
                          obtain ⟨rfl, rfl⟩ := hcut
                          go_upto_if 276 with fail
                          go_cut [36, 37] from 277 to 306 (fun s36 s37 wc => Hid (odd = false → Di (eqM n m x y) n m ≠ 2 * (d : Int)) ∧ ∃ q, wc = w8.drewN q)
                          case first => as_aux_lemma =>
                            cases bt with
                            | false =>
                              go_wp2
                              go_meet
                              case rel => exact ⟨fun ho => by have := HBT.out; rw [ho] at this; simp at this; omega, 0, rfl⟩
                            | true =>
                              have HOB : Hid (odd = false ∧ ls ≤ 2 * (d : Int)) := by have := HBT.out; simpa [Hid] using this.symm
                              have c23 := HL4.out.ms.c23
                              have c24 := HL4.out.ms.c24
                              have c25 := HL4.out.ms.c25
                              have HK : Hid (∀ lo hi : Int, lo = max flo2 blo1 → hi = min fhi2 bhi1 → Calls Yba.prog 6 #[.slice (some ⟨bf, 0, none⟩) (n + m + 5) (n + m + 5), .slice (some ⟨bb, 0, none⟩) (n + m + 5) (n + m + 5), .int .i64 ((m : Int) + 2), .int .i64 lo, .int .i64 hi] w8 (fun e w' => ∃ k ok, e = .returned (.tuple #[.int .i64 k, .bool ok]) ∧ Hid ((ok = true ∧ Di (eqM n m x y) n m = 2 * (d : Int) ∧ Met n m d d flo2 fhi2 ((n : Int) - m - bhi1) ((n : Int) - m - blo1) (fX m G) (bY n m C) k ∧ 0 ≤ k + m + 2 ∧ k + m + 2 < n + m + 5) ∨ (ok = false ∧ Di (eqM n m x y) n m ≠ 2 * (d : Int))) ∧ ∃ q, w' = w8.drewN q)) := by
                                have hpar : ((n : Int) - m) % 2 = 0 := by have := HO.out; rw [HOB.out.1] at this; simpa using this.symm
                                have hDp := Di_parity (eqM n m x y) n m
                                intro lo hi hlo hhi
                                by_cases he : hi < lo
                                · refine (meet_empty _ _ _ _ _ _ _ _ _ he w8).mono ?_
                                  rintro e w' ⟨rfl, rfl⟩
                                  have := meet_dec_empty hin.out HL4.out.i1 HL4.out.i2 (by omega)
                                  exact ⟨0, false, rfl, .inr ⟨rfl, by omega⟩, 0, rfl⟩
                                · obtain ⟨l, hl⟩ : ∃ l : Nat, (l : Int) = lo + m + 2 := ⟨(lo + m + 2).toNat, by omega⟩
                                  obtain ⟨h, hh⟩ : ∃ h : Nat, (h : Int) = hi + m + 2 := ⟨(hi + m + 2).toNat, by omega⟩
                                  rw [show lo = (l : Int) - ((m : Int) + 2) by omega, show hi = (h : Int) - ((m : Int) + 2) by omega]
                                  refine (meet_any bf 0 (n + m + 5) (n + m + 5) bb 0 (n + m + 5) (n + m + 5) G C ((m : Int) + 2) l h w8 (fun i hi => by rw [Nat.zero_add]; exact HL4.out.ms.rf.cell hi) (fun i hi => by rw [Nat.zero_add]; exact HL4.out.ms.rb.cell hi) (by omega) (by omega) (by omega) (by omega) (by omega) (by omega)).mono ?_
                                  rintro e w' ⟨k, ok, rfl, hres, q, rfl⟩
                                  have dec := meet_dec hin.out HL4.out.i1 HL4.out.i2 (by omega) hres (by omega) (by omega) (by omega)
                                  refine ⟨k, ok, rfl, ?_, q, rfl⟩
                                  rcases dec with ⟨e1, e2, e3, e4, e5⟩ | ⟨e1, e2⟩
                                  · exact .inl ⟨e1, by omega, e3, e4, by omega⟩
                                  · exact .inr ⟨e1, by omega⟩
                              go_wp2_with fail
                              all_goals
                                refine (HK.out _ _ (by omega) (by omega)).mono ?_
                                rintro e wx ⟨k, ok, rfl, HRES, q, rfl⟩
                                cases ok with
                                | false =>
                                  go_wp2
                                  go_meet
                                  case rel => exact ⟨fun _ => by rcases HRES.out with h | h; exact absurd h.1 (by simp); exact h.2, q, rfl⟩
                                | true =>
                                  have hm' := HRES.out.resolve_right (by simp)
                                  obtain ⟨i, j, hi, hj, ei, ej, e1, e2⟩ := meet_good2 hin.out HL4.out.i1 HL4.out.i2 hm'.2.2.1 (by omega)
                                  obtain ⟨id, hid⟩ : ∃ id : Nat, (k + m + 2).toNat = id := ⟨_, rfl⟩
                                  have hidx : k + ((m : Int) + 2) = (id : Int) := by omega
                                  have hidl : (id : Int) < ((n + m + 5 : Nat) : Int) := by omega
                                  have eb : C id = i := by
                                    unfold bY at ei
                                    rw [show (n : Int) - m - ((n : Int) - m - k) + m + 2 = k + m + 2 by omega, hid] at ei
                                    omega
                                  have cg : w8.cell? ⟨bb, id, none⟩ = some (.int .i64 i) := by
                                    have := HL4.out.ms.rb.cell (i := id) (by omega)
                                    rw [this, eb]
                                  have hsub : (i : Int) - k = j := by omega
                                  have cd := HL4.out.cd
                                  have HE := Hid.mk' (show Di (eqM n m x y) n m = 2 * (d : Int) ∧ Ed (eqM n m x y) i j = d ∧ Rest (eqM n m x y) n m i j = d from ⟨hm'.2.1, e1, e2⟩)
                                  clear ei ej e1 e2 hid hm' HRES HK eb
                                  go_wp2
                                  go_quiet (fail)
                                  go_wp2
                                  try simp only [Exit.inBlock, Exit.then]
                                  refine bodyPost_ret (results_tmp4 rfl _ _ _) rfl ?_
                                  obtain ⟨g1, g2, g3⟩ := HE.out
                                  refine ⟨i, j, ?_, hi, hj, by omega, by omega, (HL4.out.wr.drewN _).drewN _⟩
                                  rw [g1]
                                  rfl
                          case rest => as_aux_lemma =>
                            obtain ⟨HND2, q8, rfl⟩ := hcut
                            have HL5 : Hid (LoopR v7 v8 v9 v10 v11 v12 v23 v24 v25 ab bx b2 bf bb n m cx cy bd x y sx sy dist w0 d v33 d d flo2 fhi2 blo1 bhi1 vis2 G C (w8.drewN q8)) := ⟨HL4.out.ms.wrote ((Wrote.refl [] _).drewN _), HL4.out.wr.drewN _, HL4.out.cd, HL4.out.nd, HL4.out.i1, HL4.out.i2, HL4.out.hD, HL4.out.d1, HL4.out.v0, HL4.out.v1, HL4.out.lF, HL4.out.lB⟩
                            clear HL4 HBT
                            generalize w8.drewN q8 = w9 at *
                            go_upto_if 307 with fail
                            cases nw with
                            | false =>
                              have HL6 := HL5
                              clear HL5 j1 j2 j3 j4 j5 j6
                              have hDn : 2 * (d : Int) < Di (eqM n m x y) n m := by
                                have hDp := Di_parity (eqM n m x y) n m
                                have ho := HO.out
                                have h1 := HND.out
                                have h2 := HND2.out
                                cases odd with
                                | true => have := h1 rfl; simp at ho; omega
                                | false => have := h2 rfl; simp at ho; omega
                              have cd := HL6.out.cd
                              have hb := HL6.out.ms.rf.lt
                              have hb2 := HL6.out.ms.rb.lt
                              have hvd := HL6.out.v1
                              clear HND HND2
                              go_wp2
                              go_roundg (1002 - (d + 1))
                              all_goals first
                                | omega
                                | exact ⟨d + 1, _, flo2, fhi2, blo1, bhi1, vis2, G, C, by omega, rfl, rfl, rfl, rfl, rfl, rfl, ⟨HL6.out.ms.wrote ((Wrote.refl [] _).alloc _), HL6.out.wr.alloc _, cell_new' rfl rfl, by simp; omega, HL6.out.i1, HL6.out.i2, by omega, by omega, HL6.out.v0, HL6.out.v1, HL6.out.lF, HL6.out.lB⟩⟩
                            | true =>
                              have HBD : Hid (bd = false ∧ dist = Di (eqM n m x y) n m) := by
                                have h := HNW.out
                                simp only [Bool.true_eq, Bool.and_eq_true, decide_eq_true_eq, Bool.not_eq_true'] at h
                                refine ⟨h.2, ?_⟩
                                rcases HDD.out with h2 | h2
                                · omega
                                · exact h2
                              have HNA : Hid (Calls Yba.prog 19 #[.int .i64 blo1, .int .i64 bhi1, .func (.func 22) #[] #[.pointer (some ⟨v24, 0, none⟩), .pointer (some ⟨v25, 0, none⟩), .pointer (some ⟨v8, 0, none⟩), .pointer (some ⟨v10, 0, none⟩), .pointer (some ⟨v33, 0, none⟩), .pointer (some ⟨v7, 0, none⟩), .pointer (some ⟨v12, 0, none⟩)]] w9 (fun e w' => ∃ lo2 hi2, e = .returned (.tuple #[.int .i64 lo2, .int .i64 hi2]) ∧ Hid (LoopR v7 v8 v9 v10 v11 v12 v23 v24 v25 ab bx b2 bf bb n m cx cy bd x y sx sy dist w0 d v33 d d flo2 fhi2 lo2 hi2 vis2 G C w'))) := by
                                have p1 := HL5.out.i2.plo
                                have p2 := HL5.out.i2.phi
                                refine (narrow22_any v24 v25 v8 v10 v33 v7 v12 blo1 bhi1 (fun k => dropB n m (cnt sx) (cnt sy) d dist (C (k + m + 2).toNat) (C (k + m + 2).toNat - k)) w9 (by omega) (by omega) (by omega) (by omega) (fun k q h1 h2 h3 => ?_)).mono ?_
                                · obtain ⟨x1, x2, x3⟩ := HL5.out.i2.x0 ((n : Int) - m - k) (by omega) (by omega) (by omega)
                                  have hY : bY n m C ((n : Int) - m - k) = (n : Int) - C (k + m + 2).toNat := by unfold bY; rw [show (n : Int) - m - ((n : Int) - m - k) + m + 2 = k + m + 2 by omega]
                                  rw [hY] at x1 x2 x3
                                  have hms := HL5.out.ms.wrote ((Wrote.refl [] _).drewN q)
                                  refine (clo22_any v24 v25 v8 v10 v33 v7 v12 ab bx b2 bf bb n m cx cy (k + m + 2).toNat bd x y (cnt sx) (cnt sy) k d dist (C (k + m + 2).toNat) (C (k + m + 2).toNat - k) (w9.drewN q) hms.al (by omega) (by omega) (cnt_le sx) (cnt_le sy) (by omega) (by omega) (by omega) (by omega) rfl (by omega) (by omega) (by omega) (by omega) hms.c24 hms.c25 hms.bx.c8 hms.bx.c10 HL5.out.cd hms.bx.c7 hms.bx.c12 (hms.rb.cell (by omega))).mono ?_
                                  rintro e w' ⟨rfl, q', rfl⟩
                                  exact ⟨rfl, _, World.drewN_drewN _ _ _⟩
                                · rintro e w' ⟨lo2, hi2, rfl, hN, q, rfl⟩
                                  rw [HBD.out.2] at hN
                                  exact ⟨lo2, hi2, rfl, ⟨HL5.out.ms.wrote ((Wrote.refl [] _).drewN _), HL5.out.wr.drewN _, HL5.out.cd, HL5.out.nd, HL5.out.i1, narrow_back hin.out HS1.out HS2.out HL5.out.i2 hN, HL5.out.hD, HL5.out.d1, HL5.out.v0, HL5.out.v1, HL5.out.lF, HL5.out.lB⟩⟩
                              have hmf : ∀ (fn : Fn) (first cap : Array Value) (w : World), (Instr.makeFunc fn first cap).run Yba.prog w = .ok (.func fn first cap) w := fun _ _ _ _ => rfl
                              go_wp2_with fail
                              refine HNA.out.mono ?_
                              rintro e wx ⟨lo2, hi2, rfl, HL6⟩
                              clear HNA hmf
                              clear HL5 j1 j2 j3 j4 j5 j6
                              have hDn : 2 * (d : Int) < Di (eqM n m x y) n m := by
                                have hDp := Di_parity (eqM n m x y) n m
                                have ho := HO.out
                                have h1 := HND.out
                                have h2 := HND2.out
                                cases odd with
                                | true => have := h1 rfl; simp at ho; omega
                                | false => have := h2 rfl; simp at ho; omega
                              have cd := HL6.out.cd
                              have hb := HL6.out.ms.rf.lt
                              have hb2 := HL6.out.ms.rb.lt
                              have hvd := HL6.out.v1
                              clear HND HND2
                              go_wp2
                              go_roundg (1002 - (d + 1))
                              all_goals first
                                | omega
                                | exact ⟨d + 1, _, flo2, fhi2, lo2, hi2, vis2, G, C, by omega, rfl, rfl, rfl, rfl, rfl, rfl, ⟨HL6.out.ms.wrote ((Wrote.refl [] _).alloc _), HL6.out.wr.alloc _, cell_new' rfl rfl, by simp; omega, HL6.out.i1, HL6.out.i2, by omega, by omega, HL6.out.v0, HL6.out.v1, HL6.out.lF, HL6.out.lB⟩⟩
end Go.Proofs.Ybulkbptu
