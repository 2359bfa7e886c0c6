import Derived.Test.YbulkbptuLoop
namespace Go.Proofs.Ybulkbptu
open Go.ChangeShapes Go.WideShapes Go.ChangeAt Go.RowKit
set_option linter.unusedVariables false
set_option linter.unusedSimpArgs false

theorem ms_new {v7 v8 v9 v10 v11 v12 v23 v24 v25 ab bx b2 bf bb n m cx cy : Nat} {bd : Bool} {x y : Nat → Int} {px py : Nat → Nat} {dist : Int} {F B : Nat → Int} {w w2 w' : World} (hA : Al ab bx b2 bf bb n m cx cy bd x y px py w) (hf : w.rowIs bf 3 (n + m + 5) (fun i => .int .i64 (F i))) (hb : w.rowIs bb 3 (n + m + 5) (fun i => .int .i64 (B i))) (hw : Wrote [] w w2)
    (hx : Bx v7 v8 v9 v10 v11 v12 ab n m dist w2) (hv : ∀ v ∈ [v7, v8, v9, v10, v11, v12], w.heap.size ≤ v) (k : Wrote [] w2 w') (c23 : w'.cell? ⟨v23, 0, none⟩ = some (.slice (some ⟨bf, 0, none⟩) (n + m + 5) (n + m + 5))) (c24 : w'.cell? ⟨v24, 0, none⟩ = some (.slice (some ⟨bb, 0, none⟩) (n + m + 5) (n + m + 5))) (c25 : w'.cell? ⟨v25, 0, none⟩ = some (.int .i64 ((m : Int) + 2)))
    (h1 : w2.heap.size ≤ v23) (h2 : w2.heap.size ≤ v24) (h3 : w2.heap.size ≤ v25) : Ms v7 v8 v9 v10 v11 v12 v23 v24 v25 ab bx b2 bf bb n m cx cy bd x y px py dist F B w' := by
  have kk := hw.trans k
  have e1 := hf.lt
  have e2 := hb.lt
  have e3 := hw.size
  refine ⟨hA.wrote (kk.mono (by simp)), hx.wrote k (by simp), c23, c24, c25, kk.row hf (by simp), kk.row hb (by simp), fun v h => ?_⟩
  have hge : w.heap.size ≤ v := by
    simp only [List.mem_cons, List.not_mem_nil, or_false] at h
    rcases h with h | h | h | h | h | h | h | h | h
    · exact hv v (by simp [h])
    · exact hv v (by simp [h])
    · exact hv v (by simp [h])
    · exact hv v (by simp [h])
    · exact hv v (by simp [h])
    · exact hv v (by simp [h])
    · omega
    · omega
    · omega
  simp
  omega

set_option maxRecDepth 100000 in
def frL (v7 v8 v9 v10 v11 v12 v23 v24 v25 n m : Nat) (ls : Int) (nw odd : Bool) (c : Nat → Value) : Act := ⟨#[c 0, c 1, c 2, c 3, c 4, c 5, .int .i64 1099511627776, .pointer (some ⟨v7, 0, none⟩), .pointer (some ⟨v8, 0, none⟩), .pointer (some ⟨v9, 0, none⟩), .pointer (some ⟨v10, 0, none⟩), .pointer (some ⟨v11, 0, none⟩), .pointer (some ⟨v12, 0, none⟩), c 13, c 14, c 15, c 16, c 17, .int .i64 (-(m : Int)), .int .i64 n, c 20, c 21, .bool odd, .pointer (some ⟨v23, 0, none⟩), .pointer (some ⟨v24, 0, none⟩), .pointer (some ⟨v25, 0, none⟩), .int .i64 0, .int .i64 0, .int .i64 ((n : Int) - m), .int .i64 ((n : Int) - m), .int .i64 ls, .bool nw, c 32, c 33, c 34, c 35, c 36, c 37, c 38, c 39, c 40, c 41, c 42, c 43, c 44, c 45, c 46, c 47, c 48, c 49, c 50, c 51, c 52, c 53, c 54, c 55, c 56, c 57, c 58, c 59, c 60, c 61, c 62, c 63, c 64, c 65, c 66, c 67, c 68, c 69, c 70, c 71, c 72, c 73, c 74, c 75, c 76, c 77, c 78, c 79, c 80, c 81, c 82, c 83, c 84, c 85, c 86, c 87, c 88, c 89, c 90, c 91, c 92, c 93, c 94, c 95, c 96, c 97, c 98, c 99, c 100, c 101, c 102, c 103, c 104, c 105, c 106, c 107, c 108, c 109, c 110, c 111, c 112, c 113, c 114, c 115, c 116, c 117, c 118, c 119, c 120, c 121, c 122, c 123, c 124, c 125, c 126, c 127, c 128, c 129, c 130, c 131, c 132, c 133, c 134, c 135, c 136, c 137, c 138, c 139, c 140, c 141, c 142, c 143, c 144, c 145, c 146, c 147, c 148, c 149, c 150, c 151, c 152, c 153, c 154, c 155, c 156, c 157, c 158, c 159, c 160, c 161, c 162, c 163, c 164, c 165, c 166, c 167, c 168, c 169, c 170, c 171, c 172, c 173, c 174, c 175, c 176, c 177, c 178, c 179, c 180, c 181, c 182, c 183, c 184, c 185, c 186, c 187, c 188, c 189, c 190, c 191, c 192, c 193, c 194, c 195, c 196, c 197, c 198, c 199, c 200, c 201, c 202, c 203, c 204, c 205, c 206, c 207, c 208, c 209, c 210, c 211, c 212, c 213, c 214, c 215, c 216, c 217, c 218, c 219, c 220, c 221, c 222, c 223, c 224, c 225, c 226, c 227, c 228, c 229, c 230, c 231, c 232, c 233, c 234, c 235, c 236, c 237, c 238, c 239, c 240, c 241, c 242, c 243, c 244, c 245, c 246, c 247, c 248, c 249, c 250, c 251, c 252, c 253, c 254, c 255, c 256, c 257, c 258, c 259, c 260, c 261, c 262, c 263, c 264, c 265, c 266, c 267, c 268, c 269, c 270, c 271, c 272, c 273, c 274, c 275, c 276, c 277, c 278, c 279, c 280, c 281, c 282, c 283, c 284, c 285, c 286, c 287, c 288, c 289, c 290, c 291, c 292, c 293, c 294, c 295, c 296, c 297, c 298, c 299, c 300, c 301, c 302, c 303, c 304, c 305, c 306, c 307, c 308, c 309, c 310, c 311, c 312, c 313, c 314, c 315], []⟩
theorem loop_wrap (v7 v8 v9 v10 v11 v12 v23 v24 v25 ab bx b2 bf bb n m cx cy : Nat) (bd : Bool) (x y : Nat → Int) (sx sy : Nat → Bool) (dist : Int) (ls : Int) (nw odd : Bool) (F0 B0 : Nat → Int) (a : Act) (w0 w : World) (hM : Ms v7 v8 v9 v10 v11 v12 v23 v24 v25 ab bx b2 bf bb n m cx cy bd x y (cnt sx) (cnt sy) dist F0 B0 w) (hW : Wrote [bf, bb] w0 w) (hn : 1 ≤ n ∧ n ≤ 1000) (hm : 1 ≤ m ∧ m ≤ 1000) (hcx : n ≤ cx) (hcy : m ≤ cy)
    (I1 : Inv (eqM n m x y) n m 0 0 0 (fX m F0)) (I2 : Inv (rev (eqM n m x y) n m) n m 0 0 0 (bY n m B0)) (hpos : 0 < Di (eqM n m x y) n m) (hD2 : Di (eqM n m x y) n m ≤ 2000) (hs1 : ∀ i j, eqM n m x y i j = true → sx i = true) (hs2 : ∀ i j, eqM n m x y i j = true → sy j = true)
    (hls : -10 ≤ ls ∧ ls ≤ Di (eqM n m x y) n m) (hnw : nw = (decide (0 ≤ dist) && !bd)) (hdd : dist = -1 ∨ dist = Di (eqM n m x y) n m) (hodd : odd = decide (((n : Int) - m) % 2 ≠ 0)) (hF0 : ∀ i, -1 ≤ F0 i) (hB0 : ∀ i, -3000 ≤ B0 i ∧ B0 i ≤ top)
    (ha : a = frL v7 v8 v9 v10 v11 v12 v23 v24 v25 n m ls nw odd (fun i => a.tmps.getD i undef)) :
    Code.wp Yba.prog ((Yba.f12.body.bind (fromRegion 11)).getD .skip) (bodyPost Yba.prog Yba.f12 (MidEnd bf bb n m x y w0)) a w := by
  obtain ⟨c, hc⟩ : ∃ c, a = frL v7 v8 v9 v10 v11 v12 v23 v24 v25 n m ls nw odd c := ⟨_, ha⟩
  subst hc
  exact mid_loop v7 v8 v9 v10 v11 v12 v23 v24 v25 ab bx b2 bf bb n m cx cy bd x y sx sy dist ls nw odd F0 B0 c w0 w hM hW hn hm hcx hcy I1 I2 hpos hD2 hs1 hs2 hls hnw hdd hodd hF0 hB0
set_option maxRecDepth 100000 in
set_option maxHeartbeats 40000000 in
theorem middle_any (ab bx b2 bf bb n m cx cy : Nat) (bd : Bool) (x y : Nat → Int) (sx sy : Nat → Bool) (dist : Int) (F0 B0 : Nat → Int) (w : World) (hA : Al ab bx b2 bf bb n m cx cy bd x y (cnt sx) (cnt sy) w) (hrf : w.rowIs bf 3 (n + m + 5) (fun i => .int .i64 (F0 i))) (hrb : w.rowIs bb 3 (n + m + 5) (fun i => .int .i64 (B0 i))) (hn : 1 ≤ n ∧ n ≤ 1000) (hm : 1 ≤ m ∧ m ≤ 1000)
    (h0 : eqM n m x y 0 0 = false) (h9 : rev (eqM n m x y) n m 0 0 = false) (hs1 : ∀ i j, eqM n m x y i j = true → sx i = true) (hs2 : ∀ i j, eqM n m x y i j = true → sy j = true) (hd : dist = -1 ∨ dist = Di (eqM n m x y) n m) (hF0 : ∀ i, -1 ≤ F0 i) (hB0 : ∀ i, -3000 ≤ B0 i ∧ B0 i ≤ top) (hcx : n ≤ cx) (hcy : m ≤ cy) :
    Calls Yba.prog 12 #[.pointer (some ⟨ab, 0, none⟩), .int .i64 0, .int .i64 n, .int .i64 0, .int .i64 m, .int .i64 dist, .int .i64 1099511627776] w (MidEnd bf bb n m x y w) := by
  have HA := Hid.mk' hA
  have HF := Hid.mk' hrf
  have HB := Hid.mk' hrb
  have H0 := Hid.mk' h0
  have H9 := Hid.mk' h9
  have HS1 := Hid.mk' hs1
  have HS2 := Hid.mk' hs2
  have HD := Hid.mk' hd
  have HF0 := Hid.mk' hF0
  have HB0 := Hid.mk' hB0
  have hD0 : 0 ≤ Di (eqM n m x y) n m ∧ Di (eqM n m x y) n m ≤ 2000 := by
    have a := P_le_cnt_i (M := eqM n m x y) (s := fun _ => true) (fun _ _ _ => rfl) n m
    have b := P_le_cnt_j (M := eqM n m x y) (s := fun _ => true) (fun _ _ _ => rfl) n m
    rw [cnt_all] at a b
    unfold Di
    omega
  have hdist : -1 ≤ dist ∧ dist ≤ 2000 := by omega
  clear hA hrf hrb h0 h9 hs1 hs2 hd hF0 hB0
  go_enter Yba.func12, Yba.ntmps12
  go_upto_region 0 with fail
  go_cut [7, 8, 9, 10, 11, 12, 14, 15, 16, 17] from 7 to 17 (fun s7 s8 s9 s10 s11 s12 s14 s15 s16 s17 wc => ∃ v7 v8 v9 v10 v11 v12, s7 = .pointer (some ⟨v7, 0, none⟩) ∧ s8 = .pointer (some ⟨v8, 0, none⟩) ∧ s9 = .pointer (some ⟨v9, 0, none⟩) ∧ s10 = .pointer (some ⟨v10, 0, none⟩) ∧ s11 = .pointer (some ⟨v11, 0, none⟩) ∧ s12 = .pointer (some ⟨v12, 0, none⟩) ∧ Hid (Bx v7 v8 v9 v10 v11 v12 ab n m dist wc ∧ Wrote [] w wc ∧ ∀ v ∈ [v7, v8, v9, v10, v11, v12], w.heap.size ≤ v))
  case first => as_aux_lemma =>
    go_wp2
    go_meet
    case rel =>
      refine ⟨_, _, _, _, _, _, rfl, rfl, rfl, rfl, rfl, rfl, ⟨?_, ?_, ?_, ?_, ?_, ?_⟩, ((((((Wrote.refl _ _).alloc _).alloc _).alloc _).alloc _).alloc _).alloc _, ?_⟩
      · exact (((((Wrote.refl [] _).alloc _).alloc _).alloc _).alloc _).alloc _ |>.cell_of (cell_new' (by simp) rfl) (by simp)
      · exact ((((Wrote.refl [] _).alloc _).alloc _).alloc _).alloc _ |>.cell_of (cell_new' (by simp) rfl) (by simp)
      · exact (((Wrote.refl [] _).alloc _).alloc _).alloc _ |>.cell_of (cell_new' (by simp) rfl) (by simp)
      · exact ((Wrote.refl [] _).alloc _).alloc _ |>.cell_of (cell_new' (by simp) rfl) (by simp)
      · exact (Wrote.refl [] _).alloc _ |>.cell_of (cell_new' (by simp) rfl) (by simp)
      · exact cell_new' (by simp) rfl
      · intro v hv
        simp at hv
        omega
  case rest => as_aux_lemma =>
    rename World => w1
    obtain ⟨v7, v8, v9, v10, v11, v12, rfl, rfl, rfl, rfl, rfl, rfl, HX⟩ := hcut
    have c8 := HX.out.1.c8
    have c9 := HX.out.1.c9
    have c10 := HX.out.1.c10
    have c11 := HX.out.1.c11
    go_upto_region 1 with fail
    go_cut [18, 19] from 38 to 43 (fun s18 s19 wc => s18 = .int .i64 (-(m : Int)) ∧ s19 = .int .i64 n ∧ ∃ q, wc = w1.drewN q)
    case first => as_aux_lemma =>
      go_quiet (fail)
      go_wp2
      go_meet
      case rel => exact ⟨congrArg (Value.int .i64) (by omega), congrArg (Value.int .i64) (by omega), _, rfl⟩
    case rest => as_aux_lemma =>
      obtain ⟨rfl, rfl, q1, rfl⟩ := hcut
      go_upto_region 2 with fail
      go_cut [20, 21] from 44 to 49 (fun s20 s21 wc => s20 = .int .i64 0 ∧ s21 = .int .i64 ((n : Int) - m) ∧ ∃ q, wc = w1.drewN q)
      case first => as_aux_lemma =>
        go_quiet (fail)
        go_wp2
        go_meet
        case rel => first | exact ⟨rfl, rfl, _, rfl⟩ | exact ⟨rfl, rfl, _, World.drewN_drewN _ _ _⟩
      case rest => as_aux_lemma =>
        obtain ⟨rfl, rfl, q2, rfl⟩ := hcut
        obtain ⟨odd, hodd⟩ : ∃ odd : Bool, odd = decide (((n : Int) - m) % 2 ≠ 0) := ⟨_, rfl⟩
        have HO := Hid.mk' hodd
        clear hodd
        go_upto_region 3 with fail
        go_cut [22] from 50 to 54 (fun s22 wc => s22 = .bool odd ∧ wc = w1.drewN q2)
        case first => as_aux_lemma =>
          go_wp2
          go_meet
          case rel =>
            refine ⟨?_, rfl⟩
            rw [HO.out]
            rw [i64_and1, show (-((n : Int) - m)) % 2 = ((n : Int) - m) % 2 by omega]
            by_cases h : ((n : Int) - m) % 2 = 0 <;> simp [h]
        case rest => as_aux_lemma =>
          obtain ⟨rfl, rfl⟩ := hcut
          have HX2 : Hid (Bx v7 v8 v9 v10 v11 v12 ab n m dist (w1.drewN q2) ∧ Wrote [] w (w1.drewN q2) ∧ ∀ v ∈ [v7, v8, v9, v10, v11, v12], w.heap.size ≤ v) := ⟨HX.out.1.wrote ((Wrote.refl [] _).drewN _) (by simp), HX.out.2.1.drewN _, HX.out.2.2⟩
          clear HX c8 c9 c10 c11
          generalize w1.drewN q2 = w2 at *
          have c7 := HX2.out.1.c7
          have a4 := HX2.out.2.1.cell_of HA.out.a4 (by simp)
          have a5 := HX2.out.2.1.cell_of HA.out.a5 (by simp)
          have a6 := HX2.out.2.1.cell_of HA.out.a6 (by simp)
          go_upto_region 4 with fail
          go_cut [23, 24, 25] from 55 to 66 (fun s23 s24 s25 wc => ∃ v23 v24 v25, s23 = .pointer (some ⟨v23, 0, none⟩) ∧ s24 = .pointer (some ⟨v24, 0, none⟩) ∧ s25 = .pointer (some ⟨v25, 0, none⟩) ∧ Hid (Ms v7 v8 v9 v10 v11 v12 v23 v24 v25 ab bx b2 bf bb n m cx cy bd x y (cnt sx) (cnt sy) dist F0 B0 wc ∧ Wrote [] w wc))
          case first => as_aux_lemma =>
            have KL : Hid (∀ w', Wrote [] w2 w' → w'.cell? ⟨v7, 0, none⟩ = some (.pointer (some ⟨ab, 0, none⟩)) ∧ w'.cell? ⟨ab, 4, none⟩ = some (.slice (some ⟨bf, 0, none⟩) (n + m + 5) (n + m + 5)) ∧ w'.cell? ⟨ab, 5, none⟩ = some (.slice (some ⟨bb, 0, none⟩) (n + m + 5) (n + m + 5)) ∧ w'.cell? ⟨ab, 6, none⟩ = some (.int .i64 ((m : Int) + 2))) := fun w' k => ⟨k.cell_of c7 (by simp), k.cell_of a4 (by simp), k.cell_of a5 (by simp), k.cell_of a6 (by simp)⟩
            go_region_held3 (fun w' => w'.cell? ⟨v7, 0, none⟩ = some (.pointer (some ⟨ab, 0, none⟩)) ∧ w'.cell? ⟨ab, 4, none⟩ = some (.slice (some ⟨bf, 0, none⟩) (n + m + 5) (n + m + 5)) ∧ w'.cell? ⟨ab, 5, none⟩ = some (.slice (some ⟨bb, 0, none⟩) (n + m + 5) (n + m + 5)) ∧ w'.cell? ⟨ab, 6, none⟩ = some (.int .i64 ((m : Int) + 2))) (first | exact KL.out _ (Wrote.refl _ _).drew | exact KL.out _ ((Wrote.refl _ _).alloc _).drew | exact KL.out _ (((Wrote.refl _ _).alloc _).alloc _).drew | exact KL.out _ ((((Wrote.refl _ _).alloc _).alloc _).alloc _).drew) (fail)
            all_goals go_wp2
            all_goals go_meet
            all_goals (case rel =>
              refine ⟨_, _, _, rfl, rfl, rfl, ms_new HA.out HF.out HB.out HX2.out.2.1 HX2.out.1 HX2.out.2.2 (((((Wrote.refl [] _).alloc _).alloc _).alloc _).drew) ?_ ?_ ?_ (by omega) (by omega) (by omega), (((HX2.out.2.1.alloc _).alloc _).alloc _).drew⟩ <;>
              first
                | exact (((Wrote.refl [] _).alloc _).alloc _).drew.cell_of (cell_new' (by simp) rfl) (by simp)
                | exact ((Wrote.refl [] _).alloc _).drew.cell_of (cell_new' (by simp) rfl) (by simp)
                | exact (Wrote.refl [] _).drew.cell_of (cell_new' (by simp) rfl) (by simp))
          case rest => as_aux_lemma =>
            rename World => w3
            obtain ⟨v23, v24, v25, rfl, rfl, rfl, HM⟩ := hcut
            clear HX2 c7 a4 a5 a6
            have HN := Hid.mk' HA.out.ne
            clear HA HF HB
            go_upto_region 5 with fail
            go_cut [] from 67 to 72 (fun wc => Hid (Ms v7 v8 v9 v10 v11 v12 v23 v24 v25 ab bx b2 bf bb n m cx cy bd x y (cnt sx) (cnt sy) dist (at1 F0 (m + 2) 0) B0 wc ∧ Wrote [bf, bb] w wc))
            case first => as_aux_lemma =>
              have c23 := HM.out.1.c23
              have c25 := HM.out.1.c25
              have c8 := HM.out.1.bx.c8
              have cf := HM.out.1.rf.cell (i := m + 2) (by omega)
              have ff := HM.out.1.rf.frozen (m + 2)
              have hlt : (m : Int) + 2 < (n : Int) + m + 5 := by omega
              go_wp2
              go_meet
              case rel => exact ⟨HM.out.1.setF (m + 2) 0, (HM.out.2.mono (by simp)).setCell (.inl (by simp)) _⟩
            case rest => as_aux_lemma =>
              rename World => w4
              have HM4 := hcut
              clear hcut HM
              go_upto_region 6 with fail
              go_cut [] from 73 to 78 (fun wc => Hid (Ms v7 v8 v9 v10 v11 v12 v23 v24 v25 ab bx b2 bf bb n m cx cy bd x y (cnt sx) (cnt sy) dist (at1 F0 (m + 2) 0) (at1 B0 (n + 2) n) wc ∧ Wrote [bf, bb] w wc))
              case first => as_aux_lemma =>
                have c24 := HM4.out.1.c24
                have c25 := HM4.out.1.c25
                have c9 := HM4.out.1.bx.c9
                have cf := HM4.out.1.rb.cell (i := n + 2) (by omega)
                have ff := HM4.out.1.rb.frozen (n + 2)
                have hix : (n : Int) - m + ((m : Int) + 2) = ((n + 2 : Nat) : Int) := by omega
                have hlt : ((n + 2 : Nat) : Int) < ((n + m + 5 : Nat) : Int) := by omega
                go_wp2
                go_meet
                case rel => exact ⟨HM4.out.1.setB (n + 2) n, HM4.out.2.setCell (.inl (by simp)) _⟩
              case rest => as_aux_lemma =>
                rename World => w5
                have HM5 := hcut
                clear hcut HM4
                obtain ⟨nw, hnw⟩ : ∃ nw : Bool, nw = (decide (0 ≤ dist) && !bd) := ⟨_, rfl⟩
                have HNW := Hid.mk' hnw
                clear hnw
                go_upto_region 8 with fail
                go_cut [30, 31] from 83 to 92 (fun s30 s31 wc => s30 = .int .i64 dist ∧ s31 = .bool nw ∧ ∃ q, wc = w5.drewN q)
                case first => as_aux_lemma =>
                  have c12 := HM5.out.1.bx.c12
                  have c7 := HM5.out.1.bx.c7
                  have a7 := HM5.out.1.al.a7
                  by_cases hd0 : 0 ≤ dist
                  · have hg : decide (0 ≤ dist) = true := decide_eq_true hd0
                    go_quiet (fail)
                    go_wp2
                    go_meet
                    case rel => exact ⟨rfl, by rw [HNW.out, hg]; simp, _, rfl⟩
                  · have hg : decide (0 ≤ dist) = false := decide_eq_false hd0
                    go_quiet (fail)
                    go_wp2
                    go_meet
                    case rel => exact ⟨rfl, by rw [HNW.out, hg]; simp, _, rfl⟩
                case rest => as_aux_lemma =>
                  obtain ⟨rfl, rfl, q5, rfl⟩ := hcut
                  have HM6 : Hid (Ms v7 v8 v9 v10 v11 v12 v23 v24 v25 ab bx b2 bf bb n m cx cy bd x y (cnt sx) (cnt sy) dist (at1 F0 (m + 2) 0) (at1 B0 (n + 2) n) (w5.drewN q5) ∧ Wrote [bf, bb] w (w5.drewN q5)) := ⟨HM5.out.1.wrote ((Wrote.refl [] _).drewN _), HM5.out.2.drewN _⟩
                  clear HM5
                  generalize w5.drewN q5 = w6 at *
                  have c12 := HM6.out.1.bx.c12
                  go_upto_if 94 with fail
                  clear c12
                  go_cut [30] from 93 to 100 (fun s30 wc => ∃ ls, s30 = .int .i64 ls ∧ Hid (-10 ≤ ls ∧ ls ≤ Di (eqM n m x y) n m) ∧ ∃ q, wc = w6.drewN q)
                  case first => as_aux_lemma =>
                    have c7 := HM6.out.1.bx.c7
                    have c8 := HM6.out.1.bx.c8
                    have c9 := HM6.out.1.bx.c9
                    have c10 := HM6.out.1.bx.c10
                    have c11 := HM6.out.1.bx.c11
                    rcases HD.out with hd | hd
                    · have hd0 : dist < 0 := by omega
                      clear hd
                      go_wp2_with fail
                      refine (fewest_any ab bx b2 bf bb n m cx cy bd x y (cnt sx) (cnt sy) 0 0 n m _ HM6.out.1.al (by omega) (by omega) (by omega) (by omega) (by omega) (by omega) (cnt_le sx) (cnt_le sy)).mono ?_
                      rintro e wx ⟨rfl, q, rfl⟩
                      have hf := few_le_Ed (M := eqM n m x y) HS1.out HS2.out n m
                      have hf2 : -10 ≤ fewZ (cnt sx) (cnt sy) 0 0 n m := by
                        have a1 := cnt_le sx n
                        have a2 := cnt_le sy m
                        unfold fewZ
                        simp only [cnt]
                        omega
                      have HFE := Hid.mk' (⟨hf2, hf⟩ : _ ∧ _)
                      clear hf hf2
                      go_wp2
                      go_meet
                      case rel => exact ⟨_, rfl, ⟨HFE.out.1, HFE.out.2⟩, q, rfl⟩
                    · have hd0 : ¬ dist < 0 := by omega
                      have HDD := Hid.mk' hd
                      clear hd
                      go_wp2
                      go_meet
                      case rel => exact ⟨dist, rfl, ⟨by omega, by have := HDD.out; omega⟩, 0, rfl⟩
                  case rest => as_aux_lemma =>
                    obtain ⟨ls, rfl, HLS, q6, rfl⟩ := hcut
                    have HM7 : Hid (Ms v7 v8 v9 v10 v11 v12 v23 v24 v25 ab bx b2 bf bb n m cx cy bd x y (cnt sx) (cnt sy) dist (at1 F0 (m + 2) 0) (at1 B0 (n + 2) n) (w6.drewN q6) ∧ Wrote [bf, bb] w (w6.drewN q6)) := ⟨HM6.out.1.wrote ((Wrote.refl [] _).drewN _), HM6.out.2.drewN _⟩
                    clear HM6
                    generalize w6.drewN q6 = w7 at *
                    have I1 : Inv (eqM n m x y) n m 0 0 0 (fX m (at1 F0 (m + 2) 0)) := Inv.start H0.out _ (by unfold fX; rw [show ((0 : Int) + m + 2).toNat = m + 2 by omega]; exact at1_same _ _ _)
                    have I2 : Inv (rev (eqM n m x y) n m) n m 0 0 0 (bY n m (at1 B0 (n + 2) n)) := Inv.start H9.out _ (by unfold bY; rw [show ((n : Int) - m - 0 + m + 2).toNat = n + 2 by omega, at1_same]; omega)
                    have hpos : 0 < Di (eqM n m x y) n m := by
                      by_cases hz : 0 < Di (eqM n m x y) n m
                      · exact hz
                      · exfalso
                        have g := good_end (M := eqM n m x y) (n := n) (m := m)
                        rw [show Di (eqM n m x y) n m = ((0 : Nat) : Int) by omega] at g
                        obtain ⟨g1, g2, g3⟩ := I1.comp n m g
                        have e : fX m (at1 F0 (m + 2) 0) ((n : Int) - m) = 0 := by
                          unfold fX
                          rw [show ((n : Int) - m + m + 2).toNat = m + 2 by omega]
                          exact at1_same _ _ _
                        rw [e] at g3
                        omega
                    have hF1 : ∀ i, -1 ≤ at1 F0 (m + 2) 0 i := fun i => by
                      rcases at1_or F0 (m + 2) 0 i with h | h
                      · rw [h]; exact HF0.out i
                      · rw [h]; omega
                    have hB1 : ∀ i, -3000 ≤ at1 B0 (n + 2) n i ∧ at1 B0 (n + 2) n i ≤ top := fun i => by
                      rcases at1_or B0 (n + 2) n i with h | h
                      · rw [h]; exact HB0.out i
                      · rw [h]; unfold top; omega
                    rename ∀ (a : Act) (w : World), Code.wp Yba.prog _ _ a w → _ => hK
                    refine hK _ _ ?_
                    exact wp_same (c' := (Yba.f12.body.bind (fromRegion 11)).getD .skip) (by kernel_rfl) rfl (loop_wrap v7 v8 v9 v10 v11 v12 v23 v24 v25 ab bx b2 bf bb n m cx cy bd x y sx sy dist ls nw odd (at1 F0 (m + 2) 0) (at1 B0 (n + 2) n) _ w w7 HM7.out.1 HM7.out.2 hn hm hcx hcy I1 I2 hpos hD0.2 HS1.out HS2.out HLS.out HNW.out HD.out HO.out hF1 hB1 (by kernel_rfl))
end Go.Proofs.Ybulkbptu
