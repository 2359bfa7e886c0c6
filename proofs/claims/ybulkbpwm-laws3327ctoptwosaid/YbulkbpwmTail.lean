import Derived.Test.YbulkbpwmTwo
import Derived.Test.YbulkbpwmRest
import Derived.Deep.DeepCutAuto
namespace Go.Proofs.Ybulkbpwm
open Go.ChangeShapes Go.WideShapes Go.ChangeAt Go.RowKit
set_option linter.unusedVariables false
set_option linter.unusedSimpArgs false

/-- The code from region 'id' on. -/
def fromRegion (id : Nat) : Code → Option Code
  | .seq (.region i ops b) c => if i = id then some (.seq (.region i ops b) c) else fromRegion id c
  | .seq _ c => fromRegion id c
  | _ => none

/-- The gains of those that are kept, in their order. -/
def mg (keep : Nat → Bool) (g : Nat → Int) : Nat → List Int
  | 0 => []
  | k + 1 => if keep k then mg keep g k ++ [g k] else mg keep g k
theorem mg_take {keep : Nat → Bool} {g : Nat → Int} {k : Nat} {gl : List Int} {x : Int} (h : mg keep g k = gl) (hk : keep k = true) (hx : g k = x) : mg keep g (k + 1) = gl ++ [x] := by simp [mg, hk, h, hx]
theorem mg_skip {keep : Nat → Bool} {g : Nat → Int} {k : Nat} {gl : List Int} (h : mg keep g k = gl) (hk : keep k = false) : mg keep g (k + 1) = gl := by simp [mg, hk, h]
theorem mg_len (keep : Nat → Bool) (g : Nat → Int) : ∀ k, (mg keep g k).length ≤ k
  | 0 => by simp [mg]
  | k + 1 => by
    have := mg_len keep g k
    simp only [mg]
    split <;> simp <;> omega

theorem run_make0 (L : Nat) (hL : L ≤ 1024) (w : World) : (Instr.makeSlice 22 (.int .i64 0) (.int .i64 (L : Int))).run Yba.prog w = .ok (.slice (some ⟨w.heap.size, 0, none⟩) 0 L) (w.alloc (.cells (madeCells #[.int .i64 0] L) 3)) := by
  obtain ⟨i, hi, hz, hs, hb⟩ := info_parts info3
  have hr := run_make (P := Yba.prog) w 22 3 i (.int .i64 0) Yba.underlying22 hi hz .i64 .i64 0 L (by omega) (by omega) (by rw [hb]; omega) (by omega)
  have hc : (Value.int .i64 0).cells = #[Value.int .i64 0] := rfl
  simpa [hs, hc] using hr

/-- The class of a pair as the law reckons it. -/
theorem d_law {n u v : Nat} (hu : u < n) (hv : v < n) : ((v : Int) - (u : Int)).tmod (n : Int) = (v : Int) - (u : Int) ∧ ((v : Int) - (u : Int) + (n : Int)) % (n : Int) = (dOf n u v : Int) := by
  constructor
  · rcases Int.lt_or_le ((v : Int) - u) 0 with h | h
    · have : (v : Int) - u = -((u : Int) - v) := by omega
      rw [this, Int.neg_tmod, Int.tmod_eq_of_lt (by omega) (by omega)]
    · exact Int.tmod_eq_of_lt (by omega) (by omega)
  · unfold dOf
    by_cases h : v < u
    · rw [if_pos h, Int.emod_eq_of_lt (by omega) (by omega)]; omega
    · rw [if_neg h, Int.add_emod_right, Int.emod_eq_of_lt (by omega) (by omega)]; omega

/-- The best gain and where it stands, among the first j. -/
def bst (f : Nat → Int) : Nat → Int × Int
  | 0 => (0, -1)
  | j + 1 => if (bst f j).1 < f j then (f j, (j : Int)) else bst f j
/-- The next best, the place 'at' left out. -/
def nxt (f : Nat → Int) (a : Int) : Nat → Int
  | 0 => 0
  | j + 1 => if (j : Int) ≠ a ∧ nxt f a j < f j then f j else nxt f a j
/-- The best two of a list, as the searched function gathers them. -/
def two (f : Nat → Int) : Nat → Int × Int
  | 0 => (0, 0)
  | j + 1 => step2 (two f j) (f j)
theorem bst_at (f : Nat → Int) : ∀ j, (bst f j).2 < (j : Int)
  | 0 => by simp [bst]
  | j + 1 => by
    have := bst_at f j
    simp only [bst]
    split
    · show (j : Int) < ((j + 1 : Nat) : Int); omega
    · omega
theorem nxt_skip (f : Nat → Int) (a b : Int) : ∀ j : Nat, (j : Int) ≤ a → (j : Int) ≤ b → nxt f a j = nxt f b j
  | 0, _, _ => rfl
  | j + 1, h1, h2 => by
    have := nxt_skip f a b j (by omega) (by omega)
    have n1 : (j : Int) ≠ a := by omega
    have n2 : (j : Int) ≠ b := by omega
    simp [nxt, this, n1, n2]
/-- Left out at the end alone: the best of all. -/
theorem nxt_all (f : Nat → Int) : ∀ j : Nat, nxt f (j : Int) j = (bst f j).1
  | 0 => rfl
  | j + 1 => by
    have h := nxt_all f j
    have h2 := nxt_skip f ((j : Int) + 1) (j : Int) j (by omega) (by omega)
    have e : ((j + 1 : Nat) : Int) = (j : Int) + 1 := by omega
    rw [e]
    have n1 : (j : Int) ≠ (j : Int) + 1 := by omega
    by_cases hh : (bst f j).1 < f j <;> simp [nxt, bst, h2, h, n1, hh]
theorem two_eq (f : Nat → Int) : ∀ j, two f j = ((bst f j).1, nxt f (bst f j).2 j)
  | 0 => rfl
  | j + 1 => by
    have ih := two_eq f j
    have ha := bst_at f j
    simp only [two, ih]
    by_cases h : (bst f j).1 < f j
    · rw [step2_a h]
      have e1 : bst f (j + 1) = (f j, (j : Int)) := by simp [bst, h]
      rw [e1]
      have e2 : nxt f (j : Int) (j + 1) = nxt f (j : Int) j := by simp [nxt]
      show (f j, (bst f j).1) = (f j, nxt f (j : Int) (j + 1))
      rw [e2, nxt_all]
    · have e1 : bst f (j + 1) = bst f j := by simp [bst, h]
      rw [e1]
      have hne : ((j : Int) ≠ (bst f j).2) := by omega
      by_cases h2 : nxt f (bst f j).2 j < f j
      · rw [step2_b h h2]; simp [nxt, hne, h2]
      · rw [step2_c h h2]; simp [nxt, h2]
theorem two_snoc (f g : Nat → Int) : ∀ j, (∀ i, i < j → f i = g i) → two f j = two g j
  | 0, _ => rfl
  | j + 1, h => by simp only [two]; rw [two_snoc f g j (fun i hi => h i (by omega)), h j (by omega)]
theorem top2_two (keep : Nat → Bool) (g : Nat → Int) : ∀ k, top2 keep g k = two (fun i => (mg keep g k).getD i 0) (mg keep g k).length
  | 0 => rfl
  | k + 1 => by
    have ih := top2_two keep g k
    by_cases hk : keep k = true
    · simp only [top2, mg, hk, if_true, List.length_append, List.length_singleton, two]
      rw [ih]
      have e1 : two (fun i => (mg keep g k ++ [g k]).getD i 0) (mg keep g k).length = two (fun i => (mg keep g k).getD i 0) (mg keep g k).length :=
        two_snoc _ _ _ (fun i hi => by simp [List.getElem?_append_left hi])
      rw [e1]
      congr 1
      simp
    · have hk' : keep k = false := by simpa using hk
      simp only [top2, mg, hk']
      exact ih
theorem top2_law (keep : Nat → Bool) (g : Nat → Int) (k : Nat) (gl : List Int) (h : mg keep g k = gl) :
    top2 keep g k = ((bst (fun i => gl.getD i 0) gl.length).1, nxt (fun i => gl.getD i 0) (bst (fun i => gl.getD i 0) gl.length).2 gl.length) := by
  rw [top2_two, h, two_eq]

set_option maxRecDepth 100000 in
set_option maxHeartbeats 4000000 in
theorem tail_any (pop : Int → Int) (hpop : PopOK pop) (S bb bw bt bm bg br be bl g1 g2 g3 c1 c2 c3 n W N L u : Nat) (want : Int) (T M G R : Nat → Int) (lv : Nat → Nat) (w0 w : World) (c : Nat → Value)
    (hm : TwoMem S bw bb bt bm bg br be bl n W N L (woF n) (boF n) T M G lv w) (hr : w.rowIs be 47 W (fun i => .int .u64 (R i)))
    (hBe : S ∉ [be] ∧ bw ∉ [be] ∧ bb ∉ [be] ∧ bt ∉ [be] ∧ bm ∉ [be] ∧ bg ∉ [be] ∧ br ∉ [be] ∧ bl ∉ [be])
    (k1 : ∀ i, i < W → w.cell? ⟨g1, i, none⟩ = some (.int .u64 (M i))) (k2 : ∀ i, i < N → w.cell? ⟨g2, i, none⟩ = some (.int .u64 (G i))) (k3 : ∀ i, i < n → w.cell? ⟨g3, i, none⟩ = some (.int .u8 (T i)))
    (hg1 : g1 ≠ be) (hg2 : g2 ≠ be) (hg3 : g3 ≠ be) (hc2 : N ≤ c2) (hbe : w0.heap.size ≤ be) (hbel : Below w0.heap.size w0 w)
    (hn : 2 ≤ n ∧ n ≤ 200) (hW : 1 ≤ W ∧ W ≤ 2) (hN : n * W = N) (hu : u < n) (hL : L ≤ 1024) (hlv : ∀ i, i < L → lv i < n) :
    Code.wp Yba.prog ((Yba.f8.body.bind (fromRegion 34)).getD .skip) (bodyPost Yba.prog Yba.f8 fun e w' => e = .returned (.bool true) ∧ Below w0.heap.size w0 w') ⟨#[c 0, c 1, .int .i64 want, c 3, c 4, c 5, c 6, c 7, c 8, c 9, c 10, c 11, c 12, c 13, c 14, .int .i64 n, .pointer (some ⟨S, 0, none⟩), .int .i64 W, .slice (some ⟨br, 0, none⟩) N N, c 19, c 20, c 21, .slice (some ⟨bl, 0, none⟩) L L, c 23, c 24, .int .i64 u, .slice (some ⟨g1, 0, none⟩) W c1, .slice (some ⟨g2, 0, none⟩) N c2, .slice (some ⟨g3, 0, none⟩) n c3, c 29, c 30, c 31, c 32, c 33, c 34, c 35, c 36, c 37, c 38, c 39, c 40, c 41, c 42, c 43, c 44, c 45, c 46, c 47, c 48, c 49, c 50, c 51, c 52, c 53, c 54, c 55, c 56, c 57, c 58, c 59, c 60, c 61, c 62, c 63, c 64, c 65, c 66, c 67, c 68, c 69, c 70, c 71, c 72, c 73, c 74, c 75, c 76, c 77, c 78, c 79, c 80, c 81, c 82, c 83, c 84, c 85, c 86, c 87, c 88, c 89, c 90, c 91, c 92, c 93, c 94, c 95, c 96, c 97, c 98, c 99, c 100, c 101, c 102, c 103, c 104, c 105, c 106, c 107, c 108, c 109, c 110, c 111, c 112, c 113, c 114, c 115, c 116, c 117, c 118, c 119, c 120, c 121, c 122, c 123, c 124, c 125, c 126, c 127, c 128, c 129, c 130, c 131, c 132, c 133, c 134, c 135, c 136, c 137, c 138, c 139, c 140, c 141, c 142, c 143, c 144, c 145, c 146, c 147, c 148, c 149, c 150, c 151, c 152, c 153, c 154, c 155, c 156, c 157, c 158, c 159, c 160, c 161, c 162, c 163, c 164, c 165, c 166, c 167, c 168, c 169, c 170, c 171, c 172, c 173, c 174, c 175, c 176, c 177, c 178, c 179, c 180, c 181, c 182, c 183, c 184, c 185, c 186, c 187, c 188, c 189, c 190, c 191, c 192, c 193, c 194, c 195, c 196, c 197, c 198, c 199, c 200, c 201, c 202, c 203, c 204, c 205, c 206, c 207, c 208, c 209, c 210, c 211, c 212, c 213, c 214, c 215, c 216, c 217, c 218, c 219, c 220, c 221, c 222, c 223, c 224, c 225, c 226, c 227, c 228, c 229, c 230, c 231, c 232, c 233, c 234, c 235, c 236, c 237, c 238, c 239, c 240, c 241, c 242, c 243, c 244, c 245, c 246, c 247, c 248, c 249, c 250, c 251, c 252, c 253, c 254, c 255, c 256, c 257, c 258, c 259, c 260, c 261, c 262, c 263, c 264, c 265, c 266, c 267, c 268, c 269, c 270, c 271, c 272, c 273, c 274, c 275, c 276, c 277, c 278, c 279, c 280, c 281, c 282, c 283, c 284, c 285, c 286, c 287, c 288, c 289, c 290, c 291, c 292, c 293, c 294, c 295, c 296, c 297, c 298, c 299, c 300, c 301, c 302, c 303, c 304, c 305, c 306, c 307, c 308, c 309, c 310, c 311, c 312, c 313, c 314, c 315, c 316, c 317, c 318, c 319, c 320, c 321, c 322, c 323, c 324, c 325, c 326, c 327, c 328, c 329, c 330, c 331, c 332, c 333, c 334, c 335, c 336, c 337], []⟩ w := by
  conv => arg 2; whnf
  go_wp2_with fail
  refine (two_any pop hpop S bw bb bt bm bg br be bl n W N L L u want (woF n) (boF n) T M G R lv _ hm hr hBe hn hW hN hu hL hlv).mono ?_
  rintro e w1 ⟨rfl, hw1⟩
  have HM := hm.wrote hw1 hBe
  have k1' := fun i hi => hw1.cell_of (k1 i hi) (by simpa using hg1)
  have k2' := fun i hi => hw1.cell_of (k2 i hi) (by simpa using hg2)
  have k3' := fun i hi => hw1.cell_of (k3 i hi) (by simpa using hg3)
  have HK : Hid ((∀ i, i < W → w1.cell? ⟨g1, i, none⟩ = some (.int .u64 (M i))) ∧ (∀ i, i < N → w1.cell? ⟨g2, i, none⟩ = some (.int .u64 (G i))) ∧ (∀ i, i < n → w1.cell? ⟨g3, i, none⟩ = some (.int .u8 (T i)))) := ⟨k1', k2', k3'⟩
  have HB1 : Hid (Below w0.heap.size w0 w1) := hbel.trans (hw1.below hbel.size (fun b hb => by simp at hb; omega))
  have HP : Hid (PopOK pop) := hpop
  have HLV : Hid (∀ i, i < L → lv i < n) := hlv
  have HNN : Hid (n * W = N) := hN
  have hN400 : N ≤ 400 := by rw [← hN]; exact Nat.le_trans (Nat.mul_le_mul hn.2 hW.2) (by omega)
  clear k1 k2 k3 k1' k2' k3' hw1 hm hr hBe hg1 hg2 hg3 hbel hpop hlv hN
  obtain ⟨uw, huw⟩ : ∃ uw : Nat, (u : Int) * (W : Int) = (uw : Int) := ⟨u * W, by simp⟩
  have huwN : uw + W ≤ N := by
    have h1 : (u + 1) * W ≤ n * W := Nat.mul_le_mul_right _ hu
    have h2 : u * W = uw := by exact_mod_cast huw
    have h3 := HNN.out
    rw [Nat.add_mul] at h1; omega
  have HUW : Hid (u * W = uw) := by have h2 : u * W = uw := by exact_mod_cast huw
                                    exact h2
  have hl12 : uw + W - uw = W := by omega
  obtain ⟨gt, hgt⟩ : ∃ gt, decide (want ≤ total pop (woF n) (boF n) T M G lv n W L u) = gt := ⟨_, rfl⟩
  rw [hgt]
  have HGT : Hid (decide (want ≤ total pop (woF n) (boF n) T M G lv n W L u) = gt) := hgt
  clear hgt
  have mk0 := run_make0 L hL
  obtain ⟨i0, hi0, hz0, hz1, hz2⟩ := info_parts info3
  go_wp2_with fail
  rw [hl12]
  clear hl12 mk0
  go_loopg [31, 201] L (fun gk gsv kv wx => ∃ k : Nat, k + gk = L ∧ kv = .int .i64 k ∧ gsv = .slice (some ⟨w1.heap.size, 0, none⟩) (mg (fun k => keepB T u (lv k)) (fun k => gn pop (woF n) (boF n) M G n W u (lv k)) k).length L ∧ wx.ownsRow w1.heap.size 3 1 gsv (mg (fun k => keepB T u (lv k)) (fun k => gn pop (woF n) (boF n) M G n W u (lv k)) k).length ((mg (fun k => keepB T u (lv k)) (fun k => gn pop (woF n) (boF n) M G n W u (lv k)) k).map (Value.int .i64)) ∧ Wrote [] w1 wx)
  case atStart => exact ⟨0, by omega, rfl, rfl, ⟨rfl, .inr ⟨_, L, _, rfl, Nat.le_refl _, heap_alloc_new _ _, Nat.zero_le _, by unfold maxLen; omega, by simp [size_madeCells], rfl⟩⟩, (Wrote.refl _ _).alloc _⟩
  case round =>
    obtain ⟨k, hk, rfl, rfl, hown, hwx⟩ := hrel
    have hlen := mg_len (fun k => keepB T u (lv k)) (fun k => gn pop (woF n) (boF n) M G n W u (lv k)) k
    generalize hgl : mg (fun k => keepB T u (lv k)) (fun k => gn pop (woF n) (boF n) M G n W u (lv k)) k = gl at hown hlen ⊢
    have HGL : Hid (mg (fun k => keepB T u (lv k)) (fun k => gn pop (woF n) (boF n) M G n W u (lv k)) k = gl) := hgl
    have HO : Hid (wr.ownsRow w1.heap.size 3 1 (.slice (some ⟨w1.heap.size, 0, none⟩) gl.length L) gl.length (gl.map (Value.int .i64))) := hown
    have HWX : Hid (Wrote [] w1 wr) := hwx
    clear hgl hown hwx
    by_cases hkl : k < L
    · have cl := HWX.out.cell_of (HM.live k hkl) (by simp)
      obtain ⟨v, hv⟩ : ∃ v, lv k = v := ⟨_, rfl⟩
      have hvn : v < n := by rw [← hv]; exact HLV.out k hkl
      rw [hv] at cl
      have HV : Hid (lv k = v) := hv
      clear hv
      have ct := HWX.out.cell_of (HK.out.2.2 v hvn) (by simp)
      by_cases hvu : ((v : Int) == (u : Int)) = true
      · have hkp : keepB T u (lv k) = false := by rw [HV.out]; exact keep_same hvu
        have HT : Hid (mg (fun k => keepB T u (lv k)) (fun k => gn pop (woF n) (boF n) M G n W u (lv k)) (k + 1) = gl) := mg_skip HGL.out hkp
        clear hkp
        go_wp2
        go_roundg (L - (k + 1))
        case measure => omega
        case rel => exact ⟨k + 1, by omega, by go_num, by rw [HT.out], by rw [HT.out]; exact HO.out, HWX.out⟩
      · have hvu' : ((v : Int) == (u : Int)) = false := by simpa using hvu
        by_cases ht : (T v != 0) = true
        · have hkp : keepB T u (lv k) = false := by rw [HV.out]; exact keep_taken ht
          have HT : Hid (mg (fun k => keepB T u (lv k)) (fun k => gn pop (woF n) (boF n) M G n W u (lv k)) (k + 1) = gl) := mg_skip HGL.out hkp
          clear hkp
          go_wp2
          go_roundg (L - (k + 1))
          case measure => omega
          case rel => exact ⟨k + 1, by omega, by go_num, by rw [HT.out], by rw [HT.out]; exact HO.out, HWX.out⟩
        · have ht' : (T v != 0) = false := by simpa using ht
          have hkp : keepB T u (lv k) = true := by rw [HV.out]; exact keep_yes hvu' ht'
          obtain ⟨g, hg⟩ : ∃ g, gn pop (woF n) (boF n) M G n W u v = g := ⟨_, rfl⟩
          have HT : Hid (mg (fun k => keepB T u (lv k)) (fun k => gn pop (woF n) (boF n) M G n W u (lv k)) (k + 1) = gl ++ [g]) := mg_take HGL.out hkp (by show gn pop _ _ M G n W u (lv k) = g; rw [HV.out]; exact hg)
          clear hkp
          obtain ⟨vw, hvw⟩ : ∃ vw : Nat, (v : Int) * (W : Int) = (vw : Int) := ⟨v * W, by simp⟩
          have hvwN : vw + W ≤ N := by
            have h1 : (v + 1) * W ≤ n * W := Nat.mul_le_mul_right _ hvn
            have h2 : v * W = vw := by exact_mod_cast hvw
            have h3 := HNN.out
            rw [Nat.add_mul] at h1; omega
          obtain ⟨hmod, hdd⟩ := d_law hu hvn
          obtain ⟨d, hd⟩ : ∃ d, dOf n u v = d := ⟨_, rfl⟩
          have hdn : d < n := by rw [← hd]; exact d_lt hu hvn
          have hd0 : d ≠ 0 := by
            have h1 := d_of hu hvn
            have h2 : v ≠ u := by intro e; subst e; simp at hvu
            rw [hd] at h1
            rcases h1 with ⟨_, h⟩ | ⟨_, h⟩ <;> omega
          rw [hd] at hdd
          have HG : Hid (g = acc pop (dif M G uw) (wrd (woF n) (boF n) G d vw) W) := by
            show g = _
            rw [← hg, ← hd]
            have h2 : v * W = vw := by exact_mod_cast hvw
            unfold gn; rw [HUW.out, h2]
          have hcase : (∃ m : Nat, (n : Int) - (d : Int) = (m : Int) ∧ (n : Int) - (d : Int) < (d : Int) ∧ min d (n - d) = m) ∨ (¬ (n : Int) - (d : Int) < (d : Int) ∧ min d (n - d) = d) := by
            by_cases hx : n - d < d
            · exact .inl ⟨n - d, by omega, by omega, by omega⟩
            · exact .inr ⟨by omega, by omega⟩
          clear hg hd
          rcases hcase with ⟨m, hm1, hm2, hm⟩ | ⟨hm2, hm⟩
          · have HWO : Hid (woF n d = (m : Int) / 64) := by show woF n d = _; unfold woF; rw [hm]
            have HBO : Hid (boF n d = IntKind.u64.wrap (2 ^ (m % 64))) := by show boF n d = _; unfold boF; rw [if_neg hd0, hm]
            have hmb : m ≤ 200 := by omega
            clear hm
            rename World => w2
            go_wp2
            go_loopg [36, 37] W (fun gj gv iv wy => (Wrote [] w1 wy ∧ wy.ownsRow w1.heap.size 3 1 (.slice (some ⟨w1.heap.size, 0, none⟩) gl.length L) gl.length (gl.map (Value.int .i64))) ∧ ∃ j : Nat, j + gj = W ∧ iv = .int .i64 j ∧ gv = .int .i64 (acc pop (dif M G uw) (wrd (woF n) (boF n) G d vw) j))
            case atStart => exact ⟨⟨HWX.out, HO.out⟩, 0, by omega, rfl, rfl⟩
            case round =>
              obtain ⟨⟨hwy, howny⟩, j, hj, rfl, rfl⟩ := hrel
              have HWY : Hid (Wrote [] w1 wr) := hwy
              have HOY : Hid (wr.ownsRow w1.heap.size 3 1 (.slice (some ⟨w1.heap.size, 0, none⟩) gl.length L) gl.length (gl.map (Value.int .i64))) := howny
              clear hwy howny
              by_cases hjW : j < W
              · have ca := HWY.out.cell_of (HK.out.2.1 (vw + j) (by omega)) (by simp)
                have cb := HWY.out.cell_of (HK.out.1 j hjW) (by simp)
                have cc := HWY.out.cell_of (HK.out.2.1 (uw + j) (by omega)) (by simp)
                by_cases hwd : ((j : Int) == (m : Int) / 64) = true
                · have HH : Hid (wrd (woF n) (boF n) G d vw j = bits BinOp.or IntKind.u64 (G (vw + j)) (IntKind.u64.wrap (2 ^ (m % 64)))) := by
                    have h := wrd_hit (wo := woF n) (bo := boF n) (G := G) (d := d) (vw := vw) (i := j) (by rw [HWO.out]; exact hwd)
                    rw [HBO.out] at h; exact h
                  go_wp2
                  go_quiet ((go_at_call 20; exact Calls.quiet_of_same (HP.out _ _)))
                  go_wp2
                  go_roundg (W - (j + 1))
                  case measure => omega
                  case rel => exact ⟨⟨HWY.out.drewN _, HOY.out⟩, j + 1, by omega, by go_num, by rw [acc, HH.out]; rfl⟩
                · have hwd' : ((j : Int) == (m : Int) / 64) = false := by simpa using hwd
                  have HH : Hid (wrd (woF n) (boF n) G d vw j = G (vw + j)) := wrd_miss (by rw [HWO.out]; exact hwd')
                  go_wp2
                  go_quiet ((go_at_call 20; exact Calls.quiet_of_same (HP.out _ _)))
                  go_wp2
                  go_roundg (W - (j + 1))
                  case measure => omega
                  case rel => exact ⟨⟨HWY.out.drewN _, HOY.out⟩, j + 1, by omega, by go_num, by rw [acc, HH.out]; rfl⟩
              · have hag : acc pop (dif M G uw) (wrd (woF n) (boF n) G d vw) j = g := by rw [show j = W from by omega]; exact HG.out.symm
                rw [hag]
                clear hag
                go_wp2_with (at_builtin; refine wpList_append_fits _ rfl _ _ 22 rfl w1.heap.size 3 i0 1 Yba.underlying22 hi0 hz1 w1.heap.size gl.length L (gl.map (Value.int .i64)) rfl (HOY.out.alloc _) ⟨wr.heap.size, 0, none⟩ 1 1 [.int .i64 g] rfl rfl (cell_one_new _ _ _) (fun y hy => by simp at hy; subst hy; rfl) (by omega) ?_; intro w3 hown3 hgrow3)
                have HO3 : Hid (w3.ownsRow w1.heap.size 3 1 (.slice (some ⟨w1.heap.size, 0, none⟩) (gl.length + 1) L) (gl ++ [g]).length ((gl ++ [g]).map (Value.int .i64))) := by
                  show w3.ownsRow _ _ _ _ _ _
                  rw [List.length_append, List.map_append]; exact hown3
                have HW3 : Hid (Wrote [] w1 w3) := (HWY.out.alloc _).grown hgrow3 (fun z hz => .inr (by simp at hz; omega))
                clear hown3 hgrow3
                go_roundg (L - (k + 1))
                case measure => omega
                case rel => exact ⟨k + 1, by omega, by go_num, by rw [HT.out, List.length_append]; rfl, by rw [HT.out]; exact HO3.out, HW3.out⟩
          · have HWO : Hid (woF n d = (d : Int) / 64) := by show woF n d = _; unfold woF; rw [hm]
            have HBO : Hid (boF n d = IntKind.u64.wrap (2 ^ (d % 64))) := by show boF n d = _; unfold boF; rw [if_neg hd0, hm]
            clear hm
            rename World => w2
            go_wp2
            go_loopg [36, 37] W (fun gj gv iv wy => (Wrote [] w1 wy ∧ wy.ownsRow w1.heap.size 3 1 (.slice (some ⟨w1.heap.size, 0, none⟩) gl.length L) gl.length (gl.map (Value.int .i64))) ∧ ∃ j : Nat, j + gj = W ∧ iv = .int .i64 j ∧ gv = .int .i64 (acc pop (dif M G uw) (wrd (woF n) (boF n) G d vw) j))
            case atStart => exact ⟨⟨HWX.out, HO.out⟩, 0, by omega, rfl, rfl⟩
            case round =>
              obtain ⟨⟨hwy, howny⟩, j, hj, rfl, rfl⟩ := hrel
              have HWY : Hid (Wrote [] w1 wr) := hwy
              have HOY : Hid (wr.ownsRow w1.heap.size 3 1 (.slice (some ⟨w1.heap.size, 0, none⟩) gl.length L) gl.length (gl.map (Value.int .i64))) := howny
              clear hwy howny
              by_cases hjW : j < W
              · have ca := HWY.out.cell_of (HK.out.2.1 (vw + j) (by omega)) (by simp)
                have cb := HWY.out.cell_of (HK.out.1 j hjW) (by simp)
                have cc := HWY.out.cell_of (HK.out.2.1 (uw + j) (by omega)) (by simp)
                by_cases hwd : ((j : Int) == (d : Int) / 64) = true
                · have HH : Hid (wrd (woF n) (boF n) G d vw j = bits BinOp.or IntKind.u64 (G (vw + j)) (IntKind.u64.wrap (2 ^ (d % 64)))) := by
                    have h := wrd_hit (wo := woF n) (bo := boF n) (G := G) (d := d) (vw := vw) (i := j) (by rw [HWO.out]; exact hwd)
                    rw [HBO.out] at h; exact h
                  go_wp2
                  go_quiet ((go_at_call 20; exact Calls.quiet_of_same (HP.out _ _)))
                  go_wp2
                  go_roundg (W - (j + 1))
                  case measure => omega
                  case rel => exact ⟨⟨HWY.out.drewN _, HOY.out⟩, j + 1, by omega, by go_num, by rw [acc, HH.out]; rfl⟩
                · have hwd' : ((j : Int) == (d : Int) / 64) = false := by simpa using hwd
                  have HH : Hid (wrd (woF n) (boF n) G d vw j = G (vw + j)) := wrd_miss (by rw [HWO.out]; exact hwd')
                  go_wp2
                  go_quiet ((go_at_call 20; exact Calls.quiet_of_same (HP.out _ _)))
                  go_wp2
                  go_roundg (W - (j + 1))
                  case measure => omega
                  case rel => exact ⟨⟨HWY.out.drewN _, HOY.out⟩, j + 1, by omega, by go_num, by rw [acc, HH.out]; rfl⟩
              · have hag : acc pop (dif M G uw) (wrd (woF n) (boF n) G d vw) j = g := by rw [show j = W from by omega]; exact HG.out.symm
                rw [hag]
                clear hag
                go_wp2_with (at_builtin; refine wpList_append_fits _ rfl _ _ 22 rfl w1.heap.size 3 i0 1 Yba.underlying22 hi0 hz1 w1.heap.size gl.length L (gl.map (Value.int .i64)) rfl (HOY.out.alloc _) ⟨wr.heap.size, 0, none⟩ 1 1 [.int .i64 g] rfl rfl (cell_one_new _ _ _) (fun y hy => by simp at hy; subst hy; rfl) (by omega) ?_; intro w3 hown3 hgrow3)
                have HO3 : Hid (w3.ownsRow w1.heap.size 3 1 (.slice (some ⟨w1.heap.size, 0, none⟩) (gl.length + 1) L) (gl ++ [g]).length ((gl ++ [g]).map (Value.int .i64))) := by
                  show w3.ownsRow _ _ _ _ _ _
                  rw [List.length_append, List.map_append]; exact hown3
                have HW3 : Hid (Wrote [] w1 w3) := (HWY.out.alloc _).grown hgrow3 (fun z hz => .inr (by simp at hz; omega))
                clear hown3 hgrow3
                go_roundg (L - (k + 1))
                case measure => omega
                case rel => exact ⟨k + 1, by omega, by go_num, by rw [HT.out, List.length_append]; rfl, by rw [HT.out]; exact HO3.out, HW3.out⟩
    · have hkL : k = L := by omega
      have HX : Hid (top2 (fun k => keepB T u (lv k)) (fun k => gn pop (woF n) (boF n) M G n W u (lv k)) L = ((bst (fun i => gl.getD i 0) gl.length).1, nxt (fun i => gl.getD i 0) (bst (fun i => gl.getD i 0) gl.length).2 gl.length)) := by
        have h := HGL.out
        rw [hkL] at h
        exact top2_law _ _ _ _ h
      have HCG : Hid (∀ i, i < gl.length → wr.cell? ⟨w1.heap.size, i, none⟩ = some (.int .i64 (gl.getD i 0))) := by
        intro i hi
        rw [HO.out.cellAt i (by omega), List.getElem?_map, List.getElem?_eq_getElem hi]
        simp [hi]
      clear hkL
      rename World => w2
      generalize hgf : (fun i => gl.getD i 0) = f at HX
      have hgf' : ∀ i, gl.getD i 0 = f i := fun i => by rw [← hgf]
      have HCF : Hid (∀ i, i < gl.length → w2.cell? ⟨w1.heap.size, i, none⟩ = some (.int .i64 (f i))) := fun i hi => by have := HCG.out i hi; rwa [hgf'] at this
      clear hgf hgf' HCG
      generalize gl.length = gn0 at *
      go_wp2
      go_loopg [39, 40, 277] gn0 (fun gk bv av jv wx => wx = w2 ∧ ∃ j : Nat, j + gk = gn0 ∧ jv = .int .i64 j ∧ bv = .int .i64 (bst f j).1 ∧ av = .int .i64 (bst f j).2)
      case atStart => exact ⟨rfl, 0, by omega, rfl, rfl, rfl⟩
      case round =>
        obtain ⟨rfl, j, hj, rfl, rfl, rfl⟩ := hrel
        generalize hb : bst f j = bp
        obtain ⟨b0, a0⟩ := bp
        have HBB : Hid (bst f j = (b0, a0)) := hb
        clear hb
        by_cases hjl : j < gn0
        · have cj := HCF.out j hjl
          by_cases hlt : b0 < f j
          · have HS : Hid (bst f (j + 1) = (f j, (j : Int))) := by show bst f (j + 1) = _; simp [bst, HBB.out, hlt]
            go_wp2
            go_roundg (gn0 - (j + 1))
            case measure => omega
            case rel => exact ⟨rfl, j + 1, by omega, by go_num, by rw [HS.out], by rw [HS.out]⟩
          · have HS : Hid (bst f (j + 1) = (b0, a0)) := by show bst f (j + 1) = _; simp [bst, HBB.out, hlt]
            go_wp2
            go_roundg (gn0 - (j + 1))
            case measure => omega
            case rel => exact ⟨rfl, j + 1, by omega, by go_num, by rw [HS.out], by rw [HS.out]⟩
        · have HB2 : Hid (bst f gn0 = (b0, a0)) := by show bst f gn0 = _; rw [← show j = gn0 from by omega]; exact HBB.out
          rename World => w2
          go_wp2
          go_loopg [43, 290] gn0 (fun gk nv jv wx => wx = w2 ∧ ∃ j : Nat, j + gk = gn0 ∧ jv = .int .i64 j ∧ nv = .int .i64 (nxt f a0 j))
          case atStart => exact ⟨rfl, 0, by omega, rfl, rfl⟩
          case round =>
            obtain ⟨rfl, j2, hj2, rfl, rfl⟩ := hrel
            generalize hb : nxt f a0 j2 = x0
            have HNX : Hid (nxt f a0 j2 = x0) := hb
            clear hb
            by_cases hjl2 : j2 < gn0
            · have cj := HCF.out j2 hjl2
              by_cases hne : ((j2 : Int) != a0) = true
              · by_cases hlt : x0 < f j2
                · have HS : Hid (nxt f a0 (j2 + 1) = f j2) := by show nxt f a0 (j2 + 1) = _; simp only [nxt, HNX.out]; rw [if_pos ⟨by simpa using hne, hlt⟩]
                  go_wp2
                  go_roundg (gn0 - (j2 + 1))
                  case measure => omega
                  case rel => exact ⟨rfl, j2 + 1, by omega, by go_num, by rw [HS.out]⟩
                · have HS : Hid (nxt f a0 (j2 + 1) = x0) := by show nxt f a0 (j2 + 1) = _; simp only [nxt, HNX.out]; rw [if_neg (fun h => hlt h.2)]
                  go_wp2
                  go_roundg (gn0 - (j2 + 1))
                  case measure => omega
                  case rel => exact ⟨rfl, j2 + 1, by omega, by go_num, by rw [HS.out]⟩
              · have hne' : ((j2 : Int) != a0) = false := by simpa using hne
                have HS : Hid (nxt f a0 (j2 + 1) = x0) := by show nxt f a0 (j2 + 1) = _; simp only [nxt, HNX.out]; rw [if_neg (fun h => h.1 (by simpa using hne))]
                go_wp2
                go_roundg (gn0 - (j2 + 1))
                case measure => omega
                case rel => exact ⟨rfl, j2 + 1, by omega, by go_num, by rw [HS.out]⟩
            · have HN2 : Hid (nxt f a0 gn0 = x0) := by show nxt f a0 gn0 = _; rw [← show j2 = gn0 from by omega]; exact HNX.out
              have heq : (gt == decide (want ≤ wrap64 (wrap64 (wrap64 (cnt pop (fun i => G (uw + i)) W + b0) + x0) + 1))) = true := by
                rw [← HGT.out]
                unfold total
                have h := HX.out
                rw [HB2.out] at h
                simp only at h
                rw [HN2.out] at h
                rw [h, HUW.out]
                simp
              have HEQ : Hid ((gt == decide (want ≤ wrap64 (wrap64 (wrap64 (cnt pop (fun i => G (uw + i)) W + b0) + x0) + 1))) = true) := heq
              have HCU : Hid (∀ i, i < W → wr.cell? ⟨g2, uw + i, none⟩ = some (.int .u64 (G (uw + i)))) := fun i hi => HWX.out.cell_of (HK.out.2.1 (uw + i) (by omega)) (by simp)
              have e14 := HWX.out.cell_of HM.s14 (by simp)
              have e10 := HWX.out.cell_of HM.s10 (by simp)
              have HC1 : Hid ((∀ i, i < W → wr.cell? ⟨bm, i, none⟩ = some (.int .u64 (M i))) ∧ (∀ i, i < W → wr.cell? ⟨g1, i, none⟩ = some (.int .u64 (M i)))) := ⟨fun i hi => HWX.out.cell_of (HM.mis i hi) (by simp), fun i hi => HWX.out.cell_of (HK.out.1 i hi) (by simp)⟩
              have HC2 : Hid ((∀ i, i < N → wr.cell? ⟨br, i, none⟩ = some (.int .u64 (G i))) ∧ (∀ i, i < N → wr.cell? ⟨g2, i, none⟩ = some (.int .u64 (G i)))) := ⟨fun i hi => HWX.out.cell_of (HM.row i hi) (by simp), fun i hi => HWX.out.cell_of (HK.out.2.1 i hi) (by simp)⟩
              have HC3 : Hid ((∀ i, i < n → wr.cell? ⟨bt, i, none⟩ = some (.int .u8 (T i))) ∧ (∀ i, i < n → wr.cell? ⟨g3, i, none⟩ = some (.int .u8 (T i)))) := ⟨fun i hi => HWX.out.cell_of (HM.tak i hi) (by simp), fun i hi => HWX.out.cell_of (HK.out.2.2 i hi) (by simp)⟩
              go_wp2_with fail
              refine (pops_any pop HP.out _ _ _ _ (fun i => G (uw + i)) _ (by omega) HCU.out).mono ?_
              rintro e w' ⟨rfl, rfl⟩
              go_wp2_with fail
              refine (same64 _ _ _ _ _ M _ (by omega) (by exact HC1.out.1) (by exact HC1.out.2)).mono ?_
              rintro e w' ⟨rfl, q1, rfl⟩
              go_wp2_with fail
              refine (same64 _ _ _ _ _ G _ (by omega) (by exact HC2.out.1) (by exact HC2.out.2)).mono ?_
              rintro e w' ⟨rfl, q2, rfl⟩
              go_wp2_with fail
              refine (same8 _ _ _ _ _ T _ (by omega) (by exact HC3.out.1) (by exact HC3.out.2)).mono ?_
              rintro e w' ⟨rfl, q3, rfl⟩
              go_wp2_with fail
              go_ret
              exact ⟨rfl, below_drewN (HB1.out.trans (HWX.out.below HB1.out.size (by simp))) _⟩
end Go.Proofs.Ybulkbpwm
