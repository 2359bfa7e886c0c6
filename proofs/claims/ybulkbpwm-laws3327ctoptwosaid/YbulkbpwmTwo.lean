import Derived.Test.YbulkbpwmPop
import Derived.Deep.QuietTactic
import Derived.BigQuiet
import Derived.RegionTactic
import Derived.BigRegion
import Derived.Deep.LoopGhost
namespace Go.Proofs.Ybulkbpwm
open Go.ChangeShapes Go.WideShapes Go.ChangeAt Go.RowKit
set_option linter.unusedVariables false

/-- What twoMoreMayCover reads, as it lies in memory; all but the scratch set 'rest' (block be). -/
structure TwoMem (S bw bb bt bm bg br be bl n W N L : Nat) (wo bo T M G : Nat → Int) (lv : Nat → Nat) (w : World) : Prop where
  s0 : w.cell? ⟨S, 0, none⟩ = some (.int .i64 (n : Int))
  s2 : w.cell? ⟨S, 2, none⟩ = some (.int .i64 (W : Int))
  s5 : w.cell? ⟨S, 5, none⟩ = some (.slice (some ⟨bw, 0, none⟩) n n)
  s6 : w.cell? ⟨S, 6, none⟩ = some (.slice (some ⟨bb, 0, none⟩) n n)
  s9 : w.cell? ⟨S, 9, none⟩ = some (.slice none 0 0)
  s10 : w.cell? ⟨S, 10, none⟩ = some (.slice (some ⟨bt, 0, none⟩) n n)
  s14 : w.cell? ⟨S, 14, none⟩ = some (.slice (some ⟨bm, 0, none⟩) W W)
  s15 : w.cell? ⟨S, 15, none⟩ = some (.slice (some ⟨bg, 0, none⟩) 4 4)
  s29 : w.cell? ⟨S, 29, none⟩ = some (.slice (some ⟨be, 0, none⟩) W W)
  g0 : w.cell? ⟨bg, 0, none⟩ = some (.slice (some ⟨br, 0, none⟩) N N)
  word : ∀ i, i < n → w.cell? ⟨bw, i, none⟩ = some (.int .i64 (wo i))
  bit : ∀ i, i < n → w.cell? ⟨bb, i, none⟩ = some (.int .u64 (bo i))
  tak : ∀ i, i < n → w.cell? ⟨bt, i, none⟩ = some (.int .u8 (T i))
  mis : ∀ i, i < W → w.cell? ⟨bm, i, none⟩ = some (.int .u64 (M i))
  row : ∀ i, i < N → w.cell? ⟨br, i, none⟩ = some (.int .u64 (G i))
  live : ∀ i, i < L → w.cell? ⟨bl, i, none⟩ = some (.int .i64 (lv i : Int))

theorem TwoMem.wrote {S bw bb bt bm bg br be bl n W N L : Nat} {wo bo T M G : Nat → Int} {lv : Nat → Nat} {w w' : World} (h : TwoMem S bw bb bt bm bg br be bl n W N L wo bo T M G lv w) {B : List Nat} (hw : Wrote B w w')
    (hB : S ∉ B ∧ bw ∉ B ∧ bb ∉ B ∧ bt ∉ B ∧ bm ∉ B ∧ bg ∉ B ∧ br ∉ B ∧ bl ∉ B) : TwoMem S bw bb bt bm bg br be bl n W N L wo bo T M G lv w' := by
  obtain ⟨e0, e1, e2, e3, e4, e5, e6, e7⟩ := hB
  exact ⟨hw.cell_of h.s0 e0, hw.cell_of h.s2 e0, hw.cell_of h.s5 e0, hw.cell_of h.s6 e0, hw.cell_of h.s9 e0, hw.cell_of h.s10 e0, hw.cell_of h.s14 e0, hw.cell_of h.s15 e0, hw.cell_of h.s29 e0,
    hw.cell_of h.g0 e5, fun i hi => hw.cell_of (h.word i hi) e1, fun i hi => hw.cell_of (h.bit i hi) e2, fun i hi => hw.cell_of (h.tak i hi) e3, fun i hi => hw.cell_of (h.mis i hi) e4,
    fun i hi => hw.cell_of (h.row i hi) e6, fun i hi => hw.cell_of (h.live i hi) e7⟩

/-- The classes still missing after u. -/
def dif (M G : Nat → Int) (uw : Nat) (j : Nat) : Int := bits BinOp.andNot IntKind.u64 (M j) (G (uw + j))
/-- The class of a pair, by its difference mod n. -/
def dOf (n u v : Nat) : Nat := if v < u then v + n - u else v - u
/-- Word i of what v covers, with the class of the pair. -/
def wrd (wo bo G : Nat → Int) (d vw i : Nat) : Int := if (i : Int) = wo d then bits BinOp.or IntKind.u64 (G (vw + i)) (bo d) else G (vw + i)
/-- The gain of v, its first i words. -/
def acc (pop : Int → Int) (D V : Nat → Int) : Nat → Int
  | 0 => 0
  | i + 1 => wrap64 (acc pop D V i + pop (bits BinOp.and IntKind.u64 (V i) (D i)))
def gn (pop : Int → Int) (wo bo M G : Nat → Int) (n W u v : Nat) : Int := acc pop (dif M G (u * W)) (wrd wo bo G (dOf n u v) (v * W)) W
def keepB (T : Nat → Int) (u v : Nat) : Bool := !(decide (v = u)) && decide (T v = 0)
def step2 (p : Int × Int) (g : Int) : Int × Int := if p.1 < g then (g, p.1) else if p.2 < g then (p.1, g) else p
def top2 (keep : Nat → Bool) (g : Nat → Int) : Nat → Int × Int
  | 0 => (0, 0)
  | k + 1 => if keep k then step2 (top2 keep g k) (g k) else top2 keep g k
def total (pop : Int → Int) (wo bo T M G : Nat → Int) (lv : Nat → Nat) (n W L u : Nat) : Int :=
  wrap64 (wrap64 (wrap64 (cnt pop (fun i => G (u * W + i)) W + (top2 (fun k => keepB T u (lv k)) (fun k => gn pop wo bo M G n W u (lv k)) L).1) + (top2 (fun k => keepB T u (lv k)) (fun k => gn pop wo bo M G n W u (lv k)) L).2) + 1)

theorem wrd_hit {wo bo G : Nat → Int} {d vw i : Nat} (h : ((i : Int) == wo d) = true) : wrd wo bo G d vw i = bits BinOp.or IntKind.u64 (G (vw + i)) (bo d) := by
  unfold wrd; rw [if_pos (by simpa using h)]
theorem wrd_miss {wo bo G : Nat → Int} {d vw i : Nat} (h : ((i : Int) == wo d) = false) : wrd wo bo G d vw i = G (vw + i) := by
  unfold wrd; rw [if_neg (by simpa using h)]
theorem keep_same {T : Nat → Int} {u v : Nat} (h : ((v : Int) == (u : Int)) = true) : keepB T u v = false := by
  have : v = u := by have := eq_of_beq h; omega
  simp [keepB, this]
theorem keep_taken {T : Nat → Int} {u v : Nat} (h : (T v != 0) = true) : keepB T u v = false := by
  have : T v ≠ 0 := by simpa using h
  simp [keepB, this]
theorem keep_yes {T : Nat → Int} {u v : Nat} (h : ((v : Int) == (u : Int)) = false) (h2 : (T v != 0) = false) : keepB T u v = true := by
  have h1 : v ≠ u := by intro e; subst e; simp at h
  have : T v = 0 := by simpa using h2
  simp [keepB, this, h1]
theorem d_of {n u v : Nat} (hu : u < n) (hv : v < n) : ((v : Int) - (u : Int) < 0 ∧ (v : Int) - (u : Int) + (n : Int) = (dOf n u v : Int)) ∨ (u ≤ v ∧ (v : Int) - (u : Int) = (dOf n u v : Int)) := by
  unfold dOf
  by_cases h : v < u
  · exact .inl ⟨by omega, by rw [if_pos h]; omega⟩
  · exact .inr ⟨by omega, by rw [if_neg h]; omega⟩
theorem d_lt {n u v : Nat} (hu : u < n) (hv : v < n) : dOf n u v < n := by unfold dOf; split <;> omega
theorem top2_skip {keep : Nat → Bool} {g : Nat → Int} {k : Nat} {p : Int × Int} (hp : top2 keep g k = p) (h : keep k = false) : top2 keep g (k + 1) = p := by
  simp [top2, h, hp]
theorem top2_take {keep : Nat → Bool} {g : Nat → Int} {k : Nat} {p : Int × Int} (hp : top2 keep g k = p) (h : keep k = true) : top2 keep g (k + 1) = step2 p (g k) := by
  simp [top2, h, hp]
theorem step2_a {f s g : Int} (h : f < g) : step2 (f, s) g = (g, f) := by simp [step2, h]
theorem step2_b {f s g : Int} (h : ¬ f < g) (h2 : s < g) : step2 (f, s) g = (f, g) := by simp [step2, h, h2]
theorem step2_c {f s g : Int} (h : ¬ f < g) (h2 : ¬ s < g) : step2 (f, s) g = (f, s) := by simp [step2, h, h2]

set_option maxRecDepth 100000 in
set_option maxHeartbeats 3200000 in
theorem two_any (pop : Int → Int) (hpop : PopOK pop) (S bw bb bt bm bg br be bl n W N L cl u : Nat) (want : Int) (wo bo T M G R : Nat → Int) (lv : Nat → Nat) (w : World)
    (hm : TwoMem S bw bb bt bm bg br be bl n W N L wo bo T M G lv w) (hr : w.rowIs be 47 W (fun i => .int .u64 (R i)))
    (hB : S ∉ [be] ∧ bw ∉ [be] ∧ bb ∉ [be] ∧ bt ∉ [be] ∧ bm ∉ [be] ∧ bg ∉ [be] ∧ br ∉ [be] ∧ bl ∉ [be])
    (hn : 2 ≤ n ∧ n ≤ 200) (hW : 1 ≤ W ∧ W ≤ 2) (hN : n * W = N) (hu : u < n) (hL : L ≤ 1024) (hlv : ∀ i, i < L → lv i < n) :
    Calls Yba.prog 19 #[.pointer (some ⟨S, 0, none⟩), .slice (some ⟨bl, 0, none⟩) L cl, .int .i64 (u : Int), .int .i64 want] w fun e w' =>
      e = .returned (.bool (decide (want ≤ total pop wo bo T M G lv n W L u))) ∧ Wrote [be] w w' := by
  have HP : Hid (PopOK pop) := hpop
  clear hpop
  obtain ⟨uw, huw⟩ : ∃ uw : Nat, (u : Int) * (W : Int) = (uw : Int) := ⟨u * W, by simp⟩
  have huwN : uw + W ≤ N := by
    have h1 : (u + 1) * W ≤ n * W := Nat.mul_le_mul_right _ hu
    have h2 : u * W = uw := by exact_mod_cast huw
    rw [Nat.add_mul] at h1; omega
  have hN2 : N ≤ 400 := by rw [← hN]; exact Nat.le_trans (Nat.mul_le_mul hn.2 hW.2) (by omega)
  have HN : Hid (n * W = N) := hN
  clear hN
  have HM := hm
  obtain ⟨s0, s2, s5, s6, s9, s10, s14, s15, s29, g0, word, bit, tak, mis, row, live⟩ := hm
  have hl12 : uw + W - uw = W := by omega
  go_enter Yba.func19, Yba.ntmps19
  go_wp2
  go_quiet (fail)
  go_wp2
  go_quiet (fail)
  go_wp2
  rw [hl12]
  clear hl12
  go_loopw [58] (fun iv wr => ∃ i : Nat, i ≤ W ∧ iv = .int .i64 i ∧ Wrote [be] w wr ∧ wr.rowIs be 47 W (fun j => .int .u64 (if j < i then dif M G uw j else R j))) (fun iv _ => W - (intOf iv).toNat)
  case atStart => exact ⟨0, by omega, rfl, (Wrote.refl _ _).drewN _, (rowIs_drewN hr _).congr (fun i hi => by simp)⟩
  case round =>
    obtain ⟨i, hi, rfl, hwr, hrow⟩ := hrel
    have HM2 := HM.wrote hwr hB
    by_cases hlt : i < W
    · have c14 := HM2.s14
      have c29 := HM2.s29
      have cm := HM2.mis i hlt
      have cg := HM2.row (uw + i) (by omega)
      have ce := hrow.cell hlt
      have fe := hrow.frozen i
      have HW : Hid (Wrote [be] w wr) := hwr
      have HR : Hid (wr.rowIs be 47 W (fun j => .int .u64 (if j < i then dif M G uw j else R j))) := hrow
      clear hwr hrow HM2 s0 s2 s5 s6 s9 s10 s14 s15 s29 g0 word bit tak mis row live hr HM
      go_wp2
      go_region
      all_goals go_wp2
      go_roundw
      case rel => exact ⟨i + 1, by omega, by go_num, (HW.out.setCell (.inl (by simp)) _).drew, (HR.out.set i _).drew.congr (fun j hj => by
          by_cases e : j = i
          · subst e; simp [dif]
          · rw [if_neg e]; simp [show (j < i + 1) ↔ (j < i) from by omega])⟩
      case measure => simp [intOf]; omega
    · have ei : i = W := by omega
      have hrow' : wr.rowIs be 47 W (fun j => .int .u64 (dif M G uw j)) := hrow.congr (fun j hj => by rw [if_pos (by omega)])
      clear ei hrow
      have HW : Hid (Wrote [be] w wr) := hwr
      clear hwr s0 s2 s5 s6 s9 s10 s14 s15 s29 g0 word bit tak mis row live hr HM
      have s5 := HM2.s5
      have s6 := HM2.s6
      have s10 := HM2.s10
      have s29 := HM2.s29
      have HLV : Hid (∀ i, i < L → lv i < n) := hlv
      clear hlv
      have HUW : Hid ((u : Int) * (W : Int) = (uw : Int)) := huw
      go_wp2
      go_loopg [15, 16, 78] L (fun gk f s kv wx => wx = wr ∧ ∃ k : Nat, k + gk = L ∧ kv = .int .i64 k ∧ f = .int .i64 (top2 (fun k => keepB T u (lv k)) (fun k => gn pop wo bo M G n W u (lv k)) k).1 ∧ s = .int .i64 (top2 (fun k => keepB T u (lv k)) (fun k => gn pop wo bo M G n W u (lv k)) k).2)
      case atStart => exact ⟨rfl, 0, by omega, rfl, rfl, rfl⟩
      case round =>
        rename_i gk wx
        obtain ⟨rfl, k, hk, rfl, rfl, rfl⟩ := hrel
        by_cases hkl : k < L
        · have cl := HM2.live k hkl
          obtain ⟨v, hv⟩ : ∃ v, lv k = v := ⟨_, rfl⟩
          have hvn : v < n := by rw [← hv]; exact HLV.out k hkl
          rw [hv] at cl
          have HV : Hid (lv k = v) := hv
          clear hv
          generalize hp : top2 (fun k => keepB T u (lv k)) (fun k => gn pop wo bo M G n W u (lv k)) k = p
          obtain ⟨f, s⟩ := p
          have HPP : Hid (top2 (fun k => keepB T u (lv k)) (fun k => gn pop wo bo M G n W u (lv k)) k = (f, s)) := hp
          clear hp
          have ct := HM2.tak v hvn
          by_cases hvu : ((v : Int) == (u : Int)) = true
          · have hkp : keepB T u (lv k) = false := by rw [HV.out]; exact keep_same hvu
            have HT : Hid (top2 (fun k => keepB T u (lv k)) (fun k => gn pop wo bo M G n W u (lv k)) (k + 1) = (f, s)) := top2_skip HPP.out hkp
            clear hkp
            go_wp2
            go_roundg (L - (k + 1))
            case measure => omega
            case rel => exact ⟨rfl, k + 1, by omega, by go_num, by rw [HT.out], by rw [HT.out]⟩
          · have hvu' : ((v : Int) == (u : Int)) = false := by simpa using hvu
            by_cases ht : (T v != 0) = true
            · have hkp : keepB T u (lv k) = false := by rw [HV.out]; exact keep_taken ht
              have HT : Hid (top2 (fun k => keepB T u (lv k)) (fun k => gn pop wo bo M G n W u (lv k)) (k + 1) = (f, s)) := top2_skip HPP.out hkp
              clear hkp
              go_wp2
              go_roundg (L - (k + 1))
              case measure => omega
              case rel => exact ⟨rfl, k + 1, by omega, by go_num, by rw [HT.out], by rw [HT.out]⟩
            · have ht' : (T v != 0) = false := by simpa using ht
              have hkp : keepB T u (lv k) = true := by rw [HV.out]; exact keep_yes hvu' ht'
              obtain ⟨g, hg⟩ : ∃ g, gn pop wo bo M G n W u v = g := ⟨_, rfl⟩
              have HT : Hid (top2 (fun k => keepB T u (lv k)) (fun k => gn pop wo bo M G n W u (lv k)) (k + 1) = step2 (f, s) g) := by
                have := top2_take HPP.out hkp
                rw [HV.out, hg] at this; exact this
              clear hkp
              obtain ⟨vw, hvw⟩ : ∃ vw : Nat, (v : Int) * (W : Int) = (vw : Int) := ⟨v * W, by simp⟩
              have hvwN : vw + W ≤ N := by
                have h1 : (v + 1) * W ≤ n * W := Nat.mul_le_mul_right _ hvn
                have h2 : v * W = vw := by exact_mod_cast hvw
                have h3 := HN.out
                rw [Nat.add_mul] at h1; omega
              obtain ⟨d, hd⟩ : ∃ d, dOf n u v = d := ⟨_, rfl⟩
              have hdn : d < n := by rw [← hd]; exact d_lt hu hvn
              have hdd := d_of hu hvn
              rw [hd] at hdd
              have HG : Hid (g = acc pop (dif M G uw) (wrd wo bo G d vw) W) := by
                rw [← hg, ← hd]
                have h1 : u * W = uw := by exact_mod_cast huw
                have h2 : v * W = vw := by exact_mod_cast hvw
                unfold gn; rw [h1, h2]; rfl
              have cw := HM2.word d hdn
              have cb := HM2.bit d hdn
              clear hg hd
              rcases hdd with ⟨hlt2, hd2⟩ | ⟨hlt2, hd2⟩
              all_goals
                go_wp2
                go_loopg [20, 108] W (fun gj gv iv wx => wx = wr ∧ ∃ i : Nat, i + gj = W ∧ iv = .int .i64 i ∧ gv = .int .i64 (acc pop (dif M G uw) (wrd wo bo G d vw) i))
                case atStart => exact ⟨rfl, 0, by omega, rfl, rfl⟩
                case round =>
                  obtain ⟨rfl, j, hj, rfl, rfl⟩ := hrel
                  by_cases hjW : j < W
                  · have cr := HM2.row (vw + j) (by omega)
                    have ce := hrow'.cell hjW
                    by_cases hwd : ((j : Int) == wo d) = true
                    · have HH : Hid (wrd wo bo G d vw j = bits BinOp.or IntKind.u64 (G (vw + j)) (bo d)) := wrd_hit hwd
                      go_wp2_with (go_at_call 20; refine (HP.out _ _).mono ?_; rintro e w' ⟨rfl, rfl⟩)
                      go_roundg (W - (j + 1))
                      case measure => omega
                      case rel => exact ⟨rfl, j + 1, by omega, by go_num, by rw [acc, HH.out]⟩
                    · have hwd' : ((j : Int) == wo d) = false := by simpa using hwd
                      have HH : Hid (wrd wo bo G d vw j = G (vw + j)) := wrd_miss hwd'
                      go_wp2_with (go_at_call 20; refine (HP.out _ _).mono ?_; rintro e w' ⟨rfl, rfl⟩)
                      go_roundg (W - (j + 1))
                      case measure => omega
                      case rel => exact ⟨rfl, j + 1, by omega, by go_num, by rw [acc, HH.out]⟩
                  · have hag : acc pop (dif M G uw) (wrd wo bo G d vw) j = g := by rw [show j = W from by omega]; exact HG.out.symm
                    rw [hag]
                    clear hag
                    by_cases h1 : f < g
                    · have HS : Hid (step2 (f, s) g = (g, f)) := step2_a h1
                      go_wp2
                      go_roundg (L - (k + 1))
                      case measure => omega
                      case rel => exact ⟨rfl, k + 1, by omega, by go_num, by rw [HT.out, HS.out], by rw [HT.out, HS.out]⟩
                    · by_cases h2 : s < g
                      · have HS : Hid (step2 (f, s) g = (f, g)) := step2_b h1 h2
                        go_wp2
                        go_roundg (L - (k + 1))
                        case measure => omega
                        case rel => exact ⟨rfl, k + 1, by omega, by go_num, by rw [HT.out, HS.out], by rw [HT.out, HS.out]⟩
                      · have HS : Hid (step2 (f, s) g = (f, s)) := step2_c h1 h2
                        go_wp2
                        go_roundg (L - (k + 1))
                        case measure => omega
                        case rel => exact ⟨rfl, k + 1, by omega, by go_num, by rw [HT.out, HS.out], by rw [HT.out, HS.out]⟩
        · rw [show k = L from by omega]
          generalize hp : top2 (fun k => keepB T u (lv k)) (fun k => gn pop wo bo M G n W u (lv k)) L = p
          obtain ⟨f, s⟩ := p
          have HTT : Hid (total pop wo bo T M G lv n W L u = wrap64 (wrap64 (wrap64 (cnt pop (fun i => G (uw + i)) W + f) + s) + 1)) := by
            have h1 : u * W = uw := by exact_mod_cast HUW.out
            show total pop wo bo T M G lv n W L u = _
            unfold total; rw [hp, h1]
          clear hp
          have hcg : ∀ i, i < W → wr.cell? ⟨br, uw + i, none⟩ = some (.int .u64 (G (uw + i))) := fun i hi => HM2.row (uw + i) (by omega)
          have HCG : Hid (∀ i, i < W → wr.cell? ⟨br, uw + i, none⟩ = some (.int .u64 (G (uw + i)))) := hcg
          clear hcg
          go_wp2_with (go_at_call 33; refine (count_any pop HP.out _ _ _ _ (fun i => G (uw + i)) _ (by omega) HCG.out).mono ?_; rintro e w' ⟨rfl, rfl⟩)
          go_ret
          refine ⟨?_, HW.out⟩
          rw [HTT.out]
          rfl
end Go.Proofs.Ybulkbpwm
