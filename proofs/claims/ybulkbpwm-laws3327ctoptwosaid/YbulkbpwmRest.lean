import Derived.Test.YbulkbpwmNew
import Derived.Test.YbulkbpwmAlloc
import Derived.Deep.RegionWith
namespace Go.Proofs.Ybulkbpwm
open Go.ChangeShapes Go.WideShapes Go.ChangeAt Go.RowKit
set_option linter.unusedVariables false
set_option linter.unusedSimpArgs false

/-- The code behind the regions 0, 1, 2 of a body. -/
def after3 : Code → Option Code
  | .seq _ (.seq _ (.seq _ c)) => some c
  | _ => none
theorem nodup_ne {l : List Nat} {a b : Nat} (h : l.Nodup) (i j : Nat) (hi : l[i]? = some a) (hj : l[j]? = some b) (hij : i ≠ j) : a ≠ b := by
  intro e
  subst e
  have h1 := (List.getElem?_eq_some_iff.1 hi)
  have h2 := (List.getElem?_eq_some_iff.1 hj)
  obtain ⟨p1, q1⟩ := h1
  obtain ⟨p2, q2⟩ := h2
  exact hij ((List.getElem_inj h).1 (q1.trans q2.symm))
def woF (n j : Nat) : Int := ((min j (n - j) : Nat) : Int) / 64
def boF (n j : Nat) : Int := if j = 0 then 0 else IntKind.u64.wrap (2 ^ (min j (n - j) % 64))
theorem min_cast (d n : Nat) (h : d ≤ n) : min (d : Int) ((n : Int) - (d : Int)) = ((min d (n - d) : Nat) : Int) := by omega
theorem info4 : (Yba.prog.info? 4).map (fun i => (i.zero, i.size, i.bytes)) = some (some (.bool false), 1, 1) := by kernel_rfl
/-- The search's own cells. -/
structure SCells (n W H S b12 b16 b18 b20 b22 b28 b44 b51 b54 b57 b60 : Nat) (SF : Nat → Value) : Prop where
  f0 : SF 0 = .int .i64 n
  f2 : SF 2 = .int .i64 W
  f4 : SF 4 = .slice (some ⟨b12, 0, none⟩) n n
  f5 : SF 5 = .slice (some ⟨b18, 0, none⟩) n n
  f6 : SF 6 = .slice (some ⟨b20, 0, none⟩) n n
  f7 : SF 7 = .slice (some ⟨b16, 0, none⟩) H H
  f8 : SF 8 = .slice none 0 0
  f9 : SF 9 = .slice none 0 0
  f10 : SF 10 = .slice (some ⟨b22, 0, none⟩) n n
  f14 : SF 14 = .slice (some ⟨b28, 0, none⟩) W W
  f15 : SF 15 = .slice (some ⟨b51, 0, none⟩) 4 4
  f16 : SF 16 = .slice (some ⟨b54, 0, none⟩) 4 4
  f17 : SF 17 = .slice (some ⟨b57, 0, none⟩) 4 4
  f24 : SF 24 = .slice (some ⟨b60, 0, none⟩) 4 4
  f29 : SF 29 = .slice (some ⟨b44, 0, none⟩) W W
/-- What newCoverSearch leaves. -/
def CoverEnd (n W N : Nat) (w : World) (B : Nat) (e : Ending) (w' : World) : Prop :=
  ∃ S bw bb bt bm bg br be : Nat, ∃ M : Nat → Int, e = .returned (.pointer (some ⟨S, 0, none⟩)) ∧ [S, bw, bb, bt, bm, bg, br, be].Nodup ∧ (∀ b ∈ [S, bw, bb, bt, bm, bg, br, be], B ≤ b ∧ b < w'.heap.size) ∧ Below B w w' ∧
    w'.cell? ⟨S, 0, none⟩ = some (.int .i64 n) ∧ w'.cell? ⟨S, 2, none⟩ = some (.int .i64 W) ∧ w'.cell? ⟨S, 5, none⟩ = some (.slice (some ⟨bw, 0, none⟩) n n) ∧ w'.cell? ⟨S, 6, none⟩ = some (.slice (some ⟨bb, 0, none⟩) n n) ∧
    w'.cell? ⟨S, 9, none⟩ = some (.slice none 0 0) ∧ w'.cell? ⟨S, 10, none⟩ = some (.slice (some ⟨bt, 0, none⟩) n n) ∧ w'.cell? ⟨S, 14, none⟩ = some (.slice (some ⟨bm, 0, none⟩) W W) ∧ w'.cell? ⟨S, 15, none⟩ = some (.slice (some ⟨bg, 0, none⟩) 4 4) ∧
    w'.cell? ⟨S, 29, none⟩ = some (.slice (some ⟨be, 0, none⟩) W W) ∧ w'.cell? ⟨bg, 0, none⟩ = some (.slice (some ⟨br, 0, none⟩) N N) ∧
    w'.rowIs bw 3 n (fun i => .int .i64 (woF n i)) ∧ w'.rowIs bb 47 n (fun i => .int .u64 (boF n i)) ∧ w'.rowIs bt 5 n (fun _ => .int .u8 0) ∧ w'.rowIs bm 47 W (fun i => .int .u64 (M i)) ∧
    w'.rowIs br 47 N (fun _ => .int .u64 0) ∧ w'.rowIs be 47 W (fun _ => .int .u64 0)

theorem own_keeps {wr w3 : World} {S base m k : Nat} {t e : TypeId} {f : Nat → Value} {v : Value} {xs : List Value} {o : Obj} (hS : wr.rowIs S t m f) (hown : wr.ownsRow base e 1 v k xs) (hlt : S < base)
    (hg : (wr.alloc o).grownBy w3 v.ownBlock) : w3.rowIs S t m f :=
  (hS.alloc o).of_block (hg.block S (hS.alloc o).lt (fun h => by have := (hown.lt S h.symm).1; omega))
theorem own_form {w : World} {base k : Nat} {e : TypeId} {v : Value} {xs : List Value} (h : w.ownsRow base e 1 v (k + 1) xs) : ∃ g cap, v = .slice (some ⟨g, 0, none⟩) (k + 1) cap := by
  rcases h.2 with ⟨_, h⟩ | ⟨g, cap, _, h, _⟩
  · omega
  · exact ⟨g, cap, h⟩

theorem cov_step {n d b12 b18 b20 : Nat} {w wr : World} {C : Nat → Int} {x y z : Int} (n1 : b12 ≠ b18) (n2 : b12 ≠ b20) (n3 : b18 ≠ b20) (hy : woF n d = y) (hz : boF n d = z)
    (h : Wrote [b12, b18, b20] w wr ∧ wr.rowIs b12 3 n (fun j => .int .i64 (C j)) ∧ wr.rowIs b18 3 n (fun j => .int .i64 (if j < d then woF n j else 0)) ∧ wr.rowIs b20 47 n (fun j => .int .u64 (if j < d then boF n j else 0))) :
    Wrote [b12, b18, b20] w (((wr.setCell ⟨b12, d, none⟩ (.int .i64 x)).setCell ⟨b18, d, none⟩ (.int .i64 y)).setCell ⟨b20, d, none⟩ (.int .u64 z)).drew ∧
    (∃ C : Nat → Int, (((wr.setCell ⟨b12, d, none⟩ (.int .i64 x)).setCell ⟨b18, d, none⟩ (.int .i64 y)).setCell ⟨b20, d, none⟩ (.int .u64 z)).drew.rowIs b12 3 n (fun j => .int .i64 (C j))) ∧
    (((wr.setCell ⟨b12, d, none⟩ (.int .i64 x)).setCell ⟨b18, d, none⟩ (.int .i64 y)).setCell ⟨b20, d, none⟩ (.int .u64 z)).drew.rowIs b18 3 n (fun j => .int .i64 (if j < d + 1 then woF n j else 0)) ∧
    (((wr.setCell ⟨b12, d, none⟩ (.int .i64 x)).setCell ⟨b18, d, none⟩ (.int .i64 y)).setCell ⟨b20, d, none⟩ (.int .u64 z)).drew.rowIs b20 47 n (fun j => .int .u64 (if j < d + 1 then boF n j else 0)) := by
  obtain ⟨h1, h2, h3, h4⟩ := h
  subst hy; subst hz
  refine ⟨(((h1.setCell (.inl (by simp)) _).setCell (.inl (by simp)) _).setCell (.inl (by simp)) _).drew, ⟨_, (((rowIs_setInt h2 d x).setOther n1 _).setOther n2 _).drew⟩, ?_, ?_⟩
  · refine ((rowIs_setInt (h3.setOther (Ne.symm n1) _) d _).setOther n3 _).drew.congr (fun j hj => ?_)
    by_cases e : j = d
    · subst e; simp
    · simp [e, show (j < d + 1) ↔ (j < d) from by omega]
  · refine (rowIs_setInt ((h4.setOther (Ne.symm n2) _).setOther (Ne.symm n3) _) d _).drew.congr (fun j hj => ?_)
    by_cases e : j = d
    · subst e; simp
    · simp [e, show (j < d + 1) ↔ (j < d) from by omega]

theorem cov4_step {w3 wr : World} {b51 b54 b57 b60 h N : Nat} {F1 F2 F3 F4 : Nat → Value} {v2 v3 v4 : Value} {o2 o3 o4 : Obj} (x5 : b54 ≠ b51) (x6 : b57 ≠ b51) (x7 : b57 ≠ b54) (x8 : b60 ≠ b51) (x9 : b60 ≠ b54) (x10 : b60 ≠ b57)
    (l1 : b51 < w3.heap.size) (l2 : b54 < w3.heap.size) (l3 : b57 < w3.heap.size) (l4 : b60 < w3.heap.size)
    (hI : Wrote [b51, b54, b57, b60] w3 wr ∧ (wr.rowIs b51 36 4 F1 ∧ (0 < h → ∃ br, F1 0 = .slice (some ⟨br, 0, none⟩) N N ∧ w3.heap.size ≤ br ∧ wr.rowIs br 47 N (fun _ => .int .u64 0))) ∧ wr.rowIs b54 70 4 F2 ∧ wr.rowIs b57 22 4 F3 ∧ wr.rowIs b60 22 4 F4)
    {W' : World} (hW' : W' = ((((((((wr.setCell ⟨b51, h, none⟩ (.slice (some ⟨wr.heap.size, 0, none⟩) N N)).setCell ⟨b54, h, none⟩ v2).setCell ⟨b57, h, none⟩ v3).setCell ⟨b60, h, none⟩ v4).alloc (.cells (madeCells #[.int .u64 0] N) 47)).alloc o2).alloc o3).alloc o4)) :
    Wrote [b51, b54, b57, b60] w3 W' ∧ (∃ F : Nat → Value, W'.rowIs b51 36 4 F ∧ (0 < h + 1 → ∃ br, F 0 = .slice (some ⟨br, 0, none⟩) N N ∧ w3.heap.size ≤ br ∧ W'.rowIs br 47 N (fun _ => .int .u64 0))) ∧ (∃ F : Nat → Value, W'.rowIs b54 70 4 F) ∧ (∃ F : Nat → Value, W'.rowIs b57 22 4 F) ∧ (∃ F : Nat → Value, W'.rowIs b60 22 4 F) := by
  obtain ⟨h0, ⟨h1, h1'⟩, h2, h3, h4⟩ := hI
  subst hW'
  refine ⟨((((((((h0.setCell (.inl (by simp)) _).setCell (.inl (by simp)) _).setCell (.inl (by simp)) _).setCell (.inl (by simp)) _).alloc _).alloc _).alloc _).alloc _), ⟨_, ((((((((h1.set h _).setOther (Ne.symm x5) _).setOther (Ne.symm x6) _).setOther (Ne.symm x8) _).alloc _).alloc _).alloc _).alloc _), fun _ => ?_⟩,
    ⟨_, ((((((((h2.setOther x5 _).set h _).setOther (Ne.symm x7) _).setOther (Ne.symm x9) _).alloc _).alloc _).alloc _).alloc _)⟩, ⟨_, ((((((((h3.setOther x6 _).setOther x7 _).set h _).setOther (Ne.symm x10) _).alloc _).alloc _).alloc _).alloc _)⟩, ⟨_, ((((((((h4.setOther x8 _).setOther x9 _).setOther x10 _).set h _).alloc _).alloc _).alloc _).alloc _)⟩⟩
  by_cases hh : h = 0
  · subst hh
    refine ⟨wr.heap.size, by simp, h0.size, ?_⟩
    have hm := World.rowIs_made ((((wr.setCell ⟨b51, 0, none⟩ (.slice (some ⟨wr.heap.size, 0, none⟩) N N)).setCell ⟨b54, 0, none⟩ v2).setCell ⟨b57, 0, none⟩ v3).setCell ⟨b60, 0, none⟩ v4) (.int .u64 0) N 47
    have hs : ((((wr.setCell ⟨b51, 0, none⟩ (.slice (some ⟨wr.heap.size, 0, none⟩) N N)).setCell ⟨b54, 0, none⟩ v2).setCell ⟨b57, 0, none⟩ v3).setCell ⟨b60, 0, none⟩ v4).heap.size = wr.heap.size := by simp [World.setCell]
    rw [hs] at hm
    exact ((hm.alloc _).alloc _).alloc _
  · obtain ⟨br, hb1, hb2, hb3⟩ := h1' (by omega)
    exact ⟨br, by simp [Ne.symm hh, hb1], hb2, (((((((hb3.setOther (by show br ≠ b51; omega) _).setOther (by show br ≠ b54; omega) _).setOther (by show br ≠ b57; omega) _).setOther (by show br ≠ b60; omega) _).alloc _).alloc _).alloc _).alloc _⟩

set_option maxRecDepth 100000 in
set_option maxHeartbeats 4000000 in
theorem cover_rest (n W H N B S b12 b16 b18 b20 b22 b28 b44 b51 b54 b57 b60 : Nat) (w0 w : World) (c : Nat → Value) (SF : Nat → Value) (hn : 2 ≤ n ∧ n ≤ 200) (hH : n / 2 + 1 = H) (hW : n / 2 / 64 + 1 = W) (hN : n * W = N)
    (hnd : [S, b12, b16, b18, b20, b22, b28, b44, b51, b54, b57, b60].Nodup) (hge : ∀ b ∈ [S, b12, b16, b18, b20, b22, b28, b44, b51, b54, b57, b60], B ≤ b) (hbel : Below B w0 w) (hB : B ≤ w0.heap.size)
    (hS : w.rowIs S 49 39 SF) (hSF : SCells n W H S b12 b16 b18 b20 b22 b28 b44 b51 b54 b57 b60 SF)
    (r12 : w.rowIs b12 3 n (fun _ => .int .i64 0)) (r16 : w.rowIs b16 3 H (fun _ => .int .i64 0)) (r18 : w.rowIs b18 3 n (fun _ => .int .i64 0)) (r20 : w.rowIs b20 47 n (fun _ => .int .u64 0)) (r22 : w.rowIs b22 5 n (fun _ => .int .u8 0))
    (r28 : w.rowIs b28 47 W (fun _ => .int .u64 0)) (r44 : w.rowIs b44 47 W (fun _ => .int .u64 0)) (r51 : w.rowIs b51 36 4 (fun _ => .slice none 0 0)) (r54 : w.rowIs b54 70 4 (fun _ => .slice none 0 0)) (r57 : w.rowIs b57 22 4 (fun _ => .slice none 0 0)) (r60 : w.rowIs b60 22 4 (fun _ => .slice none 0 0)) :
    Code.wp Yba.prog ((Yba.f16.body.bind after3).getD .skip) (bodyPost Yba.prog Yba.f16 (CoverEnd n W N w0 B)) ⟨#[c 0, .int .i64 n, .int .i64 3, c 3, c 4, c 5, c 6, .int .i64 W, .pointer (some ⟨S, 0, none⟩), c 9, c 10, c 11, c 12, c 13, c 14, c 15, c 16, c 17, c 18, c 19, c 20, c 21, c 22, c 23, c 24, c 25, c 26, c 27, c 28, c 29, c 30, c 31, c 32, c 33, c 34, c 35, c 36, c 37, c 38, c 39, c 40, c 41, c 42, c 43, c 44, c 45, c 46, c 47, c 48, c 49, c 50, c 51, c 52, c 53, c 54, c 55, c 56, c 57, c 58, c 59, c 60, c 61, c 62, c 63, c 64, c 65, c 66, c 67, c 68, c 69, c 70, c 71, c 72, c 73, c 74, c 75, c 76, c 77, c 78, c 79, c 80, c 81, c 82, c 83, c 84, c 85, c 86, c 87, c 88, c 89, c 90, c 91, c 92, c 93, c 94, c 95, c 96, c 97, c 98, c 99, c 100, c 101, c 102, c 103, c 104, c 105, c 106, c 107, c 108, c 109, c 110, c 111, c 112, c 113, c 114, c 115, c 116, c 117, c 118, c 119, c 120, c 121, c 122, c 123, c 124, c 125, c 126, c 127, c 128, c 129, c 130, c 131, c 132, c 133, c 134, c 135, c 136, c 137, c 138, c 139, c 140, c 141, c 142, c 143, c 144, c 145, c 146, c 147, c 148, c 149, c 150, c 151, c 152, c 153, c 154, c 155, c 156, c 157, c 158, c 159, c 160, c 161, c 162, c 163, c 164, c 165, c 166, c 167, c 168, c 169, c 170, c 171, c 172, c 173, c 174, c 175, c 176, c 177, c 178, c 179, c 180, c 181, c 182, c 183, c 184, c 185, c 186, c 187, c 188, c 189, c 190, c 191, c 192, c 193], []⟩ w := by
  have HND : Hid ([S, b12, b16, b18, b20, b22, b28, b44, b51, b54, b57, b60].Nodup) := hnd
  have HGE : Hid (∀ b ∈ [S, b12, b16, b18, b20, b22, b28, b44, b51, b54, b57, b60], B ≤ b) := hge
  have HH : Hid (n / 2 + 1 = H) := hH
  have HWW : Hid (n / 2 / 64 + 1 = W) := hW
  have HNN : Hid (n * W = N) := hN
  have hW2 : 1 ≤ W ∧ W ≤ 2 := by omega
  clear hnd hge hH hW hN
  conv => arg 2; whnf
  go_wp2
  go_loopw [9] (fun dv wr => ∃ d : Nat, 1 ≤ d ∧ d ≤ n ∧ dv = .int .i64 d ∧ Wrote [b12, b18, b20] w wr ∧ (∃ C : Nat → Int, wr.rowIs b12 3 n (fun j => .int .i64 (C j))) ∧ wr.rowIs b18 3 n (fun j => .int .i64 (if j < d then woF n j else 0)) ∧ wr.rowIs b20 47 n (fun j => .int .u64 (if j < d then boF n j else 0)))
    (fun dv _ => n - (intOf dv).toNat)
  case atStart => exact ⟨1, Nat.le_refl _, by omega, rfl, Wrote.refl _ _, ⟨fun _ => 0, r12⟩, r18.congr (fun j hj => by by_cases e : j < 1 <;> simp [e, woF]; omega), r20.congr (fun j hj => by by_cases e : j < 1 <;> simp [e, boF]; omega)⟩
  case round =>
    obtain ⟨d, h1, hd, rfl, hwr, ⟨C, q12⟩, q18, q20⟩ := hrel
    have qS := hwr.row hS (by simp only [List.mem_cons, List.not_mem_nil, or_false, not_or]; exact ⟨(nodup_ne HND.out 0 1 rfl rfl (by decide)), (nodup_ne HND.out 0 3 rfl rfl (by decide)), (nodup_ne HND.out 0 4 rfl rfl (by decide))⟩)
    by_cases hlt : d < n
    · have hcase : (∃ m : Nat, (n : Int) - (d : Int) = (m : Int) ∧ (n : Int) - (d : Int) < (d : Int) ∧ min d (n - d) = m) ∨ ((d : Int) ≤ (n : Int) - (d : Int) ∧ min d (n - d) = d) := by
        by_cases hx : d ≤ n - d
        · exact .inr ⟨by omega, by omega⟩
        · exact .inl ⟨n - d, by omega, by omega, by omega⟩
      have k4 := (qS.cell (i := 4) (by omega)).trans (congrArg some hSF.f4)
      have k5 := (qS.cell (i := 5) (by omega)).trans (congrArg some hSF.f5)
      have k6 := (qS.cell (i := 6) (by omega)).trans (congrArg some hSF.f6)
      have p12 := q12.cell hlt
      have p18 := q18.cell hlt
      have p20 := q20.cell hlt
      have z12 := q12.frozen d
      have z18 := q18.frozen d
      have z20 := q20.frozen d
      have n1 : b12 ≠ b18 := (nodup_ne HND.out 1 3 rfl rfl (by decide))
      have n2 : b12 ≠ b20 := (nodup_ne HND.out 1 4 rfl rfl (by decide))
      have n3 : b18 ≠ b20 := (nodup_ne HND.out 3 4 rfl rfl (by decide))
      have HI : Hid (Wrote [b12, b18, b20] w wr ∧ wr.rowIs b12 3 n (fun j => .int .i64 (C j)) ∧ wr.rowIs b18 3 n (fun j => .int .i64 (if j < d then woF n j else 0)) ∧ wr.rowIs b20 47 n (fun j => .int .u64 (if j < d then boF n j else 0))) := ⟨hwr, q12, q18, q20⟩
      clear hwr q12 q18 q20 qS r12 r16 r18 r20 r22 r28 r44 r51 r54 r57 r60 hS hbel
      rcases hcase with ⟨m, hm1, hm2, hm⟩ | ⟨hm2, hm⟩
      · have HWO : Hid (woF n d = (m : Int) / 64) := by show woF n d = _; unfold woF; rw [hm]
        have HBO : Hid (boF n d = IntKind.u64.wrap (2 ^ (m % 64))) := by show boF n d = _; unfold boF; rw [if_neg (by omega), hm]
        have hmb : m ≤ 200 := by omega
        clear hm
        go_wp2
        go_region
        all_goals go_wp2
        go_roundw
        case rel =>
          obtain ⟨a1, a2, a3, a4⟩ := cov_step (x := (m : Int)) n1 n2 n3 HWO.out HBO.out HI.out
          exact ⟨d + 1, by omega, by omega, by go_num, a1, a2, a3, a4⟩
        case measure => simp [intOf]; omega
      · have HWO : Hid (woF n d = (d : Int) / 64) := by show woF n d = _; unfold woF; rw [hm]
        have HBO : Hid (boF n d = IntKind.u64.wrap (2 ^ (d % 64))) := by show boF n d = _; unfold boF; rw [if_neg (by omega), hm]
        clear hm
        go_wp2
        go_region
        all_goals go_wp2
        go_roundw
        case rel =>
          obtain ⟨a1, a2, a3, a4⟩ := cov_step (x := (d : Int)) n1 n2 n3 HWO.out HBO.out HI.out
          exact ⟨d + 1, by omega, by omega, by go_num, a1, a2, a3, a4⟩
        case measure => simp [intOf]; omega
    · rename World => w1
      have r18' := q18.congr (g := fun j => .int .i64 (woF n j)) (fun j hj => by rw [if_pos (by omega)])
      have r20' := q20.congr (g := fun j => .int .u64 (boF n j)) (fun j hj => by rw [if_pos (by omega)])
      have r16' := hwr.row r16 (by simp only [List.mem_cons, List.not_mem_nil, or_false, not_or]; exact ⟨(nodup_ne HND.out 2 1 rfl rfl (by decide)), (nodup_ne HND.out 2 3 rfl rfl (by decide)), (nodup_ne HND.out 2 4 rfl rfl (by decide))⟩)
      have r22' := hwr.row r22 (by simp only [List.mem_cons, List.not_mem_nil, or_false, not_or]; exact ⟨(nodup_ne HND.out 5 1 rfl rfl (by decide)), (nodup_ne HND.out 5 3 rfl rfl (by decide)), (nodup_ne HND.out 5 4 rfl rfl (by decide))⟩)
      have r28' := hwr.row r28 (by simp only [List.mem_cons, List.not_mem_nil, or_false, not_or]; exact ⟨(nodup_ne HND.out 6 1 rfl rfl (by decide)), (nodup_ne HND.out 6 3 rfl rfl (by decide)), (nodup_ne HND.out 6 4 rfl rfl (by decide))⟩)
      have r44' := hwr.row r44 (by simp only [List.mem_cons, List.not_mem_nil, or_false, not_or]; exact ⟨(nodup_ne HND.out 7 1 rfl rfl (by decide)), (nodup_ne HND.out 7 3 rfl rfl (by decide)), (nodup_ne HND.out 7 4 rfl rfl (by decide))⟩)
      have r51' := hwr.row r51 (by simp only [List.mem_cons, List.not_mem_nil, or_false, not_or]; exact ⟨(nodup_ne HND.out 8 1 rfl rfl (by decide)), (nodup_ne HND.out 8 3 rfl rfl (by decide)), (nodup_ne HND.out 8 4 rfl rfl (by decide))⟩)
      have r54' := hwr.row r54 (by simp only [List.mem_cons, List.not_mem_nil, or_false, not_or]; exact ⟨(nodup_ne HND.out 9 1 rfl rfl (by decide)), (nodup_ne HND.out 9 3 rfl rfl (by decide)), (nodup_ne HND.out 9 4 rfl rfl (by decide))⟩)
      have r57' := hwr.row r57 (by simp only [List.mem_cons, List.not_mem_nil, or_false, not_or]; exact ⟨(nodup_ne HND.out 10 1 rfl rfl (by decide)), (nodup_ne HND.out 10 3 rfl rfl (by decide)), (nodup_ne HND.out 10 4 rfl rfl (by decide))⟩)
      have r60' := hwr.row r60 (by simp only [List.mem_cons, List.not_mem_nil, or_false, not_or]; exact ⟨(nodup_ne HND.out 11 1 rfl rfl (by decide)), (nodup_ne HND.out 11 3 rfl rfl (by decide)), (nodup_ne HND.out 11 4 rfl rfl (by decide))⟩)
      have HWR : Hid (Wrote [b12, b18, b20] w w1) := hwr
      clear q12 q18 q20 r12 r16 r18 r20 r22 r28 r44 r51 r54 r57 r60 hS hwr
      have HR : Hid (w1.rowIs S 49 39 SF ∧ w1.rowIs b18 3 n (fun j => .int .i64 (woF n j)) ∧ w1.rowIs b20 47 n (fun j => .int .u64 (boF n j)) ∧ w1.rowIs b22 5 n (fun _ => .int .u8 0) ∧ w1.rowIs b44 47 W (fun _ => .int .u64 0) ∧ w1.rowIs b51 36 4 (fun _ => .slice none 0 0) ∧ w1.rowIs b54 70 4 (fun _ => .slice none 0 0) ∧ w1.rowIs b57 22 4 (fun _ => .slice none 0 0) ∧ w1.rowIs b60 22 4 (fun _ => .slice none 0 0)) := ⟨qS, r18', r20', r22', r44', r51', r54', r57', r60'⟩
      clear r18' r20' r22' r44' r51' r54' r57' r60'
      go_wp2
      go_loopw [11] (fun cv wr => ∃ k : Nat, 1 ≤ k ∧ k ≤ n / 2 + 1 ∧ cv = .int .i64 k ∧ Wrote [b16, b28] w1 wr ∧ (∃ C : Nat → Int, wr.rowIs b16 3 H (fun j => .int .i64 (C j))) ∧ ∃ M : Nat → Int, wr.rowIs b28 47 W (fun j => .int .u64 (M j)))
        (fun cv _ => n / 2 + 1 - (intOf cv).toNat)
      case atStart => exact ⟨1, Nat.le_refl _, by omega, rfl, Wrote.refl _ _, ⟨_, r16'⟩, ⟨_, r28'⟩⟩
      case round =>
        obtain ⟨k, h1k, hk, rfl, hwx, ⟨C2, q16⟩, ⟨M2, q28⟩⟩ := hrel
        have qS2 := hwx.row qS (by simp only [List.mem_cons, List.not_mem_nil, or_false, not_or]; exact ⟨(nodup_ne HND.out 0 2 rfl rfl (by decide)), (nodup_ne HND.out 0 6 rfl rfl (by decide))⟩)
        by_cases hlt2 : k ≤ n / 2
        · have k7 := (qS2.cell (i := 7) (by omega)).trans (congrArg some hSF.f7)
          have k14 := (qS2.cell (i := 14) (by omega)).trans (congrArg some hSF.f14)
          have hkH : k < H := by have := HH.out; omega
          have hkI : (k : Int) ≤ (n : Int) / 2 := by omega
          have p16 := q16.cell hkH
          have z16 := q16.frozen k
          have n4 : b16 ≠ b28 := (nodup_ne HND.out 2 6 rfl rfl (by decide))
          have n5 : S ≠ b16 := (nodup_ne HND.out 0 2 rfl rfl (by decide))
          have HI2 : Hid (Wrote [b16, b28] w1 wr ∧ wr.rowIs b16 3 H (fun j => .int .i64 (C2 j)) ∧ wr.rowIs b28 47 W (fun j => .int .u64 (M2 j))) := ⟨hwx, q16, q28⟩
          clear hwx q16 q28 r16' r28' qS qS2
          go_wp2
          go_region_with (go_at_call 31; refine (inverse_any _ _ _ (by omega) (by omega)).mono ?_; rintro e w' ⟨z, rfl, kd, rfl⟩)
          all_goals
            go_wp2_with fail
            refine (include_any b28 W k M2 _ (by exact (rowIs_drewN HI2.out.2.2 (1 + kd)).setOther (a := ⟨b16, k, none⟩) (Ne.symm n4) (.int .i64 z)) (by omega) (by have := HWW.out; omega) (by omega)).mono ?_
            rintro e w' ⟨rfl, hw2, M3, hM3⟩
            have HI3 : Hid (Wrote [b16, b28] w1 w' ∧ (∃ C : Nat → Int, w'.rowIs b16 3 H (fun j => .int .i64 (C j))) ∧ ∃ M : Nat → Int, w'.rowIs b28 47 W (fun j => .int .u64 (M j))) :=
              ⟨((HI2.out.1.drewN (1 + kd)).setCell (p := ⟨b16, k, none⟩) (.inl (by simp)) (.int .i64 z)).trans (hw2.mono (by simp)), ⟨_, hw2.row (rowIs_setInt (rowIs_drewN HI2.out.2.1 (1 + kd)) k z) (by simp [n4])⟩, ⟨M3, hM3⟩⟩
            clear hw2 hM3
            go_wp2
            go_roundw
            case rel => exact ⟨k + 1, by omega, by omega, by go_num, HI3.out⟩
            case measure => simp [intOf]; omega
        · have hkI : ¬ ((k : Int) ≤ (n : Int) / 2) := by omega
          rename World => w2
          have hwr := hwx
          obtain ⟨m0, m18, m20, m22, m44, m51, m54, m57, m60⟩ := HR.out
          have HR2 : Hid (w2.rowIs S 49 39 SF ∧ w2.rowIs b18 3 n (fun j => .int .i64 (woF n j)) ∧ w2.rowIs b20 47 n (fun j => .int .u64 (boF n j)) ∧ w2.rowIs b22 5 n (fun _ => .int .u8 0) ∧ w2.rowIs b44 47 W (fun _ => .int .u64 0) ∧ w2.rowIs b51 36 4 (fun _ => .slice none 0 0) ∧ w2.rowIs b54 70 4 (fun _ => .slice none 0 0) ∧ w2.rowIs b57 22 4 (fun _ => .slice none 0 0) ∧ w2.rowIs b60 22 4 (fun _ => .slice none 0 0) ∧ w2.rowIs b28 47 W (fun j => .int .u64 (M2 j))) :=
            ⟨hwr.row m0 (by simp only [List.mem_cons, List.not_mem_nil, or_false, not_or]; exact ⟨(nodup_ne HND.out 0 2 rfl rfl (by decide)), (nodup_ne HND.out 0 6 rfl rfl (by decide))⟩), hwr.row m18 (by simp only [List.mem_cons, List.not_mem_nil, or_false, not_or]; exact ⟨(nodup_ne HND.out 3 2 rfl rfl (by decide)), (nodup_ne HND.out 3 6 rfl rfl (by decide))⟩), hwr.row m20 (by simp only [List.mem_cons, List.not_mem_nil, or_false, not_or]; exact ⟨(nodup_ne HND.out 4 2 rfl rfl (by decide)), (nodup_ne HND.out 4 6 rfl rfl (by decide))⟩), hwr.row m22 (by simp only [List.mem_cons, List.not_mem_nil, or_false, not_or]; exact ⟨(nodup_ne HND.out 5 2 rfl rfl (by decide)), (nodup_ne HND.out 5 6 rfl rfl (by decide))⟩), hwr.row m44 (by simp only [List.mem_cons, List.not_mem_nil, or_false, not_or]; exact ⟨(nodup_ne HND.out 7 2 rfl rfl (by decide)), (nodup_ne HND.out 7 6 rfl rfl (by decide))⟩), hwr.row m51 (by simp only [List.mem_cons, List.not_mem_nil, or_false, not_or]; exact ⟨(nodup_ne HND.out 8 2 rfl rfl (by decide)), (nodup_ne HND.out 8 6 rfl rfl (by decide))⟩), hwr.row m54 (by simp only [List.mem_cons, List.not_mem_nil, or_false, not_or]; exact ⟨(nodup_ne HND.out 9 2 rfl rfl (by decide)), (nodup_ne HND.out 9 6 rfl rfl (by decide))⟩), hwr.row m57 (by simp only [List.mem_cons, List.not_mem_nil, or_false, not_or]; exact ⟨(nodup_ne HND.out 10 2 rfl rfl (by decide)), (nodup_ne HND.out 10 6 rfl rfl (by decide))⟩), hwr.row m60 (by simp only [List.mem_cons, List.not_mem_nil, or_false, not_or]; exact ⟨(nodup_ne HND.out 11 2 rfl rfl (by decide)), (nodup_ne HND.out 11 6 rfl rfl (by decide))⟩), q28⟩
          have HB2 : Hid (Below B w0 w2) := (hbel.trans (HWR.out.below (Nat.le_trans hB hbel.size) (fun b hb => HGE.out b (by simp only [List.mem_cons, List.not_mem_nil, or_false] at hb ⊢; rcases hb with rfl | rfl | rfl <;> simp)))).trans (hwr.below (Nat.le_trans (Nat.le_trans hB hbel.size) HWR.out.size) (fun b hb => HGE.out b (by simp only [List.mem_cons, List.not_mem_nil, or_false] at hb ⊢; rcases hb with rfl | rfl <;> simp)))
          clear m0 m18 m20 m22 m44 m51 m54 m57 m60 hwr hwx q16 q28 HR HWR qS qS2 r16' r28' hbel
          obtain ⟨i0, hi0, hz0, hz1, hz2⟩ := info_parts info3
          have hSlt : S < w2.heap.size := HR2.out.1.lt
          go_wp2
          go_loopw [136] (fun kv wr => ∃ (q : Nat) (ao : Option Addr) (cv : Nat) (xs : List Value), q ≤ n ∧ kv = .int .i64 q ∧ wr.rowIs S 49 39 (fun j => if j = 8 then .slice ao q cv else SF j) ∧ wr.ownsRow w2.heap.size 3 1 (.slice ao q cv) q xs ∧ Wrote [S] w2 wr)
            (fun kv _ => n - (intOf kv).toNat)
          case atStart => exact ⟨0, none, 0, [], Nat.zero_le _, rfl, HR2.out.1.congr (fun j hj => by by_cases e : j = 8 <;> simp [e, hSF.f8]), World.ownsRow_nil _ _ _ _, Wrote.refl _ _⟩
          case round =>
            obtain ⟨q, ao, cv, xs, hq, rfl, hS3, hown, hw3⟩ := hrel
            by_cases hlt3 : q < n
            · have c8 : wr.cell? ⟨S, 8, none⟩ = some (.slice ao q cv) := hS3.cell (i := 8) (by omega)
              have hsz := hw3.size
              have HI4 : Hid (wr.rowIs S 49 39 (fun j => if j = 8 then .slice ao q cv else SF j) ∧ wr.ownsRow w2.heap.size 3 1 (.slice ao q cv) q xs ∧ Wrote [S] w2 wr) := ⟨hS3, hown, hw3⟩
              clear hS3 hw3
              have HO : Hid (wr.ownsRow w2.heap.size 3 1 (.slice ao q cv) q xs) := hown
              clear hown
              go_wp2_with (at_builtin; refine wpList_append_own _ rfl _ _ 22 rfl w2.heap.size 3 i0 (.int .i64 0) 1 8 Yba.underlying22 hi0 hz0 hz1 hz2 rfl (by decide) _ _ _ rfl (HO.out.alloc _) ⟨wr.heap.size, 0, none⟩ 1 1 [.int .i64 q] rfl rfl (cell_one_new _ _ _) (fun u hu => by simp at hu; subst hu; rfl) (by unfold maxLen; omega) (by omega) (by simp; omega) ?_; intro v' w3 hown' hgrow hnil; have hS4 := own_keeps HI4.out.1 HO.out hSlt hgrow; have c8' : w3.cell? ⟨S, 8, none⟩ = some (.slice ao q cv) := hS4.cell (i := 8) (by omega); have f8' := hS4.frozen 8; obtain ⟨g3, cap3, rfl⟩ := own_form hown')
              have HI5 : Hid (Wrote [S] w2 (w3.setCell ⟨S, 8, none⟩ (.slice (some ⟨g3, 0, none⟩) (q + 1) cap3)) ∧ (w3.setCell ⟨S, 8, none⟩ (.slice (some ⟨g3, 0, none⟩) (q + 1) cap3)).rowIs S 49 39 (fun j => if j = 8 then .slice (some ⟨g3, 0, none⟩) (q + 1) cap3 else SF j)) :=
                ⟨((HI4.out.2.2.alloc _).grown hgrow (fun z hz => .inr (HO.out.lt z hz).1)).setCell (.inl (by simp)) _, (hS4.set 8 _).congr (fun j hj => by by_cases e : j = 8 <;> simp [e])⟩
              have HI6 : Hid ((w3.setCell ⟨S, 8, none⟩ (.slice (some ⟨g3, 0, none⟩) (q + 1) cap3)).ownsRow w2.heap.size 3 1 (.slice (some ⟨g3, 0, none⟩) (q + 1) cap3) (q + 1) (xs ++ [.int .i64 q])) := ownsRow_setCell_below hown' (a := ⟨S, 8, none⟩) hSlt _
              clear hown' hgrow hnil hS4
              go_roundw
              case rel => exact ⟨q + 1, some ⟨g3, 0, none⟩, cap3, _, by omega, by go_num, HI5.out.2, HI6.out, HI5.out.1⟩
              case measure => simp [intOf]; omega
            · rename World => w3
              obtain ⟨m0, m18, m20, m22, m44, m51, m54, m57, m60, m28⟩ := HR2.out
              have HR3 : Hid (w3.rowIs b18 3 n (fun j => .int .i64 (woF n j)) ∧ w3.rowIs b20 47 n (fun j => .int .u64 (boF n j)) ∧ w3.rowIs b22 5 n (fun _ => .int .u8 0) ∧ w3.rowIs b44 47 W (fun _ => .int .u64 0) ∧ w3.rowIs b51 36 4 (fun _ => .slice none 0 0) ∧ w3.rowIs b54 70 4 (fun _ => .slice none 0 0) ∧ w3.rowIs b57 22 4 (fun _ => .slice none 0 0) ∧ w3.rowIs b60 22 4 (fun _ => .slice none 0 0) ∧ w3.rowIs b28 47 W (fun j => .int .u64 (M2 j))) :=
                ⟨hw3.row m18 (by simp only [List.mem_cons, List.not_mem_nil, or_false, not_or]; exact (nodup_ne HND.out 3 0 rfl rfl (by decide))), hw3.row m20 (by simp only [List.mem_cons, List.not_mem_nil, or_false, not_or]; exact (nodup_ne HND.out 4 0 rfl rfl (by decide))), hw3.row m22 (by simp only [List.mem_cons, List.not_mem_nil, or_false, not_or]; exact (nodup_ne HND.out 5 0 rfl rfl (by decide))), hw3.row m44 (by simp only [List.mem_cons, List.not_mem_nil, or_false, not_or]; exact (nodup_ne HND.out 7 0 rfl rfl (by decide))), hw3.row m51 (by simp only [List.mem_cons, List.not_mem_nil, or_false, not_or]; exact (nodup_ne HND.out 8 0 rfl rfl (by decide))), hw3.row m54 (by simp only [List.mem_cons, List.not_mem_nil, or_false, not_or]; exact (nodup_ne HND.out 9 0 rfl rfl (by decide))), hw3.row m57 (by simp only [List.mem_cons, List.not_mem_nil, or_false, not_or]; exact (nodup_ne HND.out 10 0 rfl rfl (by decide))), hw3.row m60 (by simp only [List.mem_cons, List.not_mem_nil, or_false, not_or]; exact (nodup_ne HND.out 11 0 rfl rfl (by decide))), hw3.row m28 (by simp only [List.mem_cons, List.not_mem_nil, or_false, not_or]; exact (nodup_ne HND.out 6 0 rfl rfl (by decide)))⟩
              have HB3 : Hid (Below B w0 w3) := HB2.out.trans (hw3.below (Nat.le_trans hB HB2.out.size) (fun b hb => HGE.out b (by simp only [List.mem_cons, List.not_mem_nil, or_false] at hb ⊢; rcases hb with rfl; simp)))
              have HS3 : Hid (w3.rowIs S 49 39 (fun j => if j = 8 then .slice ao q cv else SF j)) := hS3
              have e15 : w3.cell? ⟨S, 15, none⟩ = some (.slice (some ⟨b51, 0, none⟩) 4 4) := (hS3.cell (i := 15) (by omega)).trans (congrArg some hSF.f15)
              have hNN : (n : Int) * (W : Int) = (N : Int) := by have := HNN.out; exact_mod_cast this
              have hN400 : N ≤ 400 := by have := HNN.out; rw [← this]; exact Nat.le_trans (Nat.mul_le_mul hn.2 hW2.2) (by omega)
              have mG := run_make_row' (P := Yba.prog) 36 47 (.int .u64 0) 8 Yba.underlying36 info47 rfl .i64 .i64 N (by omega) (by omega)
              have mK := run_make_row' (P := Yba.prog) 70 4 (.bool false) 1 Yba.underlying70 info4 rfl .i64 .i64 n (by omega) (by omega)
              have mL := run_make_row' (P := Yba.prog) 22 3 (.int .i64 0) 8 Yba.underlying22 info3 rfl .i64 .i64 n (by omega) (by omega)
              clear m0 m18 m20 m22 m44 m51 m54 m57 m60 m28 hS3 hown hw3 HR2 HB2 hSlt
              go_wp2
              clear e15
              go_loopw [155] (fun hv wr => ∃ h : Nat, h ≤ 4 ∧ hv = .int .i64 h ∧ Wrote [b51, b54, b57, b60] w3 wr ∧ (∃ F : Nat → Value, wr.rowIs b51 36 4 F ∧ (0 < h → ∃ br, F 0 = .slice (some ⟨br, 0, none⟩) N N ∧ w3.heap.size ≤ br ∧ wr.rowIs br 47 N (fun _ => .int .u64 0))) ∧ (∃ F : Nat → Value, wr.rowIs b54 70 4 F) ∧ (∃ F : Nat → Value, wr.rowIs b57 22 4 F) ∧ (∃ F : Nat → Value, wr.rowIs b60 22 4 F))
                (fun hv _ => 4 - (intOf hv).toNat)
              case atStart => exact ⟨0, Nat.zero_le _, rfl, Wrote.refl _ _, ⟨_, HR3.out.2.2.2.2.1, fun h => by omega⟩, ⟨_, HR3.out.2.2.2.2.2.1⟩, ⟨_, HR3.out.2.2.2.2.2.2.1⟩, ⟨_, HR3.out.2.2.2.2.2.2.2.1⟩⟩
              case round =>
                obtain ⟨h, hh, rfl, hw4, ⟨F1, q51, hq51⟩, ⟨F2, q54⟩, ⟨F3, q57⟩, ⟨F4, q60⟩⟩ := hrel
                have qS4 := hw4.row HS3.out (by simp only [List.mem_cons, List.not_mem_nil, or_false, not_or]; exact ⟨(nodup_ne HND.out 0 8 rfl rfl (by decide)), (nodup_ne HND.out 0 9 rfl rfl (by decide)), (nodup_ne HND.out 0 10 rfl rfl (by decide)), (nodup_ne HND.out 0 11 rfl rfl (by decide))⟩)
                by_cases hlt4 : h < 4
                · have e15 : wr.cell? ⟨S, 15, none⟩ = some (.slice (some ⟨b51, 0, none⟩) 4 4) := (qS4.cell (i := 15) (by omega)).trans (congrArg some hSF.f15)
                  have e16 : wr.cell? ⟨S, 16, none⟩ = some (.slice (some ⟨b54, 0, none⟩) 4 4) := (qS4.cell (i := 16) (by omega)).trans (congrArg some hSF.f16)
                  have e17 : wr.cell? ⟨S, 17, none⟩ = some (.slice (some ⟨b57, 0, none⟩) 4 4) := (qS4.cell (i := 17) (by omega)).trans (congrArg some hSF.f17)
                  have e24 : wr.cell? ⟨S, 24, none⟩ = some (.slice (some ⟨b60, 0, none⟩) 4 4) := (qS4.cell (i := 24) (by omega)).trans (congrArg some hSF.f24)
                  have p51 := q51.cell hlt4
                  have p54 := q54.cell hlt4
                  have p57 := q57.cell hlt4
                  have p60 := q60.cell hlt4
                  have z51 := q51.frozen h
                  have z54 := q54.frozen h
                  have z57 := q57.frozen h
                  have z60 := q60.frozen h
                  have l0 := qS4.lt
                  have l51 := q51.lt
                  have l54 := q54.lt
                  have l57 := q57.lt
                  have l60 := q60.lt
                  have y1S : S < wr.heap.size + 1 := by omega
                  have y2S : S < wr.heap.size + 1 + 1 := by omega
                  have y3S : S < wr.heap.size + 1 + 1 + 1 := by omega
                  have y4S : S < wr.heap.size + 1 + 1 + 1 + 1 := by omega
                  have y1b51 : b51 < wr.heap.size + 1 := by omega
                  have y2b51 : b51 < wr.heap.size + 1 + 1 := by omega
                  have y3b51 : b51 < wr.heap.size + 1 + 1 + 1 := by omega
                  have y4b51 : b51 < wr.heap.size + 1 + 1 + 1 + 1 := by omega
                  have y1b54 : b54 < wr.heap.size + 1 := by omega
                  have y2b54 : b54 < wr.heap.size + 1 + 1 := by omega
                  have y3b54 : b54 < wr.heap.size + 1 + 1 + 1 := by omega
                  have y4b54 : b54 < wr.heap.size + 1 + 1 + 1 + 1 := by omega
                  have y1b57 : b57 < wr.heap.size + 1 := by omega
                  have y2b57 : b57 < wr.heap.size + 1 + 1 := by omega
                  have y3b57 : b57 < wr.heap.size + 1 + 1 + 1 := by omega
                  have y4b57 : b57 < wr.heap.size + 1 + 1 + 1 + 1 := by omega
                  have y1b60 : b60 < wr.heap.size + 1 := by omega
                  have y2b60 : b60 < wr.heap.size + 1 + 1 := by omega
                  have y3b60 : b60 < wr.heap.size + 1 + 1 + 1 := by omega
                  have y4b60 : b60 < wr.heap.size + 1 + 1 + 1 + 1 := by omega
                  have x1 : S ≠ b51 := (nodup_ne HND.out 0 8 rfl rfl (by decide))
                  have x2 : S ≠ b54 := (nodup_ne HND.out 0 9 rfl rfl (by decide))
                  have x3 : S ≠ b57 := (nodup_ne HND.out 0 10 rfl rfl (by decide))
                  have x4 : S ≠ b60 := (nodup_ne HND.out 0 11 rfl rfl (by decide))
                  have x5 : b54 ≠ b51 := (nodup_ne HND.out 9 8 rfl rfl (by decide))
                  have x6 : b57 ≠ b51 := (nodup_ne HND.out 10 8 rfl rfl (by decide))
                  have x7 : b57 ≠ b54 := (nodup_ne HND.out 10 9 rfl rfl (by decide))
                  have x8 : b60 ≠ b51 := (nodup_ne HND.out 11 8 rfl rfl (by decide))
                  have x9 : b60 ≠ b54 := (nodup_ne HND.out 11 9 rfl rfl (by decide))
                  have x10 : b60 ≠ b57 := (nodup_ne HND.out 11 10 rfl rfl (by decide))
                  have HI7 : Hid (Wrote [b51, b54, b57, b60] w3 wr ∧ (wr.rowIs b51 36 4 F1 ∧ (0 < h → ∃ br, F1 0 = .slice (some ⟨br, 0, none⟩) N N ∧ w3.heap.size ≤ br ∧ wr.rowIs br 47 N (fun _ => .int .u64 0))) ∧ wr.rowIs b54 70 4 F2 ∧ wr.rowIs b57 22 4 F3 ∧ wr.rowIs b60 22 4 F4) := ⟨hw4, ⟨q51, hq51⟩, q54, q57, q60⟩
                  clear hw4 q51 hq51 q54 q57 q60 qS4
                  go_wp2
                  go_region
                  all_goals go_wp2
                  go_region
                  all_goals go_wp2
                  go_region
                  all_goals go_wp2
                  go_region
                  all_goals go_wp2
                  go_roundw
                  case rel =>
                    obtain ⟨g1, g2, g3, g4, g5⟩ := cov4_step x5 x6 x7 x8 x9 x10 HR3.out.2.2.2.2.1.lt HR3.out.2.2.2.2.2.1.lt HR3.out.2.2.2.2.2.2.1.lt HR3.out.2.2.2.2.2.2.2.1.lt HI7.out (v2 := .slice (some ⟨wr.heap.size + 1, 0, none⟩) n n) (v3 := .slice (some ⟨wr.heap.size + 1 + 1, 0, none⟩) n n) (v4 := .slice (some ⟨wr.heap.size + 1 + 1 + 1, 0, none⟩) n n) (o2 := .cells (madeCells #[.bool false] n) 4) (o3 := .cells (madeCells #[.int .i64 0] n) 3) (o4 := .cells (madeCells #[.int .i64 0] n) 3) rfl
                    exact ⟨h + 1, by omega, by go_num, g1.drew.drew.drew.drew, g2, g3, g4, g5⟩
                  case measure => simp [intOf]; omega
                · obtain ⟨br, hb1, hb2, hb3⟩ := hq51 (by omega)
                  obtain ⟨m18, m20, m22, m44, m51, m54, m57, m60, m28⟩ := HR3.out
                  have HE : Hid (CoverEnd n W N w0 B (.returned (.pointer (some ⟨S, 0, none⟩))) wr) := by
                    have t18 := hw4.row m18 (by simp only [List.mem_cons, List.not_mem_nil, or_false, not_or]; exact ⟨(nodup_ne HND.out 3 8 rfl rfl (by decide)), (nodup_ne HND.out 3 9 rfl rfl (by decide)), (nodup_ne HND.out 3 10 rfl rfl (by decide)), (nodup_ne HND.out 3 11 rfl rfl (by decide))⟩)
                    have t20 := hw4.row m20 (by simp only [List.mem_cons, List.not_mem_nil, or_false, not_or]; exact ⟨(nodup_ne HND.out 4 8 rfl rfl (by decide)), (nodup_ne HND.out 4 9 rfl rfl (by decide)), (nodup_ne HND.out 4 10 rfl rfl (by decide)), (nodup_ne HND.out 4 11 rfl rfl (by decide))⟩)
                    have t22 := hw4.row m22 (by simp only [List.mem_cons, List.not_mem_nil, or_false, not_or]; exact ⟨(nodup_ne HND.out 5 8 rfl rfl (by decide)), (nodup_ne HND.out 5 9 rfl rfl (by decide)), (nodup_ne HND.out 5 10 rfl rfl (by decide)), (nodup_ne HND.out 5 11 rfl rfl (by decide))⟩)
                    have t44 := hw4.row m44 (by simp only [List.mem_cons, List.not_mem_nil, or_false, not_or]; exact ⟨(nodup_ne HND.out 7 8 rfl rfl (by decide)), (nodup_ne HND.out 7 9 rfl rfl (by decide)), (nodup_ne HND.out 7 10 rfl rfl (by decide)), (nodup_ne HND.out 7 11 rfl rfl (by decide))⟩)
                    have t28 := hw4.row m28 (by simp only [List.mem_cons, List.not_mem_nil, or_false, not_or]; exact ⟨(nodup_ne HND.out 6 8 rfl rfl (by decide)), (nodup_ne HND.out 6 9 rfl rfl (by decide)), (nodup_ne HND.out 6 10 rfl rfl (by decide)), (nodup_ne HND.out 6 11 rfl rfl (by decide))⟩)
                    refine ⟨S, b18, b20, b22, b28, b51, br, b44, M2, rfl, ?_, ?_, ?_, ?_, ?_, ?_, ?_, ?_, ?_, ?_, ?_, ?_, ?_, t18, t20, t22, t28, hb3, t44⟩
                    · have l0 : S < w3.heap.size := HS3.out.lt
                      have hbr : ∀ b, b < w3.heap.size → br ≠ b := fun b hb => by omega
                      simp only [List.nodup_cons, List.mem_cons, List.not_mem_nil, or_false, not_or, List.nodup_nil, and_true, not_false_eq_true]
                      exact ⟨⟨(nodup_ne HND.out 0 3 rfl rfl (by decide)), (nodup_ne HND.out 0 4 rfl rfl (by decide)), (nodup_ne HND.out 0 5 rfl rfl (by decide)), (nodup_ne HND.out 0 6 rfl rfl (by decide)), (nodup_ne HND.out 0 8 rfl rfl (by decide)), (Ne.symm (hbr _ l0)), (nodup_ne HND.out 0 7 rfl rfl (by decide))⟩, ⟨(nodup_ne HND.out 3 4 rfl rfl (by decide)), (nodup_ne HND.out 3 5 rfl rfl (by decide)), (nodup_ne HND.out 3 6 rfl rfl (by decide)), (nodup_ne HND.out 3 8 rfl rfl (by decide)), (Ne.symm (hbr _ m18.lt)), (nodup_ne HND.out 3 7 rfl rfl (by decide))⟩, ⟨(nodup_ne HND.out 4 5 rfl rfl (by decide)), (nodup_ne HND.out 4 6 rfl rfl (by decide)), (nodup_ne HND.out 4 8 rfl rfl (by decide)), (Ne.symm (hbr _ m20.lt)), (nodup_ne HND.out 4 7 rfl rfl (by decide))⟩, ⟨(nodup_ne HND.out 5 6 rfl rfl (by decide)), (nodup_ne HND.out 5 8 rfl rfl (by decide)), (Ne.symm (hbr _ m22.lt)), (nodup_ne HND.out 5 7 rfl rfl (by decide))⟩, ⟨(nodup_ne HND.out 6 8 rfl rfl (by decide)), (Ne.symm (hbr _ m28.lt)), (nodup_ne HND.out 6 7 rfl rfl (by decide))⟩, ⟨(Ne.symm (hbr _ m51.lt)), (nodup_ne HND.out 8 7 rfl rfl (by decide))⟩, (hbr _ m44.lt)⟩
                    · intro b hb
                      simp only [List.mem_cons, List.not_mem_nil, or_false] at hb
                      rcases hb with rfl | rfl | rfl | rfl | rfl | rfl | rfl | rfl
                      · exact ⟨HGE.out _ (by simp), qS4.lt⟩
                      · exact ⟨HGE.out _ (by simp), t18.lt⟩
                      · exact ⟨HGE.out _ (by simp), t20.lt⟩
                      · exact ⟨HGE.out _ (by simp), t22.lt⟩
                      · exact ⟨HGE.out _ (by simp), t28.lt⟩
                      · exact ⟨HGE.out _ (by simp), q51.lt⟩
                      · exact ⟨Nat.le_trans (Nat.le_trans hB HB3.out.size) hb2, hb3.lt⟩
                      · exact ⟨HGE.out _ (by simp), t44.lt⟩
                    · exact HB3.out.trans (hw4.below (Nat.le_trans hB HB3.out.size) (fun b hb => HGE.out b (by simp only [List.mem_cons, List.not_mem_nil, or_false] at hb ⊢; rcases hb with rfl | rfl | rfl | rfl <;> simp)))
                    · exact (qS4.cell (i := 0) (by omega)).trans (congrArg some hSF.f0)
                    · exact (qS4.cell (i := 2) (by omega)).trans (congrArg some hSF.f2)
                    · exact (qS4.cell (i := 5) (by omega)).trans (congrArg some hSF.f5)
                    · exact (qS4.cell (i := 6) (by omega)).trans (congrArg some hSF.f6)
                    · exact (qS4.cell (i := 9) (by omega)).trans (congrArg some hSF.f9)
                    · exact (qS4.cell (i := 10) (by omega)).trans (congrArg some hSF.f10)
                    · exact (qS4.cell (i := 14) (by omega)).trans (congrArg some hSF.f14)
                    · exact (qS4.cell (i := 15) (by omega)).trans (congrArg some hSF.f15)
                    · exact (qS4.cell (i := 29) (by omega)).trans (congrArg some hSF.f29)
                    · exact (q51.cell (i := 0) (by omega)).trans (congrArg some hb1)
                  clear hb1 hb2 hb3 m18 m20 m22 m44 m51 m54 m57 m60 m28 hw4 q51 hq51 q54 q57 q60 qS4
                  go_wp2
                  go_ret
                  exact HE.out
end Go.Proofs.Ybulkbpwm
