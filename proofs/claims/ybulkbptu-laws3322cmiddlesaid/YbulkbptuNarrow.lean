import Derived.Test.YbulkbptuFew
namespace Go.Proofs.Ybulkbptu
open Go.ChangeShapes Go.WideShapes Go.ChangeAt Go.RowKit
set_option linter.unusedVariables false

/-- What 'narrow' leaves. -/
def Narrowed (lo hi : Int) (dr : Int → Bool) (lo2 hi2 : Int) : Prop :=
  lo ≤ lo2 ∧ lo2 ≤ hi2 ∧ hi2 ≤ hi ∧ (lo2 - lo) % 2 = 0 ∧ (hi - hi2) % 2 = 0 ∧ (∀ k, lo ≤ k → k < lo2 → (k - lo) % 2 = 0 → dr k = true) ∧ (∀ k, hi2 < k → k ≤ hi → (k - lo) % 2 = 0 → dr k = true)
set_option maxRecDepth 100000 in
set_option maxHeartbeats 4000000 in
theorem narrow20_any (p1 p2 p3 p4 p5 p6 p7 : Nat) (lo hi : Int) (dr : Int → Bool) (w : World) (hle : lo ≤ hi) (hpar : (hi - lo) % 2 = 0) (b1 : -5000 ≤ lo) (b2 : hi ≤ 5000)
    (hc : ∀ k q, lo ≤ k → k ≤ hi → (k - lo) % 2 = 0 → Calls Yba.prog 20 #[.int .i64 k, .pointer (some ⟨p1, 0, none⟩), .pointer (some ⟨p2, 0, none⟩), .pointer (some ⟨p3, 0, none⟩), .pointer (some ⟨p4, 0, none⟩), .pointer (some ⟨p5, 0, none⟩), .pointer (some ⟨p6, 0, none⟩), .pointer (some ⟨p7, 0, none⟩)] (w.drewN q) fun e w' => e = .returned (.bool (dr k)) ∧ ∃ q', w' = w.drewN q') :
    Calls Yba.prog 19 #[.int .i64 lo, .int .i64 hi, .func (.func 20) #[] #[.pointer (some ⟨p1, 0, none⟩), .pointer (some ⟨p2, 0, none⟩), .pointer (some ⟨p3, 0, none⟩), .pointer (some ⟨p4, 0, none⟩), .pointer (some ⟨p5, 0, none⟩), .pointer (some ⟨p6, 0, none⟩), .pointer (some ⟨p7, 0, none⟩)]] w fun e w' =>
      ∃ lo2 hi2, e = .returned (.tuple #[.int .i64 lo2, .int .i64 hi2]) ∧ Narrowed lo hi dr lo2 hi2 ∧ ∃ q, w' = w.drewN q := by
  have HC := Hid.mk' hc
  have HPAR := Hid.mk' hpar
  clear hc hpar
  go_enter Yba.func19, Yba.ntmps19
  go_upto_region 0 with fail
  go_cut [6, 7] from 6 to 7 (fun s6 s7 wc => w = wc)
  case first => as_aux_lemma =>
    go_wp2
    go_meet
    case rel => rfl
  case rest => as_aux_lemma =>
    subst hcut
    rename ∀ (a : Act) (w : World), Code.wp Yba.prog _ _ a w → _ => hK
    refine hK _ _ ?_
    clear hK
    refine wp_seq_k ?_
    intro KK hKK
    go_cut [0] from 8 to 17 (fun s0 wc => ∃ l, s0 = .int .i64 l ∧ lo ≤ l ∧ l ≤ hi ∧ Hid ((l - lo) % 2 = 0 ∧ ∀ k, lo ≤ k → k < l → (k - lo) % 2 = 0 → dr k = true) ∧ ∃ q, wc = w.drewN q)
    case first => as_aux_lemma =>
      go_wp2
      go_loopg [0] ((hi - lo).toNat + 1) (fun gk v0 wr => ∃ l, (hi - l).toNat + 1 = gk ∧ v0 = .int .i64 l ∧ lo ≤ l ∧ l ≤ hi ∧ Hid ((l - lo) % 2 = 0 ∧ ∀ k, lo ≤ k → k < l → (k - lo) % 2 = 0 → dr k = true) ∧ ∃ q, wr = w.drewN q)
      case atStart => exact ⟨lo, rfl, rfl, Int.le_refl _, hle, ⟨by simp, fun k h1 h2 => by omega⟩, 0, rfl⟩
      case round =>
        obtain ⟨l, hg, rfl, h1, h2, HL, q, rfl⟩ := hrel
        by_cases hlt : l < hi
        · go_wp2_with fail
          refine (HC.out l q h1 h2 HL.out.1).mono ?_
          rintro e wx ⟨rfl, q', rfl⟩
          cases hd : dr l with
          | true =>
            go_wp2
            go_roundg ((hi - (l + 2)).toNat + 1)
            case measure => have := HPAR.out; have := HL.out.1; omega
            case rel =>
              have p1 := HPAR.out
              have p2 := HL.out.1
              refine ⟨l + 2, rfl, by go_num, by omega, by omega, ⟨by omega, fun k k1 k2 k3 => ?_⟩, q', rfl⟩
              by_cases e : k = l
              · rw [e]; exact hd
              · exact HL.out.2 k k1 (by omega) k3
          | false =>
            go_wp2
            go_meet
            case rel => exact ⟨l, rfl, h1, h2, HL, q', rfl⟩
        · go_wp2
          go_meet
          case rel => exact ⟨l, rfl, h1, h2, HL, q, rfl⟩
    case rest => as_aux_lemma =>
      obtain ⟨l, rfl, h1, h2, HL, q0, rfl⟩ := hcut
      refine hKK _ _ ?_
      clear hKK KK
      go_wp2
      go_loopg [1] ((hi - l).toNat + 1) (fun gk v1 wr => ∃ h, (h - l).toNat + 1 = gk ∧ v1 = .int .i64 h ∧ l ≤ h ∧ h ≤ hi ∧ Hid ((hi - h) % 2 = 0 ∧ ∀ k, h < k → k ≤ hi → (k - lo) % 2 = 0 → dr k = true) ∧ ∃ q, wr = w.drewN q)
      case atStart => exact ⟨hi, rfl, rfl, h2, Int.le_refl _, ⟨by simp, fun k h1 h2 => by omega⟩, q0, rfl⟩
      case round =>
        obtain ⟨h, hg, rfl, h3, h4, HH, q, rfl⟩ := hrel
        by_cases hlt : l < h
        · go_wp2_with fail
          refine (HC.out h q (by omega) h4 (by have := HPAR.out; have := HH.out.1; omega)).mono ?_
          rintro e wx ⟨rfl, q', rfl⟩
          cases hd : dr h with
          | true =>
            go_wp2
            go_roundg ((h - 2 - l).toNat + 1)
            case measure => have := HPAR.out; have := HL.out.1; have := HH.out.1; omega
            case rel =>
              have p1 := HPAR.out
              have p2 := HL.out.1
              have p3 := HH.out.1
              refine ⟨h - 2, rfl, by go_num, by omega, by omega, ⟨by omega, fun k k1 k2 k3 => ?_⟩, q', rfl⟩
              by_cases e : k = h
              · rw [e]; exact hd
              · exact HH.out.2 k (by omega) k2 k3
          | false =>
            go_wp2
            go_ret2
            exact ⟨l, h, rfl, ⟨h1, h3, h4, HL.out.1, HH.out.1, HL.out.2, HH.out.2⟩, q', rfl⟩
        · go_wp2
          go_ret2
          exact ⟨l, h, rfl, ⟨h1, h3, h4, HL.out.1, HH.out.1, HL.out.2, HH.out.2⟩, q, rfl⟩
set_option maxRecDepth 100000 in
set_option maxHeartbeats 4000000 in
theorem narrow22_any (p1 p2 p3 p4 p5 p6 p7 : Nat) (lo hi : Int) (dr : Int → Bool) (w : World) (hle : lo ≤ hi) (hpar : (hi - lo) % 2 = 0) (b1 : -5000 ≤ lo) (b2 : hi ≤ 5000)
    (hc : ∀ k q, lo ≤ k → k ≤ hi → (k - lo) % 2 = 0 → Calls Yba.prog 22 #[.int .i64 k, .pointer (some ⟨p1, 0, none⟩), .pointer (some ⟨p2, 0, none⟩), .pointer (some ⟨p3, 0, none⟩), .pointer (some ⟨p4, 0, none⟩), .pointer (some ⟨p5, 0, none⟩), .pointer (some ⟨p6, 0, none⟩), .pointer (some ⟨p7, 0, none⟩)] (w.drewN q) fun e w' => e = .returned (.bool (dr k)) ∧ ∃ q', w' = w.drewN q') :
    Calls Yba.prog 19 #[.int .i64 lo, .int .i64 hi, .func (.func 22) #[] #[.pointer (some ⟨p1, 0, none⟩), .pointer (some ⟨p2, 0, none⟩), .pointer (some ⟨p3, 0, none⟩), .pointer (some ⟨p4, 0, none⟩), .pointer (some ⟨p5, 0, none⟩), .pointer (some ⟨p6, 0, none⟩), .pointer (some ⟨p7, 0, none⟩)]] w fun e w' =>
      ∃ lo2 hi2, e = .returned (.tuple #[.int .i64 lo2, .int .i64 hi2]) ∧ Narrowed lo hi dr lo2 hi2 ∧ ∃ q, w' = w.drewN q := by
  have HC := Hid.mk' hc
  have HPAR := Hid.mk' hpar
  clear hc hpar
  go_enter Yba.func19, Yba.ntmps19
  go_upto_region 0 with fail
  go_cut [6, 7] from 6 to 7 (fun s6 s7 wc => w = wc)
  case first => as_aux_lemma =>
    go_wp2
    go_meet
    case rel => rfl
  case rest => as_aux_lemma =>
    subst hcut
    rename ∀ (a : Act) (w : World), Code.wp Yba.prog _ _ a w → _ => hK
    refine hK _ _ ?_
    clear hK
    refine wp_seq_k ?_
    intro KK hKK
    go_cut [0] from 8 to 17 (fun s0 wc => ∃ l, s0 = .int .i64 l ∧ lo ≤ l ∧ l ≤ hi ∧ Hid ((l - lo) % 2 = 0 ∧ ∀ k, lo ≤ k → k < l → (k - lo) % 2 = 0 → dr k = true) ∧ ∃ q, wc = w.drewN q)
    case first => as_aux_lemma =>
      go_wp2
      go_loopg [0] ((hi - lo).toNat + 1) (fun gk v0 wr => ∃ l, (hi - l).toNat + 1 = gk ∧ v0 = .int .i64 l ∧ lo ≤ l ∧ l ≤ hi ∧ Hid ((l - lo) % 2 = 0 ∧ ∀ k, lo ≤ k → k < l → (k - lo) % 2 = 0 → dr k = true) ∧ ∃ q, wr = w.drewN q)
      case atStart => exact ⟨lo, rfl, rfl, Int.le_refl _, hle, ⟨by simp, fun k h1 h2 => by omega⟩, 0, rfl⟩
      case round =>
        obtain ⟨l, hg, rfl, h1, h2, HL, q, rfl⟩ := hrel
        by_cases hlt : l < hi
        · go_wp2_with fail
          refine (HC.out l q h1 h2 HL.out.1).mono ?_
          rintro e wx ⟨rfl, q', rfl⟩
          cases hd : dr l with
          | true =>
            go_wp2
            go_roundg ((hi - (l + 2)).toNat + 1)
            case measure => have := HPAR.out; have := HL.out.1; omega
            case rel =>
              have p1 := HPAR.out
              have p2 := HL.out.1
              refine ⟨l + 2, rfl, by go_num, by omega, by omega, ⟨by omega, fun k k1 k2 k3 => ?_⟩, q', rfl⟩
              by_cases e : k = l
              · rw [e]; exact hd
              · exact HL.out.2 k k1 (by omega) k3
          | false =>
            go_wp2
            go_meet
            case rel => exact ⟨l, rfl, h1, h2, HL, q', rfl⟩
        · go_wp2
          go_meet
          case rel => exact ⟨l, rfl, h1, h2, HL, q, rfl⟩
    case rest => as_aux_lemma =>
      obtain ⟨l, rfl, h1, h2, HL, q0, rfl⟩ := hcut
      refine hKK _ _ ?_
      clear hKK KK
      go_wp2
      go_loopg [1] ((hi - l).toNat + 1) (fun gk v1 wr => ∃ h, (h - l).toNat + 1 = gk ∧ v1 = .int .i64 h ∧ l ≤ h ∧ h ≤ hi ∧ Hid ((hi - h) % 2 = 0 ∧ ∀ k, h < k → k ≤ hi → (k - lo) % 2 = 0 → dr k = true) ∧ ∃ q, wr = w.drewN q)
      case atStart => exact ⟨hi, rfl, rfl, h2, Int.le_refl _, ⟨by simp, fun k h1 h2 => by omega⟩, q0, rfl⟩
      case round =>
        obtain ⟨h, hg, rfl, h3, h4, HH, q, rfl⟩ := hrel
        by_cases hlt : l < h
        · go_wp2_with fail
          refine (HC.out h q (by omega) h4 (by have := HPAR.out; have := HH.out.1; omega)).mono ?_
          rintro e wx ⟨rfl, q', rfl⟩
          cases hd : dr h with
          | true =>
            go_wp2
            go_roundg ((h - 2 - l).toNat + 1)
            case measure => have := HPAR.out; have := HL.out.1; have := HH.out.1; omega
            case rel =>
              have p1 := HPAR.out
              have p2 := HL.out.1
              have p3 := HH.out.1
              refine ⟨h - 2, rfl, by go_num, by omega, by omega, ⟨by omega, fun k k1 k2 k3 => ?_⟩, q', rfl⟩
              by_cases e : k = h
              · rw [e]; exact hd
              · exact HH.out.2 k (by omega) k2 k3
          | false =>
            go_wp2
            go_ret2
            exact ⟨l, h, rfl, ⟨h1, h3, h4, HL.out.1, HH.out.1, HL.out.2, HH.out.2⟩, q', rfl⟩
        · go_wp2
          go_ret2
          exact ⟨l, h, rfl, ⟨h1, h3, h4, HL.out.1, HH.out.1, HL.out.2, HH.out.2⟩, q, rfl⟩
end Go.Proofs.Ybulkbptu
