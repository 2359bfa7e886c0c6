import Derived.Test.YbulkbptuPlain
import Derived.Test.YbulkbptuMeet
namespace Go.Proofs.Ybulkbptu
set_option linter.unusedVariables false
variable {M : Nat → Nat → Bool} {n m : Nat}

theorem met_of {d1 d2 : Nat} {lo1 hi1 blo bhi k : Int} {G B : Nat → Int} (hp : ((n : Int) - m - d1 - d2) % 2 = 0) (h1 : lo1 ≤ k) (h2 : k ≤ hi1) (h3 : blo ≤ k) (h4 : k ≤ bhi) (h5 : (k - d1) % 2 = 0) (h6 : B (k + m + 2).toNat ≤ G (k + m + 2).toNat) :
    Met n m d1 d2 lo1 hi1 ((n : Int) - m - bhi) ((n : Int) - m - blo) (fX m G) (bY n m B) k := by
  refine ⟨h1, h2, h5, by omega, by omega, by omega, ?_⟩
  unfold bY fX
  rw [show (n : Int) - m - ((n : Int) - m - k) + m + 2 = k + m + 2 by omega]
  omega
theorem met_le {d1 d2 : Nat} {lo1 hi1 lo2 hi2 k : Int} {G B : Nat → Int} (h : Met n m d1 d2 lo1 hi1 lo2 hi2 (fX m G) (bY n m B) k) : B (k + m + 2).toNat ≤ G (k + m + 2).toNat := by
  have := h.le
  unfold bY fX at this
  rw [show (n : Int) - m - ((n : Int) - m - k) + m + 2 = k + m + 2 by omega] at this
  omega
/-- What 'meeting' tells. -/
theorem meet_dec {d1 d2 l h : Nat} {lo1 hi1 blo bhi k : Int} {G B : Nat → Int} {ok : Bool} (hin : Inside M n m) (I1 : Inv M n m d1 lo1 hi1 (fX m G)) (I2 : Inv (rev M n m) n m d2 ((n : Int) - m - bhi) ((n : Int) - m - blo) (bY n m B)) (hp : ((n : Int) - m - d1 - d2) % 2 = 0)
    (hres : MeetRes G B ((m : Int) + 2) l h k ok) (hl : (l : Int) = max lo1 blo + m + 2) (hh : (h : Int) = min hi1 bhi + m + 2) (hD : (d1 : Int) + d2 ≤ Di M n m) :
    (ok = true ∧ Di M n m = d1 + d2 ∧ Met n m d1 d2 lo1 hi1 ((n : Int) - m - bhi) ((n : Int) - m - blo) (fX m G) (bY n m B) k ∧ 0 ≤ k + m + 2 ∧ k + m + 2 ≤ h) ∨ (ok = false ∧ Di M n m ≠ d1 + d2) := by
  have p1 := I1.phi
  have p2 := I2.plo
  have q1 := I1.lo_ge
  rcases hres with ⟨e1, e2, e3⟩ | ⟨e1, i, e2, e3, e4, e5, e6, e7⟩
  · refine .inr ⟨e1, fun hE => ?_⟩
    obtain ⟨k, hk⟩ := meet_ex hin I1 I2 hE
    have a1 := hk.a1
    have a2 := hk.a2
    have a3 := hk.a3
    have b1 := hk.b1
    have b2 := hk.b2
    have le := met_le hk
    have := e3 (k + m + 2).toNat (by omega) (by omega) (by omega)
    omega
  · have ek : (k + m + 2).toNat = i := by omega
    have hM : Met n m d1 d2 lo1 hi1 ((n : Int) - m - bhi) ((n : Int) - m - blo) (fX m G) (bY n m B) k := met_of hp (by omega) (by omega) (by omega) (by omega) (by omega) (by rw [ek]; exact e5)
    have := meet_le I1 I2 hM
    exact .inl ⟨e1, by omega, hM, by omega, by omega⟩
theorem meet_dec_empty {d1 d2 : Nat} {lo1 hi1 blo bhi : Int} {G B : Nat → Int} (hin : Inside M n m) (I1 : Inv M n m d1 lo1 hi1 (fX m G)) (I2 : Inv (rev M n m) n m d2 ((n : Int) - m - bhi) ((n : Int) - m - blo) (bY n m B)) (h : min hi1 bhi < max lo1 blo) : Di M n m ≠ d1 + d2 := fun hE => by
  obtain ⟨k, hk⟩ := meet_ex hin I1 I2 hE
  have a1 := hk.a1
  have a2 := hk.a2
  have b1 := hk.b1
  have b2 := hk.b2
  omega
/-- The distance has the parity of n - m. -/
theorem Di_parity (M : Nat → Nat → Bool) (n m : Nat) : (Di M n m - ((n : Int) - m)) % 2 = 0 := by
  unfold Di
  omega
end Go.Proofs.Ybulkbptu
