/-
  SEAT b6601308a: the law's tolerance; the law's shifts. No Go in sight.
-/
import Derived.Test.Qxb6601308aErr7
namespace Go.Proofs.Qxb6601308a
open Ieee

def mulW (x y : Nat) : Nat := (double.mul x y).getD 0
/-- 1e-7, 1e-300, 1e300 -/
def C7 : Nat := 4502148214488346440
def CL : Nat := 118622047889322841
def CH : Nat := 9094988921128908188

theorem CH_big : V CH ≤ (BIG : Int) := by
  have h : ∀ e, e = 2071 → BIG = 2 ^ e → sc (rungW CH) ≤ 2 ^ e := by
    intro e he _
    have e1 : sc (rungW CH) = (4503599627370496 + rungW CH % 4503599627370496) * 2 ^ (rungW CH / 4503599627370496 - 1) := by
      unfold sc
      rw [if_neg (by decide)]
    obtain ⟨f, hf⟩ : ∃ f, f = rungW CH / 4503599627370496 - 1 := ⟨_, rfl⟩
    have hf2 : f = 2018 := hf.trans (by decide)
    have e3 : 4503599627370496 + rungW CH % 4503599627370496 ≤ 2 ^ 53 := by decide
    have e4 : 2 ^ e = 2 ^ 53 * 2 ^ f := by
      clear e1 hf
      rw [← Nat.pow_add, show e = 53 + f by omega]
    rw [e1, ← hf, e4]
    exact Nat.mul_le_mul_right _ e3
  obtain ⟨e, he, hB⟩ := BIG_eq
  have := h e he hB
  rw [← hB] at this
  have e5 : V CH = (sc (rungW CH) : Int) := by
    unfold V sgI
    have : negW CH = false := by decide
    rw [this]
    rfl
  rw [e5]
  omega

theorem read_C7 : double.read C7 = .number false 7555786372591432 (-76) := by decide +kernel

theorem CL_ok : fin CL ∧ V CL = 202402253307310623424512 := by
  refine ⟨by unfold fin; decide, by decide +kernel⟩

theorem tol_num (s S : Nat) (h1 : s * 75557863725914323419136 * 9007199254740992 ≤ 7555786372591432 * S * 9007199254740992 + 7555786372591432 * S + 75557863725914323419136 * 4503599627370496)
    (h2 : 7555786372591432 * S * 9007199254740992 ≤ s * 75557863725914323419136 * 9007199254740992 + 7555786372591432 * S + 75557863725914323419136 * 4503599627370496) : s ≤ S + 1 ∧ S ≤ 33554432 * (s + 1) := by
  omega

theorem mul_tol (y S : Nat) (hy : fin y) (hV : V y = (S : Int)) (hS : S ≤ BIG) : double.mul C7 y = some (mulW C7 y) ∧ fin (mulW C7 y) ∧ 0 ≤ V (mulW C7 y) ∧ V (mulW C7 y) ≤ (S : Int) + 1 ∧ (S : Int) ≤ 33554432 * (V (mulW C7 y) + 1) := by
  obtain ⟨n, j, e2, hj, v2⟩ := read_fin y hy
  have hsc : sc (rungW y) = S := by have := V_abs y; rw [hV] at this; omega
  rw [hsc] at v2
  have hm : double.mul C7 y = some (double.nearest (negW y) (7555786372591432 * n) (-76 + j)) := by
    unfold Format.mul
    rw [read_C7, e2]
    show some (double.nearest (false ^^ negW y) (7555786372591432 * n) (-76 + j)) = _
    rw [Bool.false_xor]
  have em : mulW C7 y = double.nearest (negW y) (7555786372591432 * n) (-76 + j) := by unfold mulW; rw [hm]; rfl
  obtain ⟨a, ha⟩ : ∃ a, a = (j + 1074).toNat := ⟨_, rfl⟩
  rw [← ha] at v2
  have hND : 7555786372591432 * n * 2 ^ (-76 + j + 1074).toNat * 75557863725914323419136 = 7555786372591432 * S * 2 ^ (-(-76 + j + 1074)).toNat := by
    have e76 : (75557863725914323419136 : Nat) = 2 ^ 76 := by decide
    rw [e76, ← v2, Nat.mul_assoc, ← Nat.pow_add, ← Nat.mul_assoc, Nat.mul_assoc (7555786372591432 * n) (2 ^ a), ← Nat.pow_add]
    congr 2
    omega
  have hB := BIG_ge
  have hN : 7555786372591432 * S < 75557863725914323419136 * (67108864 * BIG) := by omega
  obtain ⟨ρ, r1, r2, r3, r4⟩ := nearest_gen (negW y) (7555786372591432 * n) (-76 + j) (7555786372591432 * S) 75557863725914323419136 hND hN
  have hw := key_word (negW y) ρ (by omega)
  have hVr : V (mulW C7 y) = sgI (negW y) (sc ρ) := by rw [em, r2, V_word _ _ (by omega)]
  have hn := tol_num (sc ρ) S r3 r4
  have hneg : sgI (negW y) (sc ρ) = (sc ρ : Int) := by
    unfold sgI
    cases hny : negW y with
    | false => rfl
    | true =>
      have h0 : S = 0 := by
        have : V y = -(sc (rungW y) : Int) := by unfold V sgI; rw [hny]; rfl
        rw [hV, hsc] at this
        omega
      subst h0
      have : sc ρ = 0 := by clear hn hND hN; omega
      rw [this]
      rfl
  rw [hneg] at hVr
  refine ⟨by rw [hm, em], by rw [em, r2]; unfold fin; rw [hw.2.2.1]; exact r1, ?_⟩
  rw [hVr]
  clear r3 r4 hND hN
  omega

/-- The tolerance: far above the errors, and no greater than it need be. -/
theorem tol_ok (y S : Nat) (hy : fin y) (hV : V y = (S : Int)) (hS : S ≤ BIG) : fin (addW (mulW C7 y) CL) ∧ 64 * (dl S : Int) ≤ V (addW (mulW C7 y) CL) ∧ V (addW (mulW C7 y) CL) ≤ 2 * (S : Int) + 302231454903657293676544 := by
  have hm := mul_tol y S hy hV hS
  have hc := CL_ok
  have hd : dl S ≤ S / 17179869184 + 134217728 := Nat.le_refl _
  have hdd := dl_le S
  have ha := add_dl S (mulW C7 y) CL hS hm.2.1 hc.1 (by omega)
  refine ⟨ha.1, by omega, by omega⟩
end Go.Proofs.Qxb6601308a
