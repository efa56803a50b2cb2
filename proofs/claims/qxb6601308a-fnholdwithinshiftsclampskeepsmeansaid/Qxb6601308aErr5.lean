/-
  SEAT b6601308a: means of doubles, and the halving's last step. No Go in sight.
-/
import Derived.Test.Qxb6601308aErr4
namespace Go.Proofs.Qxb6601308a
open Ieee

theorem negW_word (r : Nat) (h : r ≤ INF) : negW (double.word false r) = false := by
  have e : double.word false r = r := rfl
  rw [e]
  unfold INF at h
  unfold negW
  have : r / 9223372036854775808 % 2 = 0 := by omega
  rw [this]
  rfl

theorem sc_len (n d : Nat) (hd : d = 1074) (h0 : 0 < n) (h1 : n ≤ 131072) : sc (rungOf (n * 2 ^ d)) = n * 2 ^ d := by
  have hlog : n.log2 ≤ 17 := by
    rcases Nat.lt_or_ge 17 n.log2 with k | k
    · exfalso
      have h2 := Nat.log2_self_le (show n ≠ 0 by omega)
      have h3 : 2 ^ 18 ≤ 2 ^ n.log2 := Nat.pow_le_pow_right (by omega) k
      have h4 : (2 : Nat) ^ 18 = 262144 := by decide
      rw [h4] at h3
      exact absurd (Nat.le_trans h3 h2) (by omega)
    · exact k
  have hf := (rung_len n d hd h0 h1).1
  have hM : n * 2 ^ d ≠ 0 := Nat.mul_ne_zero (by omega) (Nat.ne_of_gt (Nat.two_pow_pos d))
  have hlM := log2_mul_pow n d (by omega)
  have hkb := kept_bd (n * 2 ^ d) hM (by rw [hlM]; omega)
  have e : rungOf (n * 2 ^ d) = ((n * 2 ^ d).log2 - 52) * 4503599627370496 + rne (n * 2 ^ d) ((n * 2 ^ d).log2 - 52) := by
    unfold rungOf at hf ⊢
    rw [if_neg hM] at hf ⊢
    omega
  rw [e, sc_kept _ _ hkb.2 (.inr hkb.1), hlM, rne_mul_ge _ _ _ (by omega), Nat.mul_assoc, ← Nat.pow_add]
  congr 2
  omega

theorem len_val (n : Nat) (h0 : 0 < n) (h1 : n ≤ 131072) : ∃ e, e = 1074 ∧ sc (rungW (floatOfInt .f64 n)) = n * 2 ^ e ∧ negW (floatOfInt .f64 n) = false := by
  have hN := nearest_eq false n 0 (by omega)
  obtain ⟨d, hd⟩ : ∃ d, d = ((0 : Int) + 1074).toNat := ⟨_, rfl⟩
  rw [← hd] at hN
  have hdv : d = 1074 := hd
  clear hd
  have hk := key_word false (rungOf (n * 2 ^ d)) (rungOf_le _)
  refine ⟨d, hdv, ?_, ?_⟩
  · rw [floatOfInt_nat, hN, hk.2.2.1]
    exact sc_len n d hdv h0 h1
  · rw [floatOfInt_nat, hN]
    exact negW_word _ (rungOf_le _)

theorem V_abs (x : Nat) : (V x).natAbs = sc (rungW x) := by unfold V sgI; cases negW x <;> simp

theorem div_small (R s : Int) (n P a : Nat) (h : R * 4503599627370496 ≤ s * 4503599627370496 + a + (n : Int) * 4503599627370496) (ha : a ≤ 17179869184 * P + P) (hP : n * 134217728 ≤ P) : R ≤ s + P := by
  omega

theorem mean_err (zs : List Nat) (S : Nat) (hS : S ≤ BIG) (h0 : 0 < zs.length) (hn : zs.length ≤ 131072) (hf : ∀ i, i < zs.length → fin (zs.getD i 0)) (h : ∀ i, i < zs.length → (V (zs.getD i 0)).natAbs ≤ S) :
    fin (meanW zs) ∧ V (meanW zs) * (zs.length : Int) ≤ sumV zs + 2 * (zs.length * dl S : Nat) ∧ sumV zs ≤ V (meanW zs) * (zs.length : Int) + 2 * (zs.length * dl S : Nat) := by
  have hs := sum_err zs S hS hn hf h zs.length (Nat.le_refl _)
  have hb := sumV_bound zs S h zs.length (Nat.le_refl _)
  rw [List.take_length] at hs hb
  obtain ⟨e, he, hv, hng⟩ := len_val zs.length h0 hn
  have g1 : zs.length * S ≤ 131072 * S := Nat.mul_le_mul_right _ hn
  have g2 : zs.length * dl S ≤ 131072 * dl S := Nat.mul_le_mul_right _ hn
  have g3 : 131072 * dl S ≤ S + 35184372088832 := by unfold dl; omega
  have g4 : zs.length * S ≤ zs.length * (17179869184 * dl S) := Nat.mul_le_mul_left _ (dl_S S)
  have g5 : zs.length * 134217728 ≤ zs.length * dl S := Nat.mul_le_mul_left _ (dl_pos S)
  have e4 : zs.length * (17179869184 * dl S) = 17179869184 * (zs.length * dl S) := Nat.mul_left_comm _ _ _
  rw [e4] at g4
  have hB := BIG_ge
  obtain ⟨P, hP⟩ : ∃ P, P = zs.length * dl S := ⟨_, rfl⟩
  rw [← hP] at hs g2 g4 g5 ⊢
  have ha : (V (sumW zs)).natAbs ≤ 17179869184 * P + P := by omega
  have hlt : sc (rungW (sumW zs)) < 33554432 * BIG := by rw [← V_abs]; omega
  have hd := div_ok (sumW zs) (floatOfInt .f64 zs.length) zs.length e hs.1 (len_float _ h0 hn).1 hng he h0 hv hlt
  have em : meanW zs = divW (sumW zs) (floatOfInt .f64 zs.length) := rfl
  rw [em]
  have d1 := div_small _ _ _ P _ hd.2.2.1 ha g5
  have d2 := div_small _ _ _ P _ hd.2.2.2 ha g5
  refine ⟨hd.2.1, by omega, by omega⟩
end Go.Proofs.Qxb6601308a
