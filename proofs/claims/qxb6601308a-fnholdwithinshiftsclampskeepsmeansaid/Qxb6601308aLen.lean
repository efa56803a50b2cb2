/-
  SEAT b6601308a: a length as a double.
-/
import Derived.Test.Qxb6601308aMean
namespace Go.Proofs.Qxb6601308a

theorem floatOfInt_nat (n : Nat) : floatOfInt .f64 n = Ieee.double.nearest false n 0 := by
  have e : decide ((n : Int) < 0) = false := decide_eq_false (by omega)
  unfold floatOfInt FloatKind.nearest FloatKind.encode Ieee.Format.write
  simp only [e, Int.natAbs_natCast]
  rfl

theorem rung_len (n d : Nat) (hd : d = 1074) (h0 : 0 < n) (h1 : n ≤ 131072) : rungOf (n * 2 ^ d) < INF ∧ rungOf (n * 2 ^ d) ≠ 0 := by
  have hlog : n.log2 ≤ 17 := by
    rcases Nat.lt_or_ge 17 n.log2 with k | k
    · exfalso
      have h2 := Nat.log2_self_le (show n ≠ 0 by omega)
      have h3 : 2 ^ 18 ≤ 2 ^ n.log2 := Nat.pow_le_pow_right (by omega) k
      have h4 : (2 : Nat) ^ 18 = 262144 := by decide
      rw [h4] at h3
      exact absurd (Nat.le_trans h3 h2) (by omega)
    · exact k
  have hM : n * 2 ^ d ≠ 0 := Nat.mul_ne_zero (by omega) (Nat.ne_of_gt (Nat.two_pow_pos d))
  have hlM := log2_mul_pow n d (by omega)
  have hkb := kept_bd (n * 2 ^ d) hM (by rw [hlM]; omega)
  unfold rungOf
  rw [if_neg hM]
  obtain ⟨kk, hkk⟩ : ∃ kk, kk = rne (n * 2 ^ d) ((n * 2 ^ d).log2 - 52) := ⟨_, rfl⟩
  rw [← hkk] at hkb ⊢
  rw [hlM]
  obtain ⟨L, hL⟩ : ∃ L, L = n.log2 + d - 52 := ⟨_, rfl⟩
  rw [← hL]
  have hL1 : L ≤ 1039 := by omega
  clear hkk hlM hM hL hd
  unfold INF
  omega

theorem len_float (n : Nat) (h0 : 0 < n) (h1 : n ≤ 131072) : fin (floatOfInt .f64 n) ∧ rungW (floatOfInt .f64 n) ≠ 0 := by
  have hN := nearest_eq false n 0 (by omega)
  obtain ⟨d, hd⟩ : ∃ d, d = ((0 : Int) + 1074).toNat := ⟨_, rfl⟩
  rw [← hd] at hN
  have hdv : d = 1074 := hd
  clear hd
  rw [floatOfInt_nat, hN]
  have hr := rung_len n d hdv h0 h1
  have hk := key_word false (rungOf (n * 2 ^ d)) (rungOf_le _)
  unfold fin
  rw [hk.2.2.1]
  exact hr

end Go.Proofs.Qxb6601308a
