/-
  SEAT b6601308a: rounding to a double: as a function on whole numbers, and that it keeps the order. No Go in sight.
-/
import Derived.Test.Qxb6601308aFlt
namespace Go.Proofs.Qxb6601308a
open Ieee

/-- 'n / 2 ^ d', to the nearest, ties to even. -/
def rne (n d : Nat) : Nat := n / 2 ^ d + (if 2 ^ d < 2 * (n % 2 ^ d) ∨ (2 ^ d = 2 * (n % 2 ^ d) ∧ n / 2 ^ d % 2 = 1) then 1 else 0)

theorem cut_small (neg : Bool) (n d : Nat) (h : d ≤ n.log2 + 2) : Toward.even.cut neg n d = rne n d := by
  unfold Toward.cut rne
  simp only [Nat.min_eq_left h, Nat.shiftLeft_eq, Nat.one_mul]
  congr 1
  by_cases h1 : 2 ^ d < 2 * (n % 2 ^ d)
  · simp [h1]
  · by_cases h2 : 2 ^ d = 2 * (n % 2 ^ d)
    · by_cases h3 : n / 2 ^ d % 2 = 1
      · rw [if_pos (.inr ⟨h2, h3⟩)]
        have : ((2 ^ d : Nat) == 2 * (n % 2 ^ d)) = true := by simpa using h2
        simp [this, h3]
      · rw [if_neg (by intro k; rcases k with k | k; exact h1 k; exact h3 k.2)]
        simp [h1, h3]
    · rw [if_neg (by intro k; rcases k with k | k; exact h1 k; exact h2 k.1)]
      simp [h1, h2]

theorem cut_even (neg : Bool) (n d : Nat) : Toward.even.cut neg n d = rne n d := by
  by_cases h : d ≤ n.log2 + 2
  · exact cut_small neg n d h
  · have hlt : n < 2 ^ (n.log2 + 1) := Nat.lt_log2_self
    have e : Toward.even.cut neg n d = Toward.even.cut neg n (n.log2 + 2) := by
      unfold Toward.cut
      rw [Nat.min_eq_right (by omega), Nat.min_eq_right (Nat.le_refl _)]
    rw [e, cut_small neg n _ (Nat.le_refl _)]
    have key : ∀ k, n.log2 + 2 ≤ k → rne n k = 0 := by
      intro k hk
      have h1 : 2 ^ (n.log2 + 2) ≤ 2 ^ k := Nat.pow_le_pow_right (by omega) hk
      have h2 : 2 ^ (n.log2 + 2) = 2 ^ (n.log2 + 1) * 2 := Nat.pow_succ _ _
      unfold rne
      rw [Nat.div_eq_of_lt (by omega), Nat.mod_eq_of_lt (by omega), if_neg (by omega)]
    rw [key _ (Nat.le_refl _), key d (by omega)]

theorem rne_zero (n : Nat) : rne n 0 = n := by
  unfold rne
  simp [Nat.mod_one]

/-- A factor of the divisor's kind falls out. -/
theorem rne_mul (m k d : Nat) (h : k ≤ d) : rne (m * 2 ^ k) d = rne m (d - k) := by
  obtain ⟨e, rfl⟩ : ∃ e, d = k + e := ⟨d - k, by omega⟩
  have hp := Nat.two_pow_pos k
  have e1 : k + e - k = e := by omega
  rw [e1]
  unfold rne
  have e2 : 2 ^ (k + e) = 2 ^ e * 2 ^ k := by rw [Nat.pow_add, Nat.mul_comm]
  rw [e2, Nat.mul_div_mul_right _ _ hp, Nat.mul_mod_mul_right]
  have e3 : 2 * (m % 2 ^ e * 2 ^ k) = 2 * (m % 2 ^ e) * 2 ^ k := by rw [Nat.mul_assoc]
  rw [e3]
  have i1 : 2 ^ e * 2 ^ k < 2 * (m % 2 ^ e) * 2 ^ k ↔ 2 ^ e < 2 * (m % 2 ^ e) := Nat.mul_lt_mul_right hp
  have i2 : 2 ^ e * 2 ^ k = 2 * (m % 2 ^ e) * 2 ^ k ↔ 2 ^ e = 2 * (m % 2 ^ e) := Nat.mul_left_inj (by omega)
  simp only [i1, i2]

theorem rne_mul_ge (m k d : Nat) (h : d ≤ k) : rne (m * 2 ^ k) d = m * 2 ^ (k - d) := by
  obtain ⟨e, rfl⟩ : ∃ e, k = e + d := ⟨k - d, by omega⟩
  have e1 : e + d - d = e := by omega
  rw [e1, Nat.pow_add, ← Nat.mul_assoc, rne_mul _ d d (Nat.le_refl _), Nat.sub_self, rne_zero]

/-- It does not go down as its number goes up. -/
theorem rne_mono {m n : Nat} (d : Nat) (h : m ≤ n) : rne m d ≤ rne n d := by
  have hp := Nat.two_pow_pos d
  unfold rne
  rcases Nat.lt_or_ge (m / 2 ^ d) (n / 2 ^ d) with h1 | h1
  · split <;> split <;> omega
  · have h2 : m / 2 ^ d = n / 2 ^ d := Nat.le_antisymm (Nat.div_le_div_right h) h1
    have m1 := Nat.div_add_mod m (2 ^ d)
    have m2 := Nat.div_add_mod n (2 ^ d)
    rw [h2] at m1
    rw [h2]
    have h3 : m % 2 ^ d ≤ n % 2 ^ d := by omega
    split
    · rename_i k
      rw [if_pos (by
        rcases k with k | k
        · exact .inl (by omega)
        · by_cases k2 : 2 ^ d < 2 * (n % 2 ^ d)
          · exact .inl k2
          · exact .inr ⟨by omega, k.2⟩)]
      exact Nat.le_refl _
    · split <;> omega

theorem rne_le (n d : Nat) : n / 2 ^ d ≤ rne n d ∧ rne n d ≤ n / 2 ^ d + 1 := by
  unfold rne
  split <;> omega

/-- The rung of the double nearest to a magnitude. -/
def rungOf (M : Nat) : Nat := if M = 0 then 0 else min ((M.log2 - 52) * 4503599627370496 + rne M (M.log2 - 52)) INF

theorem rungOf_le (M : Nat) : rungOf M ≤ INF := by
  unfold rungOf
  split
  · exact Nat.zero_le _
  · exact Nat.min_le_right _ _

/-- Where the kept digits lie. -/
theorem kept_bd (M : Nat) (h : M ≠ 0) (h52 : 52 ≤ M.log2) : 4503599627370496 ≤ rne M (M.log2 - 52) ∧ rne M (M.log2 - 52) ≤ 9007199254740992 := by
  obtain ⟨L, hL⟩ : ∃ L, M.log2 = L + 52 := ⟨M.log2 - 52, by omega⟩
  have h1 : 2 ^ (L + 52) ≤ M := by rw [← hL]; exact Nat.log2_self_le h
  have h2 : M < 2 ^ (L + 53) := by have := @Nat.lt_log2_self M; rw [hL] at this; exact this
  have e : M.log2 - 52 = L := by omega
  rw [e]
  have hp := Nat.two_pow_pos L
  have e1 : 2 ^ (L + 52) = 4503599627370496 * 2 ^ L := by rw [Nat.pow_add, Nat.mul_comm]
  have e2 : 2 ^ (L + 53) = 9007199254740992 * 2 ^ L := by rw [Nat.pow_add, Nat.mul_comm]
  rw [e1] at h1
  rw [e2] at h2
  have h3 : 4503599627370496 ≤ M / 2 ^ L := (Nat.le_div_iff_mul_le hp).2 h1
  have h4 : M / 2 ^ L < 9007199254740992 := (Nat.div_lt_iff_lt_mul hp).2 h2
  have := rne_le M L
  omega

theorem rungOf_mono {M N : Nat} (h : M ≤ N) : rungOf M ≤ rungOf N := by
  unfold rungOf
  by_cases hM : M = 0
  · rw [if_pos hM]; exact Nat.zero_le _
  have hN : N ≠ 0 := by omega
  rw [if_neg hM, if_neg hN]
  have hlog : M.log2 ≤ N.log2 := by
    have h1 := Nat.log2_self_le hM
    have h2 := @Nat.lt_log2_self N
    rcases Nat.lt_or_ge N.log2 M.log2 with k | k
    · exfalso
      have : 2 ^ (N.log2 + 1) ≤ 2 ^ M.log2 := Nat.pow_le_pow_right (by omega) k
      omega
    · exact k
  have hr : (M.log2 - 52) * 4503599627370496 + rne M (M.log2 - 52) ≤ (N.log2 - 52) * 4503599627370496 + rne N (N.log2 - 52) := by
    by_cases e : M.log2 - 52 = N.log2 - 52
    · rw [e]
      have := rne_mono (N.log2 - 52) h
      omega
    · have hN52 : 52 ≤ N.log2 := by omega
      have kN := kept_bd N hN hN52
      by_cases hM52 : 52 ≤ M.log2
      · have kM := kept_bd M hM hM52
        omega
      · have e0 : M.log2 - 52 = 0 := by omega
        rw [e0, rne_zero]
        have h2 := @Nat.lt_log2_self M
        have : 2 ^ (M.log2 + 1) ≤ 2 ^ 52 := Nat.pow_le_pow_right (by omega) (by omega)
        have e52 : (2 : Nat) ^ 52 = 4503599627370496 := by decide
        omega
  omega

theorem log2_mul_pow (m d : Nat) (h : m ≠ 0) : (m * 2 ^ d).log2 = m.log2 + d := by
  have hp := Nat.two_pow_pos d
  refine (Nat.log2_eq_iff (by exact Nat.mul_ne_zero h (by omega))).2 ⟨?_, ?_⟩
  · rw [Nat.pow_add]; exact Nat.mul_le_mul_right _ (Nat.log2_self_le h)
  · have e : m.log2 + d + 1 = (m.log2 + 1) + d := by omega
    rw [e, Nat.pow_add]
    exact Nat.mul_lt_mul_of_pos_right Nat.lt_log2_self hp

theorem nearest_eq (neg : Bool) (m : Nat) (p : Int) (hp : -1074 ≤ p) : double.nearest neg m p = double.word neg (rungOf (m * 2 ^ (p + 1074).toNat)) := by
  unfold Format.nearest rungOf
  by_cases hm : m = 0
  · rw [if_pos hm, if_pos (by simp [hm])]
  · have hd := Nat.two_pow_pos (p + 1074).toNat
    rw [if_neg hm, if_neg (Nat.mul_ne_zero hm (by omega))]
    obtain ⟨d, hdd⟩ : ∃ d : Nat, p = (d : Int) - 1074 := ⟨(p + 1074).toNat, by omega⟩
    subst hdd
    have e0 : ((d : Int) - 1074 + 1074).toNat = d := by omega
    rw [e0, log2_mul_pow m d hm, dbl_least, dbl_binade, dbl_inf]
    show double.word neg (min (((max ((d : Int) - 1074 + (m.log2 : Int) - 52) (-1074)) - -1074).toNat * 4503599627370496 + Toward.even.cut neg (m <<< ((d : Int) - 1074 - max ((d : Int) - 1074 + (m.log2 : Int) - 52) (-1074)).toNat) (max ((d : Int) - 1074 + (m.log2 : Int) - 52) (-1074) - ((d : Int) - 1074)).toNat) INF) = _
    obtain ⟨L, hL⟩ : ∃ L, m.log2 + d - 52 = L := ⟨_, rfl⟩
    have e1 : ((max ((d : Int) - 1074 + (m.log2 : Int) - 52) (-1074)) - -1074).toNat = L := by omega
    have e2 : ((d : Int) - 1074 - max ((d : Int) - 1074 + (m.log2 : Int) - 52) (-1074)).toNat = d - L := by omega
    have e3 : (max ((d : Int) - 1074 + (m.log2 : Int) - 52) (-1074) - ((d : Int) - 1074)).toNat = L - d := by omega
    rw [e1, e2, e3, hL, Nat.shiftLeft_eq]
    rw [cut_even neg _ _]
    congr 3
    by_cases hdl : d ≤ L
    · rw [show d - L = 0 by omega, Nat.pow_zero, Nat.mul_one, rne_mul m d L hdl]
    · rw [show L - d = 0 by omega, rne_zero, rne_mul_ge m d L (by omega)]

/-- The key of what a whole number is rounded to. -/
def rk (N : Int) : Int := sgI (decide (N < 0)) (rungOf N.natAbs)

theorem rk_mono {M N : Int} (h : M ≤ N) : rk M ≤ rk N := by
  unfold rk sgI
  by_cases h1 : M < 0
  · by_cases h2 : N < 0
    · have := rungOf_mono (show N.natAbs ≤ M.natAbs by omega)
      simp [h1, h2]; omega
    · simp [h1, h2]
      try omega
  · have h2 : ¬ N < 0 := by omega
    have := rungOf_mono (show M.natAbs ≤ N.natAbs by omega)
    simp [h1, h2]; omega

theorem key_word (neg : Bool) (r : Nat) (h : r ≤ INF) : key (double.word neg r) = sgI neg r ∧ nn (double.word neg r) ∧ rungW (double.word neg r) = r ∧ double.word neg r < 18446744073709551616 := by
  unfold INF at h
  have e : double.word neg r = if neg then 9223372036854775808 + r else r := rfl
  rw [e]
  unfold key nn sgI rungW negW INF
  cases neg with
  | true =>
    have h1 : (9223372036854775808 + r) / 9223372036854775808 % 2 = 1 := by omega
    have h2 : (9223372036854775808 + r) % 9223372036854775808 = r := by omega
    simp only [if_true, h1, h2]
    refine ⟨?_, h, trivial, by omega⟩
    simp
  | false =>
    have h1 : r / 9223372036854775808 % 2 = 0 := by omega
    have h2 : r % 9223372036854775808 = r := by omega
    simp only [Bool.false_eq_true, if_false, h1, h2]
    refine ⟨?_, h, trivial, by omega⟩
    simp

theorem sum_key (s t : Bool) (m n : Nat) (i j : Int) (hi : -1074 ≤ i) (hj : -1074 ≤ j) :
    ∃ r, ((Datum.number s m i).sum (.number t n j)).map double.write = some r ∧ key r = rk (sgI s (m * 2 ^ (i + 1074).toNat) + sgI t (n * 2 ^ (j + 1074).toNat)) ∧ nn r ∧ r < 18446744073709551616 := by
  have b1 := base_mul s m i (min i j) (by omega) (by omega)
  have b2 := base_mul t n j (min i j) (by omega) (by omega)
  obtain ⟨T, hT⟩ : ∃ T, T = signed s m (i - min i j).toNat + signed t n (j - min i j).toNat := ⟨_, rfl⟩
  have hp : 0 < 2 ^ (min i j + 1074).toNat := Nat.two_pow_pos _
  obtain ⟨c, hc⟩ : ∃ c : Nat, c = 2 ^ (min i j + 1074).toNat := ⟨_, rfl⟩
  rw [← hc] at b1 b2 hp
  have hV : sgI s (m * 2 ^ (i + 1074).toNat) + sgI t (n * 2 ^ (j + 1074).toNat) = T * (c : Int) := by rw [← b1, ← b2, hT, Int.add_mul]
  rw [hV]
  have hw : ((Datum.number s m i).sum (.number t n j)).map double.write = some (double.nearest (if T = 0 then s && t else decide (T < 0)) T.natAbs (min i j)) := by rw [hT]; rfl
  rw [hw, nearest_eq _ _ _ (by omega), ← hc]
  have hk := key_word (if T = 0 then s && t else decide (T < 0)) (rungOf (T.natAbs * c)) (rungOf_le _)
  refine ⟨_, rfl, ?_, hk.2.1, hk.2.2.2⟩
  rw [hk.1]
  unfold rk
  have ha : (T * (c : Int)).natAbs = T.natAbs * c := by rw [Int.natAbs_mul]; rfl
  rw [ha]
  by_cases h0 : T = 0
  · rw [if_pos h0, h0]
    simp [rungOf, sgI]
  · rw [if_neg h0]
    congr 2
    have hcp : (0 : Int) < (c : Int) := by omega
    by_cases h1 : T < 0
    · have : T * (c : Int) < 0 := Int.mul_neg_of_neg_of_pos h1 hcp
      simp [h1, this]
    · have : ¬ T * (c : Int) < 0 := by have := Int.mul_nonneg (show 0 ≤ T by omega) (show (0 : Int) ≤ c by omega); omega
      simp [h1, this]

theorem add_key (x y : Nat) (hx : fin x) (hy : fin y) : ∃ r, double.add x y = some r ∧ key r = rk (V x + V y) ∧ nn r ∧ r < 18446744073709551616 := by
  obtain ⟨m, i, e1, hi, v1⟩ := read_fin x hx
  obtain ⟨n, j, e2, hj, v2⟩ := read_fin y hy
  unfold Format.add V
  rw [e1, e2, ← v1, ← v2]
  exact sum_key (negW x) (negW y) m n i j hi hj

theorem sub_key (x y : Nat) (hx : fin x) (hy : fin y) : ∃ r, double.sub x y = some r ∧ key r = rk (V x - V y) ∧ nn r ∧ r < 18446744073709551616 := by
  obtain ⟨m, i, e1, hi, v1⟩ := read_fin x hx
  obtain ⟨n, j, e2, hj, v2⟩ := read_fin y hy
  unfold Format.sub V
  rw [e1, e2, ← v1, ← v2]
  have e : sgI (negW x) (m * 2 ^ (i + 1074).toNat) - sgI (negW y) (n * 2 ^ (j + 1074).toNat) = sgI (negW x) (m * 2 ^ (i + 1074).toNat) + sgI (!negW y) (n * 2 ^ (j + 1074).toNat) := by
    unfold sgI
    cases negW y <;> simp <;> omega
  rw [e]
  exact sum_key (negW x) (!negW y) m n i j hi hj

/-- A finite number less an infinity. -/
theorem sub_inf (x y : Nat) (hx : fin x) (hy : rungW y = INF) : ∃ r, double.sub x y = some r ∧ key r = (if negW y then (INF : Int) else -(INF : Int)) ∧ nn r ∧ r < 18446744073709551616 := by
  obtain ⟨m, i, e1, hi, v1⟩ := read_fin x hx
  unfold Format.sub
  rw [e1, read_inf y hy]
  have hk := key_word (!negW y) INF (Nat.le_refl _)
  refine ⟨double.word (!negW y) INF, rfl, ?_, hk.2.1, hk.2.2.2⟩
  rw [hk.1]
  unfold sgI
  cases negW y <;> rfl

end Go.Proofs.Qxb6601308a
