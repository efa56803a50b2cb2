/-
  SEAT b6601308a: quotients and products of doubles, as whole numbers. No Go in sight.
-/
import Derived.Test.Qxb6601308aErr2
namespace Go.Proofs.Qxb6601308a
open Ieee

theorem quot_near (d n : Nat) (hn : 0 < n) : (2 * (d / n) + (d % n != 0).toNat) * n ≤ 2 * d + n ∧ 2 * d ≤ (2 * (d / n) + (d % n != 0).toNat) * n + n := by
  have hm := Nat.div_add_mod d n
  have hl := Nat.mod_lt d hn
  have key : ∀ q r : Nat, n * q + r = d → r < n → (2 * q + (r != 0).toNat) * n ≤ 2 * d + n ∧ 2 * d ≤ (2 * q + (r != 0).toNat) * n + n := by
    intro q r h1 h2
    have e : n * q = q * n := Nat.mul_comm _ _
    have e2 : 2 * q * n = 2 * (q * n) := Nat.mul_assoc _ _ _
    by_cases h0 : r = 0
    · subst h0
      simp
      omega
    · have : (r != 0) = true := by simpa using h0
      rw [this]
      simp only [Bool.toNat_true]
      rw [Nat.add_mul, e2]
      omega
  exact key _ _ hm hl

theorem div_plain (a b e more P P' n k : Nat) (hk : n * 2 ^ b = k * 2 ^ e) (hP : b + more + 1 + P = a + e + P') : 2 ^ P * (k * 2 ^ (more + 1)) = n * 2 ^ a * 2 ^ P' := by
  have hp := Nat.two_pow_pos e
  refine Nat.mul_right_cancel hp ?_
  have ac : ∀ u v x y : Nat, u * (v * x) * y = v * y * (u * x) := by intro u v x y; ac_rfl
  calc 2 ^ P * (k * 2 ^ (more + 1)) * 2 ^ e = (k * 2 ^ e) * (2 ^ P * 2 ^ (more + 1)) := ac _ _ _ _
    _ = n * 2 ^ b * 2 ^ (P + (more + 1)) := by rw [← hk, ← Nat.pow_add]
    _ = n * 2 ^ (a + e + P') := by rw [Nat.mul_assoc, ← Nat.pow_add]; congr 2; omega
    _ = n * 2 ^ a * 2 ^ P' * 2 ^ e := by rw [Nat.mul_assoc, Nat.mul_assoc, ← Nat.pow_add, ← Nat.pow_add]; congr 2; omega

theorem dbl53 (Y : Nat) : Y * 9007199254740992 = 2 * (Y * 4503599627370496) := by omega
theorem dbl54 (Y : Nat) : Y * 18014398509481984 = 4 * (Y * 4503599627370496) := by omega
theorem lin_core (Y' N' X' K' N X : Nat) (r3 : 2 * Y' ≤ 2 * N' + N + K') (a1 : 4 * N' ≤ 4 * X' + X) (a2 : N * 4 ≤ X * 4 + X) : Y' ≤ X' + X + K' := by omega
theorem lin_core2 (Y' N' X' K' N X : Nat) (r3 : 2 * N' ≤ 2 * Y' + N + K') (a1 : 4 * X' ≤ 4 * N' + X) (a2 : N * 4 ≤ X * 4 + X) : X' ≤ Y' + X + K' := by omega

theorem lin_up (Y N X K nt : Nat) (r3 : Y * 9007199254740992 ≤ N * 9007199254740992 + N + K * 4503599627370496) (h1 : N ≤ X + nt) (h2 : nt * 18014398509481984 ≤ X) : Y * 4503599627370496 ≤ X * 4503599627370496 + X + K * 4503599627370496 := by
  have a1 : N * 18014398509481984 ≤ X * 18014398509481984 + X := by
    have := Nat.mul_le_mul_right 18014398509481984 h1
    rw [Nat.add_mul] at this
    exact Nat.le_trans this (Nat.add_le_add_left h2 _)
  have a2 : N * 4 ≤ X * 4 + X := by clear r3 a1; omega
  rw [dbl53 Y, dbl53 N] at r3
  rw [dbl54 N, dbl54 X] at a1
  exact lin_core _ _ _ _ _ _ r3 a1 a2

theorem lin_dn (Y N X K nt : Nat) (r4 : N * 9007199254740992 ≤ Y * 9007199254740992 + N + K * 4503599627370496) (h1 : N ≤ X + nt) (h3 : X ≤ N + nt) (h2 : nt * 18014398509481984 ≤ X) : X * 4503599627370496 ≤ Y * 4503599627370496 + X + K * 4503599627370496 := by
  have a1 : X * 18014398509481984 ≤ N * 18014398509481984 + X := by
    have := Nat.mul_le_mul_right 18014398509481984 h3
    rw [Nat.add_mul] at this
    exact Nat.le_trans this (Nat.add_le_add_left h2 _)
  have a2 : N * 4 ≤ X * 4 + X := by clear r4 a1; omega
  rw [dbl53 Y, dbl53 N] at r4
  rw [dbl54 N, dbl54 X] at a1
  exact lin_core2 _ _ _ _ _ _ r4 a1 a2

theorem lin_sg (b : Bool) (W A k : Nat) (g1 : W * 4503599627370496 ≤ A * 4503599627370496 + A + k * 4503599627370496) (g2 : A * 4503599627370496 ≤ W * 4503599627370496 + A + k * 4503599627370496) :
    sgI b W * 4503599627370496 ≤ sgI b A * 4503599627370496 + (sgI b A).natAbs + (k : Int) * 4503599627370496 ∧ sgI b A * 4503599627370496 ≤ sgI b W * 4503599627370496 + (sgI b A).natAbs + (k : Int) * 4503599627370496 := by
  unfold sgI
  cases b with
  | true =>
    simp only [if_true, Int.natAbs_neg, Int.natAbs_natCast]
    omega
  | false =>
    simp only [Bool.false_eq_true, if_false, Int.natAbs_natCast]
    omega

/-- A finite number over 'k', a whole number: half a unit of the last place, and half a unit. -/
theorem div_ok (x y k e : Nat) (hx : fin x) (hy : fin y) (hny : negW y = false) (he : e = 1074) (hk : 0 < k) (hV : sc (rungW y) = k * 2 ^ e) (hb : sc (rungW x) < 33554432 * BIG) :
    double.div x y = some (divW x y) ∧ fin (divW x y) ∧ V (divW x y) * (k : Int) * 4503599627370496 ≤ V x * 4503599627370496 + (V x).natAbs + (k : Int) * 4503599627370496 ∧ V x * 4503599627370496 ≤ V (divW x y) * (k : Int) * 4503599627370496 + (V x).natAbs + (k : Int) * 4503599627370496 := by
  obtain ⟨m, i, e1, hi, v1⟩ := read_fin x hx
  obtain ⟨n, j, e2, hj, v2⟩ := read_fin y hy
  rw [hV] at v2
  have hpe := Nat.two_pow_pos e
  have hn : n ≠ 0 := by
    intro h
    rw [h, Nat.zero_mul] at v2
    have := Nat.mul_pos hk hpe
    omega
  obtain ⟨more, hmore⟩ : ∃ q, q = 54 + n.log2 - m.log2 := ⟨_, rfl⟩
  obtain ⟨Q, hQ⟩ : ∃ Q, Q = 2 * (m * 2 ^ more / n) + (m * 2 ^ more % n != 0).toNat := ⟨_, rfl⟩
  have hd : double.div x y = some (double.nearest (negW x ^^ negW y) Q (i - j - more - 1)) := by
    unfold Format.div
    rw [e1, e2]
    have : Datum.quotient (double.fractionBits + 2) (.number (negW x) m i) (.number (negW y) n j) = some (.number (negW x ^^ negW y) Q (i - j - more - 1)) := by
      show (if n = 0 then (if m = 0 then none else some (Datum.infinity (negW x ^^ negW y))) else some (Datum.number (negW x ^^ negW y) (2 * (m <<< (54 + n.log2 - m.log2) / n) + (m <<< (54 + n.log2 - m.log2) % n != 0).toNat) (i - j - (54 + n.log2 - m.log2 : Nat) - 1))) = _
      rw [if_neg hn]
      show some (Datum.number (negW x ^^ negW y) (2 * (m <<< (54 + n.log2 - m.log2) / n) + (m <<< (54 + n.log2 - m.log2) % n != 0).toNat) (i - j - (54 + n.log2 - m.log2 : Nat) - 1)) = _
      rw [← hmore, Nat.shiftLeft_eq, ← hQ]
    rw [this]
    rfl
  have eD : divW x y = double.nearest (negW x ^^ negW y) Q (i - j - more - 1) := by unfold divW; rw [hd]; rfl
  rw [hny, Bool.xor_false] at hd eD
  refine ⟨by rw [hd, ← eD], ?_⟩
  obtain ⟨a, ha⟩ : ∃ a, a = (i + 1074).toNat := ⟨_, rfl⟩
  obtain ⟨b, hbb⟩ : ∃ b, b = (j + 1074).toNat := ⟨_, rfl⟩
  rw [← ha] at v1
  rw [← hbb] at v2
  have hVx : V x = sgI (negW x) (m * 2 ^ a) := by unfold V; rw [v1]
  rw [← v1] at hb
  have hq := quot_near (m * 2 ^ more) n (by omega)
  rw [← hQ] at hq
  obtain ⟨c, hc⟩ : ∃ c, c = 2 ^ (more + 1) := ⟨_, rfl⟩
  have hcp : 0 < c := by rw [hc]; exact Nat.two_pow_pos _
  have ec : 2 * (m * 2 ^ more) = m * c := by rw [hc, Nat.pow_succ]; have : ∀ u v : Nat, 2 * (u * v) = u * (v * 2) := by intro u v; ac_rfl
                                             exact this _ _
  rw [ec] at hq
  have hpl := div_plain a b e more (i - j - more - 1 + 1074).toNat (-(i - j - more - 1 + 1074)).toNat n k v2 (by omega)
  rw [← hc] at hpl
  obtain ⟨A, hA⟩ : ∃ A, A = m * 2 ^ a := ⟨_, rfl⟩
  obtain ⟨t, ht⟩ : ∃ t, t = 2 ^ a := ⟨_, rfl⟩
  rw [← hA] at hVx hb
  rw [← ht] at hA hpl
  by_cases hm : m = 0
  · have hQ0 : Q = 0 := by rw [hQ, hm]; simp
    rw [hm, Nat.zero_mul] at hA
    have en : divW x y = double.word (negW x) 0 := by rw [eD, hQ0]; unfold Format.nearest; rw [if_pos rfl]
    have hw := key_word (negW x) 0 (Nat.zero_le _)
    have hVr : V (divW x y) = 0 := by rw [en, V_word _ _ (Nat.zero_le _), sc_zero]; unfold sgI; cases negW x <;> rfl
    have hVx0 : V x = 0 := by rw [hVx, hA]; unfold sgI; cases negW x <;> rfl
    refine ⟨?_, ?_, ?_⟩
    · rw [en]; unfold fin; rw [hw.2.2.1]; unfold INF; omega
    · rw [hVr, hVx0]; simp; omega
    · rw [hVr, hVx0]; simp; omega
  · have hnm : n * 18014398509481984 ≤ m * c := by
      have l1 := Nat.log2_self_le hm
      have l2 := @Nat.lt_log2_self n
      have l3 : 2 ^ (n.log2 + 1) * 18014398509481984 ≤ 2 ^ m.log2 * c := by
        rw [hc, ← Nat.pow_add]
        have : (18014398509481984 : Nat) = 2 ^ 54 := by decide
        rw [this, ← Nat.pow_add]
        exact Nat.pow_le_pow_right (by omega) (by omega)
      have l4 : 2 ^ m.log2 * c ≤ m * c := Nat.mul_le_mul_right _ l1
      exact Nat.le_trans (Nat.mul_le_mul_right _ (Nat.le_of_lt l2)) (Nat.le_trans l3 l4)
    have hX1 : Q * n * t ≤ A * c + n * t ∧ A * c ≤ Q * n * t + n * t ∧ n * t * 18014398509481984 ≤ A * c := by
      have g1 := Nat.mul_le_mul_right t hq.1
      have g2 := Nat.mul_le_mul_right t hq.2
      have g3 := Nat.mul_le_mul_right t hnm
      rw [Nat.add_mul] at g1 g2
      have q1 : m * c * t = A * c := by rw [hA, Nat.mul_right_comm]
      have q2 : n * 18014398509481984 * t = n * t * 18014398509481984 := Nat.mul_right_comm _ _ _
      rw [q1] at g1 g2 g3
      rw [q2] at g3
      exact ⟨g1, g2, g3⟩
    obtain ⟨N, hN⟩ : ∃ N, N = Q * n * t := ⟨_, rfl⟩
    have hND : Q * 2 ^ (i - j - more - 1 + 1074).toNat * (k * c) = N * 2 ^ (-(i - j - more - 1 + 1074)).toNat := by
      rw [hN, Nat.mul_assoc, hpl]
      have : ∀ u v x y : Nat, u * (v * x * y) = u * v * x * y := by intro u v x y; ac_rfl
      exact this _ _ _ _
    rw [← hN] at hX1
    obtain ⟨nt, hnt⟩ : ∃ z, z = n * t := ⟨_, rfl⟩
    obtain ⟨X, hXe⟩ : ∃ z, z = A * c := ⟨_, rfl⟩
    rw [← hnt, ← hXe] at hX1
    have hNl : N < k * c * (67108864 * BIG) := by
      have g1 : X * 2 < c * (67108864 * BIG) := by
        have := Nat.mul_lt_mul_of_pos_right hb hcp
        rw [← hXe] at this
        have e5 : 33554432 * BIG * c * 2 = c * (67108864 * BIG) := by
          have : ∀ u v : Nat, 33554432 * u * v * 2 = v * (67108864 * u) := by intro u v; rw [Nat.mul_comm v, Nat.mul_assoc 33554432, Nat.mul_assoc 67108864]; omega
          exact this _ _
        omega
      have g2 : c * (67108864 * BIG) ≤ k * c * (67108864 * BIG) := by
        rw [Nat.mul_assoc]
        exact Nat.le_mul_of_pos_left _ hk
      omega
    obtain ⟨ρ, r1, r2, r3, r4⟩ := nearest_gen (negW x) Q (i - j - more - 1) N (k * c) hND hNl
    have hw := key_word (negW x) ρ (by omega)
    have hVr : V (divW x y) = sgI (negW x) (sc ρ) := by rw [eD, r2, V_word _ _ (by omega)]
    refine ⟨by rw [eD, r2]; unfold fin; rw [hw.2.2.1]; exact r1, ?_⟩
    have e6 : sc ρ * (k * c) = sc ρ * k * c := (Nat.mul_assoc _ _ _).symm
    rw [e6] at r3 r4
    obtain ⟨W, hW⟩ : ∃ z, z = sc ρ * k := ⟨_, rfl⟩
    rw [← hW] at r3 r4
    obtain ⟨Y, hY⟩ : ∃ z, z = W * c := ⟨_, rfl⟩
    obtain ⟨K, hK⟩ : ∃ z, z = k * c := ⟨_, rfl⟩
    rw [← hY, ← hK] at r3 r4
    have f1 := lin_up Y N X K nt r3 hX1.1 hX1.2.2
    have f2 := lin_dn Y N X K nt r4 hX1.1 hX1.2.1 hX1.2.2
    rw [hY, hXe, hK] at f1 f2
    have g1 : W * 4503599627370496 ≤ A * 4503599627370496 + A + k * 4503599627370496 := by
      refine Nat.le_of_mul_le_mul_right (c := c) ?_ hcp
      rw [Nat.add_mul, Nat.add_mul, Nat.mul_right_comm W, Nat.mul_right_comm A, Nat.mul_right_comm k]
      exact f1
    have g2 : A * 4503599627370496 ≤ W * 4503599627370496 + A + k * 4503599627370496 := by
      refine Nat.le_of_mul_le_mul_right (c := c) ?_ hcp
      rw [Nat.add_mul, Nat.add_mul, Nat.mul_right_comm W, Nat.mul_right_comm A, Nat.mul_right_comm k]
      exact f2
    have e7 : V (divW x y) * (k : Int) = sgI (negW x) W := by rw [hVr, hW, sgI_mul]
    rw [e7, hVx]
    exact lin_sg (negW x) W A k g1 g2
end Go.Proofs.Qxb6601308a
