/-
  SEAT b6601308a: sums, differences, quotients and products of doubles, as whole numbers. No Go in sight.
-/
import Derived.Test.Qxb6601308aErr
namespace Go.Proofs.Qxb6601308a
open Ieee

/-- What a whole number of units is rounded to. -/
def rd (N : Int) : Int := sgI (decide (N < 0)) (sc (rungOf N.natAbs))

theorem V_key (x : Nat) : V x = sgI (decide (key x < 0)) (sc (key x).natAbs) := by
  unfold V key
  cases hn : negW x with
  | false =>
    have e : decide ((rungW x : Int) < 0) = false := decide_eq_false (by omega)
    simp [e]
  | true =>
    by_cases h0 : rungW x = 0
    · rw [h0]; simp [sgI, sc_zero]
    · have e : 0 < rungW x := by omega
      simp [e]

theorem V_rk (x : Nat) (N : Int) (h : key x = rk N) : V x = rd N := by
  rw [V_key, h]
  unfold rk rd
  by_cases hN : N < 0
  · rw [decide_eq_true hN]
    by_cases h0 : rungOf N.natAbs = 0
    · rw [h0]; simp [sgI, sc_zero]
    · have e : decide (sgI true (rungOf N.natAbs) < 0) = true := decide_eq_true (by unfold sgI; simp; omega)
      rw [e]
      simp [sgI]
  · rw [decide_eq_false hN]
    have e : decide (sgI false (rungOf N.natAbs) < 0) = false := decide_eq_false (by unfold sgI; simp)
    rw [e]
    simp [sgI]

/-- 2 ^ 2071: above every number here. -/
def pw (e : Nat) : Nat := 2 ^ e
def BIG : Nat := pw 2071

theorem pw_eq (e : Nat) : pw e = 2 ^ e := rfl
theorem BIG_eq : ∃ e, e = 2071 ∧ BIG = 2 ^ e := by
  have h : ∀ e, e = 2071 → BIG = 2 ^ e := by
    intro e h
    rw [← pw_eq, h]
    rfl
  obtain ⟨e, he⟩ : ∃ e : Nat, e = 2071 := ⟨_, rfl⟩
  exact ⟨e, he, h e he⟩

theorem big_log (M : Nat) (h : M < 67108864 * BIG) : M.log2 ≤ 2096 := by
  obtain ⟨e, he, hB⟩ := BIG_eq
  rw [hB] at h
  by_cases h0 : M = 0
  · rw [h0]; exact Nat.zero_le _
  · have e1 : 2 ^ (26 + e) = 67108864 * 2 ^ e := by rw [Nat.pow_add]
    rw [← e1] at h
    have := (Nat.log2_lt h0).2 h
    omega

theorem rd_ok (N : Int) (h : N.natAbs < 67108864 * BIG) : rungOf N.natAbs < INF ∧ (rd N - N) * 9007199254740992 ≤ N.natAbs ∧ (N - rd N) * 9007199254740992 ≤ N.natAbs := by
  have hl := big_log _ h
  have hf := rungS_fin 0 N.natAbs hl
  have he := (rungS_err 0 N.natAbs hl).2.2 rfl
  rw [rungS_zero] at hf he
  refine ⟨hf, ?_⟩
  unfold rd sgI
  clear hl hf h
  obtain ⟨s, hs⟩ : ∃ s, s = sc (rungOf N.natAbs) := ⟨_, rfl⟩
  rw [← hs] at he ⊢
  clear hs
  by_cases hN : N < 0
  · rw [decide_eq_true hN]
    simp only [if_true]
    omega
  · rw [decide_eq_false hN]
    simp only [Bool.false_eq_true, if_false]
    omega

theorem rk_fin (N : Int) (x : Nat) (hn : nn x) (h : key x = rk N) (hf : rungOf N.natAbs < INF) : fin x := by
  refine fin_key hn ?_
  rw [h]
  unfold rk sgI
  by_cases hN : N < 0
  · simp [hN]; omega
  · simp [hN]; omega

theorem sub_ok (x c : Nat) (hx : fin x) (hc : fin c) (h : (V x - V c).natAbs < 67108864 * BIG) :
    fin (subW x c) ∧ (V (subW x c) - (V x - V c)) * 9007199254740992 ≤ (V x - V c).natAbs ∧ ((V x - V c) - V (subW x c)) * 9007199254740992 ≤ (V x - V c).natAbs := by
  obtain ⟨r, h1, h2, h3, _⟩ := sub_key x c hx hc
  have e : subW x c = r := by unfold subW; rw [h1]; rfl
  rw [e]
  have ho := rd_ok _ h
  rw [V_rk r _ h2]
  exact ⟨rk_fin _ r h3 h2 ho.1, ho.2⟩

theorem add_ok (x c : Nat) (hx : fin x) (hc : fin c) (h : (V x + V c).natAbs < 67108864 * BIG) :
    fin (addW x c) ∧ (V (addW x c) - (V x + V c)) * 9007199254740992 ≤ (V x + V c).natAbs ∧ ((V x + V c) - V (addW x c)) * 9007199254740992 ≤ (V x + V c).natAbs := by
  obtain ⟨r, h1, h2, h3, _⟩ := add_key x c hx hc
  have e : addW x c = r := by unfold addW; rw [h1]; rfl
  rw [e]
  have ho := rd_ok _ h
  rw [V_rk r _ h2]
  exact ⟨rk_fin _ r h3 h2 ho.1, ho.2⟩

theorem V_word (neg : Bool) (r : Nat) (h : r ≤ INF) : V (double.word neg r) = sgI neg (sc r) := by
  have hk := key_word neg r h
  rw [V_key, hk.1]
  unfold sgI
  cases neg with
  | true =>
    by_cases h0 : r = 0
    · rw [h0]; simp [sc_zero]
    · simp [h0]
  | false =>
    have e : decide ((r : Int) < 0) = false := decide_eq_false (by omega)
    simp [e]

/-- The word nearest to 'N / D' units, where 'N / D = m * 2 ^ (p + 1074)'. -/
theorem nearest_gen (neg : Bool) (m : Nat) (p : Int) (N D : Nat) (hND : m * 2 ^ (p + 1074).toNat * D = N * 2 ^ (-(p + 1074)).toNat) (hN : N < D * (67108864 * BIG)) :
    ∃ ρ, ρ < INF ∧ double.nearest neg m p = double.word neg ρ ∧ sc ρ * D * 9007199254740992 ≤ N * 9007199254740992 + N + D * 4503599627370496 ∧ N * 9007199254740992 ≤ sc ρ * D * 9007199254740992 + N + D * 4503599627370496 := by
  by_cases hp : -1074 ≤ p
  · have e0 : (-(p + 1074)).toNat = 0 := by omega
    rw [e0, Nat.pow_zero, Nat.mul_one] at hND
    obtain ⟨M, hM⟩ : ∃ M, M = m * 2 ^ (p + 1074).toNat := ⟨_, rfl⟩
    have hne := nearest_eq neg m p hp
    rw [← hM] at hND hne
    have hlt : M < 67108864 * BIG := by
      rw [← hND, Nat.mul_comm M D] at hN
      exact Nat.lt_of_mul_lt_mul_left hN
    have hl := big_log _ hlt
    have hf := rungS_fin 0 M hl
    have he := (rungS_err 0 M hl).2.2 rfl
    rw [rungS_zero] at hf he
    refine ⟨rungOf M, hf, hne, ?_⟩
    have h1 := Nat.mul_le_mul_right D he.1
    have h2 := Nat.mul_le_mul_right D he.2
    rw [Nat.add_mul] at h1 h2
    have a1 : sc (rungOf M) * 9007199254740992 * D = sc (rungOf M) * D * 9007199254740992 := by rw [Nat.mul_assoc, Nat.mul_comm 9007199254740992 D, ← Nat.mul_assoc]
    have a2 : M * 9007199254740992 * D = N * 9007199254740992 := by rw [Nat.mul_assoc, Nat.mul_comm 9007199254740992 D, ← Nat.mul_assoc, hND]
    rw [a1, a2, hND] at h1 h2
    exact ⟨Nat.le_trans h1 (Nat.le_add_right _ _), Nat.le_trans h2 (Nat.le_add_right _ _)⟩
  · obtain ⟨s, hs⟩ : ∃ s : Nat, p = -1074 - (s : Int) := ⟨(-(p + 1074)).toNat, by omega⟩
    subst hs
    have e0 : ((-1074 - (s : Int)) + 1074).toNat = 0 := by omega
    have e1 : (-((-1074 - (s : Int)) + 1074)).toNat = s := by omega
    rw [e0, e1, Nat.pow_zero, Nat.mul_one] at hND
    have hps := Nat.two_pow_pos s
    have hlt : m < 67108864 * BIG * 2 ^ s := by
      have h1 : N * 2 ^ s < D * (67108864 * BIG) * 2 ^ s := Nat.mul_lt_mul_of_pos_right hN hps
      rw [← hND, Nat.mul_comm m D, Nat.mul_assoc] at h1
      exact Nat.lt_of_mul_lt_mul_left h1
    have hl : m.log2 ≤ 2096 + s := by
      obtain ⟨e, he, hB⟩ := BIG_eq
      rw [hB] at hlt
      by_cases h0 : m = 0
      · rw [h0]; exact Nat.zero_le _
      · have q1 : 2 ^ (26 + e + s) = 67108864 * 2 ^ e * 2 ^ s := by rw [Nat.pow_add, Nat.pow_add]
        rw [← q1] at hlt
        have := (Nat.log2_lt h0).2 hlt
        omega
    have hf := rungS_fin s m hl
    have he := rungS_err s m hl
    refine ⟨rungS s m, hf, nearest_low neg m s, ?_⟩
    have h1 := Nat.mul_le_mul_right D he.1
    have h2 := Nat.mul_le_mul_right D he.2.1
    obtain ⟨S, hS⟩ : ∃ S, S = sc (rungS s m) := ⟨_, rfl⟩
    obtain ⟨c, hc⟩ : ∃ c, c = 2 ^ s := ⟨_, rfl⟩
    rw [← hS] at h1 h2 ⊢
    rw [← hc] at h1 h2 hND hps
    rw [Nat.add_mul, Nat.add_mul] at h1 h2
    have a1 : S * c * 9007199254740992 * D = S * D * 9007199254740992 * c := by
      rw [Nat.mul_right_comm (S * c), Nat.mul_right_comm S c D, Nat.mul_right_comm]
    have a2 : m * 9007199254740992 * D = N * 9007199254740992 * c := by rw [Nat.mul_right_comm, hND, Nat.mul_right_comm]
    have a3 : c * 4503599627370496 * D = D * 4503599627370496 * c := by rw [Nat.mul_right_comm, Nat.mul_comm c D, Nat.mul_right_comm]
    rw [a1, a2, a3, hND, ← Nat.add_mul, ← Nat.add_mul] at h1
    rw [a1, a2, a3, hND, ← Nat.add_mul, ← Nat.add_mul] at h2
    exact ⟨Nat.le_of_mul_le_mul_right h1 hps, Nat.le_of_mul_le_mul_right h2 hps⟩
end Go.Proofs.Qxb6601308a
