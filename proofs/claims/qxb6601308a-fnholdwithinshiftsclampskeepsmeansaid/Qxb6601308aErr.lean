/-
  SEAT b6601308a: how far rounding may stray. No Go in sight.
-/
import Derived.Test.Qxb6601308aLen
namespace Go.Proofs.Qxb6601308a
open Ieee

theorem sc_kept (L k : Nat) (h1 : k ≤ 9007199254740992) (h2 : L = 0 ∨ 4503599627370496 ≤ k) : sc (L * 4503599627370496 + k) = k * 2 ^ L := by
  by_cases h : k < 4503599627370496
  · have e : L = 0 := by omega
    subst e
    unfold sc
    rw [if_pos (by omega)]
    simp
  · unfold sc
    rw [if_neg (by omega)]
    by_cases h3 : k = 9007199254740992
    · have e1 : (L * 4503599627370496 + k) % 4503599627370496 = 0 := by omega
      have e2 : (L * 4503599627370496 + k) / 4503599627370496 - 1 = L + 1 := by omega
      rw [e1, e2, h3, Nat.pow_succ]
      omega
    · have e1 : 4503599627370496 + (L * 4503599627370496 + k) % 4503599627370496 = k := by omega
      have e2 : (L * 4503599627370496 + k) / 4503599627370496 - 1 = L := by omega
      rw [e1, e2]

theorem rne_err (n d : Nat) : rne n d * 2 ^ d * 2 ≤ n * 2 + 2 ^ d ∧ n * 2 ≤ rne n d * 2 ^ d * 2 + 2 ^ d := by
  have key : ∀ q r c : Nat, c * q + r = n → r < c → (q + (if c < 2 * r ∨ (c = 2 * r ∧ q % 2 = 1) then 1 else 0)) * c * 2 ≤ n * 2 + c ∧ n * 2 ≤ (q + (if c < 2 * r ∨ (c = 2 * r ∧ q % 2 = 1) then 1 else 0)) * c * 2 + c := by
    intro q r c h1 h2
    have e : c * q = q * c := Nat.mul_comm _ _
    split
    · rename_i h
      rw [Nat.add_mul]
      omega
    · rename_i h
      rw [Nat.add_zero]
      omega
  exact key _ _ _ (Nat.div_add_mod n (2 ^ d)) (Nat.mod_lt n (Nat.two_pow_pos d))

/-- The rung of the double nearest to 'm / 2 ^ s'. -/
def rungS (s m : Nat) : Nat := if m = 0 then 0 else min ((m.log2 - 52 - s) * 4503599627370496 + rne m (m.log2 - 52 - s + s)) INF

theorem rungS_zero (m : Nat) : rungS 0 m = rungOf m := by unfold rungS rungOf; simp only [Nat.sub_zero, Nat.add_zero]

theorem rungS_le (s m : Nat) : rungS s m ≤ INF := by
  unfold rungS
  split
  · exact Nat.zero_le _
  · exact Nat.min_le_right _ _

theorem nearest_low (neg : Bool) (m s : Nat) : double.nearest neg m (-1074 - (s : Int)) = double.word neg (rungS s m) := by
  unfold Format.nearest rungS
  by_cases hm : m = 0
  · rw [if_pos hm, if_pos hm]
  · rw [if_neg hm, if_neg hm, dbl_least, dbl_binade, dbl_inf]
    show double.word neg (min (((max (-1074 - (s : Int) + (m.log2 : Int) - 52) (-1074)) - -1074).toNat * 4503599627370496 + Toward.even.cut neg (m <<< (-1074 - (s : Int) - max (-1074 - (s : Int) + (m.log2 : Int) - 52) (-1074)).toNat) (max (-1074 - (s : Int) + (m.log2 : Int) - 52) (-1074) - (-1074 - (s : Int))).toNat) INF) = _
    have e1 : ((max (-1074 - (s : Int) + (m.log2 : Int) - 52) (-1074)) - -1074).toNat = m.log2 - 52 - s := by omega
    have e2 : (-1074 - (s : Int) - max (-1074 - (s : Int) + (m.log2 : Int) - 52) (-1074)).toNat = 0 := by omega
    have e3 : (max (-1074 - (s : Int) + (m.log2 : Int) - 52) (-1074) - (-1074 - (s : Int))).toNat = m.log2 - 52 - s + s := by omega
    rw [e1, e2, e3, Nat.shiftLeft_zero, cut_even]

/-- Where the kept digits lie. -/
theorem kept_S (s m : Nat) (h : m ≠ 0) : rne m (m.log2 - 52 - s + s) ≤ 9007199254740992 ∧ (m.log2 - 52 - s = 0 ∨ 4503599627370496 ≤ rne m (m.log2 - 52 - s + s)) := by
  obtain ⟨L, hL⟩ : ∃ L, L = m.log2 - 52 - s := ⟨_, rfl⟩
  rw [← hL]
  have hp := Nat.two_pow_pos (L + s)
  have h2 : m < 9007199254740992 * 2 ^ (L + s) := by
    have h1 := @Nat.lt_log2_self m
    have h3 : 2 ^ (m.log2 + 1) ≤ 2 ^ (53 + (L + s)) := Nat.pow_le_pow_right (by omega) (by omega)
    have e3 : 2 ^ (53 + (L + s)) = 9007199254740992 * 2 ^ (L + s) := by rw [Nat.pow_add]
    omega
  have h4 : m / 2 ^ (L + s) < 9007199254740992 := (Nat.div_lt_iff_lt_mul hp).2 h2
  have h5 := rne_le m (L + s)
  refine ⟨by omega, ?_⟩
  by_cases h0 : L = 0
  · exact .inl h0
  · refine .inr ?_
    have h1 := Nat.log2_self_le h
    have e : m.log2 = 52 + (L + s) := by omega
    rw [e, Nat.pow_add] at h1
    have : 4503599627370496 ≤ m / 2 ^ (L + s) := (Nat.le_div_iff_mul_le hp).2 h1
    omega

theorem rungS_fin (s m : Nat) (h : m.log2 ≤ 2096 + s) : rungS s m < INF := by
  unfold rungS
  split
  · unfold INF; omega
  · rename_i h0
    have hk := (kept_S s m h0).1
    obtain ⟨k, hke⟩ : ∃ k, k = rne m (m.log2 - 52 - s + s) := ⟨_, rfl⟩
    rw [← hke] at hk ⊢
    unfold INF
    omega

/-- How far the nearest double lies off: half a unit of the last place; in units of 2 ^ -s. -/
theorem rungS_err (s m : Nat) (h : m.log2 ≤ 2096 + s) :
    sc (rungS s m) * 2 ^ s * 9007199254740992 ≤ m * 9007199254740992 + m + 2 ^ s * 4503599627370496 ∧ m * 9007199254740992 ≤ sc (rungS s m) * 2 ^ s * 9007199254740992 + m + 2 ^ s * 4503599627370496 ∧
    (s = 0 → sc (rungS s m) * 9007199254740992 ≤ m * 9007199254740992 + m ∧ m * 9007199254740992 ≤ sc (rungS s m) * 9007199254740992 + m) := by
  by_cases h0 : m = 0
  · subst h0
    have e : rungS s 0 = 0 := by simp [rungS]
    rw [e, sc_zero]
    simp
  · have hf := rungS_fin s m h
    have hk := kept_S s m h0
    have e : rungS s m = (m.log2 - 52 - s) * 4503599627370496 + rne m (m.log2 - 52 - s + s) := by
      unfold rungS at hf ⊢
      rw [if_neg h0] at hf ⊢
      omega
    have hsc := sc_kept _ _ hk.1 hk.2
    rw [← e] at hsc
    rw [hsc]
    have hr := rne_err m (m.log2 - 52 - s + s)
    obtain ⟨L, hL⟩ : ∃ L, L = m.log2 - 52 - s := ⟨_, rfl⟩
    rw [← hL] at hr ⊢
    obtain ⟨k, hke⟩ : ∃ k, k = rne m (L + s) := ⟨_, rfl⟩
    rw [← hke] at hr ⊢
    have e2 : k * 2 ^ L * 2 ^ s = k * 2 ^ (L + s) := by rw [Nat.mul_assoc, ← Nat.pow_add]
    rw [e2]
    have hbig : L = 0 ∨ 2 ^ (L + s) * 4503599627370496 ≤ m := by
      by_cases hL0 : L = 0
      · exact .inl hL0
      · refine .inr ?_
        have h1 := Nat.log2_self_le h0
        have e3 : m.log2 = (L + s) + 52 := by omega
        rw [e3, Nat.pow_add] at h1
        exact h1
    have hz : L = 0 → 2 ^ (L + s) = 2 ^ s := by intro h; rw [h, Nat.zero_add]
    obtain ⟨c, hc⟩ : ∃ c, c = 2 ^ (L + s) := ⟨_, rfl⟩
    obtain ⟨d, hd⟩ : ∃ d, d = 2 ^ s := ⟨_, rfl⟩
    have hkL : s = 0 → L = 0 → k = m := by intro h1 h2; rw [hke, h1, h2, Nat.add_zero, rne_zero]
    have hsL : s = 0 → 2 ^ L = c := by intro h1; rw [hc, h1, Nat.add_zero]
    have hc1 : L = 0 → s = 0 → c = 1 := by intro h1 h2; rw [hc, h1, h2]
    rw [← hc] at hr hbig hz ⊢
    rw [← hd] at hz ⊢
    clear hke hsc e e2 hk hf hL
    obtain ⟨kc, hkc⟩ : ∃ x, x = k * c := ⟨_, rfl⟩
    rw [← hkc] at hr ⊢
    refine ⟨?_, ?_, ?_⟩
    · rcases hbig with h1 | h1
      · have h2 := hz h1; clear hz hkL hsL hc1 hkc hd hc h h0 h1; omega
      · clear hz hkL hsL hc1 hkc hd hc h h0
        obtain ⟨x, hx⟩ : ∃ x, x = c * 4503599627370496 := ⟨_, rfl⟩
        rw [← hx] at h1
        have h3 : kc * 9007199254740992 ≤ m * 9007199254740992 + x ∧ m * 9007199254740992 ≤ kc * 9007199254740992 + x := by clear h1; omega
        clear hr hx
        omega
    · rcases hbig with h1 | h1
      · have h2 := hz h1; clear hz hkL hsL hc1 hkc hd hc h h0 h1; omega
      · clear hz hkL hsL hc1 hkc hd hc h h0
        obtain ⟨x, hx⟩ : ∃ x, x = c * 4503599627370496 := ⟨_, rfl⟩
        rw [← hx] at h1
        have h3 : kc * 9007199254740992 ≤ m * 9007199254740992 + x ∧ m * 9007199254740992 ≤ kc * 9007199254740992 + x := by clear h1; omega
        clear hr hx
        omega
    · intro hs
      rw [hsL hs, ← hkc]
      rcases hbig with h1 | h1
      · have h5 := hkL hs h1
        have h6 := hc1 h1 hs
        rw [h5, h6, Nat.mul_one] at hkc
        omega
      · omega
end Go.Proofs.Qxb6601308a
