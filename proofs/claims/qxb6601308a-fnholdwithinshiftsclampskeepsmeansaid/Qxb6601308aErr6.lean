/-
  SEAT b6601308a: where the halving ends, and what the held values are then. No Go in sight.
-/
import Derived.Test.Qxb6601308aErr5
import Derived.Test.Qxb6601308aHold
namespace Go.Proofs.Qxb6601308a
open Ieee

/-- What is known of the law's input behind its tests. -/
structure Inp (xs : List Nat) (lo hi S : Nat) : Prop where
  dom : Dom xs lo hi
  len : xs.length ≤ 131072
  big : S ≤ BIG
  lo : (V lo).natAbs ≤ S
  hi : (V hi).natAbs ≤ S
  xs : ∀ i, i < xs.length → (V (xs.getD i 0)).natAbs ≤ S

theorem Inp.pos {xs : List Nat} {lo hi S : Nat} (h : Inp xs lo hi S) : 0 < xs.length := by
  cases e : xs with
  | nil => exact absurd e h.dom.ne
  | cons a l => simp

theorem dl_le (S : Nat) : dl S ≤ S + 134217728 := by unfold dl; omega

theorem V_le_iff (x y : Nat) : V x ≤ V y ↔ key x ≤ key y := by
  have := V_lt_iff y x
  omega

theorem ltB_key {x y : Nat} (hx : nn x) (hy : nn y) : ltB x y = decide (key x < key y) := by
  unfold ltB
  rw [order64, order_key x y hx hy]
  rcases Int.lt_trichotomy (key x) (key y) with h | h | h
  · rw [cmp_lt h]; simp; omega
  · rw [cmp_eq h]; simp; omega
  · rw [cmp_gt h]; simp; omega

theorem two_val : ∃ e, e = 1074 ∧ sc (rungW TWO) = 2 * 2 ^ e ∧ negW TWO = false ∧ fin TWO := by
  have e : floatOfInt .f64 ((2 : Nat) : Int) = TWO := by decide +kernel
  obtain ⟨e1, h1, h2, h3⟩ := len_val 2 (by omega) (by omega)
  have h4 := (len_float 2 (by omega) (by omega)).1
  rw [e] at h2 h3 h4
  exact ⟨e1, h1, h2, h3, h4⟩

theorem half_small (R s : Int) (S a : Nat) (h : R * 4503599627370496 ≤ s * 4503599627370496 + a + ((2 : Nat) : Int) * 4503599627370496) (ha : a ≤ 1024 * S + 1180591620717411303424) : R ≤ s + dl S := by
  unfold dl
  omega

/-- No double lies between: the two ends are near. -/
theorem gap_ok {S below above : Nat} (hS : S ≤ BIG) (hb : fin below) (ha : fin above) (bb : (V below).natAbs ≤ 4 * S + 1073741824) (ba : (V above).natAbs ≤ 4 * S + 1073741824) (hle : V below ≤ V above)
    (hf : ∀ d h c, double.sub above below = some d → double.div d TWO = some h → double.add below h = some c → (ltB below c && ltB c above) = false) : V above - V below ≤ 4 * (dl S : Int) := by
  have hdl := dl_le S
  have hd := sub_dl S above below hS ha hb (by omega)
  have s1 := subW_ok above below ha (fin_nn hb)
  obtain ⟨e, he, hv, hng, hft⟩ := two_val
  have hB := BIG_ge
  have hda : (V (subW above below)).natAbs ≤ 16 * S + 4294967296 := by omega
  have hq := div_ok (subW above below) TWO 2 e hd.1 hft hng he (by omega) hv (by rw [← V_abs]; omega)
  have q1 := half_small _ _ S _ hq.2.2.1 (by omega)
  have q2 := half_small _ _ S _ hq.2.2.2 (by omega)
  obtain ⟨d, hde⟩ : ∃ d, d = subW above below := ⟨_, rfl⟩
  rw [← hde] at hd s1 hda hq q1 q2
  obtain ⟨h, hhe⟩ : ∃ h, h = divW d TWO := ⟨_, rfl⟩
  rw [← hhe] at hq q1 q2
  have hc := add_dl S below h hS hb hq.2.1 (by omega)
  have a1 := addW_ok below h (fin_nn hb) hq.2.1
  have hcut := hf _ _ _ s1.1 hq.1 a1.1
  rw [ltB_key (fin_nn hb) (fin_nn hc.1), ltB_key (fin_nn hc.1) (fin_nn ha)] at hcut
  have b1 := V_lt_iff below (addW below h)
  have b2 := V_lt_iff (addW below h) above
  obtain ⟨c, hce⟩ : ∃ c, c = addW below h := ⟨_, rfl⟩
  rw [← hce] at hc hcut b1 b2
  by_cases k1 : key below < key c
  · rw [decide_eq_true k1, Bool.true_and] at hcut
    have k2 := of_decide_eq_false hcut
    have := hc.2.1
    have := hd.2.1
    clear hf hq hv he hcut
    omega
  · have := hc.2.2
    have := hd.2.2
    clear hf hq hv he hcut
    omega

/-- A held value is one of three. -/
theorem clamp_V (lo hi c x : Nat) (hlo : fin lo) (hhi : fin hi) (hle : key lo ≤ key hi) (hc : nn c) (hx : fin x) :
    (V (clampW lo hi c x) = V (subW x c) ∧ V lo ≤ V (subW x c) ∧ V (subW x c) ≤ V hi) ∨ (V (clampW lo hi c x) = V lo ∧ V (subW x c) ≤ V lo) ∨ (V (clampW lo hi c x) = V hi ∧ V hi ≤ V (subW x c)) := by
  have hk := (clampW_ok lo hi c x hlo hhi hle hc hx).1
  rw [V_eq_iff, V_eq_iff, V_eq_iff, V_le_iff, V_le_iff, V_le_iff, V_le_iff, hk]
  omega
end Go.Proofs.Qxb6601308a
