/-
  SEAT b6601308a: the errors in one small measure; sums and means of doubles. No Go in sight.
-/
import Derived.Test.Qxb6601308aErr3
import Derived.Test.Qxb6601308aMeanWalk
namespace Go.Proofs.Qxb6601308a
open Ieee

/-- The measure of all errors: S bounds the magnitudes. -/
def dl (S : Nat) : Nat := S / 17179869184 + 134217728

theorem dl_S (S : Nat) : S ≤ 17179869184 * dl S := by unfold dl; omega
theorem dl_pos (S : Nat) : 134217728 ≤ dl S := by unfold dl; omega

theorem err_small (S E N : Nat) (h : E * 9007199254740992 ≤ N) (hN : N ≤ 524288 * S + 604462909807314587353088) : E ≤ dl S := by
  unfold dl
  omega

theorem BIG_ge : 604462909807314587353088 ≤ BIG := by
  obtain ⟨e, he, hB⟩ := BIG_eq
  rw [hB]
  have : (604462909807314587353088 : Nat) = 2 ^ 79 := by decide
  rw [this]
  exact Nat.pow_le_pow_right (by omega) (by omega)

/-- A difference, within the measure. -/
theorem sub_dl (S x c : Nat) (hS : S ≤ BIG) (hx : fin x) (hc : fin c) (h : (V x - V c).natAbs ≤ 524288 * S + 604462909807314587353088) :
    fin (subW x c) ∧ V (subW x c) ≤ V x - V c + dl S ∧ V x - V c ≤ V (subW x c) + dl S := by
  have hB := BIG_ge
  have ho := sub_ok x c hx hc (by omega)
  refine ⟨ho.1, ?_, ?_⟩
  · have := err_small S (V (subW x c) - (V x - V c)).toNat (V x - V c).natAbs (by have := ho.2.1; omega) h
    omega
  · have := err_small S ((V x - V c) - V (subW x c)).toNat (V x - V c).natAbs (by have := ho.2.2; omega) h
    omega

theorem add_dl (S x c : Nat) (hS : S ≤ BIG) (hx : fin x) (hc : fin c) (h : (V x + V c).natAbs ≤ 524288 * S + 604462909807314587353088) :
    fin (addW x c) ∧ V (addW x c) ≤ V x + V c + dl S ∧ V x + V c ≤ V (addW x c) + dl S := by
  have hB := BIG_ge
  have ho := add_ok x c hx hc (by omega)
  refine ⟨ho.1, ?_, ?_⟩
  · have := err_small S (V (addW x c) - (V x + V c)).toNat (V x + V c).natAbs (by have := ho.2.1; omega) h
    omega
  · have := err_small S ((V x + V c) - V (addW x c)).toNat (V x + V c).natAbs (by have := ho.2.2; omega) h
    omega

def sumV : List Nat → Int
  | [] => 0
  | x :: r => V x + sumV r

theorem sumV_append (xs ys : List Nat) : sumV (xs ++ ys) = sumV xs + sumV ys := by
  induction xs with
  | nil => simp [sumV]
  | cons x r ih => simp only [List.cons_append, sumV, ih]; omega

theorem sumV_step (xs : List Nat) (q : Nat) (h : q < xs.length) : sumV (xs.take (q + 1)) = sumV (xs.take q) + V (xs.getD q 0) := by
  rw [List.take_succ_eq_append_getElem h, sumV_append]
  have e : xs.getD q 0 = xs[q] := by simp [List.getD, h]
  rw [e]
  simp [sumV]

theorem sumV_bound (xs : List Nat) (S : Nat) (h : ∀ i, i < xs.length → (V (xs.getD i 0)).natAbs ≤ S) : ∀ q, q ≤ xs.length → (sumV (xs.take q)).natAbs ≤ q * S := by
  intro q
  induction q with
  | zero => intro _; simp [sumV]
  | succ q ih =>
    intro hq
    rw [sumV_step xs q hq, Nat.add_mul]
    have h1 := ih (by omega)
    have h2 := h q hq
    omega

/-- The sum as the program takes it, and the sum. -/
theorem sum_err (zs : List Nat) (S : Nat) (hS : S ≤ BIG) (hn : zs.length ≤ 131072) (hf : ∀ i, i < zs.length → fin (zs.getD i 0)) (h : ∀ i, i < zs.length → (V (zs.getD i 0)).natAbs ≤ S) :
    ∀ q, q ≤ zs.length → fin (sumW (zs.take q)) ∧ V (sumW (zs.take q)) ≤ sumV (zs.take q) + (q * dl S : Nat) ∧ sumV (zs.take q) ≤ V (sumW (zs.take q)) + (q * dl S : Nat) := by
  intro q
  induction q with
  | zero =>
    intro _
    have e : sumW (zs.take 0) = 0 := rfl
    rw [e]
    have e2 : V 0 = 0 := by decide
    have e3 : sumV (zs.take 0) = 0 := rfl
    rw [e2, e3]
    refine ⟨by unfold fin rungW INF; omega, by omega, by omega⟩
  | succ q ih =>
    intro hq
    have hi := ih (by omega)
    rw [sumW_step zs q hq, sumV_step zs q hq]
    have hb := sumV_bound zs S h q (by omega)
    have hz := h q hq
    have g1 : q * S ≤ 131072 * S := Nat.mul_le_mul_right _ (by omega)
    have g2 : q * dl S ≤ 131072 * dl S := Nat.mul_le_mul_right _ (by omega)
    have g3 : 131072 * dl S ≤ S + 35184372088832 := by unfold dl; omega
    have ha := add_dl S (sumW (zs.take q)) (zs.getD q 0) hS hi.1 (hf q hq) (by omega)
    refine ⟨ha.1, ?_, ?_⟩
    · rw [Nat.add_mul]; omega
    · rw [Nat.add_mul]; omega
end Go.Proofs.Qxb6601308a
