/-
  SEAT b6600039a: the plain functions of the number: digits, runs, the composed text. No Go in sight.
-/
import Derived.Test.Qxb6600039aPlain
namespace Go.Proofs.Qxb6600039a
open Go.RowKit

def dgB (c : Int) : Bool := decide (48 ≤ c) && decide (c ≤ 57)

/-- The first place from p on at which f does not hold. -/
def runTo (f : Int → Bool) (zs : List Int) (p : Nat) : Nat := p + ((zs.drop p).takeWhile f).length

theorem runTo_step {f : Int → Bool} {zs : List Int} {p : Nat} (h : p < zs.length) (hf : f (zs.getD p 0) = true) : runTo f zs p = runTo f zs (p + 1) := by
  unfold runTo
  rw [List.drop_eq_getElem_cons h]
  have e : zs.getD p 0 = zs[p] := by simp [List.getD, h]
  rw [e] at hf
  rw [List.takeWhile_cons_of_pos hf]
  simp; omega

theorem runTo_stop {f : Int → Bool} {zs : List Int} {p : Nat} (h : p < zs.length) (hf : f (zs.getD p 0) = false) : runTo f zs p = p := by
  unfold runTo
  rw [List.drop_eq_getElem_cons h]
  have e : zs.getD p 0 = zs[p] := by simp [List.getD, h]
  rw [e] at hf
  rw [List.takeWhile_cons_of_neg (by simp [hf])]
  simp

theorem runTo_end {f : Int → Bool} {zs : List Int} {p : Nat} (h : zs.length ≤ p) : runTo f zs p = p := by
  unfold runTo
  rw [List.drop_eq_nil_of_le h]
  simp

theorem runTo_ge (f : Int → Bool) (zs : List Int) (p : Nat) : p ≤ runTo f zs p := by unfold runTo; omega

theorem runTo_le (f : Int → Bool) (zs : List Int) (p : Nat) (h : p ≤ zs.length) : runTo f zs p ≤ zs.length := by
  unfold runTo
  have : ((zs.drop p).takeWhile f).length ≤ (zs.drop p).length := (List.takeWhile_sublist f).length_le
  simp at this
  omega



theorem takeWhile_pre (f : Int → Bool) (zs : List Int) : ∀ ws : List Int, ws.all f = true → (ws ++ zs).takeWhile f = ws ++ zs.takeWhile f
  | [], _ => rfl
  | x :: r, h => by
    simp only [List.all_cons, Bool.and_eq_true] at h
    rw [List.cons_append, List.takeWhile_cons_of_pos h.1, takeWhile_pre f zs r h.2, List.cons_append]

/-- A run of digits, and what comes behind it opens with none. -/
theorem runTo_digits (pre digs tl : List Int) (hd : digs.all dgB = true) (ht : tl = [] ∨ dgB (tl.getD 0 0) = false) : runTo dgB (pre ++ (digs ++ tl)) pre.length = pre.length + digs.length := by
  unfold runTo
  rw [List.drop_append, List.drop_eq_nil_of_le (Nat.le_refl _)]
  simp only [List.nil_append, Nat.sub_self, List.drop_zero]
  rw [takeWhile_pre dgB tl digs hd]
  have : tl.takeWhile dgB = [] := by
    cases tl with
    | nil => rfl
    | cons c r =>
      rcases ht with h | h
      · cases h
      · simp [List.getD] at h
        rw [List.takeWhile_cons_of_neg (by simp [h])]
  rw [this]; simp

/-- The digits that are written for any bytes. -/
def dgs (zs : List Int) : List Int := zs.map fun z => 48 + z % 10

theorem dgs_length (zs : List Int) : (dgs zs).length = zs.length := by simp [dgs]
theorem dgs_all (zs : List Int) : (dgs zs).all dgB = true := by
  rw [List.all_eq_true]
  intro x hx
  obtain ⟨z, _, rfl⟩ := List.mem_map.1 hx
  unfold dgB
  simp
  omega
theorem dgs_take (zs : List Int) (k : Nat) (h : k < zs.length) : dgs (zs.take (k + 1)) = dgs (zs.take k) ++ [48 + zs.getD k 0 % 10] := by
  unfold dgs
  rw [List.take_succ_eq_append_getElem h, List.map_append]
  simp [List.getD, h]
theorem dig_by8 {zs : List Int} (h : zs.all dgB = true) : ∀ n ∈ zs, 0 ≤ n ∧ n ≤ 255 := by
  intro n hn
  have := List.all_eq_true.1 h n hn
  simp [dgB] at this
  omega

/-- The j lowest decimal digits of U, the highest first. -/
def dg (U : Nat) : Nat → List Int
  | 0 => []
  | j + 1 => (48 + ((U / 10 ^ j % 10 : Nat) : Int)) :: dg U j

theorem dg_length (U : Nat) : ∀ j, (dg U j).length = j
  | 0 => rfl
  | j + 1 => by simp [dg, dg_length U j]

theorem dg_dig (U : Nat) : ∀ j, (dg U j).all dgB = true
  | 0 => rfl
  | j + 1 => by
    have := dg_dig U j
    have h : U / 10 ^ j % 10 < 10 := Nat.mod_lt _ (by omega)
    simp only [dg, List.all_cons, this, Bool.and_true]
    unfold dgB
    simp
    omega

theorem div_step (U j : Nat) : U / 10 ^ (j + 1) * 10 + U / 10 ^ j % 10 = U / 10 ^ j := by
  rw [Nat.pow_succ, ← Nat.div_div_eq_div_mul]
  omega

/-- The text of a number that is not nought opens with a digit that is not nought. -/
theorem dg_head (U j : Nat) (h0 : U / 10 ^ (j + 1) = 0) (h1 : U / 10 ^ j ≠ 0) : 49 ≤ (dg U (j + 1)).getD 0 0 ∧ (dg U (j + 1)).getD 0 0 ≤ 57 := by
  have hs := div_step U j
  have hc : (dg U (j + 1)).getD 0 0 = 48 + ((U / 10 ^ j % 10 : Nat) : Int) := by simp [dg, List.getD]
  rw [hc]
  omega

/-- How Number reads its text: the places at which its parts end. -/
structure NumAt (ds : List Int) (len P1 P2 P3 P4 : Nat) (neg hasF hasX : Bool) : Prop where
  h0 : 0 < len
  h1 : (ds.getD 0 0 == 45) = neg
  p1 : P1 = if neg then 1 else 0
  l1 : P1 < len
  h2 : (ds.getD P1 0 = 48 ∧ P2 = P1 + 1) ∨ (49 ≤ ds.getD P1 0 ∧ ds.getD P1 0 ≤ 57 ∧ P2 = runTo dgB ds P1)
  l2 : P2 ≤ len
  h3f : hasF = false → P3 = P2 ∧ (P2 < len → (ds.getD P2 0 == 46) = false)
  h3t : hasF = true → P2 + 1 < len ∧ (ds.getD P2 0 == 46) = true ∧ dgB (ds.getD (P2 + 1) 0) = true ∧ P3 = runTo dgB ds (P2 + 1)
  l3 : P3 ≤ len
  h4f : hasX = false → P4 = P3 ∧ (P3 < len → (ds.getD P3 0 == 101) = false ∧ (ds.getD P3 0 == 69) = false)
  h4t : hasX = true → P3 + 1 < len ∧ ((ds.getD P3 0 == 101) = true ∨ ((ds.getD P3 0 == 101) = false ∧ (ds.getD P3 0 == 69) = true)) ∧
    ∃ Q, Q < len ∧ ((Q = P3 + 1 ∧ (ds.getD (P3 + 1) 0 == 43) = false ∧ (ds.getD (P3 + 1) 0 == 45) = false) ∨ (Q = P3 + 2 ∧ ((ds.getD (P3 + 1) 0 == 43) = true ∨ ((ds.getD (P3 + 1) 0 == 43) = false ∧ (ds.getD (P3 + 1) 0 == 45) = true)))) ∧
      dgB (ds.getD Q 0) = true ∧ P4 = runTo dgB ds Q
  l4 : P4 ≤ len

end Go.Proofs.Qxb6600039a
