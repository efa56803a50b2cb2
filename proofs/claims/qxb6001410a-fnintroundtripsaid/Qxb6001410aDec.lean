/-
  SEAT b6001410a: a number's decimal digits, and what 'int' reads of them: plain lists.
-/
import Derived.Test.Qxb6001410aShift
namespace Go.Proofs.Qxb6001410a
open Go.RowKit

/-- The j lowest decimal digits of U, the highest first. -/
def dg (U : Nat) : Nat → List Int
  | 0 => []
  | j + 1 => (48 + ((U / 10 ^ j % 10 : Nat) : Int)) :: dg U j

theorem dg_length (U : Nat) : ∀ j, (dg U j).length = j
  | 0 => rfl
  | j + 1 => by simp [dg, dg_length U j]

theorem dg_dig (U : Nat) : ∀ j, (dg U j).all dgB = true
  | 0 => rfl
  | j + 1 => by
    have := dg_dig U j
    have h : U / 10 ^ j % 10 < 10 := Nat.mod_lt _ (by omega)
    simp only [dg, List.all_cons, this, Bool.and_true]
    unfold dgB
    simp
    omega

theorem div_step (U j : Nat) : U / 10 ^ (j + 1) * 10 + U / 10 ^ j % 10 = U / 10 ^ j := by
  rw [Nat.pow_succ, ← Nat.div_div_eq_div_mul]
  omega

theorem vacc_dg (U : Nat) (hU : U < 1000000000000000000) : ∀ j, (dg U j).foldl (fun v c => wrap64 (wrap64 (v * 10) + (c - 48))) ((U / 10 ^ j : Nat) : Int) = (U : Int)
  | 0 => by simp [dg]
  | j + 1 => by
    have ih := vacc_dg U hU j
    have hs := div_step U j
    have hle : U / 10 ^ j ≤ U := Nat.div_le_self _ _
    have e : wrap64 (wrap64 (((U / 10 ^ (j + 1) : Nat) : Int) * 10) + (48 + ((U / 10 ^ j % 10 : Nat) : Int) - 48)) = ((U / 10 ^ j : Nat) : Int) := by
      rw [IntWalk.wrap64_in (((U / 10 ^ (j + 1) : Nat) : Int) * 10) ⟨by omega, by omega⟩]
      rw [IntWalk.wrap64_in _ ⟨by omega, by omega⟩]
      omega
    simp only [dg, List.foldl_cons]
    rw [e]
    exact ih

/-- The text of a number. -/
def txt (neg : Bool) (U j : Nat) : List Int := (if neg then [45] else []) ++ dg U j

theorem takeWhile_dg (U j : Nat) (sfx : List Int) (hsf : sfx = [] ∨ dgB (sfx.getD 0 0) = false) : (dg U j ++ sfx).takeWhile dgB = dg U j := by
  rw [takeWhile_pre dgB sfx _ (dg_dig U j)]
  have : sfx.takeWhile dgB = [] := by
    cases sfx with
    | nil => rfl
    | cons c r =>
      rcases hsf with h | h
      · cases h
      · simp [List.getD] at h
        rw [List.takeWhile_cons_of_neg (by simp [h])]
  rw [this]; simp

theorem run_dg (U j : Nat) (pre sfx : List Int) (hsf : sfx = [] ∨ dgB (sfx.getD 0 0) = false) : runTo dgB (pre ++ (dg U j ++ sfx)) pre.length = pre.length + j := by
  have := runTo_shift dgB pre (dg U j ++ sfx) 0
  rw [Nat.add_zero] at this
  rw [this]
  unfold runTo
  simp [takeWhile_dg U j sfx hsf, dg_length]

theorem val_dg (U j : Nat) (hU : U < 1000000000000000000) (h0 : U / 10 ^ j = 0) (pre sfx : List Int) : valOf (pre ++ (dg U j ++ sfx)) pre.length j = (U : Int) := by
  have := valOf_shift pre (dg U j ++ sfx) 0 j
  rw [Nat.add_zero] at this
  rw [this]
  unfold valOf vacc
  have e : (List.drop 0 (dg U j ++ sfx)).take j = dg U j := by
    rw [List.drop_zero, List.take_append_of_le_length (by rw [dg_length]; exact Nat.le_refl _), List.take_of_length_le (by rw [dg_length]; exact Nat.le_refl _)]
  rw [e]
  have := vacc_dg U hU j
  rw [h0] at this
  exact this

theorem bad_dg (U j : Nat) (h1 : 1 ≤ j) (h2 : j ≤ 18) (h0 : U / 10 ^ j = 0) (hmin : j = 1 ∨ U / 10 ^ (j - 1) ≠ 0) (pre sfx : List Int) : badB (pre ++ (dg U j ++ sfx)) pre.length j = false := by
  rcases hmin with h | h
  · exact good_one h
  · refine good_lead h1 h2 ?_
    have := getD_shift pre (dg U j ++ sfx) 0
    rw [Nat.add_zero] at this
    rw [this]
    obtain ⟨k, rfl⟩ : ∃ k, j = k + 1 := ⟨j - 1, by omega⟩
    have hs := div_step U k
    simp only [Nat.add_sub_cancel] at h
    have hc : (dg U (k + 1) ++ sfx).getD 0 0 = 48 + ((U / 10 ^ k % 10 : Nat) : Int) := by simp [dg, List.getD]
    rw [hc]
    omega

/-- What 'int' reads of blank text, a number's text and a suffix that does not open with a digit. -/
theorem read_txt (neg : Bool) (U j : Nat) (hU : U < 1000000000000000000) (h1 : 1 ≤ j) (h2 : j ≤ 18) (h0 : U / 10 ^ j = 0) (hmin : j = 1 ∨ U / 10 ^ (j - 1) ≠ 0)
    (ws sfx : List Int) (hws : ws.all spB = true) (hsf : sfx = [] ∨ dgB (sfx.getD 0 0) = false) (n0 : Int) :
    ∃ q s e d : Nat, q = runTo spB (ws ++ (txt neg U j ++ sfx)) 0 ∧ s = stOf (ws ++ (txt neg U j ++ sfx)) q ∧ e = endOf (ws ++ (txt neg U j ++ sfx)) q ∧ d = e - s ∧ false = badB (ws ++ (txt neg U j ++ sfx)) s d ∧
      (if neg then -(U : Int) else U) = outOf (ws ++ (txt neg U j ++ sfx)) q s d n0 ∧ e = ws.length + (txt neg U j).length := by
  obtain ⟨k, rfl⟩ : ∃ k, j = k + 1 := ⟨j - 1, by omega⟩
  have hd10 : U / 10 ^ k % 10 < 10 := Nat.mod_lt _ (by omega)
  cases neg with
  | true =>
    have et : txt true U (k + 1) ++ sfx = [45] ++ (dg U (k + 1) ++ sfx) := by simp [txt]
    have el : (txt true U (k + 1)).length = 1 + (k + 1) := by simp [txt, dg_length]; omega
    rw [et, el]
    have hq : runTo spB (ws ++ ([45] ++ (dg U (k + 1) ++ sfx))) 0 = ws.length + 0 := by
      rw [runTo_pre _ _ _ hws, runTo_stop (by simp) (by simp [spB])]
    have hn : negB (ws ++ ([45] ++ (dg U (k + 1) ++ sfx))) (ws.length + 0) = true := by
      rw [negB_shift]; simp [negB]
    have hs : stOf (ws ++ ([45] ++ (dg U (k + 1) ++ sfx))) (ws.length + 0) = ws.length + 1 := by
      unfold stOf; rw [hn]; simp
    have ea : ws ++ ([45] ++ (dg U (k + 1) ++ sfx)) = (ws ++ [45]) ++ (dg U (k + 1) ++ sfx) := by simp
    have hp : (ws ++ [45]).length = ws.length + 1 := by simp
    have he : endOf (ws ++ ([45] ++ (dg U (k + 1) ++ sfx))) (ws.length + 0) = ws.length + 1 + (k + 1) := by
      unfold endOf
      rw [hs, ea, ← hp]
      exact run_dg U (k + 1) (ws ++ [45]) sfx hsf
    have hb : badB (ws ++ ([45] ++ (dg U (k + 1) ++ sfx))) (ws.length + 1) (k + 1) = false := by
      rw [ea, ← hp]
      exact bad_dg U (k + 1) h1 h2 h0 hmin (ws ++ [45]) sfx
    have hv : valOf (ws ++ ([45] ++ (dg U (k + 1) ++ sfx))) (ws.length + 1) (k + 1) = (U : Int) := by
      rw [ea, ← hp]
      exact val_dg U (k + 1) hU h0 (ws ++ [45]) sfx
    refine ⟨ws.length + 0, ws.length + 1, ws.length + 1 + (k + 1), k + 1, hq.symm, hs.symm, he.symm, by omega, hb.symm, ?_, by omega⟩
    rw [out_neg hb hn, hv, IntWalk.wrap64_in _ ⟨by omega, by omega⟩]
    rfl
  | false =>
    have et : txt false U (k + 1) ++ sfx = dg U (k + 1) ++ sfx := by simp [txt]
    have el : (txt false U (k + 1)).length = k + 1 := by simp [txt, dg_length]
    rw [et, el]
    have hc : (dg U (k + 1) ++ sfx).getD 0 0 = 48 + ((U / 10 ^ k % 10 : Nat) : Int) := by simp [dg, List.getD]
    have hq : runTo spB (ws ++ (dg U (k + 1) ++ sfx)) 0 = ws.length + 0 := by
      rw [runTo_pre _ _ _ hws, runTo_stop (by simp [dg]) (by rw [hc]; simp [spB]; omega)]
    have hn : negB (ws ++ (dg U (k + 1) ++ sfx)) (ws.length + 0) = false := by
      rw [negB_shift]; unfold negB; rw [hc]; simp; omega
    have hs : stOf (ws ++ (dg U (k + 1) ++ sfx)) (ws.length + 0) = ws.length := by
      unfold stOf; rw [hn]; simp
    have he : endOf (ws ++ (dg U (k + 1) ++ sfx)) (ws.length + 0) = ws.length + (k + 1) := by
      unfold endOf
      rw [hs]
      exact run_dg U (k + 1) ws sfx hsf
    have hb := bad_dg U (k + 1) h1 h2 h0 hmin ws sfx
    have hv := val_dg U (k + 1) hU h0 ws sfx
    refine ⟨ws.length + 0, ws.length, ws.length + (k + 1), k + 1, hq.symm, hs.symm, he.symm, by omega, hb.symm, ?_, rfl⟩
    rw [out_pos hb hn, hv]
    rfl

end Go.Proofs.Qxb6001410a
