/-
  SEAT b6001410a: what blank text ahead of a body does to a read: plain lists.
-/
import Derived.Test.Qxb6001410aPlain
namespace Go.Proofs.Qxb6001410a
open Go.RowKit

theorem drop_shift (ws zs : List Int) (k : Nat) : (ws ++ zs).drop (ws.length + k) = zs.drop k := by
  rw [List.drop_append, List.drop_eq_nil_of_le (by omega)]
  simp

theorem getD_shift (ws zs : List Int) (k : Nat) : (ws ++ zs).getD (ws.length + k) 0 = zs.getD k 0 := by
  simp [List.getD, List.getElem?_append_right]

theorem runTo_shift (f : Int → Bool) (ws zs : List Int) (k : Nat) : runTo f (ws ++ zs) (ws.length + k) = ws.length + runTo f zs k := by
  unfold runTo
  rw [drop_shift]
  omega

theorem takeWhile_pre (f : Int → Bool) (zs : List Int) : ∀ ws : List Int, ws.all f = true → (ws ++ zs).takeWhile f = ws ++ zs.takeWhile f
  | [], _ => rfl
  | x :: r, h => by
    simp only [List.all_cons, Bool.and_eq_true] at h
    rw [List.cons_append, List.takeWhile_cons_of_pos h.1, takeWhile_pre f zs r h.2, List.cons_append]

theorem runTo_pre (f : Int → Bool) (ws zs : List Int) (h : ws.all f = true) : runTo f (ws ++ zs) 0 = ws.length + runTo f zs 0 := by
  unfold runTo
  simp [takeWhile_pre f zs ws h]

theorem negB_shift (ws zs : List Int) (q : Nat) : negB (ws ++ zs) (ws.length + q) = negB zs q := by
  unfold negB
  rw [getD_shift]
  simp

theorem stOf_shift (ws zs : List Int) (q : Nat) : stOf (ws ++ zs) (ws.length + q) = ws.length + stOf zs q := by
  unfold stOf
  rw [negB_shift]
  split <;> omega

theorem endOf_shift (ws zs : List Int) (q : Nat) : endOf (ws ++ zs) (ws.length + q) = ws.length + endOf zs q := by
  unfold endOf
  rw [stOf_shift, runTo_shift]

theorem valOf_shift (ws zs : List Int) (s d : Nat) : valOf (ws ++ zs) (ws.length + s) d = valOf zs s d := by
  unfold valOf
  rw [drop_shift]

theorem badB_shift (ws zs : List Int) (s d : Nat) : badB (ws ++ zs) (ws.length + s) d = badB zs s d := by
  unfold badB
  rw [getD_shift]

theorem outOf_shift (ws zs : List Int) (q s d : Nat) (n0 : Int) : outOf (ws ++ zs) (ws.length + q) (ws.length + s) d n0 = outOf zs q s d n0 := by
  unfold outOf
  rw [badB_shift, negB_shift, valOf_shift]

end Go.Proofs.Qxb6001410a
