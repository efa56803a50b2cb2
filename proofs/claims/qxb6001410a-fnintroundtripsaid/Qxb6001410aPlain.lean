/-
  SEAT b6001410a: the plain functions: white space, digits, runs. No Go in sight.
-/
import Derived.WalkKit
namespace Go.Proofs.Qxb6001410a
open Go.RowKit

def spB (c : Int) : Bool := c == 32 || c == 9 || c == 10 || c == 13
def dgB (c : Int) : Bool := decide (48 ≤ c) && decide (c ≤ 57)

/-- The first place from p on at which f does not hold. -/
def runTo (f : Int → Bool) (zs : List Int) (p : Nat) : Nat := p + ((zs.drop p).takeWhile f).length

theorem runTo_step {f : Int → Bool} {zs : List Int} {p : Nat} (h : p < zs.length) (hf : f (zs.getD p 0) = true) : runTo f zs p = runTo f zs (p + 1) := by
  unfold runTo
  rw [List.drop_eq_getElem_cons h]
  have e : zs.getD p 0 = zs[p] := by simp [List.getD, h]
  rw [e] at hf
  rw [List.takeWhile_cons_of_pos hf]
  simp; omega

theorem runTo_stop {f : Int → Bool} {zs : List Int} {p : Nat} (h : p < zs.length) (hf : f (zs.getD p 0) = false) : runTo f zs p = p := by
  unfold runTo
  rw [List.drop_eq_getElem_cons h]
  have e : zs.getD p 0 = zs[p] := by simp [List.getD, h]
  rw [e] at hf
  rw [List.takeWhile_cons_of_neg (by simp [hf])]
  simp

theorem runTo_end {f : Int → Bool} {zs : List Int} {p : Nat} (h : zs.length ≤ p) : runTo f zs p = p := by
  unfold runTo
  rw [List.drop_eq_nil_of_le h]
  simp

theorem runTo_ge (f : Int → Bool) (zs : List Int) (p : Nat) : p ≤ runTo f zs p := by unfold runTo; omega

theorem runTo_le (f : Int → Bool) (zs : List Int) (p : Nat) (h : p ≤ zs.length) : runTo f zs p ≤ zs.length := by
  unfold runTo
  have : ((zs.drop p).takeWhile f).length ≤ (zs.drop p).length := (List.takeWhile_sublist f).length_le
  simp at this
  omega


/-! What 'int' reads. -/
def negB (zs : List Int) (q : Nat) : Bool := decide (q < zs.length) && (zs.getD q 0 == 45)
def vacc (ds : List Int) : Int := ds.foldl (fun v c => wrap64 (wrap64 (v * 10) + (c - 48))) 0
def stOf (zs : List Int) (q : Nat) : Nat := if negB zs q then q + 1 else q
def endOf (zs : List Int) (q : Nat) : Nat := runTo dgB zs (stOf zs q)
def badB (zs : List Int) (s d : Nat) : Bool := d == 0 || decide (18 < d) || (zs.getD s 0 == 48 && decide (1 < d))
def valOf (zs : List Int) (s d : Nat) : Int := vacc ((zs.drop s).take d)

theorem stOf_le {zs : List Int} {q : Nat} (h : q ≤ zs.length) : stOf zs q ≤ zs.length := by
  unfold stOf negB
  split
  · rename_i h'; simp at h'; omega
  · exact h

theorem valOf_zero (zs : List Int) (s : Nat) : valOf zs s 0 = 0 := by simp [valOf, vacc]

theorem valOf_succ (zs : List Int) (s d : Nat) (h : s + d < zs.length) : valOf zs s (d + 1) = wrap64 (wrap64 (valOf zs s d * 10) + (zs.getD (s + d) 0 - 48)) := by
  unfold valOf
  rw [List.take_succ_eq_append_getElem (by simp; omega)]
  have e : (zs.drop s)[d]'(by simp; omega) = zs.getD (s + d) 0 := by simp [List.getD, h]
  rw [e]
  simp [vacc]


/-- The number that stands in the target behind the read. -/
def outOf (zs : List Int) (q s d : Nat) (n0 : Int) : Int := if badB zs s d then n0 else if negB zs q then wrap64 (-(valOf zs s d)) else valOf zs s d

theorem bad_zero {zs : List Int} {s d : Nat} (h : d = 0) : badB zs s d = true := by simp [badB, h]
theorem bad_long {zs : List Int} {s d : Nat} (h : 18 < d) : badB zs s d = true := by simp [badB, h]
theorem bad_lead {zs : List Int} {s d : Nat} (h : zs.getD s 0 = 48) (h1 : 1 < d) : badB zs s d = true := by unfold badB; rw [h]; simp [h1]
theorem good_one {zs : List Int} {s d : Nat} (h : d = 1) : badB zs s d = false := by simp [badB, h]
theorem good_lead {zs : List Int} {s d : Nat} (h0 : 1 ≤ d) (h1 : d ≤ 18) (h : zs.getD s 0 ≠ 48) : badB zs s d = false := by
  unfold badB
  have : (zs.getD s 0 == 48) = false := by simpa using h
  rw [this]
  simp; omega
theorem out_bad {zs : List Int} {q s d : Nat} {n0 : Int} (h : badB zs s d = true) : outOf zs q s d n0 = n0 := by simp [outOf, h]
theorem out_neg {zs : List Int} {q s d : Nat} {n0 : Int} (h : badB zs s d = false) (hn : negB zs q = true) : outOf zs q s d n0 = wrap64 (-(valOf zs s d)) := by simp [outOf, h, hn]
theorem out_pos {zs : List Int} {q s d : Nat} {n0 : Int} (h : badB zs s d = false) (hn : negB zs q = false) : outOf zs q s d n0 = valOf zs s d := by simp [outOf, h, hn]

end Go.Proofs.Qxb6001410a
