/-
  SEAT b6600039a: the plain functions of the encoder: no Go in sight.
-/
import Derived.WalkKit
namespace Go.Proofs.Qxb6600039a
open Go.RowKit

def hexd (d : Int) (up : Bool) : Int := if d < 10 then 48 + d else if up then 55 + d else 87 + d
def upB (c : Int) : Bool := c % 2 == 1

/-- What the encoder writes for one byte. -/
def enc1 (c : Int) : List Int :=
  if c = 34 then [92, 34] else if c = 92 then [92, 92] else if c = 47 then [92, 47] else if c = 10 then [92, 110] else if c = 9 then [92, 116] else
  if c = 13 then [92, 114] else if c = 8 then [92, 98] else if c = 12 then [92, 102] else if c < 32 then [92, 117, 48, 48, hexd (c / 16) (upB c), hexd (c % 16) (upB c)] else [c]

def enc (zs : List Int) : List Int := zs.flatMap enc1

def ndB (c : Int) : Bool := c == 34 || c == 92 || c == 47 || decide (c < 32)

theorem getD_mem {zs : List Int} {k : Nat} (h : k < zs.length) : zs.getD k 0 ∈ zs := by
  have e : zs.getD k 0 = zs[k] := by simp [List.getD, h]
  rw [e]; exact List.getElem_mem h

theorem enc1_len (c : Int) : 1 ≤ (enc1 c).length ∧ (enc1 c).length ≤ 6 := by
  unfold enc1
  repeat' split
  all_goals simp

theorem enc_snoc (zs : List Int) (c : Int) : enc (zs ++ [c]) = enc zs ++ enc1 c := by simp [enc]

theorem enc_take (zs : List Int) (k : Nat) (h : k < zs.length) : enc (zs.take (k + 1)) = enc (zs.take k) ++ enc1 (zs.getD k 0) := by
  rw [List.take_succ_eq_append_getElem h, enc_snoc]
  simp [List.getD, h]

theorem enc_len : ∀ zs : List Int, (enc zs).length ≤ 6 * zs.length
  | [] => by simp [enc]
  | c :: r => by
    have h1 := enc1_len c
    have h2 := enc_len r
    have e : enc (c :: r) = enc1 c ++ enc r := by simp [enc]
    rw [e]
    simp
    omega

theorem hexd_bd (d : Int) (u : Bool) (h0 : 0 ≤ d) (h1 : d ≤ 15) : (48 ≤ hexd d u ∧ hexd d u ≤ 57) ∨ (97 ≤ hexd d u ∧ hexd d u ≤ 102) ∨ (65 ≤ hexd d u ∧ hexd d u ≤ 70) := by
  unfold hexd
  split
  · omega
  · split <;> omega

theorem enc1_by8 (c : Int) (h0 : 0 ≤ c) (h1 : c ≤ 255) : ∀ n ∈ enc1 c, 0 ≤ n ∧ n ≤ 255 := by
  intro n hn
  unfold enc1 at hn
  repeat' split at hn
  all_goals simp at hn
  all_goals try omega
  have h2 := hexd_bd (c / 16) (upB c) (by omega) (by omega)
  have h3 := hexd_bd (c % 16) (upB c) (by omega) (by omega)
  rcases hn with h | h | h | h | h <;> omega

theorem enc_by8 (zs : List Int) (h : ∀ n ∈ zs, 0 ≤ n ∧ n ≤ 255) : ∀ n ∈ enc zs, 0 ≤ n ∧ n ≤ 255 := by
  intro n hn
  unfold enc at hn
  obtain ⟨c, hc, hnc⟩ := List.mem_flatMap.1 hn
  exact enc1_by8 c (h c hc).1 (h c hc).2 n hnc


def isHx (c : Int) : Prop := (48 ≤ c ∧ c ≤ 57) ∨ (97 ≤ c ∧ c ≤ 102) ∨ (65 ≤ c ∧ c ≤ 70)

/-- The three kinds of what is written for one byte. -/
theorem enc1_cases (c : Int) (h0 : 0 ≤ c) (h1 : c ≤ 255) :
    (enc1 c = [c] ∧ 32 ≤ c ∧ c ≠ 34 ∧ c ≠ 92 ∧ ndB c = false) ∨
    (∃ x, enc1 c = [92, x] ∧ (x = 34 ∨ x = 92 ∨ x = 47 ∨ x = 98 ∨ x = 102 ∨ x = 110 ∨ x = 114 ∨ x = 116) ∧ ndB c = true) ∨
    (∃ x y, enc1 c = [92, 117, 48, 48, x, y] ∧ isHx x ∧ isHx y ∧ ndB c = true) := by
  by_cases a1 : c = 34
  · subst a1; exact .inr (.inl ⟨34, rfl, by omega, rfl⟩)
  by_cases a2 : c = 92
  · subst a2; exact .inr (.inl ⟨92, rfl, by omega, rfl⟩)
  by_cases a3 : c = 47
  · subst a3; exact .inr (.inl ⟨47, rfl, by omega, rfl⟩)
  by_cases a4 : c = 10
  · subst a4; exact .inr (.inl ⟨110, rfl, by omega, rfl⟩)
  by_cases a5 : c = 9
  · subst a5; exact .inr (.inl ⟨116, rfl, by omega, rfl⟩)
  by_cases a6 : c = 13
  · subst a6; exact .inr (.inl ⟨114, rfl, by omega, rfl⟩)
  by_cases a7 : c = 8
  · subst a7; exact .inr (.inl ⟨98, rfl, by omega, rfl⟩)
  by_cases a8 : c = 12
  · subst a8; exact .inr (.inl ⟨102, rfl, by omega, rfl⟩)
  by_cases a9 : c < 32
  · refine .inr (.inr ⟨hexd (c / 16) (upB c), hexd (c % 16) (upB c), ?_, hexd_bd _ _ (by omega) (by omega), hexd_bd _ _ (by omega) (by omega), ?_⟩)
    · unfold enc1; rw [if_neg a1, if_neg a2, if_neg a3, if_neg a4, if_neg a5, if_neg a6, if_neg a7, if_neg a8, if_pos a9]
    · unfold ndB; simp [a9]
  · refine .inl ⟨?_, by omega, a1, a2, ?_⟩
    · unfold enc1; rw [if_neg a1, if_neg a2, if_neg a3, if_neg a4, if_neg a5, if_neg a6, if_neg a7, if_neg a8, if_neg a9]
    · unfold ndB; simp [a1, a2, a3, a9]

theorem any_take (zs : List Int) (k : Nat) (h : k < zs.length) : (zs.take (k + 1)).any ndB = ((zs.take k).any ndB || ndB (zs.getD k 0)) := by
  rw [List.take_succ_eq_append_getElem h, List.any_append]
  simp [List.getD, h]

/-- The text between the quotes, cut at byte q. -/
theorem text_cut (zs rest : List Int) (q : Nat) (h : q < zs.length) :
    ∃ tl, 34 :: (enc zs ++ 34 :: rest) = (34 :: enc (zs.take q)) ++ (enc1 (zs.getD q 0) ++ tl) ∧ 1 ≤ tl.length := by
  refine ⟨enc (zs.drop (q + 1)) ++ 34 :: rest, ?_, by simp; omega⟩
  have e : zs = zs.take q ++ (zs.getD q 0 :: zs.drop (q + 1)) := by
    have e1 : zs.getD q 0 = zs[q] := by simp [List.getD, h]
    rw [e1, ← List.drop_eq_getElem_cons h, List.take_append_drop]
  have e2 : enc zs = enc (zs.take q) ++ (enc1 (zs.getD q 0) ++ enc (zs.drop (q + 1))) := by
    conv => lhs; rw [e]
    simp [enc]
  rw [e2]
  simp

theorem getD_pre (pre xs tl : List Int) (t : Nat) (ht : t < xs.length) : (pre ++ (xs ++ tl)).getD (pre.length + t) 0 = xs.getD t 0 := by
  simp [List.getD, List.getElem?_append_right, List.getElem?_append_left, ht]

theorem text_end (zs rest : List Int) : (34 :: (enc zs ++ 34 :: rest)).getD (1 + (enc zs).length) 0 = 34 := by
  have e : 34 :: (enc zs ++ 34 :: rest) = (34 :: enc zs) ++ ([34] ++ rest) := by simp
  rw [e]
  have := getD_pre (34 :: enc zs) [34] rest 0 (by simp)
  simp only [List.length_cons, Nat.add_zero] at this
  rw [Nat.add_comm 1, this]
  rfl

end Go.Proofs.Qxb6600039a
