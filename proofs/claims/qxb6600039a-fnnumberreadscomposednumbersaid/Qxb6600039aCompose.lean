/-
  SEAT b6600039a: a number composed of its parts, and how Number reads it: plain lists.
-/
import Derived.Test.Qxb6600039aNum
namespace Go.Proofs.Qxb6600039a
open Go.RowKit

theorem getD_at (pre l : List Int) : (pre ++ l).getD pre.length 0 = l.getD 0 0 := by
  simp [List.getD, List.getElem?_append_right]

theorem getD_at' (pre l : List Int) (n : Nat) (h : pre.length = n) : (pre ++ l).getD n 0 = l.getD 0 0 := by rw [← h]; exact getD_at pre l

def sgnL (neg : Bool) : List Int := if neg then [45] else []

/-- What comes behind the number. -/
def RestOk (r : List Int) : Prop := r = [] ∨ (dgB (r.getD 0 0) = false ∧ r.getD 0 0 ≠ 46 ∧ r.getD 0 0 ≠ 101 ∧ r.getD 0 0 ≠ 69)

/-- The whole part. -/
def IntOk (I : List Int) : Prop := I = [48] ∨ (I ≠ [] ∧ I.all dgB = true ∧ 49 ≤ I.getD 0 0 ∧ I.getD 0 0 ≤ 57)

/-- The fraction. -/
def FracOk (hasF : Bool) (F : List Int) : Prop := (hasF = false ∧ F = []) ∨ (hasF = true ∧ ∃ fr, F = 46 :: fr ∧ fr ≠ [] ∧ fr.all dgB = true)

/-- The exponent. -/
def ExpOk (hasX : Bool) (X : List Int) : Prop :=
  (hasX = false ∧ X = []) ∨ (hasX = true ∧ ∃ e es ex, X = e :: (es ++ ex) ∧ (e = 101 ∨ e = 69) ∧ (es = [] ∨ es = [43] ∨ es = [45]) ∧ ex ≠ [] ∧ ex.all dgB = true)

theorem head_dig {l : List Int} (hn : l ≠ []) (h : l.all dgB = true) : dgB (l.getD 0 0) = true := by
  cases l with
  | nil => exact absurd rfl hn
  | cons c r => simp only [List.all_cons, Bool.and_eq_true] at h; simpa [List.getD] using h.1

theorem head_app {l m : List Int} (hn : l ≠ []) : (l ++ m).getD 0 0 = l.getD 0 0 := by
  cases l with
  | nil => exact absurd rfl hn
  | cons c r => simp [List.getD]

theorem len_pos {l : List Int} (hn : l ≠ []) : 1 ≤ l.length := by
  cases l with
  | nil => exact absurd rfl hn
  | cons c r => simp

theorem dgB_range {c : Int} (h : dgB c = true) : 48 ≤ c ∧ c ≤ 57 := by simp [dgB] at h; omega

/-- Behind the fraction: the exponent or the rest: no digit, no point. -/
theorem tailX {hasX : Bool} {X r : List Int} (hX : ExpOk hasX X) (hr : RestOk r) : (X ++ r = [] ∨ dgB ((X ++ r).getD 0 0) = false) ∧ (X ++ r ≠ [] → (X ++ r).getD 0 0 ≠ 46) := by
  rcases hX with ⟨_, rfl⟩ | ⟨_, e, es, ex, rfl, he, _, _, _⟩
  · rcases hr with rfl | ⟨h1, h2, _, _⟩
    · exact ⟨.inl rfl, fun h => absurd rfl h⟩
    · exact ⟨.inr (by simpa using h1), fun _ => by simpa using h2⟩
  · have : ((e :: (es ++ ex)) ++ r).getD 0 0 = e := by simp [List.getD]
    rw [this]
    rcases he with rfl | rfl
    · exact ⟨.inr (by decide), fun _ => by decide⟩
    · exact ⟨.inr (by decide), fun _ => by decide⟩

/-- Behind the whole part: no digit. -/
theorem tailF {hasF hasX : Bool} {F X r : List Int} (hF : FracOk hasF F) (hX : ExpOk hasX X) (hr : RestOk r) : F ++ (X ++ r) = [] ∨ dgB ((F ++ (X ++ r)).getD 0 0) = false := by
  rcases hF with ⟨_, rfl⟩ | ⟨_, fr, rfl, _, _⟩
  · exact (tailX hX hr).1
  · exact .inr (by simp [List.getD]; decide)

theorem num_at (neg hasF hasX : Bool) (I F X r : List Int) (hI : IntOk I) (hF : FracOk hasF F) (hX : ExpOk hasX X) (hr : RestOk r) :
    NumAt (sgnL neg ++ (I ++ (F ++ (X ++ r)))) (sgnL neg ++ (I ++ (F ++ (X ++ r)))).length (sgnL neg).length ((sgnL neg).length + I.length) ((sgnL neg).length + I.length + F.length) ((sgnL neg).length + I.length + F.length + X.length) neg hasF hasX := by
  have hIne : I ≠ [] := by
    rcases hI with rfl | h
    · simp
    · exact h.1
  have hI1 := len_pos hIne
  have hIr : 48 ≤ I.getD 0 0 ∧ I.getD 0 0 ≤ 57 := by
    rcases hI with rfl | ⟨_, _, h1, h2⟩
    · simp
    · omega
  obtain ⟨S, hS⟩ : ∃ S, S = sgnL neg := ⟨_, rfl⟩
  rw [← hS]
  have hlen : (S ++ (I ++ (F ++ (X ++ r)))).length = S.length + I.length + F.length + X.length + r.length := by simp; omega
  have hSI : S ++ (I ++ (F ++ (X ++ r))) = (S ++ I) ++ (F ++ (X ++ r)) := by simp
  have hSF : S ++ (I ++ (F ++ (X ++ r))) = (S ++ I ++ F) ++ (X ++ r) := by simp
  have lSI : (S ++ I).length = S.length + I.length := by simp
  have lSF : (S ++ I ++ F).length = S.length + I.length + F.length := by simp; omega
  have gI : (S ++ (I ++ (F ++ (X ++ r)))).getD S.length 0 = I.getD 0 0 := by rw [getD_at, head_app hIne]
  have gF : (S ++ (I ++ (F ++ (X ++ r)))).getD (S.length + I.length) 0 = (F ++ (X ++ r)).getD 0 0 := by rw [hSI]; exact getD_at' _ _ _ lSI
  have gX : (S ++ (I ++ (F ++ (X ++ r)))).getD (S.length + I.length + F.length) 0 = (X ++ r).getD 0 0 := by rw [hSF]; exact getD_at' _ _ _ lSF
  refine ⟨by omega, ?_, ?_, by omega, ?_, by omega, ?_, ?_, by omega, ?_, ?_, by omega⟩
  · cases neg with
    | true => rw [hS]; simp [sgnL, List.getD]
    | false =>
      have e : S = [] := by rw [hS]; rfl
      rw [e, List.nil_append, head_app hIne]
      exact beq_eq_false_iff_ne.2 (by omega)
  · rw [hS]; cases neg <;> rfl
  · rw [gI]
    rcases hI with rfl | ⟨_, h1, h2, h3⟩
    · exact .inl ⟨rfl, rfl⟩
    · refine .inr ⟨h2, h3, ?_⟩
      rw [runTo_digits S I _ h1 (tailF hF hX hr)]
  · intro hf
    rcases hF with ⟨_, rfl⟩ | ⟨h, _⟩
    · refine ⟨by simp, fun hlt => ?_⟩
      rw [gF]
      have hne : X ++ r ≠ [] := by
        intro e
        have := congrArg List.length e
        simp at this
        simp [this.1, this.2] at hlt
      simpa using (tailX hX hr).2 hne
    · rw [h] at hf; cases hf
  · intro hf
    rcases hF with ⟨h, _⟩ | ⟨_, fr, rfl, h1, h2⟩
    · rw [h] at hf; cases hf
    · have l1 := len_pos h1
      have e1 : S ++ (I ++ ((46 :: fr) ++ (X ++ r))) = (S ++ I ++ [46]) ++ (fr ++ (X ++ r)) := by simp
      have l2 : (S ++ I ++ [46]).length = S.length + I.length + 1 := by simp; omega
      refine ⟨by rw [hlen]; simp; omega, ?_, ?_, ?_⟩
      · rw [gF]; simp [List.getD]
      · rw [e1, getD_at' _ _ _ l2, head_app h1]; exact head_dig h1 h2
      · rw [e1, ← l2, runTo_digits _ fr _ h2 (tailX hX hr).1, l2]; simp; omega
  · intro hx
    rcases hX with ⟨_, rfl⟩ | ⟨h, _⟩
    · refine ⟨by simp, fun hlt => ?_⟩
      rw [gX]
      rcases hr with rfl | ⟨_, _, h3, h4⟩
      · simp at hlt; omega
      · simp only [List.nil_append]; exact ⟨by simpa using h3, by simpa using h4⟩
    · rw [h] at hx; cases hx
  · intro hx
    rcases hX with ⟨h, _⟩ | ⟨_, e, es, ex, rfl, he, hes, h1, h2⟩
    · rw [h] at hx; cases hx
    · have l1 := len_pos h1
      have hrd : r = [] ∨ dgB (r.getD 0 0) = false := by
        rcases hr with h | h
        · exact .inl h
        · exact .inr h.1
      have gE : (S ++ (I ++ (F ++ ((e :: (es ++ ex)) ++ r)))).getD (S.length + I.length + F.length) 0 = e := by rw [gX]; simp [List.getD]
      have e1 : S ++ (I ++ (F ++ ((e :: (es ++ ex)) ++ r))) = (S ++ I ++ F ++ [e]) ++ (es ++ (ex ++ r)) := by simp
      have l2 : (S ++ I ++ F ++ [e]).length = S.length + I.length + F.length + 1 := by simp; omega
      have gS : (S ++ (I ++ (F ++ ((e :: (es ++ ex)) ++ r)))).getD (S.length + I.length + F.length + 1) 0 = (es ++ (ex ++ r)).getD 0 0 := by rw [e1]; exact getD_at' _ _ _ l2
      have e2 : S ++ (I ++ (F ++ ((e :: (es ++ ex)) ++ r))) = (S ++ I ++ F ++ [e] ++ es) ++ (ex ++ r) := by simp
      have l3 : (S ++ I ++ F ++ [e] ++ es).length = S.length + I.length + F.length + 1 + es.length := by simp; omega
      have hdx := dgB_range (head_dig h1 h2)
      have hlx : (e :: (es ++ ex)).length = 1 + es.length + ex.length := by simp; omega
      rw [hlx] at hlen
      refine ⟨by rw [hlen]; omega, ?_, ?_⟩
      · rw [gE]
        rcases he with rfl | rfl
        · exact .inl (by decide)
        · exact .inr ⟨by decide, by decide⟩
      · refine ⟨S.length + I.length + F.length + 1 + es.length, by rw [hlen]; omega, ?_, ?_, ?_⟩
        · rw [gS]
          rcases hes with rfl | rfl | rfl
          · refine .inl ⟨rfl, ?_, ?_⟩
            · rw [List.nil_append, head_app h1]; exact beq_eq_false_iff_ne.2 (by omega)
            · rw [List.nil_append, head_app h1]; exact beq_eq_false_iff_ne.2 (by omega)
          · exact .inr ⟨rfl, .inl (by simp [List.getD])⟩
          · exact .inr ⟨rfl, .inr ⟨by simp [List.getD], by simp [List.getD]⟩⟩
        · rw [e2, getD_at' _ _ _ l3, head_app h1]; exact head_dig h1 h2
        · rw [e2, ← l3, runTo_digits _ ex _ h2 hrd, l3, hlx]; omega

end Go.Proofs.Qxb6600039a
