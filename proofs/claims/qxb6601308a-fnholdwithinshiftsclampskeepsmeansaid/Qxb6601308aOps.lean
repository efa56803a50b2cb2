/-
  SEAT b6601308a: what the float operations do in a walk; isFinite, holdDomain, cloneF.
-/
import Derived.Test.Qxb6601308aKit
namespace Go.Proofs.Qxb6601308a
open Go.ChangeShapes Go.WideShapes Go.ChangeAt Go.RowKit

/-- '+', '-', '*', '/' on doubles, whatever they are: some word; a draw where it is a NaN. -/
theorem fa_any (op : BinOp) (hop : op = .add ∨ op = .sub ∨ op = .quo ∨ op = .mul) (t : TypeId) (x y : Nat) (W : World) :
    ∃ r n, (binOp op t (.float .f64 x) (.float .f64 y)).run Try.prog W = .ok (.float .f64 r) (W.drewN n) ∧ (floatBits op .f64 x y = some r ∨ (floatBits op .f64 x y = none ∧ ¬ nn r)) := by
  cases h : floatBits op .f64 x y with
  | some r => exact ⟨r, 0, run_float_arith W op t .f64 x y r h, .inl rfl⟩
  | none =>
    refine ⟨Question.cut (.nanBits .f64 x y) (W.tape W.drawn (.nanBits .f64 x y)), 1, ?_, .inr ⟨rfl, ?_⟩⟩
    · rcases hop with rfl | rfl | rfl | rfl <;> simp only [floatBits] at h <;> simp [binOp, Op.floatArith, h, Question.forced] <;> rfl
    · obtain ⟨t, ht⟩ : ∃ t, t = W.tape W.drawn (.nanBits .f64 x y) := ⟨_, rfl⟩
      rw [← ht]
      show ¬ (((t % 2) * 9223372036854775808 + 9218868437227405312 + 1 + (t / 2) % 4503599627370495) % 9223372036854775808 ≤ 9218868437227405312)
      have hv : (t / 2) % 4503599627370495 < 4503599627370495 := Nat.mod_lt _ (by omega)
      obtain ⟨v, hve⟩ : ∃ v, v = (t / 2) % 4503599627370495 := ⟨_, rfl⟩
      rw [← hve] at hv ⊢
      rcases Nat.mod_two_eq_zero_or_one t with e | e <;> rw [e] <;> omega

theorem fa_ok (op : BinOp) (t : TypeId) (x y r : Nat) (h : floatBits op .f64 x y = some r) (W : World) : (binOp op t (.float .f64 x) (.float .f64 y)).run Try.prog W = .ok (.float .f64 r) W :=
  run_float_arith W op t .f64 x y r h

theorem ret_bool {a b : Bool} (h : a = b) : Ending.returned (.bool a) = .returned (.bool b) := by rw [h]

theorem order64 (x y : Nat) : FloatKind.f64.format.order x y = Ieee.double.order x y := rfl

/-- The greater of two words that are no NaNs. -/
theorem max_run (x y : Nat) (hx : nn x) (hy : nn y) : ∃ r, (r = x ∨ r = y) ∧ key x ≤ key r ∧ key y ≤ key r ∧ ∀ (ts : Array TypeId) (t : TypeId) (W : World), (Builtin.max_ ts t #[.float .f64 x, .float .f64 y]).run Try.prog W = .ok (.float .f64 r) W := by
  have ho := order_key x y hx hy
  rcases Int.lt_trichotomy (key x) (key y) with h | h | h
  · rw [cmp_lt h] at ho
    exact ⟨y, .inr rfl, by omega, by omega, fun ts t W => by simp [Builtin.max_, Builtin.max2, order64, ho]⟩
  · rw [cmp_eq h] at ho
    refine ⟨if (FloatKind.f64.decode x).neg then y else x, by split <;> simp, by split <;> omega, by split <;> omega, fun ts t W => by simp [Builtin.max_, Builtin.max2, order64, ho]⟩
  · rw [cmp_gt h] at ho
    exact ⟨x, .inl rfl, by omega, by omega, fun ts t W => by simp [Builtin.max_, Builtin.max2, order64, ho]⟩

/-- The lesser of two words that are no NaNs. -/
theorem min_run (x y : Nat) (hx : nn x) (hy : nn y) : ∃ r, (r = x ∨ r = y) ∧ key r ≤ key x ∧ key r ≤ key y ∧ ∀ (ts : Array TypeId) (t : TypeId) (W : World), (Builtin.min_ ts t #[.float .f64 x, .float .f64 y]).run Try.prog W = .ok (.float .f64 r) W := by
  have ho := order_key x y hx hy
  rcases Int.lt_trichotomy (key x) (key y) with h | h | h
  · rw [cmp_lt h] at ho
    exact ⟨x, .inl rfl, by omega, by omega, fun ts t W => by simp [Builtin.min_, Builtin.min2, order64, ho]⟩
  · rw [cmp_eq h] at ho
    refine ⟨if (FloatKind.f64.decode x).neg then x else y, by split <;> simp, by split <;> omega, by split <;> omega, fun ts t W => by simp [Builtin.min_, Builtin.min2, order64, ho]⟩
  · rw [cmp_gt h] at ho
    exact ⟨y, .inr rfl, by omega, by omega, fun ts t W => by simp [Builtin.min_, Builtin.min2, order64, ho]⟩

/-- x - x is 0 just where x is finite. -/
theorem sub_self_fin (x : Nat) : (fin x ∧ ∃ r, floatBits .sub .f64 x x = some r ∧ nn r ∧ key r = 0) ∨ (¬ fin x ∧ floatBits .sub .f64 x x = none) := by
  by_cases h : fin x
  · obtain ⟨r, h1, h2, h3, _⟩ := sub_key x x h h
    refine .inl ⟨h, r, h1, h3, ?_⟩
    rw [h2, Int.sub_self]
    rfl
  · refine .inr ⟨h, ?_⟩
    show Ieee.double.sub x x = none
    unfold Ieee.Format.sub
    by_cases h1 : nn x
    · have e : rungW x = INF := by unfold nn at h1; unfold fin at h; omega
      rw [read_inf x e]
      cases negW x <;> rfl
    · rw [read_nan x h1]
      rfl

theorem isFinite_any (w : World) (x : Nat) (D : Bool) (HD : Hid (D = decide (rungW x < INF))) :
    Calls Try.prog 27 #[.float .f64 x] w fun e w' => e = .returned (.bool D) ∧ ∃ n, w' = w.drewN n := by
  obtain ⟨r, n, hrun, hr⟩ := fa_any .sub (.inr (.inl rfl)) 22 x x w
  have n0 : nn 0 := by unfold nn rungW INF; omega
  have HB : Hid ((FloatKind.f64.format.order r 0 == some .eq) = D) := by
    show _ = _
    rw [HD.out, order64]
    rcases sub_self_fin x with ⟨hf, s, h1, h2, h3⟩ | ⟨hf, h1⟩
    · rw [h1] at hr
      rcases hr with hr | hr
      · cases hr
        rw [order_key r 0 h2 n0, cmp_eq (by rw [h3]; rfl)]
        unfold fin at hf
        simp [hf]
      · cases hr.1
    · rw [h1] at hr
      rcases hr with hr | hr
      · cases hr
      · rw [order_nan r 0 (.inl hr.2)]
        unfold fin at hf
        simp [hf]
  clear hr
  obtain ⟨E, hE⟩ : ∃ E, (FloatKind.f64.format.order r 0 == some .eq) = E := ⟨_, rfl⟩
  have HE : Hid (E = D) := hE.symm.trans HB.out
  clear HB
  go_enter Try.func27, Try.ntmps27
  go_wp2
  go_ret
  exact ⟨ret_bool HE.out, n, rfl⟩
end Go.Proofs.Qxb6601308a
