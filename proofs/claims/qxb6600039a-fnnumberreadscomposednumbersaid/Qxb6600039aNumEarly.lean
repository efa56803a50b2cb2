/-
  SEAT b6600039a: FnNumberReadsComposedNumber: the ways on which the Go text answers at once.
-/
import Derived.Test.Qxb6600039aNumLaw
namespace Go.Proofs.Qxb6600039a
open Go.ChangeShapes Go.WideShapes Go.ChangeAt Go.RowKit

theorem num_long (w : World) (a0 : Bool) (a1 : Int) (a2 : Option Addr) (l2 c2 : Nat) (a3 : Option Addr) (l3 c3 : Nat) (a4 : Bool) (a5 : Option Addr) (l5 c5 : Nat) (a6 : Bool) (a7 : Int) (a8 : Bool) (a9 : Option Addr) (l9 c9 : Nat) (h : (1048576 : Int) < (l2 : Int) + l3 + l5 + l9) (m2 : l2 ≤ maxLen) (m3 : l3 ≤ maxLen) (m5 : l5 ≤ maxLen) (m9 : l9 ≤ maxLen) :
    Calls Try.prog 6 #[.bool a0, .int .u64 a1, .slice a2 l2 c2, .slice a3 l3 c3, .bool a4, .slice a5 l5 c5, .bool a6, .int .u8 a7, .bool a8, .slice a9 l9 c9] w fun e w' => e = .returned (.bool true) ∧ w = w' := by
  go_enter Try.func6, Try.ntmps6
  go_wp2_with (first | (go_at_call 21; refine (zzBytes21_no _ _ _ _ _ _ _ _ _ _ _ _ _ _ _ _ _ _ _ h m2 m3 m5 m9).mono ?_; rintro ev w' ⟨rfl, rfl⟩))
  go_ret
  exact ⟨rfl, rfl⟩

theorem num_l2 (w : World) (a0 : Bool) (a1 : Int) (a2 : Option Addr) (l2 c2 : Nat) (a3 : Option Addr) (l3 c3 : Nat) (a4 : Bool) (a5 : Option Addr) (l5 c5 : Nat) (a6 : Bool) (a7 : Int) (a8 : Bool) (a9 : Option Addr) (l9 c9 : Nat) (h : (l2 : Int) + l3 + l5 + l9 ≤ 1048576) (k2 : (65536 : Int) < l2) :
    Calls Try.prog 6 #[.bool a0, .int .u64 a1, .slice a2 l2 c2, .slice a3 l3 c3, .bool a4, .slice a5 l5 c5, .bool a6, .int .u8 a7, .bool a8, .slice a9 l9 c9] w fun e w' => e = .returned (.bool true) ∧ w = w' := by
  go_enter Try.func6, Try.ntmps6
  go_wp2_with (first | (go_at_call 21; refine (zzBytes21 _ _ _ _ _ _ _ _ _ _ _ _ _ _ _ _ _ _ _ h).mono ?_; rintro ev w' ⟨rfl, rfl⟩))
  go_ret
  exact ⟨rfl, rfl⟩

theorem num_l3 (w : World) (a0 : Bool) (a1 : Int) (a2 : Option Addr) (l2 c2 : Nat) (a3 : Option Addr) (l3 c3 : Nat) (a4 : Bool) (a5 : Option Addr) (l5 c5 : Nat) (a6 : Bool) (a7 : Int) (a8 : Bool) (a9 : Option Addr) (l9 c9 : Nat) (h : (l2 : Int) + l3 + l5 + l9 ≤ 1048576) (k2 : (l2 : Int) ≤ 65536) (k3 : (65536 : Int) < l3) :
    Calls Try.prog 6 #[.bool a0, .int .u64 a1, .slice a2 l2 c2, .slice a3 l3 c3, .bool a4, .slice a5 l5 c5, .bool a6, .int .u8 a7, .bool a8, .slice a9 l9 c9] w fun e w' => e = .returned (.bool true) ∧ w = w' := by
  go_enter Try.func6, Try.ntmps6
  go_wp2_with (first | (go_at_call 21; refine (zzBytes21 _ _ _ _ _ _ _ _ _ _ _ _ _ _ _ _ _ _ _ h).mono ?_; rintro ev w' ⟨rfl, rfl⟩))
  go_ret
  exact ⟨rfl, rfl⟩

theorem num_l5 (w : World) (a0 : Bool) (a1 : Int) (a2 : Option Addr) (l2 c2 : Nat) (a3 : Option Addr) (l3 c3 : Nat) (a4 : Bool) (a5 : Option Addr) (l5 c5 : Nat) (a6 : Bool) (a7 : Int) (a8 : Bool) (a9 : Option Addr) (l9 c9 : Nat) (h : (l2 : Int) + l3 + l5 + l9 ≤ 1048576) (k2 : (l2 : Int) ≤ 65536) (k3 : (l3 : Int) ≤ 65536) (k5 : (65536 : Int) < l5) :
    Calls Try.prog 6 #[.bool a0, .int .u64 a1, .slice a2 l2 c2, .slice a3 l3 c3, .bool a4, .slice a5 l5 c5, .bool a6, .int .u8 a7, .bool a8, .slice a9 l9 c9] w fun e w' => e = .returned (.bool true) ∧ w = w' := by
  go_enter Try.func6, Try.ntmps6
  go_wp2_with (first | (go_at_call 21; refine (zzBytes21 _ _ _ _ _ _ _ _ _ _ _ _ _ _ _ _ _ _ _ h).mono ?_; rintro ev w' ⟨rfl, rfl⟩))
  go_ret
  exact ⟨rfl, rfl⟩

theorem num_l9 (w : World) (a0 : Bool) (a1 : Int) (a2 : Option Addr) (l2 c2 : Nat) (a3 : Option Addr) (l3 c3 : Nat) (a4 : Bool) (a5 : Option Addr) (l5 c5 : Nat) (a6 : Bool) (a7 : Int) (a8 : Bool) (a9 : Option Addr) (l9 c9 : Nat) (h : (l2 : Int) + l3 + l5 + l9 ≤ 1048576) (k2 : (l2 : Int) ≤ 65536) (k3 : (l3 : Int) ≤ 65536) (k5 : (l5 : Int) ≤ 65536) (k9 : (65536 : Int) < l9) :
    Calls Try.prog 6 #[.bool a0, .int .u64 a1, .slice a2 l2 c2, .slice a3 l3 c3, .bool a4, .slice a5 l5 c5, .bool a6, .int .u8 a7, .bool a8, .slice a9 l9 c9] w fun e w' => e = .returned (.bool true) ∧ w = w' := by
  go_enter Try.func6, Try.ntmps6
  go_wp2_with (first | (go_at_call 21; refine (zzBytes21 _ _ _ _ _ _ _ _ _ _ _ _ _ _ _ _ _ _ _ h).mono ?_; rintro ev w' ⟨rfl, rfl⟩))
  go_ret
  exact ⟨rfl, rfl⟩

theorem num_f0 (w : World) (a0 : Bool) (a1 : Int) (a2 : Option Addr) (l2 c2 : Nat) (a3 : Option Addr) (l3 c3 : Nat) (a5 : Option Addr) (l5 c5 : Nat) (a6 : Bool) (a7 : Int) (a8 : Bool) (a9 : Option Addr) (l9 c9 : Nat) (h : (l2 : Int) + l3 + l5 + l9 ≤ 1048576) (k2 : (l2 : Int) ≤ 65536) (k3 : (l3 : Int) ≤ 65536) (k5 : (l5 : Int) ≤ 65536) (k9 : (l9 : Int) ≤ 65536) (e3 : ((l3 : Int) == 0) = true) :
    Calls Try.prog 6 #[.bool a0, .int .u64 a1, .slice a2 l2 c2, .slice a3 l3 c3, .bool true, .slice a5 l5 c5, .bool a6, .int .u8 a7, .bool a8, .slice a9 l9 c9] w fun e w' => e = .returned (.bool true) ∧ w = w' := by
  go_enter Try.func6, Try.ntmps6
  go_wp2_with (first | (go_at_call 21; refine (zzBytes21 _ _ _ _ _ _ _ _ _ _ _ _ _ _ _ _ _ _ _ h).mono ?_; rintro ev w' ⟨rfl, rfl⟩))
  go_ret
  exact ⟨rfl, rfl⟩

theorem num_x0 (w : World) (a0 : Bool) (a1 : Int) (a2 : Option Addr) (l2 c2 : Nat) (a3 : Option Addr) (l3 c3 : Nat) (a4 : Bool) (a5 : Option Addr) (l5 c5 : Nat) (a7 : Int) (a8 : Bool) (a9 : Option Addr) (l9 c9 : Nat) (h : (l2 : Int) + l3 + l5 + l9 ≤ 1048576) (k2 : (l2 : Int) ≤ 65536) (k3 : (l3 : Int) ≤ 65536) (k5 : (l5 : Int) ≤ 65536) (k9 : (l9 : Int) ≤ 65536) (e5 : ((l5 : Int) == 0) = true) (e4 : a4 = false ∨ (a4 = true ∧ ((l3 : Int) == 0) = false)) :
    Calls Try.prog 6 #[.bool a0, .int .u64 a1, .slice a2 l2 c2, .slice a3 l3 c3, .bool a4, .slice a5 l5 c5, .bool true, .int .u8 a7, .bool a8, .slice a9 l9 c9] w fun e w' => e = .returned (.bool true) ∧ w = w' := by
  rcases e4 with rfl | ⟨rfl, e3⟩
  all_goals
    go_enter Try.func6, Try.ntmps6
    go_wp2_with (first | (go_at_call 21; refine (zzBytes21 _ _ _ _ _ _ _ _ _ _ _ _ _ _ _ _ _ _ _ h).mono ?_; rintro ev w' ⟨rfl, rfl⟩))
    go_ret
    exact ⟨rfl, rfl⟩

theorem num_rest (w : World) (a0 : Bool) (a1 : Int) (a2 : Option Addr) (l2 c2 : Nat) (a3 : Option Addr) (l3 c3 : Nat) (a4 : Bool) (a5 : Option Addr) (l5 c5 : Nat) (a6 : Bool) (a7 : Int) (a8 : Bool) (b9 o9 : Nat) (l9 c9 : Nat) (h : (l2 : Int) + l3 + l5 + l9 ≤ 1048576) (k2 : (l2 : Int) ≤ 65536) (k3 : (l3 : Int) ≤ 65536) (k5 : (l5 : Int) ≤ 65536) (k9 : (l9 : Int) ≤ 65536) (e4 : a4 = false ∨ (a4 = true ∧ ((l3 : Int) == 0) = false)) (e6 : a6 = false ∨ (a6 = true ∧ ((l5 : Int) == 0) = false)) (c : Int) (hp : (0 : Int) < (l9 : Int)) (hc : w.cell? ⟨b9, o9, none⟩ = some (.int .u8 c)) (D : Bool) (HD : Hid (D = dgB c)) (hb : D = true ∨ (D = false ∧ (c == 46) = true) ∨ (D = false ∧ (c == 46) = false ∧ (c == 101) = true) ∨ (D = false ∧ (c == 46) = false ∧ (c == 101) = false ∧ (c == 69) = true)) :
    Calls Try.prog 6 #[.bool a0, .int .u64 a1, .slice a2 l2 c2, .slice a3 l3 c3, .bool a4, .slice a5 l5 c5, .bool a6, .int .u8 a7, .bool a8, .slice (some ⟨b9, o9, none⟩) l9 c9] w fun e w' => e = .returned (.bool true) ∧ w = w' := by
  rcases e4 with rfl | ⟨rfl, e3⟩
  all_goals
    rcases e6 with rfl | ⟨rfl, e5⟩
    all_goals
      rcases hb with rfl | ⟨rfl, f1⟩ | ⟨rfl, f1, f2⟩ | ⟨rfl, f1, f2, f3⟩
      all_goals
        go_enter Try.func6, Try.ntmps6
        go_wp2_with (first | (go_at_call 21; refine (zzBytes21 _ _ _ _ _ _ _ _ _ _ _ _ _ _ _ _ _ _ _ h).mono ?_; rintro ev w' ⟨rfl, rfl⟩) | (go_at_call 22; refine (isDigit22 _ _ _ HD).mono ?_; rintro ev w' ⟨rfl, rfl⟩))
        go_ret
        exact ⟨rfl, rfl⟩

end Go.Proofs.Qxb6600039a
