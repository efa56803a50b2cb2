/-
  SEAT b6600039a: the walk of FnNumberReadsComposedNumber.
-/
import Derived.Test.Qxb6600039aItoa
import Derived.Test.Qxb6600039aCompose
import Derived.Test.Qxb6600039aSmall
namespace Go.Proofs.Qxb6600039a
open Go.ChangeShapes Go.WideShapes Go.ChangeAt Go.RowKit

theorem Tx.below {w wr w' : World} {v : Value} {T : List Int} (h : Tx w wr v T) (hb : Below wr.heap.size wr w') : Tx w w' v T := by
  refine ⟨?_, h.bel.trans (hb.mono h.bel.size)⟩
  obtain ⟨h1, h2⟩ := h.own
  refine ⟨h1, ?_⟩
  rcases h2 with h2 | ⟨g, cap, cur, hv, hg, hh, r⟩
  · exact .inl h2
  · have hlt : g < wr.heap.size := (Array.getElem?_eq_some_iff.1 hh).1
    exact .inr ⟨g, cap, cur, hv, hg, by rw [hb.block g hlt]; exact hh, r⟩

theorem Tx.app {w wr w3 : World} {v v' : Value} {T : List Int} (h : Tx w wr v T) (ns : List Int) (hown : w3.ownsRow w.heap.size 5 1 v' (T.length + ns.length) (T.map (Value.int .u8) ++ ns.map (Value.int .u8))) (hg : wr.grownBy w3 v.ownBlock) : Tx w w3 v' (T ++ ns) :=
  ⟨by rw [List.length_append, List.map_append]; exact hown, below_app' h.bel h.bel.size h.own (Nat.le_refl _) hg⟩

theorem Sl.of_tx {w wr : World} {v : Value} {T : List Int} (h : Tx w wr v T) (h8 : ∀ x ∈ T, 0 ≤ x ∧ x ≤ 255) : ∃ a cap, v = .slice a T.length cap ∧ Sl wr a T.length cap T := by
  have h := h.own
  rcases h.2 with ⟨rfl, h0⟩ | ⟨g, cap, cur, rfl, hb, hg, h1, h2, _, _⟩
  · exact ⟨none, 0, by rw [h0], rfl, by omega, by unfold maxLen; omega, fun _ => ⟨h0, rfl⟩, .inl (List.eq_nil_of_length_eq_zero h0), h8⟩
  · exact ⟨_, _, rfl, Sl.of_own h h8⟩

theorem sgn_by8 (neg : Bool) : ∀ x ∈ sgnL neg, 0 ≤ x ∧ x ≤ 255 := by
  intro x hx
  cases neg
  · simp [sgnL] at hx
  · simp [sgnL] at hx; omega
theorem int_by8 {I : List Int} (h : IntOk I) : ∀ x ∈ I, 0 ≤ x ∧ x ≤ 255 := by
  rcases h with rfl | ⟨_, h, _⟩
  · intro x hx; simp at hx; omega
  · exact dig_by8 h
theorem frac_by8 {hasF : Bool} {F : List Int} (h : FracOk hasF F) : ∀ x ∈ F, 0 ≤ x ∧ x ≤ 255 := by
  rcases h with ⟨_, rfl⟩ | ⟨_, fr, rfl, _, h⟩
  · simp
  · intro x hx
    rcases List.mem_cons.1 hx with rfl | hx
    · omega
    · exact dig_by8 h x hx
theorem exp_by8 {hasX : Bool} {X : List Int} (h : ExpOk hasX X) : ∀ x ∈ X, 0 ≤ x ∧ x ≤ 255 := by
  rcases h with ⟨_, rfl⟩ | ⟨_, e, es, ex, rfl, he, hes, _, h⟩
  · simp
  · intro x hx
    rcases List.mem_cons.1 hx with rfl | hx
    · omega
    · rcases List.mem_append.1 hx with hx | hx
      · rcases hes with rfl | rfl | rfl
        · simp at hx
        · simp at hx; omega
        · simp at hx; omega
      · exact dig_by8 h x hx

theorem itoa_any (w : World) (U : Nat) (h1 : U < 18446744073709551616) :
    Calls Try.prog 23 #[.int .u64 U] w fun e w' => ∃ g n ts, e = .returned (.slice (some ⟨g, 0, none⟩) n n) ∧ Sl w' (some ⟨g, 0, none⟩) n n ts ∧ ts.length ≤ 20 ∧ ts ≠ [] ∧ ts.all dgB = true ∧ ((U = 0 ∧ ts = [48]) ∨ (U ≠ 0 ∧ 49 ≤ ts.getD 0 0 ∧ ts.getD 0 0 ≤ 57)) ∧ Below w.heap.size w w' := by
  by_cases h0 : U = 0
  · subst h0
    refine (itoa_zero w).mono ?_
    rintro ev w' ⟨rfl, hs, hb⟩
    exact ⟨_, 1, [48], rfl, hs, by simp, by simp, rfl, .inl ⟨rfl, rfl⟩, hb⟩
  · refine (itoa_pos w U (by omega) h1).mono ?_
    rintro ev w' ⟨g, j, rfl, hs, hj, h2, h3, hb⟩
    exact ⟨g, j + 1, _, rfl, hs, by rw [dg_length]; exact hj, by simp [dg], dg_dig _ _, .inr ⟨h0, dg_head U j h2 h3⟩, hb⟩

theorem zzBytes21 (w : World) (a0 : Bool) (a1 : Int) (a2 : Option Addr) (l2 c2 : Nat) (a3 : Option Addr) (l3 c3 : Nat) (a4 : Bool) (a5 : Option Addr) (l5 c5 : Nat) (a6 : Bool) (a7 : Int) (a8 : Bool) (a9 : Option Addr) (l9 c9 : Nat) (h : (l2 : Int) + l3 + l5 + l9 ≤ 1048576) :
    Calls Try.prog 21 #[.bool a0, .int .u64 a1, .slice a2 l2 c2, .slice a3 l3 c3, .bool a4, .slice a5 l5 c5, .bool a6, .int .u8 a7, .bool a8, .slice a9 l9 c9] w fun e w' => e = .returned (.bool true) ∧ w = w' := by
  go_enter Try.func21, Try.ntmps21
  go_wp2
  go_ret
  exact ⟨rfl, rfl⟩

theorem zzBytes21_no (w : World) (a0 : Bool) (a1 : Int) (a2 : Option Addr) (l2 c2 : Nat) (a3 : Option Addr) (l3 c3 : Nat) (a4 : Bool) (a5 : Option Addr) (l5 c5 : Nat) (a6 : Bool) (a7 : Int) (a8 : Bool) (a9 : Option Addr) (l9 c9 : Nat) (h : (1048576 : Int) < (l2 : Int) + l3 + l5 + l9)
    (m2 : l2 ≤ maxLen) (m3 : l3 ≤ maxLen) (m5 : l5 ≤ maxLen) (m9 : l9 ≤ maxLen) :
    Calls Try.prog 21 #[.bool a0, .int .u64 a1, .slice a2 l2 c2, .slice a3 l3 c3, .bool a4, .slice a5 l5 c5, .bool a6, .int .u8 a7, .bool a8, .slice a9 l9 c9] w fun e w' => e = .returned (.bool false) ∧ w = w' := by
  unfold maxLen at m2 m3 m5 m9
  by_cases h2 : (1048576 : Int) < l2
  · go_enter Try.func21, Try.ntmps21
    go_wp2
    go_ret
    exact ⟨rfl, rfl⟩
  by_cases h3 : (1048576 : Int) < l3
  · go_enter Try.func21, Try.ntmps21
    go_wp2
    go_ret
    exact ⟨rfl, rfl⟩
  by_cases h23 : (1048576 : Int) < (l2 : Int) + l3
  · go_enter Try.func21, Try.ntmps21
    go_wp2
    go_ret
    exact ⟨rfl, rfl⟩
  by_cases h5 : (1048576 : Int) < l5
  · go_enter Try.func21, Try.ntmps21
    go_wp2
    go_ret
    exact ⟨rfl, rfl⟩
  by_cases h235 : (1048576 : Int) < (l2 : Int) + l3 + l5
  · go_enter Try.func21, Try.ntmps21
    go_wp2
    go_ret
    exact ⟨rfl, rfl⟩
  by_cases h9 : (1048576 : Int) < l9
  · go_enter Try.func21, Try.ntmps21
    go_wp2
    go_ret
    exact ⟨rfl, rfl⟩
  go_enter Try.func21, Try.ntmps21
  go_wp2
  go_ret
  exact ⟨rfl, rfl⟩

end Go.Proofs.Qxb6600039a
