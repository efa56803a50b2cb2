/-
  SEAT b6001410a: the walk of FnBlankReadsNoInt.
-/
import Derived.Test.Qxb6001410aRead
namespace Go.Proofs.Qxb6001410a
open Go.ChangeShapes Go.WideShapes Go.ChangeAt Go.RowKit

theorem zzBytes15 (w : World) (a1 a2 : Int) (a : Option Addr) (len cap : Nat) (h : (len : Int) ≤ 1048576) :
    Calls Try.prog 15 #[.slice a len cap, .int .i64 a1, .int .i64 a2] w fun e w' => e = .returned (.bool true) ∧ w = w' := by
  go_enter Try.func15, Try.ntmps15
  go_wp2
  go_ret
  exact ⟨rfl, rfl⟩
theorem zzBytes15_no (w : World) (a1 a2 : Int) (a : Option Addr) (len cap : Nat) (h : (1048576 : Int) < len) :
    Calls Try.prog 15 #[.slice a len cap, .int .i64 a1, .int .i64 a2] w fun e w' => e = .returned (.bool false) ∧ w = w' := by
  go_enter Try.func15, Try.ntmps15
  go_wp2
  go_ret
  exact ⟨rfl, rfl⟩

theorem blankLaw_long (a1 a2 : Int) (a : Option Addr) (len cap : Nat) (w : World) (h : (1048576 : Int) < len) :
    Calls Try.prog 4 #[.slice a len cap, .int .i64 a1, .int .i64 a2] w fun e w' => e = .returned (.bool true) ∧ w = w' := by
  go_enter Try.func4, Try.ntmps4
  go_wp2_with (go_at_call 15; refine (zzBytes15_no _ _ _ _ _ _ h).mono ?_; rintro e w' ⟨rfl, rfl⟩)
  go_ret
  exact ⟨rfl, rfl⟩

theorem blankLaw_neg (a1 a2 : Int) (a : Option Addr) (len cap : Nat) (w : World) (hl : (len : Int) ≤ 1048576) (h : a1 < 0) :
    Calls Try.prog 4 #[.slice a len cap, .int .i64 a1, .int .i64 a2] w fun e w' => e = .returned (.bool true) ∧ w = w' := by
  go_enter Try.func4, Try.ntmps4
  go_wp2_with (go_at_call 15; refine (zzBytes15 _ _ _ _ _ _ hl).mono ?_; rintro e w' ⟨rfl, rfl⟩)
  go_ret
  exact ⟨rfl, rfl⟩

theorem blankLaw_past (a1 a2 : Int) (a : Option Addr) (len cap : Nat) (w : World) (hl : (len : Int) ≤ 1048576) (h0 : 0 ≤ a1) (h : (len : Int) < a1) :
    Calls Try.prog 4 #[.slice a len cap, .int .i64 a1, .int .i64 a2] w fun e w' => e = .returned (.bool true) ∧ w = w' := by
  have hd : decide (a1 < 0) = false := decide_eq_false (by omega)
  go_enter Try.func4, Try.ntmps4
  go_wp2_with (go_at_call 15; refine (zzBytes15 _ _ _ _ _ _ hl).mono ?_; rintro e w' ⟨rfl, rfl⟩)
  go_ret
  exact ⟨rfl, rfl⟩

theorem Sl.cut0 {w : World} {a : Option Addr} {len cap : Nat} {zs : List Int} (h : Sl w a len cap zs) (p : Nat) (hp : p ≤ len) (hc : cap = p) : Sl w a (len - p) 0 (zs.drop p) := by
  have h1 := h.len_eq
  have h2 := h.le
  have e : zs.drop p = [] := List.drop_eq_nil_of_le (by omega)
  rw [e]
  exact ⟨by simp; omega, by omega, by unfold maxLen; omega, fun hn => ⟨by omega, rfl⟩, .inl rfl, by simp⟩

theorem Sl.cut {w : World} {a : Option Addr} {len cap : Nat} {zs : List Int} (h : Sl w a len cap zs) (p : Nat) (hp : p ≤ len) : Sl w (Option.map (fun x => x.add p) a) (len - p) (cap - p) (zs.drop p) := by
  have h1 := h.len_eq
  have h2 := h.le
  have h3 := h.mx
  refine ⟨by simp; omega, by omega, by omega, ?_, ?_, fun n hn => h.by8 n (List.mem_of_mem_drop hn)⟩
  · intro hn
    have : a = none := by cases a <;> simp_all
    have := h.nil this
    omega
  · rcases h.rd with h0 | ⟨b, off, rfl, hb, hc⟩
    · subst h0; exact .inl (by simp)
    · refine .inr ⟨b, off + p, by simp [Addr.add_lit], hb, fun i hi => ?_⟩
      rw [Nat.add_assoc, hc (p + i) (by simp at hi; omega)]
      simp [List.getD]

theorem takeWhile_all (f : Int → Bool) : ∀ l : List Int, l.all f = true → l.takeWhile f = l
  | [], _ => rfl
  | x :: r, h => by
    simp only [List.all_cons, Bool.and_eq_true] at h
    rw [List.takeWhile_cons_of_pos h.1, takeWhile_all f r h.2]

theorem runTo_all (f : Int → Bool) (zs : List Int) (p : Nat) (h : (zs.drop p).all f = true) (hp : p ≤ zs.length) : runTo f zs p = zs.length := by
  unfold runTo
  have e : (zs.drop p).takeWhile f = zs.drop p := takeWhile_all f _ h
  rw [e]; simp; omega

/-- Where the rest of the text is blank the read gives up: the target is as it was, the reader stands at the end. -/
theorem read_blank (w : World) (a : Option Addr) (len cap p : Nat) (n0 : Int) (zs : List Int) (hsl : Sl w a len cap zs) (hp : p ≤ len) (hlen : len ≤ 4194304) (hb : blankB (zs.drop p) = true) :
    Calls Try.prog 16 #[.slice a len cap, .int .i64 p, .int .i64 n0] w fun ev w' => ev = .returned (.tuple #[.int .i64 n0, .int .i64 len, .bool false]) ∧ Below w.heap.size w w' := by
  have hl := hsl.len_eq
  have hq : len = runTo spB zs p := by rw [runTo_all _ _ _ hb (by omega), hl]
  have hneg : negB zs len = false := by simp [negB, hl]
  have hs : len = stOf zs len := by simp [stOf, hneg]
  have he : len = endOf zs len := by unfold endOf; rw [← hs, runTo_end (by omega)]
  have hbad : badB zs len 0 = true := bad_zero rfl
  exact read_any w a len cap p n0 zs hsl hp hlen len len len 0 hq hs he (by omega) true n0 hbad.symm (out_bad hbad).symm

theorem blankLaw_walk (p : Nat) (n0 : Int) (a : Option Addr) (len cap : Nat) (zs : List Int) (w : World) (h : Sl w a len cap zs) (hl : (len : Int) ≤ 1048576) (hp : p ≤ len) :
    Calls Try.prog 4 #[.slice a len cap, .int .i64 p, .int .i64 n0] w fun e w' => e = .returned (.bool true) ∧ Below w.heap.size w w' := by
  have hd : decide ((p : Int) < 0) = false := decide_eq_false (by omega)
  have hd2 : decide ((len : Int) < (p : Int)) = false := decide_eq_false (by omega)
  obtain ⟨B, hB⟩ : ∃ B, blankB (zs.drop p) = B := ⟨_, rfl⟩
  have HB : Hid (blankB (zs.drop p) = B) := hB
  clear hB
  go_enter Try.func4, Try.ntmps4
  go_wp2_with (first | (go_at_call 15; refine (zzBytes15 _ _ _ _ _ _ hl).mono ?_; rintro e w' ⟨rfl, rfl⟩) | fail)
  refine (clone_any _ _ _ _ _ h (by omega)).mono ?_
  rintro e w1 ⟨a', cap', rfl, hs1, hb1⟩
  have hc' := hs1.le
  have hm' : cap' ≤ 9223372036854775807 := by have := hs1.mx; unfold maxLen at this; omega
  go_wp2_with fail
  · have hcp : cap' = p := by assumption
    subst hcp
    refine (zzBlank_any _ _ _ _ _ (hs1.cut0 cap' hp rfl)).mono ?_
    rintro e w' ⟨rfl, rfl⟩
    rw [HB.out]
    cases B with
    | false =>
      go_wp2
      go_ret
      exact ⟨rfl, hb1⟩
    | true =>
      go_wp2_with (go_at_call 16; refine (read_blank _ _ _ _ _ _ _ hs1 hp (by omega) HB.out).mono ?_; rintro e w2 ⟨rfl, hb2⟩)
      go_ret
      exact ⟨rfl, hb1.trans (hb2.mono hb1.size)⟩
  · refine (zzBlank_any _ _ _ _ _ (hs1.cut p hp)).mono ?_
    rintro e w' ⟨rfl, rfl⟩
    rw [HB.out]
    cases B with
    | false =>
      go_wp2
      go_ret
      exact ⟨rfl, hb1⟩
    | true =>
      go_wp2_with (go_at_call 16; refine (read_blank _ _ _ _ _ _ _ hs1 hp (by omega) HB.out).mono ?_; rintro e w2 ⟨rfl, hb2⟩)
      go_ret
      exact ⟨rfl, hb1.trans (hb2.mono hb1.size)⟩
end Go.Proofs.Qxb6001410a
