/-
  THE SHELL OF A PROOF OF 'Rows.FnNumberReadsComposedNumberSaid' ('example.com/vetter/vetter/zzlaws_internal_jsonscan_b1.FnNumberReadsComposedNumber'), WRITTEN BY PROGRAM (proof-skeleton.mjs, third state) off the guide's own print for that function. Not trusted: Lean checks it.
  THE HOLE IS FILLED. ALL ELSE IS THE GUIDE's OWN WAY (howto/template/XProofs.lean; Derived/Test/ChunkProofs.lean for 'Below') at this function's number and types: leave it.
-/
import Derived.Test.Qxb6600039aRows
import Derived.WalkKit
import Derived.ProofKit
import Derived.OpenShut
import Derived.ShutString
import Derived.ChangeOld
import Derived.Below
import Derived.Test.Qxb6600039aNumMain
namespace Go.Proofs.Qxb6600039a.fnNumberReadsComposedNumber
open Go.ChangeShapes Go.WideShapes Go.ChangeAt Go.RowKit
open Go.ChangeMaps (open_string shut_string)
set_option linter.unusedVariables false

theorem own : ownKnob Try.prog.godebug = none := by kernel_rfl
theorem laidOut : laidOutB Try.prog = true := by kernel_rfl

/-- WHAT THE WALK IS TOLD OF A SLICE OF INTEGERS THAT CAME IN: it is nil; or it leads to a row of 'cap' cells, the numbers 'zs' (the first 'len' are its elements, the rest its spare room), each fitting its kind. -/
def IsRow (k : IntKind) (w : World) (a : Option Addr) (len cap : Nat) (zs : List Int) : Prop :=
  (a = none ∧ len = 0 ∧ cap = 0 ∧ zs = []) ∨
  ∃ x, a = some x ∧ len ≤ cap ∧ cap ≤ maxLen ∧ zs.length = cap ∧ (∀ i, i < zs.length → w.cell? (x.add i) = some (.int k (zs.getD i 0))) ∧ ∀ n ∈ zs, (Lit.int k n).wf = true

/-! ### STEP 1: THE WALK: the Go text returns true, AND WRITES NOTHING THAT WAS THERE: 'Below w.heap.size w w'' (Derived/Below.lean: '.refl', '.alloc', '.drew', '.setCell' at a new block, '.trans'). Open each 'IsRow' by 'rcases' AHEAD of 'go_enter'; part every test ahead of the walk. -/
theorem walk (a0 : Bool) (a1 : Int) (a2 : Option Addr) (len2 cap2 : Nat) (z2 : List Int) (a3 : Option Addr) (len3 cap3 : Nat) (z3 : List Int) (a4 : Bool) (a5 : Option Addr) (len5 cap5 : Nat) (z5 : List Int) (a6 : Bool) (a7 : Int) (a8 : Bool) (a9 : Option Addr) (len9 cap9 : Nat) (z9 : List Int) (w : World) (w1 : (Lit.int .u64 a1).wf = true) (w2 : IsRow .u8 w a2 len2 cap2 z2) (w3 : IsRow .u8 w a3 len3 cap3 z3) (w5 : IsRow .u8 w a5 len5 cap5 z5) (w7 : (Lit.int .u8 a7).wf = true) (w9 : IsRow .u8 w a9 len9 cap9 z9) :
    Calls Try.prog 6 #[.bool a0, .int .u64 a1, .slice a2 len2 cap2, .slice a3 len3 cap3, .bool a4, .slice a5 len5 cap5, .bool a6, .int .u8 a7, .bool a8, .slice a9 len9 cap9] w fun e w' => e = .returned (.bool true) ∧ Below w.heap.size w w' := by
  have t2 := Sl.of_row w2
  have t3 := Sl.of_row w3
  have t5 := Sl.of_row w5
  have t9 := Sl.of_row w9
  have b1 := bounds_u64 w1
  have b7 := bounds_u8 w7
  by_cases hl : (1048576 : Int) < (len2 : Int) + len3 + len5 + len9
  · refine (num_long w a0 a1 a2 len2 cap2 a3 len3 cap3 a4 a5 len5 cap5 a6 a7 a8 a9 len9 cap9 hl (Nat.le_trans t2.le t2.mx) (Nat.le_trans t3.le t3.mx) (Nat.le_trans t5.le t5.mx) (Nat.le_trans t9.le t9.mx)).mono ?_
    rintro e w' ⟨rfl, rfl⟩
    exact ⟨rfl, Below.refl _ _⟩
  have h : (len2 : Int) + len3 + len5 + len9 ≤ 1048576 := by omega
  by_cases k2 : (65536 : Int) < len2
  · refine (num_l2 w a0 a1 a2 len2 cap2 a3 len3 cap3 a4 a5 len5 cap5 a6 a7 a8 a9 len9 cap9 h k2).mono ?_
    rintro e w' ⟨rfl, rfl⟩
    exact ⟨rfl, Below.refl _ _⟩
  by_cases k3 : (65536 : Int) < len3
  · refine (num_l3 w a0 a1 a2 len2 cap2 a3 len3 cap3 a4 a5 len5 cap5 a6 a7 a8 a9 len9 cap9 h (by omega) k3).mono ?_
    rintro e w' ⟨rfl, rfl⟩
    exact ⟨rfl, Below.refl _ _⟩
  by_cases k5 : (65536 : Int) < len5
  · refine (num_l5 w a0 a1 a2 len2 cap2 a3 len3 cap3 a4 a5 len5 cap5 a6 a7 a8 a9 len9 cap9 h (by omega) (by omega) k5).mono ?_
    rintro e w' ⟨rfl, rfl⟩
    exact ⟨rfl, Below.refl _ _⟩
  by_cases k9 : (65536 : Int) < len9
  · refine (num_l9 w a0 a1 a2 len2 cap2 a3 len3 cap3 a4 a5 len5 cap5 a6 a7 a8 a9 len9 cap9 h (by omega) (by omega) (by omega) k9).mono ?_
    rintro e w' ⟨rfl, rfl⟩
    exact ⟨rfl, Below.refl _ _⟩
  have j2 : (len2 : Int) ≤ 65536 := by omega
  have j3 : (len3 : Int) ≤ 65536 := by omega
  have j5 : (len5 : Int) ≤ 65536 := by omega
  have j9 : (len9 : Int) ≤ 65536 := by omega
  by_cases e4 : a4 = false ∨ (a4 = true ∧ ((len3 : Int) == 0) = false)
  case neg =>
    obtain ⟨rfl, e3⟩ : a4 = true ∧ ((len3 : Int) == 0) = true := by
      cases a4 with
      | false => exact absurd (.inl rfl) e4
      | true =>
        refine ⟨rfl, ?_⟩
        cases hh : ((len3 : Int) == 0) with
        | true => rfl
        | false => exact absurd (.inr ⟨rfl, hh⟩) e4
    refine (num_f0 w a0 a1 a2 len2 cap2 a3 len3 cap3 a5 len5 cap5 a6 a7 a8 a9 len9 cap9 h j2 j3 j5 j9 e3).mono ?_
    rintro e w' ⟨rfl, rfl⟩
    exact ⟨rfl, Below.refl _ _⟩
  by_cases e6 : a6 = false ∨ (a6 = true ∧ ((len5 : Int) == 0) = false)
  case neg =>
    obtain ⟨rfl, e5⟩ : a6 = true ∧ ((len5 : Int) == 0) = true := by
      cases a6 with
      | false => exact absurd (.inl rfl) e6
      | true =>
        refine ⟨rfl, ?_⟩
        cases hh : ((len5 : Int) == 0) with
        | true => rfl
        | false => exact absurd (.inr ⟨rfl, hh⟩) e6
    refine (num_x0 w a0 a1 a2 len2 cap2 a3 len3 cap3 a4 a5 len5 cap5 a7 a8 a9 len9 cap9 h j2 j3 j5 j9 e5 e4).mono ?_
    rintro e w' ⟨rfl, rfl⟩
    exact ⟨rfl, Below.refl _ _⟩
  by_cases hr : RestOk (z9.take len9)
  case neg =>
    have hne : z9.take len9 ≠ [] := fun e => hr (.inl e)
    have h9 : 0 < len9 := by rw [← t9.len_eq]; exact len_pos hne
    rcases t9.rd with h0 | ⟨b9, o9, rfl, hb9, hc9⟩
    · exact absurd h0 hne
    · have g := hc9 0 (len_pos hne)
      rw [Nat.add_zero] at g
      obtain ⟨c, hcc⟩ : ∃ c, c = (z9.take len9).getD 0 0 := ⟨_, rfl⟩
      rw [← hcc] at g
      have hb : dgB c = true ∨ (dgB c = false ∧ (c == 46) = true) ∨ (dgB c = false ∧ (c == 46) = false ∧ (c == 101) = true) ∨ (dgB c = false ∧ (c == 46) = false ∧ (c == 101) = false ∧ (c == 69) = true) := by
        cases f0 : dgB c with
        | true => exact .inl rfl
        | false =>
          cases f1 : (c == 46) with
          | true => exact .inr (.inl ⟨rfl, rfl⟩)
          | false =>
            cases f2 : (c == 101) with
            | true => exact .inr (.inr (.inl ⟨rfl, rfl, rfl⟩))
            | false =>
              cases f3 : (c == 69) with
              | true => exact .inr (.inr (.inr ⟨rfl, rfl, rfl, rfl⟩))
              | false =>
                exact absurd (.inr ⟨by rw [← hcc]; exact f0, by rw [← hcc]; exact beq_eq_false_iff_ne.1 f1, by rw [← hcc]; exact beq_eq_false_iff_ne.1 f2, by rw [← hcc]; exact beq_eq_false_iff_ne.1 f3⟩) hr
      refine (num_rest w a0 a1 a2 len2 cap2 a3 len3 cap3 a4 a5 len5 cap5 a6 a7 a8 b9 o9 len9 cap9 h j2 j3 j5 j9 e4 e6 c (by omega) g (dgB c) rfl hb).mono ?_
      rintro e w' ⟨rfl, rfl⟩
      exact ⟨rfl, Below.refl _ _⟩
  obtain ⟨U, rfl⟩ := Int.eq_ofNat_of_zero_le b1.1
  exact num_walk w a0 U a2 len2 cap2 _ a3 len3 cap3 _ a4 a5 len5 cap5 _ a6 a7 a8 a9 len9 cap9 _ (by omega) b7.1 b7.2 t2 t3 t5 t9 h j2 j3 j5 j9 e4 e6 hr

/-! ### THE ROW's STEP: WRITTEN OUT: LEAVE IT -/
set_option maxRecDepth 100000 in
theorem lifted (os : Os) (started : os.Started) (H : Type) (enc : TypeId × Value → H) :
    ReturnsInHanded {} Try.checked os 6 .any (Rows.fnNumberReadsComposedNumberSpec.pre6 enc Try.prog Try.f6 Rows.fnNumberReadsComposedNumberRow.domain false) (Rows.fnNumberReadsComposedNumberSpec.post enc Try.prog Try.f6 false true false false) := by
  refine returnsInHanded_of_change (C := Try.checked) own started (by kernel_rfl) Try.func6
    (ChangeSpec.witness6 (enc := enc) (C := Try.checked) false ⟨#[], #[.bool false, .int .u64 0, .slice none 0 0, .slice none 0 0, .bool false, .slice none 0 0, .bool false, .int .u8 0, .bool false, .slice none 0 0], []⟩ 8 (by kernel_rfl) (by kernel_rfl) (by kernel_rfl) (by kernel_rfl)) ?_
  intro W base args ds gs before hval0 hW hcnd _
  have hval : ∀ (j : Nat) t v, Try.f6.params[j]? = some t → args[j]? = some v → Value.okWide Try.prog W .any base t v := hval0
  have hW' := hW
  obtain ⟨p, q, hA0, hV, rfl, hfz, hnd⟩ := hW
  have hA : DataW.TrodAll enc Try.prog W 0 (fun _ => true) true Try.f6.params.toList args.toList ds p := hA0
  rw [Try.params6] at hA hval
  obtain ⟨v0, vs0, d0, ds0, p0, q0, hargs, rfl, rfl, h0, r0⟩ := trodAll_cons hA
  obtain ⟨v1, vs1, d1, ds1, p1, q1, rfl, rfl, rfl, h1, r1⟩ := trodAll_cons r0
  obtain ⟨v2, vs2, d2, ds2, p2, q2, rfl, rfl, rfl, h2, r2⟩ := trodAll_cons r1
  obtain ⟨v3, vs3, d3, ds3, p3, q3, rfl, rfl, rfl, h3, r3⟩ := trodAll_cons r2
  obtain ⟨v4, vs4, d4, ds4, p4, q4, rfl, rfl, rfl, h4, r4⟩ := trodAll_cons r3
  obtain ⟨v5, vs5, d5, ds5, p5, q5, rfl, rfl, rfl, h5, r5⟩ := trodAll_cons r4
  obtain ⟨v6, vs6, d6, ds6, p6, q6, rfl, rfl, rfl, h6, r6⟩ := trodAll_cons r5
  obtain ⟨v7, vs7, d7, ds7, p7, q7, rfl, rfl, rfl, h7, r7⟩ := trodAll_cons r6
  obtain ⟨v8, vs8, d8, ds8, p8, q8, rfl, rfl, rfl, h8, r8⟩ := trodAll_cons r7
  obtain ⟨v9, vs9, d9, ds9, p9, q9, rfl, rfl, rfl, h9, r9⟩ := trodAll_cons r8
  obtain ⟨rfl, rfl, rfl⟩ := trodAll_nil r9
  obtain rfl : args = #[v0, v1, v2, v3, v4, v5, v6, v7, v8, v9] := by cases args; simp_all
  obtain ⟨rfl, rfl⟩ := trodVars_none hV
  obtain ⟨a0, rfl, rfl, rfl⟩ := open_bool Try.underlying4 (hval 0 4 v0 rfl rfl) h0
  obtain ⟨a1, rfl, rfl, rfl, w1⟩ := open_int Try.underlying35 (hval 1 35 v1 rfl rfl) h1
  obtain ⟨a2, len2, cap2, rfl⟩ := okWide_slice Try.underlying22 (hval 2 22 v2 rfl rfl)
  have k2 := h2
  have lt2 : ∀ x ∈ p2, x.block < W.heap.size := by obtain ⟨m, hm⟩ := k2; exact DataW.trod_lt m _ _ _ hm
  obtain ⟨z2, w2⟩ : ∃ zs, IsRow .u8 W a2 len2 cap2 zs := by
    obtain ⟨fuel, hf⟩ := h2
    rcases open_ints Try.underlying22 Try.underlying5 (by kernel_rfl) hf with ⟨hcs, _⟩ | ⟨x, l, c, zs, hcs, _, hl, hm, hz, _, hcell, hwz⟩
    · simp [Value.cells] at hcs
      obtain ⟨rfl, rfl, rfl⟩ := hcs
      exact ⟨[], .inl ⟨rfl, rfl, rfl, rfl⟩⟩
    · simp [Value.cells] at hcs
      obtain ⟨rfl, rfl, rfl⟩ := hcs
      exact ⟨zs, .inr ⟨_, rfl, hl, hm, by simpa using hz, hcell, hwz⟩⟩
  obtain ⟨a3, len3, cap3, rfl⟩ := okWide_slice Try.underlying22 (hval 3 22 v3 rfl rfl)
  have k3 := h3
  have lt3 : ∀ x ∈ p3, x.block < W.heap.size := by obtain ⟨m, hm⟩ := k3; exact DataW.trod_lt m _ _ _ hm
  obtain ⟨z3, w3⟩ : ∃ zs, IsRow .u8 W a3 len3 cap3 zs := by
    obtain ⟨fuel, hf⟩ := h3
    rcases open_ints Try.underlying22 Try.underlying5 (by kernel_rfl) hf with ⟨hcs, _⟩ | ⟨x, l, c, zs, hcs, _, hl, hm, hz, _, hcell, hwz⟩
    · simp [Value.cells] at hcs
      obtain ⟨rfl, rfl, rfl⟩ := hcs
      exact ⟨[], .inl ⟨rfl, rfl, rfl, rfl⟩⟩
    · simp [Value.cells] at hcs
      obtain ⟨rfl, rfl, rfl⟩ := hcs
      exact ⟨zs, .inr ⟨_, rfl, hl, hm, by simpa using hz, hcell, hwz⟩⟩
  obtain ⟨a4, rfl, rfl, rfl⟩ := open_bool Try.underlying4 (hval 4 4 v4 rfl rfl) h4
  obtain ⟨a5, len5, cap5, rfl⟩ := okWide_slice Try.underlying22 (hval 5 22 v5 rfl rfl)
  have k5 := h5
  have lt5 : ∀ x ∈ p5, x.block < W.heap.size := by obtain ⟨m, hm⟩ := k5; exact DataW.trod_lt m _ _ _ hm
  obtain ⟨z5, w5⟩ : ∃ zs, IsRow .u8 W a5 len5 cap5 zs := by
    obtain ⟨fuel, hf⟩ := h5
    rcases open_ints Try.underlying22 Try.underlying5 (by kernel_rfl) hf with ⟨hcs, _⟩ | ⟨x, l, c, zs, hcs, _, hl, hm, hz, _, hcell, hwz⟩
    · simp [Value.cells] at hcs
      obtain ⟨rfl, rfl, rfl⟩ := hcs
      exact ⟨[], .inl ⟨rfl, rfl, rfl, rfl⟩⟩
    · simp [Value.cells] at hcs
      obtain ⟨rfl, rfl, rfl⟩ := hcs
      exact ⟨zs, .inr ⟨_, rfl, hl, hm, by simpa using hz, hcell, hwz⟩⟩
  obtain ⟨a6, rfl, rfl, rfl⟩ := open_bool Try.underlying4 (hval 6 4 v6 rfl rfl) h6
  obtain ⟨a7, rfl, rfl, rfl, w7⟩ := open_int Try.underlying5 (hval 7 5 v7 rfl rfl) h7
  obtain ⟨a8, rfl, rfl, rfl⟩ := open_bool Try.underlying4 (hval 8 4 v8 rfl rfl) h8
  obtain ⟨a9, len9, cap9, rfl⟩ := okWide_slice Try.underlying22 (hval 9 22 v9 rfl rfl)
  have k9 := h9
  have lt9 : ∀ x ∈ p9, x.block < W.heap.size := by obtain ⟨m, hm⟩ := k9; exact DataW.trod_lt m _ _ _ hm
  obtain ⟨z9, w9⟩ : ∃ zs, IsRow .u8 W a9 len9 cap9 zs := by
    obtain ⟨fuel, hf⟩ := h9
    rcases open_ints Try.underlying22 Try.underlying5 (by kernel_rfl) hf with ⟨hcs, _⟩ | ⟨x, l, c, zs, hcs, _, hl, hm, hz, _, hcell, hwz⟩
    · simp [Value.cells] at hcs
      obtain ⟨rfl, rfl, rfl⟩ := hcs
      exact ⟨[], .inl ⟨rfl, rfl, rfl, rfl⟩⟩
    · simp [Value.cells] at hcs
      obtain ⟨rfl, rfl, rfl⟩ := hcs
      exact ⟨zs, .inr ⟨_, rfl, hl, hm, by simpa using hz, hcell, hwz⟩⟩
  clear hA0 hval0
  refine (walk a0 a1 a2 len2 cap2 z2 a3 len3 cap3 z3 a4 a5 len5 cap5 z5 a6 a7 a8 a9 len9 cap9 z9 W w1 w2 w3 w5 w7 w9).mono fun e W' ⟨he, bel⟩ => ?_
  subst he
  exact ⟨_, rfl, _, _, _, [], _, [], hW', trodAll_mk1 (shut_bool Try.underlying4 _), (trodAll_cons_mk (shut_bool Try.underlying4 _) (trodAll_cons_mk (shut_int Try.underlying35 w1) (trodAll_cons_mk (Below.trod laidOut (by kernel_rfl) (of_decide_eq_true (by kernel_rfl)) k2 bel lt2) (trodAll_cons_mk (Below.trod laidOut (by kernel_rfl) (of_decide_eq_true (by kernel_rfl)) k3 bel lt3) (trodAll_cons_mk (shut_bool Try.underlying4 _) (trodAll_cons_mk (Below.trod laidOut (by kernel_rfl) (of_decide_eq_true (by kernel_rfl)) k5 bel lt5) (trodAll_cons_mk (shut_bool Try.underlying4 _) (trodAll_cons_mk (shut_int Try.underlying5 w7) (trodAll_cons_mk (shut_bool Try.underlying4 _) (trodAll_cons_mk (Below.trod laidOut (by kernel_rfl) (of_decide_eq_true (by kernel_rfl)) k9 bel lt9) trodAll_mk0)))))))))), rfl, bel.frame _, fun h => by cases h⟩

theorem over : Rows.fnNumberReadsComposedNumberRow.holds Try.pinned (OpenSpec.ofChange Rows.fnNumberReadsComposedNumberSpec) :=
  OpenClaim.holds_of_wide 6 Try.f6 rfl rfl rfl rfl rfl rfl rfl ⟨rfl, rfl, rfl, rfl, rfl⟩ rfl rfl rfl rfl rfl (by kernel_rfl) Try.func6 (by kernel_rfl)
    (of_decide_eq_true (by kernel_rfl)) (by unfold Func.isWrapper; first | (rw [if_pos (by decide +kernel)]; kernel_rfl) | (rw [if_neg (by decide +kernel)]; exact ⟨rfl, rfl⟩))
    (fun os started H enc _ => lifted os started H enc)

/-- ████ THE STATEMENT ████ -/
theorem proved : Rows.FnNumberReadsComposedNumberSaid := over
#print axioms proved
end Go.Proofs.Qxb6600039a.fnNumberReadsComposedNumber
