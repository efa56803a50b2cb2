/-
  SEAT b6001410a: what the walks share: how a slice of bytes reads, and the contracts of the small functions.
-/
import Derived.Test.Qxb6001410aRows
import Derived.WalkKit
import Derived.ProofKit
import Derived.OpenShut
import Derived.ShutString
import Derived.ChangeOld
import Derived.Below
import Derived.Laws.CopyOwn
import Derived.Lib.SliceRun
import Derived.WalkSpells
import Derived.WalkLawsBesides
namespace Go.Proofs.Qxb6001410a
open Go.ChangeShapes Go.WideShapes Go.ChangeAt Go.RowKit

theorem Try.info5 : (Try.prog.info? 5).map (fun i => (i.zero, i.size, i.bytes)) = some (some (.int .u8 0), 1, 1) := by kernel_rfl
theorem Try.size5 : (Try.prog.info? 5).map (·.size) = some 1 := by kernel_rfl

/-- The slice value '.slice a len cap' reads, in world w, as the bytes zs. -/
structure Sl (w : World) (a : Option Addr) (len cap : Nat) (zs : List Int) : Prop where
  len_eq : zs.length = len
  le : len ≤ cap
  mx : cap ≤ maxLen
  nil : a = none → len = 0 ∧ cap = 0
  rd : zs = [] ∨ ∃ b off, a = some ⟨b, off, none⟩ ∧ b < w.heap.size ∧ ∀ i, i < zs.length → w.cell? ⟨b, off + i, none⟩ = some (.int .u8 (zs.getD i 0))
  by8 : ∀ n ∈ zs, 0 ≤ n ∧ n ≤ 255

theorem Sl.below {w w' : World} {a : Option Addr} {len cap : Nat} {zs : List Int} (h : Sl w a len cap zs) {B : Nat} (hb : Below B w w') (hB : w.heap.size ≤ B) : Sl w' a len cap zs := by
  refine ⟨h.len_eq, h.le, h.mx, h.nil, ?_, h.by8⟩
  rcases h.rd with h0 | ⟨b, off, e, hs, hc⟩
  · exact .inl h0
  · refine .inr ⟨b, off, e, Nat.lt_of_lt_of_le hs hb.size, fun i hi => ?_⟩
    rw [hb.cell (p := ⟨b, off + i, none⟩) (Nat.lt_of_lt_of_le hs hB)]
    exact hc i hi

/-- What is appended from such a slice: the law's side condition. -/
theorem Sl.news {w : World} {a : Option Addr} {len cap : Nat} {zs : List Int} (h : Sl w a len cap zs) : ∀ ad, a = some ad → ∀ j u, (zs.map (Value.int .u8))[j]? = some u → w.cell? (ad.add j) = some u := by
  intro ad had j u hu
  have hj : j < zs.length := by simpa using (List.getElem?_eq_some_iff.1 hu).1
  rcases h.rd with h0 | ⟨b, off, e, hs, hc⟩
  · subst h0; simp at hj
  · rw [e] at had
    obtain rfl := Option.some.inj had
    rw [Addr.add_lit, hc j hj, ← hu]
    simp [List.getD, hj]

/-- A row of the call's own, read. -/
theorem Sl.of_own {w : World} {base g n cap : Nat} {zs : List Int} (h : w.ownsRow base 5 1 (.slice (some ⟨g, 0, none⟩) n cap) n (zs.map (Value.int .u8))) (h8 : ∀ x ∈ zs, 0 ≤ x ∧ x ≤ 255) : Sl w (some ⟨g, 0, none⟩) n cap zs := by
  have hl : zs.length = n := by simpa using h.1
  rcases h.2 with ⟨h', _⟩ | ⟨g', cap', cur, h', hb, hg, h1, h2, _, _⟩
  · simp at h'
  · simp only [Value.slice.injEq, Option.some.injEq, Addr.mk.injEq, and_true, true_and] at h'
    obtain ⟨rfl, rfl⟩ := h'
    have hlt : g < w.heap.size := (Array.getElem?_eq_some_iff.1 hg).1
    refine ⟨hl, h1, h2, by simp, .inr ⟨g, 0, rfl, hlt, fun i hi => ?_⟩, h8⟩
    rw [Nat.zero_add, h.cellAt i (by omega)]
    simp [List.getD, hi]

theorem clone_nil (w : World) (n c : Nat) :
    Calls Try.prog 12 #[.slice none n c] w fun e w' => e = .returned (.slice none 0 0) ∧ w = w' := by
  have q22 : ∀ (w : World) (a : Option Addr) (n c n' c' : Nat), (binOp .eql 22 (.slice a n c) (.slice none n' c')).run Try.prog w = .ok (.bool a.isNone) w := fun w a n c n' c' => Lib.run_eql_slice_nil w _ _ a n c n' c' Try.underlying22
  go_enter Try.func12, Try.ntmps12
  go_wp2
  go_ret
  exact ⟨rfl, rfl⟩

theorem splice_all {α : Type} (Z X : List α) (h : Z.length = X.length) : splice Z 0 X = X := by
  unfold splice; simp [← h]

theorem own_of_heap {w : World} {base g n : Nat} {cs : List Value} (hg : w.heap[g]? = some (.cells cs.toArray 5 (0, 0))) (hb : base ≤ g) (hn : cs.length = n) (hm : n ≤ maxLen) :
    w.ownsRow base 5 1 (.slice (some ⟨g, 0, none⟩) n n) n cs :=
  ⟨by omega, .inr ⟨g, n, cs.toArray, rfl, hb, hg, Nat.le_refl _, hm, by simp [hn], by simp [← hn]⟩⟩

theorem heap_of_own {w : World} {base g n : Nat} {xs : List Value} (h : w.ownsRow base 5 1 (.slice (some ⟨g, 0, none⟩) n n) n xs) : w.heap[g]? = some (.cells xs.toArray 5 (0, 0)) := by
  rcases h.2 with ⟨h', _⟩ | ⟨g', cap', cur, h', hb, hg, h1, h2, h3, h4⟩
  · simp at h'
  · simp only [Value.slice.injEq, Option.some.injEq, Addr.mk.injEq, and_true, true_and] at h'
    obtain ⟨rfl, rfl⟩ := h'
    rw [hg, ← h4, List.take_of_length_le (by simp [h3])]

theorem clone_some (w : World) (x : Addr) (len cap : Nat) (zs : List Int) (h : Sl w (some x) len cap zs) (hl : len ≤ 1048576) :
    Calls Try.prog 12 #[.slice (some x) len cap] w fun e w' => e = .returned (.slice (some ⟨w.heap.size, 0, none⟩) len len) ∧ Sl w' (some ⟨w.heap.size, 0, none⟩) len len zs ∧ Below w.heap.size w w' := by
  have q22 : ∀ (w : World) (a : Option Addr) (n c n' c' : Nat), (binOp .eql 22 (.slice a n c) (.slice none n' c')).run Try.prog w = .ok (.bool a.isNone) w := fun w a n c n' c' => Lib.run_eql_slice_nil w _ _ a n c n' c' Try.underlying22
  obtain ⟨i0, hi, hz0, hz1, hz2⟩ := info_parts Try.info5
  obtain ⟨Z, hZ⟩ : ∃ Z, Z = zs.map (Value.int .u8) := ⟨_, rfl⟩
  have HZ : Hid (Z = zs.map (Value.int .u8)) := hZ
  have hZl : Z.length = len := by rw [hZ]; simpa using h.len_eq
  have HL : Hid (Z.length = len) := hZl
  clear hZ hZl
  go_enter Try.func12, Try.ntmps12
  go_wp2_with (at_make; refine wpList_make_full _ rfl _ _ 22 rfl w.heap.size 5 i0 (.int .u8 0) 1 Try.underlying22 hi hz0 hz1 _ _ _ _ len rfl rfl rfl rfl (by rw [hz2]; omega) (by unfold maxLen; omega) (Nat.le_refl _) ?_)
  intro w1 hown1 hgrow1
  have hb1 : Below w.heap.size w w1 := (Below.refl _ _).grown hgrow1 (Nat.le_refl _) (by simp)
  have hg1 := heap_of_own hown1
  clear hown1 hgrow1
  go_wp2_with (refine wpList_copy_splice rfl (.tmp 9) (.tmp 10) 22 22 rfl 5 Try.underlying22 Try.size5 _ _ _ _ _ _ rfl rfl w.heap.size 0 _ 5 hg1 Z ?_ ?_ ?_ ?_ w.heap.size w hb1 (Nat.le_refl _) ?_)
  · rw [HL.out]; simp
  · intro _ j v hv
    rw [HZ.out] at hv
    exact (h.below hb1 (Nat.le_refl _)).news x rfl j v hv
  · rw [HL.out]; simp [toList_madeCells_one]
  · rw [HZ.out]; exact ints_oneCell _ _
  · intro w2 hg2 hb2
    go_wp2
    go_ret
    refine ⟨rfl, Sl.of_own (base := w.heap.size) (own_of_heap ?_ (Nat.le_refl _) (by simpa using h.len_eq) (Nat.le_trans h.le h.mx)) h.by8, hb2⟩
    rw [hg2.out, splice_all _ _ (by rw [HL.out]; simp [toList_madeCells_one]), HZ.out]

/-- cloneBytes. -/
theorem clone_any (w : World) (a : Option Addr) (len cap : Nat) (zs : List Int) (h : Sl w a len cap zs) (hl : len ≤ 1048576) :
    Calls Try.prog 12 #[.slice a len cap] w fun e w' => ∃ a' cap', e = .returned (.slice a' len cap') ∧ Sl w' a' len cap' zs ∧ Below w.heap.size w w' := by
  cases a with
  | none =>
    obtain ⟨rfl, rfl⟩ := h.nil rfl
    refine (clone_nil w _ _).mono ?_
    rintro e w' ⟨rfl, rfl⟩
    exact ⟨none, 0, rfl, h, Below.refl _ _⟩
  | some x =>
    refine (clone_some w x len cap zs h hl).mono ?_
    rintro e w' ⟨rfl, hs, hb⟩
    exact ⟨_, _, rfl, hs, hb⟩

/-- concatBytes. -/
theorem concat_any (w : World) (a : Option Addr) (la ca : Nat) (xs : List Int) (ha : Sl w a la ca xs) (b : Option Addr) (lb cb : Nat) (ys : List Int) (hb : Sl w b lb cb ys) (hl : la + lb ≤ 1048576) :
    Calls Try.prog 13 #[.slice a la ca, .slice b lb cb] w fun e w' => ∃ g, e = .returned (.slice (some ⟨g, 0, none⟩) (la + lb) (la + lb)) ∧ Sl w' (some ⟨g, 0, none⟩) (la + lb) (la + lb) (xs ++ ys) ∧ Below w.heap.size w w' := by
  obtain ⟨i0, hi, hz0, hz1, hz2⟩ := info_parts Try.info5
  have hla : xs.length = la := ha.len_eq
  have hlb : ys.length = lb := hb.len_eq
  have HA : Hid (xs.length = la) := hla
  have HB : Hid (ys.length = lb) := hlb
  clear hla hlb
  go_enter Try.func13, Try.ntmps13
  go_wp2_with (at_make; refine wpList_make_own _ rfl _ _ 22 rfl w.heap.size 5 i0 (.int .u8 0) 1 Try.underlying22 hi hz0 hz1 _ _ _ (la + lb) rfl rfl (by omega) (by rw [hz2]; omega) (by unfold maxLen; omega) (Nat.le_refl _) ?_)
  intro w1 hown1 hgrow1
  have hb1 : Below w.heap.size w w1 := (Below.refl _ _).grown hgrow1 (Nat.le_refl _) (by simp)
  have ha1 := ha.below hb1 (Nat.le_refl _)
  have H1 : Hid (w1.ownsRow w.heap.size 5 1 (.slice (some ⟨w.heap.size, 0, none⟩) 0 (la + lb)) 0 []) := hown1
  clear hown1 hgrow1
  go_wp2_with (at_builtin; refine wpList_append_fits_any _ rfl _ _ 22 rfl w.heap.size 5 i0 1 Try.underlying22 hi hz1 w.heap.size 0 (la + lb) [] rfl H1.out a la ca (xs.map (Value.int .u8)) rfl (by simpa using HA.out) ha1.nil ha1.news (ints_oneCell _ _) (by omega) ?_)
  intro w2 hown2 hgrow2
  have hb2 : Below w.heap.size w w2 := hb1.grown hgrow2 hb1.size (by simp)
  have hb2' := hb.below hb2 (Nat.le_refl _)
  have H2 : Hid (w2.ownsRow w.heap.size 5 1 (.slice (some ⟨w.heap.size, 0, none⟩) la (la + lb)) la (xs.map (Value.int .u8))) := hown2
  clear hown2 hgrow2 H1
  go_wp2_with (at_builtin; refine wpList_append_fits_any _ rfl _ _ 22 rfl w.heap.size 5 i0 1 Try.underlying22 hi hz1 w.heap.size la (la + lb) (xs.map (Value.int .u8)) rfl H2.out b lb cb (ys.map (Value.int .u8)) rfl (by simpa using HB.out) hb2'.nil hb2'.news (ints_oneCell _ _) (by omega) ?_)
  intro w3 hown3 hgrow3
  have hb3 : Below w.heap.size w w3 := hb2.grown hgrow3 hb2.size (by simp)
  have H3 : Hid (w3.ownsRow w.heap.size 5 1 (.slice (some ⟨w.heap.size, 0, none⟩) (la + lb) (la + lb)) (la + lb) (xs.map (Value.int .u8) ++ ys.map (Value.int .u8))) := hown3
  clear hown3 hgrow3 H2
  go_wp2
  go_ret
  refine ⟨w.heap.size, rfl, Sl.of_own (base := w.heap.size) (by rw [List.map_append]; exact H3.out) ?_, hb3⟩
  intro n hn
  rcases List.mem_append.1 hn with h | h
  · exact ha.by8 n h
  · exact hb.by8 n h

theorem cell_lt {w : World} {p : Addr} {v : Value} (h : w.cell? p = some v) : p.block < w.heap.size := by
  unfold World.cell? at h
  split at h
  · rename_i heq; exact (Array.getElem?_eq_some_iff.1 heq).1
  · simp at h

/-- A slice that came in, read up to its length. -/
theorem Sl.of_row {w : World} {a : Option Addr} {len cap : Nat} {zs : List Int}
    (h : (a = none ∧ len = 0 ∧ cap = 0 ∧ zs = []) ∨
      ∃ x, a = some x ∧ len ≤ cap ∧ cap ≤ maxLen ∧ zs.length = cap ∧ (∀ i, i < zs.length → w.cell? (x.add i) = some (.int .u8 (zs.getD i 0))) ∧ ∀ n ∈ zs, (Lit.int .u8 n).wf = true) :
    Sl w a len cap (zs.take len) := by
  rcases h with ⟨rfl, rfl, rfl, rfl⟩ | ⟨x, rfl, hl, hm, hz, hc, hw⟩
  · exact ⟨rfl, Nat.le_refl _, by unfold maxLen; omega, fun _ => ⟨rfl, rfl⟩, .inl rfl, by simp⟩
  · refine ⟨by simp; omega, hl, hm, by simp, ?_, fun n hn => bounds_u8 (hw n (List.mem_of_mem_take hn))⟩
    by_cases h0 : len = 0
    · subst h0; exact .inl (by simp)
    · obtain ⟨b, off, spot⟩ := x
      have hspot : spot = none := by simpa [Addr.add] using World.cell?_spot (hc 0 (by omega))
      subst hspot
      have hlt := cell_lt (hc 0 (by omega))
      refine .inr ⟨b, off, rfl, by simpa [Addr.add] using hlt, fun i hi => ?_⟩
      have hi' : i < len ∧ i < zs.length := by simp at hi; omega
      rw [← Addr.add_lit, hc i hi'.2]
      simp [List.getD, hi'.1]
end Go.Proofs.Qxb6001410a
