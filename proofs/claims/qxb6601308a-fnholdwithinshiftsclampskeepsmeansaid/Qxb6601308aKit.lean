/-
  SEAT b6601308a: how slices of doubles and of ints read; how the arguments are opened.
-/
import Derived.Test.Qxb6601308aRows
import Derived.Test.Qxb6601308aRnd
import Derived.WalkKit
import Derived.ProofKit
import Derived.OpenShut
import Derived.ShutString
import Derived.ChangeOld
import Derived.Below
import Derived.Laws.CopyOwn
import Derived.Lib.SliceRun
import Derived.WalkSpells
import Derived.WalkLawsBesides
import Derived.Deep.QuietTactic
import Derived.BigQuiet
import Derived.Deep.LoopGhost
import Derived.Deep.DeepCutAuto
import Derived.Deep.CutBlock
import Derived.Deep.Slices
namespace Go.Proofs.Qxb6601308a
open Go.ChangeShapes Go.WideShapes Go.ChangeAt Go.RowKit

theorem Try.info22 : (Try.prog.info? 22).map (fun i => (i.zero, i.size, i.bytes)) = some (some (.float .f64 0), 1, 8) := by kernel_rfl
theorem Try.info3 : (Try.prog.info? 3).map (fun i => (i.zero, i.size, i.bytes)) = some (some (.int .i64 0), 1, 8) := by kernel_rfl
theorem Try.cells22 : Try.prog.cellsOf 22 = 1 := by kernel_rfl

/-- The slice value '.slice a len cap' reads, in world w, as the words xs. -/
structure Fl (w : World) (a : Option Addr) (len cap : Nat) (xs : List Nat) : Prop where
  len_eq : xs.length = len
  le : len ≤ cap
  mx : cap ≤ maxLen
  nil : a = none → len = 0 ∧ cap = 0
  rd : xs = [] ∨ ∃ b off, a = some ⟨b, off, none⟩ ∧ b < w.heap.size ∧ ∀ i, i < xs.length → w.cell? ⟨b, off + i, none⟩ = some (.float .f64 (xs.getD i 0))
  wf : ∀ n ∈ xs, n < 18446744073709551616

theorem Fl.below {w w' : World} {a : Option Addr} {len cap : Nat} {xs : List Nat} (h : Fl w a len cap xs) {B : Nat} (hb : Below B w w') (hB : w.heap.size ≤ B) : Fl w' a len cap xs := by
  refine ⟨h.len_eq, h.le, h.mx, h.nil, ?_, h.wf⟩
  rcases h.rd with h0 | ⟨b, off, e, hs, hc⟩
  · exact .inl h0
  · refine .inr ⟨b, off, e, Nat.lt_of_lt_of_le hs hb.size, fun i hi => ?_⟩
    rw [hb.cell (p := ⟨b, off + i, none⟩) (Nat.lt_of_lt_of_le hs hB)]
    exact hc i hi

theorem cell_lt {w : World} {p : Addr} {v : Value} (h : w.cell? p = some v) : p.block < w.heap.size := by
  unfold World.cell? at h
  split at h
  · rename_i heq; exact (Array.getElem?_eq_some_iff.1 heq).1
  · simp at h

section
variable {H : Type} {enc : TypeId × Value → H} {W : World} {base : Nat} {spare : Nat → Bool} {held : Bool}

theorem trod_float {n : Nat} {v : Value} {y : DataW H × List MemPlace} (h : DataW.trod enc Try.prog W base spare held n 22 [v] = some y) (hv : ∃ b, v = .float .f64 b) : ∃ b, v = .float .f64 b ∧ b < 18446744073709551616 := by
  obtain ⟨b, rfl⟩ := hv
  refine ⟨b, rfl, ?_⟩
  cases n with
  | zero => simp [DataW.trod] at h
  | succ n =>
    simp only [DataW.trod, Try.underlying22] at h
    by_cases hw : (Lit.float .f64 b).wf = true
    · simpa [Lit.wf] using hw
    · simp [hw] at h

theorem trod_isfloat {n : Nat} {v : Value} {y : DataW H × List MemPlace} (h : DataW.trod enc Try.prog W base spare held n 22 [v] = some y) : ∃ b, v = .float .f64 b := by
  cases n with
  | zero => simp [DataW.trod] at h
  | succ n =>
    simp only [DataW.trod, Try.underlying22] at h
    cases v <;> simp_all

/-- A slice of doubles that came in. -/
theorem Fl.open {a : Option Addr} {len cap : Nat} {d : DataW H} {ps : List MemPlace} (h : DataW.Trod enc Try.prog W base (fun _ => true) held 28 (.slice a len cap) d ps) : ∃ xs, Fl W a len cap xs := by
  obtain ⟨fuel, hf⟩ := h
  rcases Deep.open_slice1 Try.underlying28 Try.cells22 hf with ⟨hcs, _⟩ | ⟨x, l, c, m, n, V, D, Pl, hcs, _, hl, hm, hmm, _, hc⟩
  · simp [Value.cells] at hcs
    obtain ⟨rfl, rfl, rfl⟩ := hcs
    exact ⟨[], rfl, Nat.le_refl _, by unfold maxLen; omega, fun _ => ⟨rfl, rfl⟩, .inl rfl, by simp⟩
  · simp [Value.cells] at hcs
    obtain ⟨rfl, rfl, rfl⟩ := hcs
    simp only [if_true] at hmm
    subst hmm
    have hb : ∀ i, i < len → ∃ b, V i = .float .f64 b ∧ b < 18446744073709551616 := fun i hi => trod_float (hc i (by omega)).2 (trod_isfloat (hc i (by omega)).2)
    have hbit : ∃ f : Nat → Nat, ∀ i, i < len → V i = .float .f64 (f i) ∧ f i < 18446744073709551616 :=
      Deep.choose_lt (α := Nat) (p := fun i b => V i = .float .f64 b ∧ b < 18446744073709551616) hb
    obtain ⟨f, hfv⟩ := hbit
    refine ⟨(List.range len).map f, by simp, hl, hm, by simp, ?_, ?_⟩
    · by_cases h0 : len = 0
      · subst h0; exact .inl (by simp)
      · obtain ⟨b, off, spot⟩ := x
        have hspot : spot = none := by simpa [Addr.add] using World.cell?_spot (hc 0 (by omega)).1
        subst hspot
        have hlt := cell_lt (hc 0 (by omega)).1
        refine .inr ⟨b, off, rfl, by simpa [Addr.add] using hlt, fun i hi => ?_⟩
        have hi' : i < len := by simpa using hi
        rw [← Addr.add_lit, (hc i (by omega)).1, (hfv i hi').1]
        simp [List.getD, hi']
    · intro n hn
      obtain ⟨i, hi, rfl⟩ := List.mem_map.1 hn
      exact (hfv i (by simpa using hi)).2
end

@[go_sem] theorem run_store_float {P : Program} {w : World} {a : Addr} {m : Mode} (k : FloatKind) (b : Nat) : (store a (.float k b) m).run P w = stored P w a (.float k b) m := run_store P w a _ m rfl

/-- A block that is a row of cells, none frozen. -/
def Row (w : World) (G : Nat) (t : TypeId) (vs : List Value) : Prop := w.heap[G]? = some (.cells vs.toArray t (0, 0))

theorem Row.cell {w : World} {G : Nat} {t : TypeId} {vs : List Value} (h : Row w G t vs) (i : Nat) : w.cell? ⟨G, i, none⟩ = vs[i]? := by
  rw [cell_of_row w G i _ _ _ h]; simp
theorem Row.frozen {w : World} {G : Nat} {t : TypeId} {vs : List Value} (h : Row w G t vs) (i : Nat) : w.frozen? ⟨G, i, none⟩ = false := frozen_of_row w G i _ _ h
theorem Row.lt {w : World} {G : Nat} {t : TypeId} {vs : List Value} (h : Row w G t vs) : G < w.heap.size := (Array.getElem?_eq_some_iff.1 h).1
theorem Row.set {w : World} {G : Nat} {t : TypeId} {vs : List Value} (h : Row w G t vs) (i : Nat) (v : Value) : Row (w.setCell ⟨G, i, none⟩ v) G t (vs.set i v) := by
  unfold Row
  rw [heap_setCell_same w G i _ _ v h]; simp
theorem Row.other {w : World} {G : Nat} {t : TypeId} {vs : List Value} (h : Row w G t vs) (g : Nat) (hg : G ≠ g) (i : Nat) (v : Value) : Row (w.setCell ⟨g, i, none⟩ v) G t vs := by
  unfold Row
  rw [Below.heap_setCell _ _ _ _ hg]; exact h
theorem Row.below {w w' : World} {G : Nat} {t : TypeId} {vs : List Value} (h : Row w G t vs) {B : Nat} (hb : Below B w w') (hB : G < B) : Row w' G t vs := by
  unfold Row
  rw [hb.block G hB]; exact h
theorem Row.drewN {w : World} {G : Nat} {t : TypeId} {vs : List Value} (h : Row w G t vs) (n : Nat) : Row (w.drewN n) G t vs := h

theorem row_of_own {w : World} {base g n : Nat} {t : TypeId} {xs : List Value} (h : w.ownsRow base t 1 (.slice (some ⟨g, 0, none⟩) n n) n xs) : Row w g t xs := by
  rcases h.2 with ⟨h', _⟩ | ⟨g', cap', cur, h', hb, hg, h1, h2, h3, h4⟩
  · simp at h'
  · simp only [Value.slice.injEq, Option.some.injEq, Addr.mk.injEq, and_true, true_and] at h'
    obtain ⟨rfl, rfl⟩ := h'
    unfold Row
    rw [hg, ← h4, List.take_of_length_le (by simp [h3])]

def flV (xs : List Nat) : List Value := xs.map (Value.float .f64)
def inV (xs : List Int) : List Value := xs.map (Value.int .i64)

theorem flV_len (xs : List Nat) : (flV xs).length = xs.length := by simp [flV]
theorem flV_get (xs : List Nat) (i : Nat) (h : i < xs.length) : (flV xs)[i]? = some (.float .f64 (xs.getD i 0)) := by simp [flV, List.getD, h]
theorem flV_set (xs : List Nat) (i v : Nat) : (flV xs).set i (.float .f64 v) = flV (xs.set i v) := by simp [flV]
theorem inV_get (xs : List Int) (i : Nat) (h : i < xs.length) : (inV xs)[i]? = some (.int .i64 (xs.getD i 0)) := by simp [inV, List.getD, h]
theorem inV_set (xs : List Int) (i : Nat) (v : Int) : (inV xs).set i (.int .i64 v) = inV (xs.set i v) := by simp [inV]

theorem getD_set_same {α : Type} (xs : List α) (i : Nat) (v d : α) (h : i < xs.length) : (xs.set i v).getD i d = v := by simp [List.getD, h]
theorem getD_set_ne {α : Type} (xs : List α) (i j : Nat) (v d : α) (h : i ≠ j) : (xs.set i v).getD j d = xs.getD j d := by simp [List.getD, h]

/-- A row read as a slice of doubles. -/
theorem Fl.of_row {w : World} {G : Nat} {xs : List Nat} (h : Row w G 22 (flV xs)) (hm : xs.length ≤ maxLen) (hw : ∀ n ∈ xs, n < 18446744073709551616) : Fl w (some ⟨G, 0, none⟩) xs.length xs.length xs :=
  ⟨rfl, Nat.le_refl _, hm, by simp, .inr ⟨G, 0, rfl, h.lt, fun i hi => by rw [Nat.zero_add, h.cell i, flV_get xs i hi]⟩, hw⟩

theorem Fl.cellAt {w : World} {a : Option Addr} {len cap : Nat} {xs : List Nat} (h : Fl w a len cap xs) {i : Nat} (hi : i < len) : ∃ b off, a = some ⟨b, off, none⟩ ∧ b < w.heap.size ∧ ∀ i, i < len → w.cell? ⟨b, off + i, none⟩ = some (.float .f64 (xs.getD i 0)) := by
  rcases h.rd with h0 | ⟨b, off, e, hb, hc⟩
  · have := h.len_eq; rw [h0] at this; simp at this; omega
  · exact ⟨b, off, e, hb, fun i hi => hc i (by rw [h.len_eq]; exact hi)⟩

theorem list_ext_getD {xs ys : List Nat} (hl : xs.length = ys.length) (h : ∀ i, i < xs.length → xs.getD i 0 = ys.getD i 0) : xs = ys := by
  apply List.ext_getElem hl
  intro i h1 h2
  have := h i h1
  simpa [List.getD, h1, h2] using this

end Go.Proofs.Qxb6601308a
