/-
  SEAT b6600039a: what the walks share: how a slice of bytes reads, and the contracts of the small functions.
-/
import Derived.Test.Qxb6600039aRows
import Derived.WalkKit
import Derived.ProofKit
import Derived.OpenShut
import Derived.ShutString
import Derived.ChangeOld
import Derived.Below
import Derived.Laws.CopyOwn
import Derived.Lib.SliceRun
import Derived.WalkSpells
import Derived.WalkLawsBesides
import Derived.Deep.QuietTactic
import Derived.BigQuiet
import Derived.Deep.LoopGhost
import Derived.Deep.DeepCutAuto
import Derived.Deep.CutBlock
import Derived.Laws.BitsAllLaws
import Derived.Maps.AppendAt
namespace Go.Proofs.Qxb6600039a
open Go.ChangeShapes Go.WideShapes Go.ChangeAt Go.RowKit

theorem Try.info5 : (Try.prog.info? 5).map (fun i => (i.zero, i.size, i.bytes)) = some (some (.int .u8 0), 1, 1) := by kernel_rfl
theorem Try.size5 : (Try.prog.info? 5).map (·.size) = some 1 := by kernel_rfl

/-- The slice value '.slice a len cap' reads, in world w, as the bytes zs. -/
structure Sl (w : World) (a : Option Addr) (len cap : Nat) (zs : List Int) : Prop where
  len_eq : zs.length = len
  le : len ≤ cap
  mx : cap ≤ maxLen
  nil : a = none → len = 0 ∧ cap = 0
  rd : zs = [] ∨ ∃ b off, a = some ⟨b, off, none⟩ ∧ b < w.heap.size ∧ ∀ i, i < zs.length → w.cell? ⟨b, off + i, none⟩ = some (.int .u8 (zs.getD i 0))
  by8 : ∀ n ∈ zs, 0 ≤ n ∧ n ≤ 255

theorem Sl.below {w w' : World} {a : Option Addr} {len cap : Nat} {zs : List Int} (h : Sl w a len cap zs) {B : Nat} (hb : Below B w w') (hB : w.heap.size ≤ B) : Sl w' a len cap zs := by
  refine ⟨h.len_eq, h.le, h.mx, h.nil, ?_, h.by8⟩
  rcases h.rd with h0 | ⟨b, off, e, hs, hc⟩
  · exact .inl h0
  · refine .inr ⟨b, off, e, Nat.lt_of_lt_of_le hs hb.size, fun i hi => ?_⟩
    rw [hb.cell (p := ⟨b, off + i, none⟩) (Nat.lt_of_lt_of_le hs hB)]
    exact hc i hi

/-- What is appended from such a slice: the law's side condition. -/
theorem Sl.news {w : World} {a : Option Addr} {len cap : Nat} {zs : List Int} (h : Sl w a len cap zs) : ∀ ad, a = some ad → ∀ j u, (zs.map (Value.int .u8))[j]? = some u → w.cell? (ad.add j) = some u := by
  intro ad had j u hu
  have hj : j < zs.length := by simpa using (List.getElem?_eq_some_iff.1 hu).1
  rcases h.rd with h0 | ⟨b, off, e, hs, hc⟩
  · subst h0; simp at hj
  · rw [e] at had
    obtain rfl := Option.some.inj had
    rw [Addr.add_lit, hc j hj, ← hu]
    simp [List.getD, hj]

/-- A row of the call's own, read. -/
theorem Sl.of_own {w : World} {base g n cap : Nat} {zs : List Int} (h : w.ownsRow base 5 1 (.slice (some ⟨g, 0, none⟩) n cap) n (zs.map (Value.int .u8))) (h8 : ∀ x ∈ zs, 0 ≤ x ∧ x ≤ 255) : Sl w (some ⟨g, 0, none⟩) n cap zs := by
  have hl : zs.length = n := by simpa using h.1
  rcases h.2 with ⟨h', _⟩ | ⟨g', cap', cur, h', hb, hg, h1, h2, _, _⟩
  · simp at h'
  · simp only [Value.slice.injEq, Option.some.injEq, Addr.mk.injEq, and_true, true_and] at h'
    obtain ⟨rfl, rfl⟩ := h'
    have hlt : g < w.heap.size := (Array.getElem?_eq_some_iff.1 hg).1
    refine ⟨hl, h1, h2, by simp, .inr ⟨g, 0, rfl, hlt, fun i hi => ?_⟩, h8⟩
    rw [Nat.zero_add, h.cellAt i (by omega)]
    simp [List.getD, hi]

theorem splice_all {α : Type} (Z X : List α) (h : Z.length = X.length) : splice Z 0 X = X := by
  unfold splice; simp [← h]

theorem own_of_heap {w : World} {base g n : Nat} {cs : List Value} (hg : w.heap[g]? = some (.cells cs.toArray 5 (0, 0))) (hb : base ≤ g) (hn : cs.length = n) (hm : n ≤ maxLen) :
    w.ownsRow base 5 1 (.slice (some ⟨g, 0, none⟩) n n) n cs :=
  ⟨by omega, .inr ⟨g, n, cs.toArray, rfl, hb, hg, Nat.le_refl _, hm, by simp [hn], by simp [← hn]⟩⟩

theorem heap_of_own {w : World} {base g n : Nat} {xs : List Value} (h : w.ownsRow base 5 1 (.slice (some ⟨g, 0, none⟩) n n) n xs) : w.heap[g]? = some (.cells xs.toArray 5 (0, 0)) := by
  rcases h.2 with ⟨h', _⟩ | ⟨g', cap', cur, h', hb, hg, h1, h2, h3, h4⟩
  · simp at h'
  · simp only [Value.slice.injEq, Option.some.injEq, Addr.mk.injEq, and_true, true_and] at h'
    obtain ⟨rfl, rfl⟩ := h'
    rw [hg, ← h4, List.take_of_length_le (by simp [h3])]

theorem cell_lt {w : World} {p : Addr} {v : Value} (h : w.cell? p = some v) : p.block < w.heap.size := by
  unfold World.cell? at h
  split at h
  · rename_i heq; exact (Array.getElem?_eq_some_iff.1 heq).1
  · simp at h

/-- A slice that came in, read up to its length. -/
theorem Sl.of_row {w : World} {a : Option Addr} {len cap : Nat} {zs : List Int}
    (h : (a = none ∧ len = 0 ∧ cap = 0 ∧ zs = []) ∨
      ∃ x, a = some x ∧ len ≤ cap ∧ cap ≤ maxLen ∧ zs.length = cap ∧ (∀ i, i < zs.length → w.cell? (x.add i) = some (.int .u8 (zs.getD i 0))) ∧ ∀ n ∈ zs, (Lit.int .u8 n).wf = true) :
    Sl w a len cap (zs.take len) := by
  rcases h with ⟨rfl, rfl, rfl, rfl⟩ | ⟨x, rfl, hl, hm, hz, hc, hw⟩
  · exact ⟨rfl, Nat.le_refl _, by unfold maxLen; omega, fun _ => ⟨rfl, rfl⟩, .inl rfl, by simp⟩
  · refine ⟨by simp; omega, hl, hm, by simp, ?_, fun n hn => bounds_u8 (hw n (List.mem_of_mem_take hn))⟩
    by_cases h0 : len = 0
    · subst h0; exact .inl (by simp)
    · obtain ⟨b, off, spot⟩ := x
      have hspot : spot = none := by simpa [Addr.add] using World.cell?_spot (hc 0 (by omega))
      subst hspot
      have hlt := cell_lt (hc 0 (by omega))
      refine .inr ⟨b, off, rfl, by simpa [Addr.add] using hlt, fun i hi => ?_⟩
      have hi' : i < len ∧ i < zs.length := by simp at hi; omega
      rw [← Addr.add_lit, hc i hi'.2]
      simp [List.getD, hi'.1]
/-- The reader lies in block R: its data, its position; nothing of it is frozen. -/
structure Rdr (w : World) (R : Nat) (a : Option Addr) (len cap : Nat) (p : Nat) : Prop where
  data : w.cell? ⟨R, 0, none⟩ = some (.slice a len cap)
  pos : w.cell? ⟨R, 1, none⟩ = some (.int .i64 p)
  fr : w.frozen? ⟨R, 1, none⟩ = false

/-- Block R alone may have turned. -/
structure Off (R : Nat) (w w' : World) : Prop where
  os : w'.os = w.os
  tape : w'.tape = w.tape
  output : w'.output = w.output
  size : w'.heap.size = w.heap.size
  block : ∀ k, k ≠ R → w'.heap[k]? = w.heap[k]?

/-- The bytes of the data, none of them in block R. -/
structure Dat (w : World) (R : Nat) (a : Option Addr) (len : Nat) (zs : List Int) : Prop where
  len_eq : zs.length = len
  mx : len ≤ maxLen
  rd : zs = [] ∨ ∃ b off, a = some ⟨b, off, none⟩ ∧ b ≠ R ∧ ∀ i, i < zs.length → w.cell? ⟨b, off + i, none⟩ = some (.int .u8 (zs.getD i 0))

theorem Off.refl (R : Nat) (w : World) : Off R w w := ⟨rfl, rfl, rfl, rfl, fun _ _ => rfl⟩
theorem Off.trans {R : Nat} {a b c : World} (h : Off R a b) (k : Off R b c) : Off R a c := ⟨k.os.trans h.os, k.tape.trans h.tape, k.output.trans h.output, k.size.trans h.size, fun i hi => (k.block i hi).trans (h.block i hi)⟩
theorem Off.drewN {R : Nat} {a b : World} (h : Off R a b) (n : Nat) : Off R a (b.drewN n) := ⟨h.os, h.tape, h.output, h.size, h.block⟩
theorem Off.setCell {R : Nat} {a b : World} (h : Off R a b) (o : Nat) (v : Value) : Off R a (b.setCell ⟨R, o, none⟩ v) :=
  h.trans ⟨rfl, rfl, rfl, by simp [World.setCell], fun k hk => Below.heap_setCell _ _ _ _ hk⟩
theorem Off.cell {R : Nat} {w w' : World} (h : Off R w w') {p : Addr} (hp : p.block ≠ R) : w'.cell? p = w.cell? p := World.cell?_of_block (w := w) (h.block p.block hp)
theorem Dat.off {R : Nat} {w w' : World} {a : Option Addr} {len : Nat} {zs : List Int} (h : Dat w R a len zs) (ho : Off R w w') : Dat w' R a len zs := by
  refine ⟨h.len_eq, h.mx, ?_⟩
  rcases h.rd with h0 | ⟨b, off, e, hne, hc⟩
  · exact .inl h0
  · exact .inr ⟨b, off, e, hne, fun i hi => by rw [ho.cell (p := ⟨b, off + i, none⟩) hne]; exact hc i hi⟩

theorem Rdr.drewN {w : World} {R : Nat} {a : Option Addr} {len cap p : Nat} (h : Rdr w R a len cap p) (n : Nat) : Rdr (w.drewN n) R a len cap p := ⟨h.data, h.pos, h.fr⟩
theorem Rdr.set {w : World} {R : Nat} {a : Option Addr} {len cap p : Nat} (h : Rdr w R a len cap p) (n q : Nat) : Rdr ((w.drewN n).setCell ⟨R, 1, none⟩ (.int .i64 ((q : Int) + 1))) R a len cap (q + 1) := by
  have h1 := (h.drewN n).data
  have h2 := (h.drewN n).pos
  have h3 := (h.drewN n).fr
  refine ⟨?_, ?_, ?_⟩
  · go_simp
  · go_simp
  · go_simp


theorem ret_int {k : IntKind} {a b : Int} (h : a = b) : Ending.returned (.int k a) = .returned (.int k b) := by rw [h]
theorem ret_bool {a b : Bool} (h : a = b) : Ending.returned (.bool a) = .returned (.bool b) := by rw [h]

/-- A new block's cells. -/
theorem cells_new (w : World) (xs : List Value) (t : TypeId) : ∀ j u, xs[j]? = some u → (w.alloc (.cells xs.toArray t)).cell? ((⟨w.heap.size, 0, none⟩ : Addr).add j) = some u := by
  intro j u hj
  rw [Addr.add_lit, Nat.zero_add, cell_of_row _ w.heap.size j xs.toArray t (0, 0) (heap_alloc_new w _), ← hj]
  simp

theorem below_app {B : Nat} {v w2 w3 : World} {val : Value} {n : Nat} {xs : List Value} {base : Nat} {o : Obj} (hb : Below B v w2) (hB : B ≤ w2.heap.size) (hown : w2.ownsRow base 5 1 val n xs) (hbase : B ≤ base) (hg : (w2.alloc o).grownBy w3 val.ownBlock) : Below B v w3 := by
  refine (hb.alloc hB o).grown hg (by simp; omega) ?_
  intro k e
  rcases hown.2 with ⟨rfl, _⟩ | ⟨g, cap, cur, rfl, hbg, _⟩
  · cases e
  · simp [Value.ownBlock] at e; omega

theorem below_app' {B : Nat} {v w2 w3 : World} {val : Value} {n : Nat} {xs : List Value} {base : Nat} (hb : Below B v w2) (hB : B ≤ w2.heap.size) (hown : w2.ownsRow base 5 1 val n xs) (hbase : B ≤ base) (hg : w2.grownBy w3 val.ownBlock) : Below B v w3 := by
  refine hb.grown hg hB ?_
  intro k e
  rcases hown.2 with ⟨rfl, _⟩ | ⟨g, cap, cur, rfl, hbg, _⟩
  · cases e
  · simp [Value.ownBlock] at e; omega

end Go.Proofs.Qxb6600039a
