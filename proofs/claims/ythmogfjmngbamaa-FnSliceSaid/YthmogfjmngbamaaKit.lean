/-
  Words for walks: boxes and doors' values that a later world still holds.
-/
import Derived.Test.YthmogfjmngbamaaCmps
namespace Go.Proofs.Ythmogfjmngbamaa
open Go.RowKit

/-- The seven cells of a block that is known whole. -/
theorem seven {w : World} {b : Nat} {c0 c1 c2 c3 c4 c5 c6 : Value} {t : TypeId} {m : Nat × Nat} (h : w.heap[b]? = some (.cells #[c0, c1, c2, c3, c4, c5, c6] t m)) :
    w.cell? ⟨b, 0, none⟩ = some c0 ∧ w.cell? ⟨b, 1, none⟩ = some c1 ∧ w.cell? ⟨b, 2, none⟩ = some c2 ∧ w.cell? ⟨b, 3, none⟩ = some c3 ∧ w.cell? ⟨b, 4, none⟩ = some c4 ∧ w.cell? ⟨b, 5, none⟩ = some c5 ∧ w.cell? ⟨b, 6, none⟩ = some c6 :=
  ⟨cell_at_block h 0 _ rfl, cell_at_block h 1 _ rfl, cell_at_block h 2 _ rfl, cell_at_block h 3 _ rfl, cell_at_block h 4 _ rfl, cell_at_block h 5 _ rfl, cell_at_block h 6 _ rfl⟩

/-- Two new blocks that a later world still holds. -/
structure Two (w w1 : World) (o0 o1 : Obj) : Prop where
  fst : w1.heap[w.heap.size]? = some o0
  snd : w1.heap[w.heap.size + 1]? = some o1
  size : w.heap.size + 2 ≤ w1.heap.size
  below : Below w.heap.size w w1
theorem Two.mk' {w w1 : World} {o0 o1 : Obj} (hb : Below ((w.alloc o0).alloc o1).heap.size ((w.alloc o0).alloc o1) w1) : Two w w1 o0 o1 := by
  have h0 := heap_alloc_new w o0
  have h1 := heap_alloc_new (w.alloc o0) o1
  simp only [World.size_alloc] at h1 hb
  refine ⟨?_, ?_, ?_, ?_⟩
  · rw [hb.block _ (by omega), Below.heap_alloc _ _ _ (by simp only [World.size_alloc]; omega)]; exact h0
  · rw [hb.block _ (by omega)]; exact h1
  · have := hb.size; simp only [World.size_alloc] at this; omega
  · exact (((Below.refl _ _).alloc (Nat.le_refl _) _).alloc (by simp) _).trans (hb.mono (by omega))
theorem Two.later {w w1 w2 : World} {o0 o1 : Obj} (h : Two w w1 o0 o1) (hb : Below w1.heap.size w1 w2) : Two w w2 o0 o1 :=
  ⟨(hb.block _ (by have := h.size; omega)).trans h.fst, (hb.block _ (by have := h.size; omega)).trans h.snd, Nat.le_trans h.size hb.size, h.below.trans (hb.mono (by have := h.size; omega))⟩

/-- Eight cells of a block written one by one. -/
def store8 (w : World) (g : Nat) (c0 c1 c2 c3 c4 c5 c6 c7 : Value) : World :=
  (((((((w.setCell ⟨g, 0, none⟩ c0).setCell ⟨g, 1, none⟩ c1).setCell ⟨g, 2, none⟩ c2).setCell ⟨g, 3, none⟩ c3).setCell ⟨g, 4, none⟩ c4).setCell ⟨g, 5, none⟩ c5).setCell ⟨g, 6, none⟩ c6).setCell ⟨g, 7, none⟩ c7

theorem store8_at {w : World} {g : Nat} {d0 d1 d2 d3 d4 d5 d6 d7 : Value} {t : TypeId} (c0 c1 c2 c3 c4 c5 c6 c7 : Value) (h : w.heap[g]? = some (.cells #[d0, d1, d2, d3, d4, d5, d6, d7] t (0, 0))) :
    (store8 w g c0 c1 c2 c3 c4 c5 c6 c7).heap[g]? = some (.cells #[c0, c1, c2, c3, c4, c5, c6, c7] t (0, 0)) := by
  have h0 := heap_setCell_same _ g 0 _ t c0 h
  simp only [List.setIfInBounds_toArray, List.set_cons_zero] at h0
  have h1 := heap_setCell_same _ g 1 _ t c1 h0
  simp only [List.setIfInBounds_toArray, List.set_cons_zero, List.set_cons_succ] at h1
  have h2 := heap_setCell_same _ g 2 _ t c2 h1
  simp only [List.setIfInBounds_toArray, List.set_cons_zero, List.set_cons_succ] at h2
  have h3 := heap_setCell_same _ g 3 _ t c3 h2
  simp only [List.setIfInBounds_toArray, List.set_cons_zero, List.set_cons_succ] at h3
  have h4 := heap_setCell_same _ g 4 _ t c4 h3
  simp only [List.setIfInBounds_toArray, List.set_cons_zero, List.set_cons_succ] at h4
  have h5 := heap_setCell_same _ g 5 _ t c5 h4
  simp only [List.setIfInBounds_toArray, List.set_cons_zero, List.set_cons_succ] at h5
  have h6 := heap_setCell_same _ g 6 _ t c6 h5
  simp only [List.setIfInBounds_toArray, List.set_cons_zero, List.set_cons_succ] at h6
  have h7 := heap_setCell_same _ g 7 _ t c7 h6
  simp only [List.setIfInBounds_toArray, List.set_cons_zero, List.set_cons_succ] at h7
  exact h7
theorem store8_other {w : World} {g k : Nat} (c0 c1 c2 c3 c4 c5 c6 c7 : Value) (h : k ≠ g) : (store8 w g c0 c1 c2 c3 c4 c5 c6 c7).heap[k]? = w.heap[k]? := by
  unfold store8
  simp only [Below.heap_setCell _ ⟨g, _, none⟩ _ k h]
theorem store8_size {w : World} {g : Nat} (c0 c1 c2 c3 c4 c5 c6 c7 : Value) : (store8 w g c0 c1 c2 c3 c4 c5 c6 c7).heap.size = w.heap.size := by
  simp [store8, World.setCell]
theorem store8_below {w0 w : World} {g B : Nat} (c0 c1 c2 c3 c4 c5 c6 c7 : Value) (h : Below B w0 w) (hg : B ≤ g) : Below B w0 (store8 w g c0 c1 c2 c3 c4 c5 c6 c7) :=
  (((((((h.setCell (p := ⟨g, 0, none⟩) hg _).setCell (p := ⟨g, 1, none⟩) hg _).setCell (p := ⟨g, 2, none⟩) hg _).setCell (p := ⟨g, 3, none⟩) hg _).setCell (p := ⟨g, 4, none⟩) hg _).setCell (p := ⟨g, 5, none⟩) hg _).setCell (p := ⟨g, 6, none⟩) hg _).setCell (p := ⟨g, 7, none⟩) hg _

/-- The eight cells of a block that is known whole. -/
theorem eight {w : World} {b : Nat} {c0 c1 c2 c3 c4 c5 c6 c7 : Value} {t : TypeId} {m : Nat × Nat} (h : w.heap[b]? = some (.cells #[c0, c1, c2, c3, c4, c5, c6, c7] t m)) :
    w.cell? ⟨b, 0, none⟩ = some c0 ∧ w.cell? ⟨b, 1, none⟩ = some c1 ∧ w.cell? ⟨b, 2, none⟩ = some c2 ∧ w.cell? ⟨b, 3, none⟩ = some c3 ∧ w.cell? ⟨b, 4, none⟩ = some c4 ∧ w.cell? ⟨b, 5, none⟩ = some c5 ∧ w.cell? ⟨b, 6, none⟩ = some c6 ∧ w.cell? ⟨b, 7, none⟩ = some c7 :=
  ⟨cell_at_block h 0 _ rfl, cell_at_block h 1 _ rfl, cell_at_block h 2 _ rfl, cell_at_block h 3 _ rfl, cell_at_block h 4 _ rfl, cell_at_block h 5 _ rfl, cell_at_block h 6 _ rfl, cell_at_block h 7 _ rfl⟩

theorem free_block {w : World} {b : Nat} {cs : Array Value} {t : TypeId} (h : w.heap[b]? = some (.cells cs t (0, 0))) (j : Nat) : w.frozen? ⟨b, j, none⟩ = false := by
  simp [World.frozen?, h]

/-- Two boxes and two doors' values that a later world still holds. -/
structure Four (w w1 : World) (o0 o1 : Obj) (g1 g2 : Nat) (p1 p2 : Obj) : Prop where
  two : Two w w1 o0 o1
  one : w1.heap[g1]? = some p1
  other : w1.heap[g2]? = some p2
theorem Four.later {w w1 w2 : World} {o0 o1 : Obj} {g1 g2 : Nat} {p1 p2 : Obj} (h : Four w w1 o0 o1 g1 g2 p1 p2) (hb : Below w1.heap.size w1 w2) : Four w w2 o0 o1 g1 g2 p1 p2 :=
  ⟨h.two.later hb, (hb.block _ (lt_of_block h.one)).trans h.one, (hb.block _ (lt_of_block h.other)).trans h.other⟩

/-- The zero value of the reference's type. -/
def zeroV : Value := .agg #[.int .i64 0, .int .i64 0, .float .f64 0, .string ⟨#[]⟩, .bool false, .slice none 0 0, .slice none 0 0]

/-- It returned true, and made new memory alone. -/
def Holds (w : World) (e : Ending) (w' : World) : Prop := e = .returned (.bool true) ∧ Below w.heap.size w w'

end Go.Proofs.Ythmogfjmngbamaa
