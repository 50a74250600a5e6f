/-
  What the loop of 'spec.CuOf' has made of the first elements.
-/
import Derived.Test.YthmogfjmngbamaaApp
import Derived.Test.YthmogfjmngbamaaDrawb
namespace Go.Proofs.Ythmogfjmngbamaa
open Go.RowKit
set_option linter.unusedSimpArgs false
set_option linter.unusedVariables false

/-- It returned a value at the door, whole, in new memory. -/
def GivesDoor (x : SV) (w : World) (e : Ending) (w' : World) : Prop := ∃ d : Dv, e = .returned d.val ∧ Below w.heap.size w w' ∧ DoorOf w' (betw w.heap.size w'.heap.size) x d

/-- The blocks behind the elements: new ones, neither row. -/
def elemB (base : Nat) (kv lv : Value) (size : Nat) : Nat → Prop := fun b => base ≤ b ∧ b < size ∧ some b ≠ lv.ownBlock ∧ some b ≠ kv.ownBlock

/-- The keys' rows: of a map so many as elements, of a list none. -/
structure KeyRow (x : SV) (base : Nat) (kv : Value) (j : Nat) (wr : World) : Prop where
  row : ∃ ys, wr.ownsRow base 35 8 kv (if x.kind = 6 then j else 0) ys ∧ RowOf 8 ys (if x.kind = 6 then j else 0) (fun i => (Dv.key (x.keys.getD i ⟨#[]⟩)).cells)

/-- What the loop has made of the first j elements: a row of doors' values (and a row of keys). -/
structure LInv (x : SV) (w : World) (kd : Int) (kv lv : Value) (m j : Nat) (D : Nat → Dv) (xs : List Value) (wr : World) : Prop where
  below : Below w.heap.size w wr
  box : wr.heap[w.heap.size]? = some (.cells x.cells.toArray 30 (0, 0))
  res : wr.heap[w.heap.size + 1]? = some (.cells #[.int .i64 0, .int .i64 0, .int .u64 0, .float .f64 0, .string ⟨#[]⟩, .bool false, .slice none 0 0, .slice none 0 0] 35 (0, 0))
  out : wr.heap[w.heap.size + 1 + 1]? = some (.cells #[.int .i64 kd, .int .i64 0, .int .u64 0, .float .f64 0, .string ⟨#[]⟩, .bool false, kv, lv] 35 (0, 0))
  row : wr.ownsRow (w.heap.size + 3) 35 8 lv j xs
  rows : RowOf 8 xs j (fun i => (D i).cells)
  keys : KeyRow x (w.heap.size + 3) kv m wr
  apart : kv.ownBlock = none ∨ lv.ownBlock ≠ kv.ownBlock
  doors : ∀ (i : Nat) (y : SV), i < j → x.items[i]? = some y → DoorOf wr (elemB (w.heap.size + 3) kv lv wr.heap.size) y (D i)

theorem own_lt {wr : World} {base e s n : Nat} {v : Value} {xs : List Value} (h : wr.ownsRow base e s v n xs) {g : Nat} (hg : v.ownBlock = some g) : base ≤ g ∧ g < wr.heap.size := h.lt g hg

theorem grown_below {w w' : World} (hb : Below w.heap.size w w') (row : Option Nat) : w.grownBy w' row := ⟨hb.os, hb.tape, hb.output, hb.size, fun k hk _ => hb.block k hk⟩

theorem ownsRow_later {w w' : World} {base e s n : Nat} {v : Value} {xs : List Value} (h : w.ownsRow base e s v n xs) (hb : Below w.heap.size w w') : w'.ownsRow base e s v n xs :=
  h.kept (grown_below hb none) (by cases v.ownBlock <;> simp)

theorem LInv.size {x : SV} {w : World} {kd : Int} {kv lv : Value} {m j : Nat} {D : Nat → Dv} {xs : List Value} {wr : World} (h : LInv x w kd kv lv m j D xs wr) : w.heap.size + 3 ≤ wr.heap.size := by
  have := lt_of_block h.out
  omega

theorem LInv.later {x : SV} {w : World} {kd : Int} {kv lv : Value} {m j : Nat} {D : Nat → Dv} {xs : List Value} {wr w' : World} (h : LInv x w kd kv lv m j D xs wr) (hb : Below wr.heap.size wr w') : LInv x w kd kv lv m j D xs w' := by
  have hs := h.size
  refine ⟨h.below.trans (hb.mono (by omega)), (hb.block _ (lt_of_block h.box)).trans h.box, (hb.block _ (lt_of_block h.res)).trans h.res, (hb.block _ (lt_of_block h.out)).trans h.out, ownsRow_later h.row hb, h.rows, ?_, h.apart, ?_⟩
  · obtain ⟨ys, h1, h2⟩ := h.keys.row
    exact ⟨ys, ownsRow_later h1 hb, h2⟩
  · intro i y hi hy
    exact (h.doors i y hi hy).keep (fun b hB => hb.block b hB.2.1) (fun b hB => ⟨hB.1, Nat.lt_of_lt_of_le hB.2.1 hb.size, hB.2.2⟩)

theorem setCell_block (w : World) (a : Addr) (v : Value) {k : Nat} (h : k ≠ a.block) : (w.setCell a v).heap[k]? = w.heap[k]? := Below.heap_setCell _ _ _ _ h
theorem size_setCell (w : World) (a : Addr) (v : Value) : (w.setCell a v).heap.size = w.heap.size := by simp [World.setCell]

/-- Another element has been appended, and the list stored. -/
theorem LInv.next {x : SV} {w : World} {kd : Int} {kv lv : Value} {m j : Nat} {D : Nat → Dv} {xs : List Value} {w5 w6 : World} {y : SV} {d : Dv} {v' : Value} (h : LInv x w kd kv lv m j D xs w5) (hy : x.items[j]? = some y)
    {lo : Nat} (hlo : w.heap.size + 3 ≤ lo) (hlv : ∀ g, lv.ownBlock = some g → g < lo) (hkv : ∀ g, kv.ownBlock = some g → g < lo) (hd : DoorOf w5 (betw lo w5.heap.size) y d)
    (hown : w6.ownsRow (w.heap.size + 3) 35 8 v' (j + 1) (xs ++ d.cells)) (hg : w5.grownBy w6 lv.ownBlock) (hv : v'.ownBlock = lv.ownBlock ∨ v'.ownBlock = some w5.heap.size) :
    LInv x w kd kv v' m (j + 1) (fun i => if i = j then d else D i) (xs ++ d.cells) (w6.setCell ⟨w.heap.size + 1 + 1, 7, none⟩ v') := by
  have hs := h.size
  have hnl : ∀ k, k < w.heap.size + 3 → some k ≠ lv.ownBlock := fun k hk e => by have := (own_lt h.row e.symm).1; omega
  have hk6 : ∀ k, k < w5.heap.size → some k ≠ lv.ownBlock → w6.heap[k]? = w5.heap[k]? := hg.block
  have keep : ∀ k, k < w5.heap.size → some k ≠ lv.ownBlock → k ≠ w.heap.size + 1 + 1 → (w6.setCell ⟨w.heap.size + 1 + 1, 7, none⟩ v').heap[k]? = w5.heap[k]? := fun k h1 h2 h3 =>
    (setCell_block _ _ _ h3).trans (hk6 k h1 h2)
  have hout := (hk6 _ (lt_of_block h.out) (hnl _ (by omega))).trans h.out
  refine ⟨?_, ?_, ?_, ?_, ?_, ?_, ?_, ?_, ?_⟩
  · refine ⟨hg.os.trans h.below.os, hg.tape.trans h.below.tape, hg.output.trans h.below.output, by rw [size_setCell]; exact Nat.le_trans h.below.size hg.size, fun k hk => ?_⟩
    exact (keep k (by omega) (hnl k (by omega)) (by omega)).trans (h.below.block k hk)
  · exact (keep _ (by omega) (hnl _ (by omega)) (by omega)).trans h.box
  · exact (keep _ (by omega) (hnl _ (by omega)) (by omega)).trans h.res
  · have := heap_setCell_same _ (w.heap.size + 1 + 1) 7 _ 35 v' hout
    simpa only [List.setIfInBounds_toArray, List.set_cons_succ, List.set_cons_zero] using this
  · refine hown.kept ⟨rfl, rfl, rfl, by rw [size_setCell]; exact Nat.le_refl _, fun k hk hne => setCell_block _ _ _ (fun e => hne (by rw [e]))⟩ (.inr ?_)
    intro e
    have := (own_lt hown (g := w.heap.size + 1 + 1) e).1
    omega
  · have := h.rows.snoc d.cells rfl
    refine ⟨this.1, fun i hi => ?_⟩
    have h2 := this.2 i hi
    by_cases hij : i = j
    · subst hij; simpa using h2
    · simpa [hij] using h2
  · obtain ⟨ys, h1, h2⟩ := h.keys.row
    refine ⟨ys, ?_, h2⟩
    refine (h1.kept hg ?_).kept (row := some (w.heap.size + 1 + 1)) ⟨rfl, rfl, rfl, by rw [size_setCell]; exact Nat.le_refl _, fun k hk hne => setCell_block _ _ _ (fun e => hne (by rw [e]))⟩ (.inr ?_)
    · rcases h.apart with h3 | h3
      · exact .inl h3
      · exact .inr fun e => h3 e.symm
    · intro e
      have := (own_lt h1 (g := w.heap.size + 1 + 1) e).1
      omega
  · rcases hv with hv | hv
    · rw [hv]; exact h.apart
    · cases hkvb : kv.ownBlock with
      | none => exact .inl rfl
      | some g =>
        refine .inr ?_
        rw [hv]
        intro e
        cases e
        obtain ⟨ys, h1, _⟩ := h.keys.row
        have := (own_lt h1 hkvb).2
        omega
  · intro i z hi hz
    have hv' : ∀ b, b < w5.heap.size → some b ≠ lv.ownBlock → some b ≠ v'.ownBlock := fun b h1 h2 e => by
      rcases hv with hv | hv
      · exact h2 (e.trans hv)
      · rw [hv] at e; cases e; omega
    by_cases hij : i = j
    · subst hij
      rw [hy] at hz
      cases hz
      simp only [if_true]
      have hbl : ∀ b, betw lo w5.heap.size b → some b ≠ lv.ownBlock := fun b hB e => by have := hlv b e.symm; have := hB.1; omega
      refine hd.keep (fun b hB => keep b hB.2 (hbl b hB) (by have := hB.1; omega)) (fun b hB => ⟨Nat.le_trans hlo hB.1, by rw [size_setCell]; exact Nat.lt_of_lt_of_le hB.2 hg.size, hv' b hB.2 (hbl b hB), fun e => by have := hkv b e.symm; have := hB.1; omega⟩)
    · simp only [if_neg hij]
      refine (h.doors i z (by omega) hz).keep (fun b hB => keep b hB.2.1 hB.2.2.1 (by have := hB.1; omega)) (fun b hB => ⟨hB.1, by rw [size_setCell]; exact Nat.lt_of_lt_of_le hB.2.1 hg.size, hv' b hB.2.1 hB.2.2.1, hB.2.2.2⟩)

/-- Another key has been appended, and the list of keys stored. -/
theorem LInv.nextKey {x : SV} {w : World} {kd : Int} {kv lv : Value} {m j : Nat} {D : Nat → Dv} {xs : List Value} {w5 w6 : World} {v' : Value} (h : LInv x w kd kv lv m j D xs w5) (hk6 : x.kind = 6)
    {ys : List Value} (hrow : RowOf 8 ys m (fun i => (Dv.key (x.keys.getD i ⟨#[]⟩)).cells)) (hkown : w5.ownsRow (w.heap.size + 3) 35 8 kv m ys)
    (hown : w6.ownsRow (w.heap.size + 3) 35 8 v' (m + 1) (ys ++ (Dv.key (x.keys.getD m ⟨#[]⟩)).cells)) (hg : w5.grownBy w6 kv.ownBlock) (hv : v'.ownBlock = kv.ownBlock ∨ v'.ownBlock = some w5.heap.size) :
    LInv x w kd v' lv (m + 1) j D xs (w6.setCell ⟨w.heap.size + 1 + 1, 6, none⟩ v') := by
  have hs := h.size
  have hnl : ∀ k, k < w.heap.size + 3 → some k ≠ kv.ownBlock := fun k hk e => by have := (own_lt hkown e.symm).1; omega
  have hk6' : ∀ k, k < w5.heap.size → some k ≠ kv.ownBlock → w6.heap[k]? = w5.heap[k]? := hg.block
  have keep : ∀ k, k < w5.heap.size → some k ≠ kv.ownBlock → k ≠ w.heap.size + 1 + 1 → (w6.setCell ⟨w.heap.size + 1 + 1, 6, none⟩ v').heap[k]? = w5.heap[k]? := fun k h1 h2 h3 =>
    (setCell_block _ _ _ h3).trans (hk6' k h1 h2)
  have hout := (hk6' _ (lt_of_block h.out) (hnl _ (by omega))).trans h.out
  have hset : w6.grownBy (w6.setCell ⟨w.heap.size + 1 + 1, 6, none⟩ v') (some (w.heap.size + 1 + 1)) := ⟨rfl, rfl, rfl, by rw [size_setCell]; exact Nat.le_refl _, fun k hk hne => setCell_block _ _ _ (fun e => hne (by rw [e]))⟩
  refine ⟨?_, ?_, ?_, ?_, ?_, h.rows, ?_, ?_, ?_⟩
  · refine ⟨hg.os.trans h.below.os, hg.tape.trans h.below.tape, hg.output.trans h.below.output, by rw [size_setCell]; exact Nat.le_trans h.below.size hg.size, fun k hk => ?_⟩
    exact (keep k (by omega) (hnl k (by omega)) (by omega)).trans (h.below.block k hk)
  · exact (keep _ (by omega) (hnl _ (by omega)) (by omega)).trans h.box
  · exact (keep _ (by omega) (hnl _ (by omega)) (by omega)).trans h.res
  · have := heap_setCell_same _ (w.heap.size + 1 + 1) 6 _ 35 v' hout
    simpa only [List.setIfInBounds_toArray, List.set_cons_succ, List.set_cons_zero] using this
  · refine (h.row.kept hg ?_).kept hset (.inr ?_)
    · rcases h.apart with h3 | h3
      · rw [h3]
        cases lv.ownBlock <;> simp
      · exact .inr h3
    · intro e
      have := (own_lt h.row (g := w.heap.size + 1 + 1) e).1
      omega
  · refine ⟨ys ++ (Dv.key (x.keys.getD m ⟨#[]⟩)).cells, ?_, ?_⟩
    rotate_right
    · rw [if_pos hk6]
      have := hrow.snoc (Dv.key (x.keys.getD m ⟨#[]⟩)).cells rfl
      refine ⟨this.1, fun i hi => ?_⟩
      have h2 := this.2 i hi
      by_cases hij : i = m
      · subst hij; simpa using h2
      · simpa [hij] using h2
    · rw [if_pos hk6]
      refine hown.kept hset (.inr ?_)
      intro e
      have := (own_lt hown (g := w.heap.size + 1 + 1) e).1
      omega
  · rcases hv with hv | hv
    · rw [hv]; exact h.apart
    · refine .inr ?_
      rw [hv]
      intro e
      have := (own_lt h.row e).2
      omega
  · intro i z hi hz
    have hv' : ∀ b, b < w5.heap.size → some b ≠ kv.ownBlock → some b ≠ v'.ownBlock := fun b h1 h2 e => by
      rcases hv with hv | hv
      · exact h2 (e.trans hv)
      · rw [hv] at e; cases e; omega
    refine (h.doors i z hi hz).keep (fun b hB => keep b hB.2.1 hB.2.2.2 (by have := hB.1; omega)) (fun b hB => ⟨hB.1, by rw [size_setCell]; exact Nat.lt_of_lt_of_le hB.2.1 hg.size, hB.2.2.1, hv' b hB.2.1 hB.2.2.2⟩)

/-- A whole map at the end. -/
theorem LInv.map_done {x : SV} {w : World} {kv lv : Value} {D : Nat → Dv} {xs : List Value} {wr : World} (hk : x.kind = 6) (hkl : x.keys.length = x.items.length) (h : LInv x w 21 kv lv x.items.length x.items.length D xs wr) :
    ∃ kp kc p c, kv = .slice kp x.keys.length kc ∧ lv = .slice p x.items.length c ∧ DoorOf wr (betw (w.heap.size + 3) wr.heap.size) x (Dv.map kp x.keys.length kc p x.items.length c) := by
  obtain ⟨p, c, hv, h1, h2, h3⟩ := cells_of_row h.row h.rows (betw (w.heap.size + 3) wr.heap.size) (fun g hg => own_lt h.row hg)
  obtain ⟨ys, r1, r2⟩ := h.keys.row
  rw [if_pos hk] at r1 r2
  obtain ⟨kp, kc, hkv, k1, k2, k3⟩ := cells_of_row r1 r2 (betw (w.heap.size + 3) wr.heap.size) (fun g hg => own_lt r1 hg)
  refine ⟨kp, kc, p, c, by rw [hkl]; exact hkv, hv, .map x kp kc p c D hk ⟨h1, h2⟩ ⟨by omega, k2⟩ (fun i s hs => ?_) (fun i y hy => h3 i (List.getElem?_eq_some_iff.1 hy).1) fun i y hy => ?_⟩
  · have hi := (List.getElem?_eq_some_iff.1 hs).1
    have := k3 i (by omega)
    rwa [List.getD_eq_getElem?_getD, hs] at this
  · exact (h.doors i y (List.getElem?_eq_some_iff.1 hy).1 hy).keep (fun b _ => rfl) (fun b hB => ⟨hB.1, hB.2.1⟩)

/-- The whole value at the end. -/
theorem LInv.list_done {x : SV} {w : World} {lv : Value} {D : Nat → Dv} {xs : List Value} {wr : World} {m : Nat} (hk : x.kind = 5) (h : LInv x w 15 (.slice none 0 0) lv m x.items.length D xs wr) :
    ∃ p c, lv = .slice p x.items.length c ∧ DoorOf wr (betw (w.heap.size + 3) wr.heap.size) x (Dv.list p x.items.length c) := by
  obtain ⟨p, c, hv, h1, h2, h3⟩ := cells_of_row h.row h.rows (betw (w.heap.size + 3) wr.heap.size) (fun g hg => own_lt h.row hg)
  refine ⟨p, c, hv, .list x p c D hk ⟨h1, h2⟩ (fun i y hy => h3 i (List.getElem?_eq_some_iff.1 hy).1) fun i y hy => ?_⟩
  exact (h.doors i y (List.getElem?_eq_some_iff.1 hy).1 hy).keep (fun b _ => rfl) (fun b hB => ⟨hB.1, hB.2.1⟩)
end Go.Proofs.Ythmogfjmngbamaa
