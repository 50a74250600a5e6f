/-
  What the first loop of 'impl.given2' has made of the first elements; 'impl.given2' at plain values with its counter.
-/
import Derived.Test.YthmogfjmngbamaaDoorb
namespace Go.Proofs.Ythmogfjmngbamaa
open Go.RowKit
set_option linter.unusedSimpArgs false
set_option linter.unusedVariables false

/-- It returned a value as Go's any, whole, in new memory; the counter went down by the value's parts. -/
def GivesAny (x : SV) (m : Int) (q : Nat) (w : World) (e : Ending) (w' : World) : Prop :=
  ∃ a : Value, e = .returned (.tuple #[a, .bool true]) ∧ ButAt q w w' ∧ Counter w' q (m - x.parts) ∧ AnyOf w' (betw w.heap.size w'.heap.size) x a

theorem AnyOf.oneCell {w : World} {B : Nat → Prop} {x : SV} {v : Value} (h : AnyOf w B x v) : v.oneCell' = true := by
  cases h with
  | plain x hk =>
    unfold SV.any
    repeat' split
    all_goals rfl
  | list => rfl
  | map => rfl

theorem parts_plain {x : SV} (h : x.items = []) : x.parts = 1 := by rw [SV.parts_eq, h]; rfl

set_option maxHeartbeats 400000 in
set_option maxRecDepth 100000 in
/-- 'impl.given2' at a plain value, with its counter. -/
theorem given2_plainc (x : SV) (hx : SV.Plain x) (q : Nat) (m lv : Int) (hm : 1 ≤ m) (hm2 : m ≤ 100000) (hlv : 1 ≤ lv) (w : World) (hc : Counter w q m) :
    Calls Try.prog 98 #[x.door, .int .i64 lv, .pointer (some ⟨q, 0, none⟩)] w (GivesAny x m q w) := by
  have hpl := hx
  have hdk : x.dk < 15 := by
    have := hx.kind
    unfold SV.dk
    repeat' split
    all_goals omega
  have hdt : x.dt.size ≤ 2000 := by
    have := hx.text
    unfold SV.dt
    split
    · omega
    · decide
  have hm1 : 0 ≤ m - 1 := by omega
  have HC := Lib.hid (vany_plain x hx)
  have HP := Lib.hid (parts_plain hx.items)
  have HKI := Lib.hid hx.kind
  have c0 : (w.alloc (.cells #[Value.int .i64 x.dk, .int .i64 x.dn, .int .u64 0, .float .f64 x.df, .string x.dt, .bool x.db, .slice none 0 0, .slice none 0 0] 35)).cell? ⟨q, 0, none⟩ = some (.int .i64 m) := by
    rw [World.cell?_alloc_past _ _ _ hc.lt]; exact cell_of_one hc
  have f0 : (w.alloc (.cells #[Value.int .i64 x.dk, .int .i64 x.dn, .int .u64 0, .float .f64 x.df, .string x.dt, .bool x.db, .slice none 0 0, .slice none 0 0] 35)).frozen? ⟨q, 0, none⟩ = false := by
    rw [World.frozen?_alloc_old _ _ _ (by have := hc.lt; simp; omega)]; exact free_of_one hc
  have hq : ¬ q = w.heap.size := by have := hc.lt; omega
  have hone : Hid (Counter ((w.alloc (.cells #[Value.int .i64 x.dk, .int .i64 x.dn, .int .u64 0, .float .f64 x.df, .string x.dt, .bool x.db, .slice none 0 0, .slice none 0 0] 35)).setCell ⟨q, 0, none⟩ (.int .i64 (m - 1))) q (m - 1)) :=
    one_setCell (v := .int .i64 m) (Counter.later hc ((Below.refl _ _).alloc (Nat.le_refl _) _) hc.lt)
  clear hc hx hpl
  unfold SV.door
  go_enter Try.func98, Try.ntmps98
  go_wp2_with fail
  refine Calls.mono (by exact HC.out _) ?_
  rintro e w1 ⟨rfl, hb⟩
  have hB : Hid (ButAt q w w1) := ((ButAt.alloc _ _).trans (ButAt.setCell _ ⟨q, 0, none⟩ rfl _)).trans (ButAt.of_below hb)
  have hC : Hid (Counter w1 q (m - 1)) := Counter.later hone.out hb hone.out.lt
  clear hb
  go_wp2_with fail
  go_ret2
  exact ⟨x.any, rfl, hB.out, by rw [HP.out]; exact hC.out, .plain x HKI.out⟩

/-- A world in which of what was there one block alone may have turned keeps an own row elsewhere. -/
theorem ownsRow_but {w w' : World} {base e s n q : Nat} {v : Value} {xs : List Value} (h : w.ownsRow base e s v n xs) (hb : ButAt q w w') (hq : q < base) : w'.ownsRow base e s v n xs := by
  refine h.kept (row := some q) ⟨hb.os, hb.tape, hb.output, hb.size, fun k hk hne => hb.block k hk (fun e => hne (by rw [e]))⟩ (.inr ?_)
  intro e
  have := (own_lt h e).1
  omega

/-- The blocks behind the elements: new ones, and not the row's. -/
def restB (base : Nat) (lv : Value) (size : Nat) : Nat → Prop := fun b => base ≤ b ∧ b < size ∧ some b ≠ lv.ownBlock

/-- What the loop has made of the first j elements: a row of any values. -/
structure GInv (x : SV) (d : Dv) (w : World) (q : Nat) (m : Int) (lv : Value) (j : Nat) (A : Nat → Value) (xs : List Value) (wr : World) : Prop where
  but : ButAt q w wr
  cnt : Counter wr q (m - 1 - SV.partsAll (x.items.take j))
  box : wr.heap[w.heap.size]? = some (.cells d.cells.toArray 35 (0, 0))
  row : wr.ownsRow (w.heap.size + 1) 20 1 lv j xs
  rows : RowOf 1 xs j (fun i => [A i])
  anys : ∀ (i : Nat) (y : SV), i < j → x.items[i]? = some y → AnyOf wr (restB (w.heap.size + 1) lv wr.heap.size) y (A i)

theorem GInv.size {x : SV} {d : Dv} {w : World} {q : Nat} {m : Int} {lv : Value} {j : Nat} {A : Nat → Value} {xs : List Value} {wr : World} (h : GInv x d w q m lv j A xs wr) : w.heap.size + 1 ≤ wr.heap.size := by
  have := lt_of_block h.box
  omega
theorem GInv.q_lt {x : SV} {d : Dv} {w : World} {q : Nat} {m : Int} {lv : Value} {j : Nat} {A : Nat → Value} {xs : List Value} {wr : World} (h : GInv x d w q m lv j A xs wr) : q < wr.heap.size := h.cnt.lt

/-- Another element has been appended. -/
theorem GInv.next {x : SV} {d : Dv} {w : World} {q : Nat} {m : Int} {lv : Value} {j : Nat} {A : Nat → Value} {xs : List Value} {wr wa w5 w5' w6 : World} {y : SV} {a v' : Value} (hq : q < w.heap.size) (h : GInv x d w q m lv j A xs wr) (hy : x.items[j]? = some y)
    (hra : Below wr.heap.size wr wa) (hb : ButAt q wa w5) (hc : Counter w5 q (m - 1 - SV.partsAll (x.items.take j) - y.parts)) (ha : AnyOf w5 (betw wa.heap.size w5.heap.size) y a) (h55 : Below w5.heap.size w5 w5')
    (hown : w6.ownsRow (w.heap.size + 1) 20 1 v' (j + 1) (xs ++ [a])) (hg : w5'.grownBy w6 lv.ownBlock) (hv : v'.ownBlock = lv.ownBlock ∨ v'.ownBlock = some w5'.heap.size) :
    GInv x d w q m v' (j + 1) (fun i => if i = j then a else A i) (xs ++ [a]) w6 := by
  have hs := h.size
  have hnl : ∀ k, k < w.heap.size + 1 → some k ≠ lv.ownBlock := fun k hk e => by have := (own_lt h.row e.symm).1; omega
  have s1 := hra.size
  have s2 := hb.size
  have s3 := h55.size
  have s4 := hg.size
  have hlw : ∀ k, some k = lv.ownBlock → k < wr.heap.size := fun k e => (own_lt h.row e.symm).2
  have k5 : ∀ k, k < w5.heap.size → some k ≠ lv.ownBlock → w6.heap[k]? = w5.heap[k]? := fun k h1 h2 => (hg.block k (by omega) h2).trans (h55.block k h1)
  have kr : ∀ k, k < wr.heap.size → some k ≠ lv.ownBlock → k ≠ q → w6.heap[k]? = wr.heap[k]? := fun k h1 h2 h3 => (k5 k (by omega) h2).trans ((hb.block k (by omega) h3).trans (hra.block k h1))
  have hsum : m - 1 - (SV.partsAll (x.items.take (j + 1)) : Int) = m - 1 - SV.partsAll (x.items.take j) - y.parts := by
    rw [SV.partsAll_take _ _ _ hy]
    omega
  refine ⟨?_, ?_, ?_, hown, ?_, ?_⟩
  · exact ⟨hg.os.trans (h55.os.trans (hb.os.trans (hra.os.trans h.but.os))), hg.tape.trans (h55.tape.trans (hb.tape.trans (hra.tape.trans h.but.tape))), hg.output.trans (h55.output.trans (hb.output.trans (hra.output.trans h.but.output))),
      by have := h.but.size; omega, fun k hk hne => (kr k (by omega) (hnl k (by omega)) hne).trans (h.but.block k hk hne)⟩
  · rw [hsum]
    exact (k5 q hc.lt (hnl q (by omega))).trans hc
  · exact (kr _ (lt_of_block h.box) (hnl _ (by omega)) (by omega)).trans h.box
  · have := h.rows.snoc [a] rfl
    refine ⟨this.1, fun i hi => ?_⟩
    have h2 := this.2 i hi
    by_cases hij : i = j
    · subst hij; simpa using h2
    · simpa [hij] using h2
  · intro i z hi hz
    have hv' : ∀ b, b < w5'.heap.size → some b ≠ lv.ownBlock → some b ≠ v'.ownBlock := fun b h1 h2 e => by
      rcases hv with hv | hv
      · exact h2 (e.trans hv)
      · rw [hv] at e; cases e; omega
    by_cases hij : i = j
    · subst hij
      rw [hy] at hz
      cases hz
      simp only [if_true]
      have hbl : ∀ b, betw wa.heap.size w5.heap.size b → some b ≠ lv.ownBlock := fun b hB e => by have := hlw b e; have := hB.1; omega
      exact ha.keep (fun b hB => k5 b hB.2 (hbl b hB)) (fun b hB => ⟨by have := hB.1; omega, by have := hB.2; omega, hv' b (by have := hB.2; omega) (hbl b hB)⟩)
    · simp only [if_neg hij]
      exact (h.anys i z (by omega) hz).keep (fun b hB => kr b hB.2.1 hB.2.2 (by have := hB.1; omega)) (fun b hB => ⟨hB.1, by have := hB.2.1; omega, hv' b (by have := hB.2.1; omega) hB.2.2⟩)

/-- A list of any values, whole, at the end. -/
theorem GInv.done {x : SV} {d : Dv} {w : World} {q : Nat} {m : Int} {lv : Value} {A : Nat → Value} {xs : List Value} {wr w6 : World} {v' : Value} (hq : q < w.heap.size) (hk : x.kind = 5) (h : GInv x d w q m lv x.items.length A xs wr)
    (hb : Below wr.heap.size wr w6) (hown : w6.ownsRow wr.heap.size 20 1 v' x.items.length xs) (hne : v'.ownBlock ≠ none) :
    ButAt q w w6 ∧ Counter w6 q (m - x.parts) ∧ AnyOf w6 (betw w.heap.size w6.heap.size) x (.iface 87 v') := by
  have hs := h.size
  refine ⟨h.but.trans (ButAt.of_below hb), ?_, ?_⟩
  · have hc := Counter.later h.cnt hb h.q_lt
    have e : m - 1 - (SV.partsAll (x.items.take x.items.length) : Int) = m - x.parts := by
      rw [List.take_length, SV.parts_eq]
      omega
    rw [e] at hc
    exact hc
  · obtain ⟨p, c, hv, h1, h2, h3⟩ := cells_of_row hown h.rows (betw w.heap.size w6.heap.size) (fun g hg => by have := own_lt hown hg; exact ⟨by omega, this.2⟩)
    cases p with
    | none => rw [hv] at hne; exact (hne rfl).elim
    | some a =>
      rw [hv]
      refine .list x a c A hk ⟨h1, h2⟩ (fun i y hy => ?_) fun i y hy => ?_
      · have := h3 i (List.getElem?_eq_some_iff.1 hy).1
        rwa [Nat.mul_one] at this
      · exact (h.anys i y (List.getElem?_eq_some_iff.1 hy).1 hy).keep (fun b hB => hb.block b hB.2.1) (fun b hB => ⟨by have := hB.1; omega, Nat.lt_of_lt_of_le hB.2.1 hb.size⟩)

theorem below_grown {w w6 : World} {o : Obj} (hg : (w.alloc o).grownBy w6 (some w.heap.size)) : Below w.heap.size w w6 :=
  ⟨hg.os, hg.tape, hg.output, by have := hg.size; simp only [World.size_alloc] at this; omega, fun k hk => (hg.block k (by simp only [World.size_alloc]; omega) (by simp; omega)).trans (Below.heap_alloc _ _ _ hk)⟩

/-- The values of a row are one cell each. -/
theorem GInv.oneCell {x : SV} {d : Dv} {w : World} {q : Nat} {m : Int} {lv : Value} {j : Nat} {A : Nat → Value} {xs : List Value} {wr : World} (h : GInv x d w q m lv j A xs wr) (hj : j ≤ x.items.length) : ∀ u ∈ xs, u.oneCell' = true := by
  intro u hu
  obtain ⟨i, hi⟩ := List.getElem?_of_mem hu
  have hlt : i < j := by have := (List.getElem?_eq_some_iff.1 hi).1; have := h.rows.1; omega
  have h2 := (h.rows.2 i hlt).2 0 (by omega)
  rw [Nat.mul_one, Nat.add_zero, hi] at h2
  have e : u = A i := by simpa using h2
  rw [e]
  exact (h.anys i _ hlt (List.getElem?_eq_getElem (by omega))).oneCell
end Go.Proofs.Ythmogfjmngbamaa
