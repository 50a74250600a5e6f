/-
  Two rows that a loop fills, one of elements and one of keys, beside a block that holds both: what each step leaves.
-/
import Derived.Test.YthmogfjmngbamaaGinv
namespace Go.Proofs.Ythmogfjmngbamaa
open Go.RowKit
set_option linter.unusedSimpArgs false
set_option linter.unusedVariables false

/-- Something that lies in blocks of a set and is disturbed by nothing else. -/
def Keeps (S : World → (Nat → Prop) → Prop) : Prop := ∀ (w w' : World) (B B' : Nat → Prop), S w B → (∀ b, B b → w'.heap[b]? = w.heap[b]?) → (∀ b, B b → B' b) → S w' B'

/-- The rows: w: the world in which the block was made. -/
structure V2 (te se tk sk : Nat) (to : TypeId) (C Kc : Nat → List Value) (S : Nat → World → (Nat → Prop) → Prop) (w : World) (q : Nat) (oc : Array Value) (kv lv : Value) (jk jl : Nat) (ys xs : List Value) (wr : World) : Prop where
  but : ButAt q w wr
  out : wr.heap[w.heap.size]? = some (.cells oc to (0, 0))
  krow : wr.ownsRow (w.heap.size + 1) tk sk kv jk ys
  krof : RowOf sk ys jk Kc
  row : wr.ownsRow (w.heap.size + 1) te se lv jl xs
  rof : RowOf se xs jl C
  apart : kv.ownBlock = none ∨ lv.ownBlock ≠ kv.ownBlock
  subs : ∀ i, i < jl → S i wr (elemB (w.heap.size + 1) kv lv wr.heap.size)

section
variable {te se tk sk : Nat} {to : TypeId} {C Kc : Nat → List Value} {S : Nat → World → (Nat → Prop) → Prop} {w : World} {q : Nat} {oc : Array Value} {kv lv : Value} {jk jl : Nat} {ys xs : List Value} {wr : World}

theorem V2.size (h : V2 te se tk sk to C Kc S w q oc kv lv jk jl ys xs wr) : w.heap.size + 1 ≤ wr.heap.size := by
  have := lt_of_block h.out
  omega

theorem V2.start (te se tk sk : Nat) (to : TypeId) (C Kc : Nat → List Value) (S : Nat → World → (Nat → Prop) → Prop) (w : World) (q : Nat) (oc : Array Value) :
    V2 te se tk sk to C Kc S w q oc (.slice none 0 0) (.slice none 0 0) 0 0 [] [] (w.alloc (.cells oc to)) :=
  ⟨ButAt.alloc _ _, heap_alloc_new _ _, World.ownsRow_nil _ _ _ _, RowOf.nil _ _, World.ownsRow_nil _ _ _ _, RowOf.nil _ _, .inl rfl, fun i h => by omega⟩

theorem V2.congr {C' Kc' : Nat → List Value} {S' : Nat → World → (Nat → Prop) → Prop} (h : V2 te se tk sk to C Kc S w q oc kv lv jk jl ys xs wr) (hC : ∀ i, i < jl → C i = C' i) (hK : ∀ i, i < jk → Kc i = Kc' i)
    (hS : ∀ i, i < jl → ∀ w B, S i w B → S' i w B) : V2 te se tk sk to C' Kc' S' w q oc kv lv jk jl ys xs wr :=
  ⟨h.but, h.out, h.krow, ⟨h.krof.1, fun i hi => by rw [← hK i hi]; exact h.krof.2 i hi⟩, h.row, ⟨h.rof.1, fun i hi => by rw [← hC i hi]; exact h.rof.2 i hi⟩, h.apart, fun i hi => hS i hi _ _ (h.subs i hi)⟩

/-- A call that turns new memory and one elder block alone. -/
theorem V2.call {w' : World} (hS : ∀ i, Keeps (S i)) (h : V2 te se tk sk to C Kc S w q oc kv lv jk jl ys xs wr) (hq : q < w.heap.size) (hb : ButAt q wr w') : V2 te se tk sk to C Kc S w q oc kv lv jk jl ys xs w' := by
  have hs := h.size
  refine ⟨h.but.trans hb, (hb.block _ (lt_of_block h.out) (by omega)).trans h.out, ownsRow_but h.krow hb (by omega), h.krof, ownsRow_but h.row hb (by omega), h.rof, h.apart, fun i hi => ?_⟩
  exact hS i _ _ _ _ (h.subs i hi) (fun b hB => hb.block b hB.2.1 (by have := hB.1; omega)) (fun b hB => ⟨hB.1, Nat.lt_of_lt_of_le hB.2.1 hb.size, hB.2.2⟩)

theorem V2.later {w' : World} (hS : ∀ i, Keeps (S i)) (h : V2 te se tk sk to C Kc S w q oc kv lv jk jl ys xs wr) (hb : Below wr.heap.size wr w') : V2 te se tk sk to C Kc S w q oc kv lv jk jl ys xs w' := by
  refine ⟨h.but.trans (ButAt.of_below hb), (hb.block _ (lt_of_block h.out)).trans h.out, ownsRow_later h.krow hb, h.krof, ownsRow_later h.row hb, h.rof, h.apart, fun i hi => ?_⟩
  exact hS i _ _ _ _ (h.subs i hi) (fun b hB => hb.block b hB.2.1) (fun b hB => ⟨hB.1, Nat.lt_of_lt_of_le hB.2.1 hb.size, hB.2.2⟩)

/-- A store into the block itself. -/
theorem V2.set (hS : ∀ i, Keeps (S i)) (h : V2 te se tk sk to C Kc S w q oc kv lv jk jl ys xs wr) (o : Nat) (v : Value) :
    V2 te se tk sk to C Kc S w q (oc.setIfInBounds o v) kv lv jk jl ys xs (wr.setCell ⟨w.heap.size, o, none⟩ v) := by
  have hset : wr.grownBy (wr.setCell ⟨w.heap.size, o, none⟩ v) (some w.heap.size) := ⟨rfl, rfl, rfl, by rw [size_setCell]; exact Nat.le_refl _, fun k hk hne => setCell_block _ _ _ (fun e => hne (by rw [e]))⟩
  refine ⟨⟨h.but.os, h.but.tape, h.but.output, by rw [size_setCell]; exact h.but.size, fun k hk hne => (setCell_block _ _ _ (by simp; omega)).trans (h.but.block k hk hne)⟩, heap_setCell_same _ _ _ _ _ _ h.out, ?_, h.krof, ?_, h.rof, h.apart, fun i hi => ?_⟩
  · refine h.krow.kept hset (.inr fun e => ?_)
    have := (own_lt h.krow (g := w.heap.size) (by rw [← e])).1
    omega
  · refine h.row.kept hset (.inr fun e => ?_)
    have := (own_lt h.row (g := w.heap.size) (by rw [← e])).1
    omega
  · exact hS i _ _ _ _ (h.subs i hi) (fun b hB => setCell_block _ _ _ (by have := hB.1; simp; omega)) (fun b hB => ⟨hB.1, by rw [size_setCell]; exact hB.2.1, hB.2.2⟩)

/-- Another element has been appended. -/
theorem V2.next {w6 : World} {c : List Value} {S0 : World → (Nat → Prop) → Prop} {v' : Value} (hS : ∀ i, Keeps (S i)) (hS0 : Keeps S0) (h : V2 te se tk sk to C Kc S w q oc kv lv jk jl ys xs wr)
    {lo : Nat} (hlo : w.heap.size + 1 ≤ lo) (hlv : ∀ g, lv.ownBlock = some g → g < lo) (hkv : ∀ g, kv.ownBlock = some g → g < lo) (hd : S0 wr (betw lo wr.heap.size)) (hc : c.length = se)
    (hown : w6.ownsRow (w.heap.size + 1) te se v' (jl + 1) (xs ++ c)) (hg : wr.grownBy w6 lv.ownBlock) (hv : v'.ownBlock = lv.ownBlock ∨ v'.ownBlock = some wr.heap.size) :
    V2 te se tk sk to (fun i => if i = jl then c else C i) Kc (fun i => if i = jl then S0 else S i) w q oc kv v' jk (jl + 1) ys (xs ++ c) w6 := by
  have hs := h.size
  have hnl : ∀ k, k < w.heap.size + 1 → some k ≠ lv.ownBlock := fun k hk e => by have := (own_lt h.row e.symm).1; omega
  have keep : ∀ k, k < wr.heap.size → some k ≠ lv.ownBlock → w6.heap[k]? = wr.heap[k]? := hg.block
  refine ⟨⟨hg.os.trans h.but.os, hg.tape.trans h.but.tape, hg.output.trans h.but.output, Nat.le_trans h.but.size hg.size, fun k hk hne => (keep k (by omega) (hnl k (by omega))).trans (h.but.block k hk hne)⟩,
    (keep _ (lt_of_block h.out) (hnl _ (by omega))).trans h.out, ?_, h.krof, hown, h.rof.snoc c hc, ?_, fun i hi => ?_⟩
  · refine h.krow.kept hg ?_
    rcases h.apart with h3 | h3
    · exact .inl h3
    · exact .inr fun e => h3 e.symm
  · rcases hv with hv | hv
    · rw [hv]; exact h.apart
    · cases hkvb : kv.ownBlock with
      | none => exact .inl rfl
      | some g =>
        refine .inr ?_
        rw [hv]
        intro e
        cases e
        have := (own_lt h.krow hkvb).2
        omega
  · have hv' : ∀ b, b < wr.heap.size → some b ≠ lv.ownBlock → some b ≠ v'.ownBlock := fun b h1 h2 e => by
      rcases hv with hv | hv
      · exact h2 (e.trans hv)
      · rw [hv] at e; cases e; omega
    by_cases hij : i = jl
    · subst hij
      simp only [if_true]
      have hbl : ∀ b, betw lo wr.heap.size b → some b ≠ lv.ownBlock := fun b hB e => by have := hlv b e.symm; have := hB.1; omega
      exact hS0 _ _ _ _ hd (fun b hB => keep b hB.2 (hbl b hB)) (fun b hB => ⟨Nat.le_trans hlo hB.1, Nat.lt_of_lt_of_le hB.2 hg.size, hv' b hB.2 (hbl b hB), fun e => by have := hkv b e.symm; have := hB.1; omega⟩)
    · simp only [if_neg hij]
      exact hS i _ _ _ _ (h.subs i (by omega)) (fun b hB => keep b hB.2.1 hB.2.2.1) (fun b hB => ⟨hB.1, Nat.lt_of_lt_of_le hB.2.1 hg.size, hv' b hB.2.1 hB.2.2.1, hB.2.2.2⟩)

/-- Another key has been appended. -/
theorem V2.nextKey {w6 : World} {c : List Value} {v' : Value} (hS : ∀ i, Keeps (S i)) (h : V2 te se tk sk to C Kc S w q oc kv lv jk jl ys xs wr) (hc : c.length = sk)
    (hown : w6.ownsRow (w.heap.size + 1) tk sk v' (jk + 1) (ys ++ c)) (hg : wr.grownBy w6 kv.ownBlock) (hv : v'.ownBlock = kv.ownBlock ∨ v'.ownBlock = some wr.heap.size) :
    V2 te se tk sk to C (fun i => if i = jk then c else Kc i) S w q oc v' lv (jk + 1) jl (ys ++ c) xs w6 := by
  have hs := h.size
  have hnl : ∀ k, k < w.heap.size + 1 → some k ≠ kv.ownBlock := fun k hk e => by have := (own_lt h.krow e.symm).1; omega
  have keep : ∀ k, k < wr.heap.size → some k ≠ kv.ownBlock → w6.heap[k]? = wr.heap[k]? := hg.block
  refine ⟨⟨hg.os.trans h.but.os, hg.tape.trans h.but.tape, hg.output.trans h.but.output, Nat.le_trans h.but.size hg.size, fun k hk hne => (keep k (by omega) (hnl k (by omega))).trans (h.but.block k hk hne)⟩,
    (keep _ (lt_of_block h.out) (hnl _ (by omega))).trans h.out, hown, h.krof.snoc c hc, ?_, h.rof, ?_, fun i hi => ?_⟩
  · refine h.row.kept hg ?_
    rcases h.apart with h3 | h3
    · rw [h3]
      cases lv.ownBlock <;> simp
    · exact .inr h3
  · rcases hv with hv | hv
    · rw [hv]; exact h.apart
    · refine .inr ?_
      rw [hv]
      intro e
      have := (own_lt h.row e).2
      omega
  · have hv' : ∀ b, b < wr.heap.size → some b ≠ kv.ownBlock → some b ≠ v'.ownBlock := fun b h1 h2 e => by
      rcases hv with hv | hv
      · exact h2 (e.trans hv)
      · rw [hv] at e; cases e; omega
    exact hS i _ _ _ _ (h.subs i hi) (fun b hB => keep b hB.2.1 hB.2.2.2) (fun b hB => ⟨hB.1, Nat.lt_of_lt_of_le hB.2.1 hg.size, hB.2.2.1, hv' b hB.2.1 hB.2.2.2⟩)
end
end Go.Proofs.Ythmogfjmngbamaa
