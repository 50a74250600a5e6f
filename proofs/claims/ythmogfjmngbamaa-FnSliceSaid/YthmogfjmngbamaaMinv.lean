/-
  Maps that are being filled with the keys and elements of a value.
-/
import Derived.Test.YthmogfjmngbamaaMapl
namespace Go.Proofs.Ythmogfjmngbamaa
open Go.RowKit Go.ChangeMaps
set_option linter.unusedSimpArgs false
set_option linter.unusedVariables false

/-- A map holds the first j keys with their elements, in their order. -/
def Ents (w : World) (b : Nat) (mk : ByteArray → Value) (keys : List ByteArray) (A : Nat → Value) (j : Nat) : Prop :=
  ∃ (es : Array MapEntry) (clock : Nat), w.heap[b]? = some (.map es clock) ∧ (es.size = j ∧ MapKept.Stamped es clock) ∧ ∀ (i : Nat) (s : ByteArray), i < j → keys[i]? = some s → ∃ t, es[i]? = some (MapEntry.mk (mk s) (A i) t)

/-- One block has turned. -/
structure Turned (b : Nat) (w w' : World) : Prop where
  os : w'.os = w.os
  tape : w'.tape = w.tape
  output : w'.output = w.output
  size : w'.heap.size = w.heap.size
  block : ∀ k, k ≠ b → w'.heap[k]? = w.heap[k]?

theorem Turned.below {b B : Nat} {w0 w w' : World} (h : Turned b w w') (hb : Below B w0 w) (hB : B ≤ b) : Below B w0 w' :=
  ⟨h.os.trans hb.os, h.tape.trans hb.tape, h.output.trans hb.output, by have := hb.size; have := h.size; omega, fun k hk => (h.block k (by omega)).trans (hb.block k hk)⟩
theorem Turned.cell {b : Nat} {w w' : World} (h : Turned b w w') {g o : Nat} {u : Value} (hg : g ≠ b) (hc : w.cell? ⟨g, o, none⟩ = some u) : w'.cell? ⟨g, o, none⟩ = some u := (cell_same (h.block g hg) o).trans hc

theorem setBlock_turned {w : World} {b : Nat} {es es' : Array MapEntry} {clock clock' : Nat} (hb : w.heap[b]? = some (.map es clock)) : Turned b w (setBlock w b (.map es' clock')) :=
  ⟨rfl, rfl, rfl, by simp [setBlock], fun k hk => heap_setBlock_other hb _ hk⟩

/-- Keys differ. -/
def Differ (keys : List ByteArray) : Prop := ∀ (i j : Nat) (s : ByteArray), keys[i]? = some s → keys[j]? = some s → i = j

theorem Ents.lt {w : World} {b : Nat} {mk : ByteArray → Value} {keys : List ByteArray} {A : Nat → Value} {j : Nat} (h : Ents w b mk keys A j) : b < w.heap.size := by
  obtain ⟨es, clock, hb, _⟩ := h
  exact (Array.getElem?_eq_some_iff.1 hb).1
theorem Ents.keep {w w' : World} {b : Nat} {mk : ByteArray → Value} {keys : List ByteArray} {A : Nat → Value} {j : Nat} (h : Ents w b mk keys A j) (hk : w'.heap[b]? = w.heap[b]?) : Ents w' b mk keys A j := by
  obtain ⟨es, clock, hb, r⟩ := h
  exact ⟨es, clock, hk.trans hb, r⟩
theorem Ents.nil (w : World) (mk : ByteArray → Value) (keys : List ByteArray) (A : Nat → Value) {b : Nat} (hb : w.heap[b]? = some (.map #[] 0)) : Ents w b mk keys A 0 := ⟨#[], 0, hb, ⟨rfl, MapKept.stamped_empty 0⟩, fun i s h => by omega⟩

theorem ents_without {es : Array MapEntry} {mk : ByteArray → Value} {keys : List ByteArray} {A : Nat → Value} {j : Nat} (hs : es.size = j) (he : ∀ (i : Nat) (s : ByteArray), i < j → keys[i]? = some s → ∃ t, es[i]? = some (MapEntry.mk (mk s) (A i) t))
    (hd : Differ keys) {s : ByteArray} (hj : keys[j]? = some s) : Without mk es.toList s := by
  intro x hx
  obtain ⟨i, hi⟩ := List.getElem?_of_mem hx
  rw [Array.getElem?_toList] at hi
  have hlt : i < j := by rw [← hs]; exact (Array.getElem?_eq_some_iff.1 hi).1
  have hjl := (List.getElem?_eq_some_iff.1 hj).1
  have hik : keys[i]? = some (keys[i]'(by omega)) := List.getElem?_eq_getElem _
  obtain ⟨t, ht⟩ := he i _ hlt hik
  rw [hi] at ht
  cases ht
  refine ⟨_, rfl, fun e => ?_⟩
  rw [← e] at hik
  have := hd _ _ _ hik hj
  omega

theorem ents_push {es : Array MapEntry} {mk : ByteArray → Value} {keys : List ByteArray} {A : Nat → Value} {j : Nat} {clock : Nat} (hmk : ∀ a b, mk a = mk b → a = b) (hs : es.size = j) (hst : MapKept.Stamped es clock) (hw : ∀ s, keys[j]? = some s → Without mk es.toList s) (he : ∀ (i : Nat) (s : ByteArray), i < j → keys[i]? = some s → ∃ t, es[i]? = some (MapEntry.mk (mk s) (A i) t))
    {s : ByteArray} (hj : keys[j]? = some s) : ((es.push ⟨mk s, A j, clock⟩).size = j + 1 ∧ MapKept.Stamped (es.push ⟨mk s, A j, clock⟩) (clock + 1)) ∧ ∀ (i : Nat) (s' : ByteArray), i < j + 1 → keys[i]? = some s' → ∃ t, (es.push ⟨mk s, A j, clock⟩)[i]? = some (MapEntry.mk (mk s') (A i) t) := by
  refine ⟨⟨by simp [hs], MapKept.stamped_push hst fun x hx e => ?_⟩, fun i s' hi hk => ?_⟩
  · obtain ⟨k, hk, hne⟩ := hw s hj x hx
    rw [hk] at e
    exact hne (hmk _ _ e).symm
  by_cases hij : i = j
  · subst hij
    rw [hj] at hk
    cases hk
    exact ⟨clock, by rw [← hs]; simp⟩
  · obtain ⟨t, ht⟩ := he i s' (by omega) hk
    refine ⟨t, ?_⟩
    rw [Array.getElem?_push_lt (by omega)]
    rw [Array.getElem?_eq_getElem (by omega)] at ht
    exact ht

theorem Ents.store_any {w : World} {b : Nat} {keys : List ByteArray} {A : Nat → Value} {j : Nat} (h : Ents w b (fun k => .iface 9 (.string k)) keys A j) (hd : Differ keys) {s : ByteArray} (hj : keys[j]? = some s) :
    (∀ z, (∀ w, (zeroValue 20).run Try.prog w = .ok z w) → (Instr.lookup 104 (.map (some b)) (.iface 9 (.string s)) true).run Try.prog w = .ok (.tuple #[z, .bool false]) w) ∧
    ∃ w', (Instr.mapUpdate 104 (.map (some b)) (.iface 9 (.string s)) (A j)).run Try.prog w = .ok () w' ∧ Ents w' b (fun k => .iface 9 (.string k)) keys A (j + 1) ∧ Turned b w w' := by
  obtain ⟨es, clock, hb, hs, he⟩ := h
  have hw := ents_without hs.1 he hd hj
  refine ⟨fun z hz => run_lookup_any 104 20 Try.underlying104 z hz hb s hw, _, run_update_any 104 20 Try.underlying104 hb s (A j) hw, ⟨_, _, heap_setBlock_same hb _, ents_push (fun a b h => by cases h; rfl) hs.1 hs.2 (fun s' h' => by rw [hj] at h'; cases h'; exact hw) he hj⟩, setBlock_turned hb⟩
theorem Ents.store_str {w : World} {b : Nat} {keys : List ByteArray} {A : Nat → Value} {j : Nat} (h : Ents w b (fun k => .string k) keys A j) (hd : Differ keys) {s : ByteArray} (hj : keys[j]? = some s) :
    ∃ w', (Instr.mapUpdate 103 (.map (some b)) (.string s) (A j)).run Try.prog w = .ok () w' ∧ Ents w' b (fun k => .string k) keys A (j + 1) ∧ Turned b w w' := by
  obtain ⟨es, clock, hb, hs, he⟩ := h
  exact ⟨_, run_update_str 103 20 Try.underlying103 hb s (A j) (ents_without hs.1 he hd hj), ⟨_, _, heap_setBlock_same hb _, ents_push (fun a b h => by cases h; rfl) hs.1 hs.2 (fun s' h' => by rw [hj] at h'; cases h'; exact ents_without hs.1 he hd hj) he hj⟩, setBlock_turned hb⟩

theorem zero20 (w : World) : (zeroValue 20).run Try.prog w = .ok .nilIface w := by
  obtain ⟨i0, hi, hz0, _⟩ := info_parts info20
  simp [zeroValue, typeInfo, hi, hz0]
end Go.Proofs.Ythmogfjmngbamaa
