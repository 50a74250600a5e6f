/-
  What FnFetch's drawn region keeps: the door's result and the new block are apart.
-/
import Derived.Test.YthmogfjmngbamaaDrawc
import Derived.Test.YthmogfjmngbamaaCuat
import Derived.Test.YthmogfjmngbamaaLitd
namespace Go.Proofs.Ythmogfjmngbamaa
open Go.RowKit
set_option linter.unusedSimpArgs false
set_option linter.unusedVariables false

structure FR (W : World) (z : SV) (u : Nat → Value) (w : World) : Prop where
  al : ∀ g, u 8 = .pointer (some ⟨g, 0, none⟩) → w.heap[g]? = some (.cells #[Value.int .i64 0, .int .i64 0, .int .u64 0, .float .f64 0, .string ⟨#[]⟩, .bool false, .slice none 0 0, .slice none 0 0] 35 (0, 0)) ∧ W.heap.size ≤ g
  ca : ∀ c, u 4 = .tuple #[c, .int .i64 0] → ∃ (r : Dv) (v : SV) (B : Nat → Prop), c = r.val ∧ DoorOf w B v r ∧ Like v z ∧ (∀ b, B b → b < w.heap.size) ∧ ∀ g, u 8 = .pointer (some ⟨g, 0, none⟩) → ¬ B g

theorem FR.keep {W w w' : World} {z : SV} {u u' : Nat → Value} (h : FR W z u w) (h4 : u' 4 = u 4) (h8 : u' 8 = u 8) (hb : Below w.heap.size w w') : FR W z u' w' := by
  refine ⟨fun g hg => ?_, fun c hc => ?_⟩
  · obtain ⟨h1, h2⟩ := h.al g (h8 ▸ hg)
    exact ⟨(hb.block _ (lt_of_block h1)).trans h1, h2⟩
  · obtain ⟨r, v, B, e, hd, hl, hB, hg⟩ := h.ca c (h4 ▸ hc)
    exact ⟨r, v, B, e, hd.keep (fun b hb' => hb.block b (hB b hb')) (fun _ h => h), hl, fun b hb' => Nat.lt_of_lt_of_le (hB b hb') hb.size, fun g h => hg g (h8 ▸ h)⟩

theorem FR.call {W w w' : World} {z v : SV} {r : Dv} {u u' : Nat → Value} (h : FR W z u w) (h4 : u' 4 = .tuple #[r.val, .int .i64 0]) (h8 : u' 8 = u 8) (hb : Below w.heap.size w w') (hd : DoorOf w' (betw w.heap.size w'.heap.size) v r) (hl : Like v z) : FR W z u' w' := by
  refine ⟨fun g hg => ?_, fun c hc => ?_⟩
  · obtain ⟨h1, h2⟩ := h.al g (h8 ▸ hg)
    exact ⟨(hb.block _ (lt_of_block h1)).trans h1, h2⟩
  · rw [h4] at hc
    have e : c = r.val := by injection hc with e; simpa using e.symm
    exact ⟨r, v, _, e, hd, hl, fun b h => h.2, fun g hg hB => by have := lt_of_block (h.al g (h8 ▸ hg)).1; have := hB.1; omega⟩

theorem FR.fault {W w w' : World} {z : SV} {c0 : Value} {u u' : Nat → Value} (h : FR W z u w) (h4 : u' 4 = .tuple #[c0, .int .i64 2]) (h8 : u' 8 = u 8) (hb : Below w.heap.size w w') : FR W z u' w' := by
  refine ⟨fun g hg => ?_, fun c hc => ?_⟩
  · obtain ⟨h1, h2⟩ := h.al g (h8 ▸ hg)
    exact ⟨(hb.block _ (lt_of_block h1)).trans h1, h2⟩
  · rw [h4] at hc
    simp at hc

theorem FR.alloc {W w : World} {z : SV} {u u' : Nat → Value} (h : FR W z u w) (h4 : u' 4 = u 4) (h8 : u' 8 = .pointer (some ⟨w.heap.size, 0, none⟩)) (hW : W.heap.size ≤ w.heap.size) : FR W z u' (w.alloc (.cells #[Value.int .i64 0, .int .i64 0, .int .u64 0, .float .f64 0, .string ⟨#[]⟩, .bool false, .slice none 0 0, .slice none 0 0] 35)) := by
  have hb : Below w.heap.size w (w.alloc (.cells #[Value.int .i64 0, .int .i64 0, .int .u64 0, .float .f64 0, .string ⟨#[]⟩, .bool false, .slice none 0 0, .slice none 0 0] 35)) := (Below.refl _ _).alloc (Nat.le_refl _) _
  refine ⟨fun g hg => ?_, fun c hc => ?_⟩
  · have e : w.heap.size = g := by rw [h8] at hg; simpa using hg
    subst e
    exact ⟨heap_alloc_new _ _, hW⟩
  · obtain ⟨r, v, B, e, hd, hl, hB, hg⟩ := h.ca c (h4 ▸ hc)
    refine ⟨r, v, B, e, hd.keep (fun b hb' => hb.block b (hB b hb')) (fun _ h => h), hl, fun b hb' => Nat.lt_of_lt_of_le (hB b hb') hb.size, fun g h hBg => ?_⟩
    have e : w.heap.size = g := by rw [h8] at h; simpa using h
    have := hB g hBg
    omega

theorem noV_in (w : World) : SV.In w noV := by
  unfold noV SV.In
  exact ⟨⟨by decide, by decide, by decide, by decide, by decide, by decide, fun i s h => by cases h⟩, by unfold SV.InAll; trivial⟩

theorem fetO_in {x y z : SV} {w : World} (h : Pair x y) (hx : SV.In w x) (hz : fetO x y = some z) : SV.In w z := by
  have item : ∀ (i : Nat), x.items[i]? = some z → SV.In w z := fun i hi => (SV.in_item hx hi).2
  unfold fetO at hz
  rcases h.way with ⟨h5, _⟩ | ⟨h6, _⟩
  · rw [if_pos h5] at hz
    unfold atI at hz
    split at hz
    · exact item _ hz
    · cases hz
  · rw [if_neg (by omega)] at hz
    cases hx : keyIdx x.keys y.text with
    | none =>
      rw [hx] at hz
      have hz' : noV = z := by simpa using hz
      subst hz'
      exact noV_in w
    | some m =>
      rw [hx] at hz
      cases hm : x.items[m]? with
      | none =>
        simp only [Option.bind_some, hm] at hz
        have hz' : noV = z := by simpa using hz
        subst hz'
        exact noV_in w
      | some u =>
        simp only [Option.bind_some, hm] at hz
        cases hz
        exact item m hm
end Go.Proofs.Ythmogfjmngbamaa

