/-
  The reference's values (spec.V) as trees that lie in memory: what it is for one to lie in a world, that new memory does not disturb it, and that an argument that can be read as data is one.
-/
import Derived.Test.YthmogfjmngbamaaBase
namespace Go.Proofs.Ythmogfjmngbamaa
open Go.ChangeShapes Go.WideShapes Go.ChangeAt Go.RowKit

/-- A value of the reference, with the addresses and the capacities of its slices. -/
inductive SV where
  | mk (kind int : Int) (fl : Nat) (text : ByteArray) (bool : Bool) (ip : Option Addr) (ic : Nat) (items : List SV) (kp : Option Addr) (kc : Nat) (keys : List ByteArray)

/-- The cells from place i on, behind a slice's address. -/
def cellsAt (w : World) (p : Option Addr) (i : Nat) (cs : List Value) : Prop :=
  ∃ b o, p = some ⟨b, o, none⟩ ∧ ∀ j u, cs[j]? = some u → w.cell? ⟨b, o + i + j, none⟩ = some u

/-- Strings that lie behind a slice's address. -/
def strsAt (w : World) (p : Option Addr) (keys : List ByteArray) : Prop :=
  ∀ i s, keys[i]? = some s → s.size ≤ maxLen ∧ cellsAt w p i [.string s]

namespace SV
def kind : SV → Int | mk k _ _ _ _ _ _ _ _ _ _ => k
def int : SV → Int | mk _ n _ _ _ _ _ _ _ _ _ => n
def fl : SV → Nat | mk _ _ f _ _ _ _ _ _ _ _ => f
def text : SV → ByteArray | mk _ _ _ t _ _ _ _ _ _ _ => t
def bool : SV → Bool | mk _ _ _ _ b _ _ _ _ _ _ => b
def ip : SV → Option Addr | mk _ _ _ _ _ p _ _ _ _ _ => p
def ic : SV → Nat | mk _ _ _ _ _ _ c _ _ _ _ => c
def items : SV → List SV | mk _ _ _ _ _ _ _ l _ _ _ => l
def kp : SV → Option Addr | mk _ _ _ _ _ _ _ _ p _ _ => p
def kc : SV → Nat | mk _ _ _ _ _ _ _ _ _ c _ => c
def keys : SV → List ByteArray | mk _ _ _ _ _ _ _ _ _ _ l => l

/-- Its seven cells. -/
def cells (x : SV) : List Value :=
  [.int .i64 x.kind, .int .i64 x.int, .float .f64 x.fl, .string x.text, .bool x.bool, .slice x.ip x.items.length x.ic, .slice x.kp x.keys.length x.kc]
def val (x : SV) : Value :=
  .agg #[.int .i64 x.kind, .int .i64 x.int, .float .f64 x.fl, .string x.text, .bool x.bool, .slice x.ip x.items.length x.ic, .slice x.kp x.keys.length x.kc]

/-- What its own seven cells keep to, and the keys behind them. -/
structure Flat (w : World) (x : SV) : Prop where
  kind : -9223372036854775808 ≤ x.kind ∧ x.kind ≤ 9223372036854775807
  int : -9223372036854775808 ≤ x.int ∧ x.int ≤ 9223372036854775807
  fl : x.fl < 18446744073709551616
  text : x.text.size ≤ 9223372036854775807
  items : x.items.length ≤ x.ic ∧ x.ic ≤ 9223372036854775807
  keys : x.keys.length ≤ x.kc ∧ x.kc ≤ 9223372036854775807
  strs : strsAt w x.kp x.keys

mutual
/-- The value lies in a world. -/
def In (w : World) : SV → Prop
  | .mk k n f t b ip ic items kp kc keys => Flat w (.mk k n f t b ip ic items kp kc keys) ∧ InAll w ip 0 items
/-- Its elements lie from place i on. -/
def InAll (w : World) (p : Option Addr) : Nat → List SV → Prop
  | _, [] => True
  | i, x :: r => (cellsAt w p (i * 7) x.cells ∧ In w x) ∧ InAll w p (i + 1) r
end

theorem in_flat {w : World} {x : SV} (h : In w x) : Flat w x := by
  cases x; exact h.1
theorem in_all {w : World} {x : SV} (h : In w x) : InAll w x.ip 0 x.items := by
  cases x; exact h.2
theorem inAll_at {w : World} {p : Option Addr} : ∀ {l : List SV} {n : Nat}, InAll w p n l → ∀ (i : Nat) (x : SV), l[i]? = some x → cellsAt w p ((n + i) * 7) x.cells ∧ In w x := by
  intro l
  induction l with
  | nil => intro n _ i x h; simp at h
  | cons y r ih =>
    intro n h i x hx
    cases i with
    | zero => simp at hx; subst hx; exact h.1
    | succ i =>
      have := ih h.2 i x (by simpa using hx)
      rwa [show n + 1 + i = n + (i + 1) by omega] at this
theorem inAll_mk {w : World} {p : Option Addr} : ∀ {l : List SV} {n : Nat}, (∀ (i : Nat) (x : SV), l[i]? = some x → cellsAt w p ((n + i) * 7) x.cells ∧ In w x) → InAll w p n l := by
  intro l
  induction l with
  | nil => intro n _; exact trivial
  | cons y r ih =>
    intro n h
    refine ⟨by simpa using h 0 y (by simp), ih fun i x hx => ?_⟩
    have := h (i + 1) x (by simpa using hx)
    rwa [show n + (i + 1) = n + 1 + i by omega] at this
theorem in_item {w : World} {x : SV} (h : In w x) {i : Nat} {y : SV} (hy : x.items[i]? = some y) : cellsAt w x.ip (i * 7) y.cells ∧ In w y := by
  simpa using inAll_at (in_all h) i y hy
theorem in_mk {w : World} {x : SV} (h : Flat w x) (h2 : ∀ (i : Nat) (y : SV), x.items[i]? = some y → cellsAt w x.ip (i * 7) y.cells ∧ In w y) : In w x := by
  cases x; exact ⟨h, inAll_mk fun i y hy => by rw [Nat.zero_add]; exact h2 i y hy⟩

theorem size_item {x y : SV} {i : Nat} (h : x.items[i]? = some y) : SizeOf.sizeOf y < SizeOf.sizeOf x := by
  cases x with
  | mk k n f t b ip ic l kp kc keys =>
    have := List.sizeOf_lt_of_mem (List.mem_of_getElem? (show l[i]? = some y from h))
    simp; omega
/-- Induction: what holds of a value if it holds of its elements holds of all. -/
theorem ind {P : SV → Prop} (h : ∀ x, (∀ (i : Nat) (y : SV), x.items[i]? = some y → P y) → P x) : ∀ x, P x := by
  have : ∀ (n : Nat) (x : SV), SizeOf.sizeOf x < n → P x := by
    intro n
    induction n with
    | zero => intro x hx; omega
    | succ n ih => intro x hx; exact h x fun i y hy => ih y (by have := size_item hy; omega)
  exact fun x => this _ x (Nat.lt_succ_self _)
end SV

/-- Memory that is read lies below the heap's size. -/
theorem lt_of_cell {w : World} {b o : Nat} {u : Value} (h : w.cell? ⟨b, o, none⟩ = some u) : b < w.heap.size := by
  unfold World.cell? at h
  split at h
  · rename_i hb; exact (Array.getElem?_eq_some_iff.1 hb).1
  · cases h

theorem cell_later {w w' : World} (hb : Below w.heap.size w w') {b o : Nat} {u : Value} (h : w.cell? ⟨b, o, none⟩ = some u) : w'.cell? ⟨b, o, none⟩ = some u := by
  rw [hb.cell (p := ⟨b, o, none⟩) (lt_of_cell h)]; exact h

theorem cellsAt_later {w w' : World} (hb : Below w.heap.size w w') {p : Option Addr} {i : Nat} {cs : List Value} (h : cellsAt w p i cs) : cellsAt w' p i cs := by
  obtain ⟨b, o, rfl, h⟩ := h
  exact ⟨b, o, rfl, fun j u hj => cell_later hb (h j u hj)⟩

theorem strsAt_later {w w' : World} (hb : Below w.heap.size w w') {p : Option Addr} {l : List ByteArray} (h : strsAt w p l) : strsAt w' p l :=
  fun i s hs => ⟨(h i s hs).1, cellsAt_later hb (h i s hs).2⟩

theorem SV.in_later {w w' : World} (hb : Below w.heap.size w w') : ∀ x : SV, SV.In w x → SV.In w' x := by
  refine SV.ind fun x ih h => ?_
  have hf := SV.in_flat h
  exact SV.in_mk ⟨hf.kind, hf.int, hf.fl, hf.text, hf.items, hf.keys, strsAt_later hb hf.strs⟩
    fun i y hy => ⟨cellsAt_later hb (SV.in_item h hy).1, ih i y hy (SV.in_item h hy).2⟩


theorem cells3 : Try.prog.cellsOf 3 = 1 := by kernel_rfl
theorem cells4 : Try.prog.cellsOf 4 = 1 := by kernel_rfl
theorem cells9 : Try.prog.cellsOf 9 = 1 := by kernel_rfl
theorem cells26 : Try.prog.cellsOf 26 = 1 := by kernel_rfl
theorem cells27 : Try.prog.cellsOf 27 = 1 := by kernel_rfl
theorem cells28 : Try.prog.cellsOf 28 = 1 := by kernel_rfl
theorem cells30 : Try.prog.cellsOf 30 = 7 := by kernel_rfl

section
variable {H : Type} {enc : TypeId × Value → H} {W : World} {x : DataW H × List MemPlace}

theorem trod_float {P : Program} {t : TypeId} {fuel : Nat} {cs : List Value} {k : FloatKind} (ht : P.underlying t = some (.float k)) (h : DataW.trod enc P W 0 (fun _ => true) true fuel t cs = some x) :
    ∃ b, cs = [.float k b] ∧ (Lit.float k b).wf = true := by
  cases fuel with
  | zero => simp [DataW.trod] at h
  | succ n =>
    unfold DataW.trod at h
    rw [ht] at h
    split at h <;> simp_all

theorem spot_of_cell {a : Addr} {u : Value} (h : W.cell? a = some u) : a = ⟨a.block, a.off, none⟩ := by
  obtain ⟨b, o, sp⟩ := a
  cases sp with
  | none => rfl
  | some q => unfold World.cell? at h; split at h <;> simp at h

/-- The first cell of an element that lies behind a slice's address fixes the address. -/
theorem spot_of_add {a : Addr} {i : Nat} {u : Value} (h : W.cell? (a.add i) = some u) (h0 : i = 0 ∨ ∃ u', W.cell? a = some u') : a = ⟨a.block, a.off, none⟩ := by
  rcases h0 with rfl | ⟨u', h'⟩
  · exact spot_of_cell (by simpa [Addr.add] using h)
  · exact spot_of_cell h'

theorem add_at (b o i j : Nat) : ((⟨b, o, none⟩ : Addr).add i).add j = ⟨b, o + i + j, none⟩ := by
  unfold Addr.add
  by_cases hi : i = 0 <;> by_cases hj : j = 0 <;> simp [hi, hj, Nat.add_assoc]

/-- A readable slice's elements lie behind its address. -/
theorem slice_at {t e : TypeId} {fuel c : Nat} {cs : List Value} (ht : Try.prog.underlying t = some (.slice e)) (hc : Try.prog.cellsOf e = c) (hc0 : 0 < c)
    (h : DataW.trod enc Try.prog W 0 (fun _ => true) true fuel t cs = some x) :
    ∃ (p : Option Addr) (len cap n : Nat) (D : Nat → DataW H × List MemPlace) (C : Nat → List Value), n < fuel ∧ cs = [.slice p len cap] ∧ len ≤ cap ∧ cap ≤ 9223372036854775807 ∧
      ∀ i, i < len → cellsAt W p (i * c) (C i) ∧ DataW.trod enc Try.prog W 0 (fun _ => true) true n e (C i) = some (D i) := by
  rcases DataW.trod_slice ht h with ⟨rfl, rfl⟩ | ⟨a, len, cap, elems, rest, n, rfl, rfl, _, hb, hl, hm, hlen, hel, _, _⟩
  · cases fuel with
    | zero => simp [DataW.trod] at h
    | succ n => exact ⟨none, 0, 0, n, fun _ => (.nil, []), fun _ => [], by omega, rfl, by omega, by omega, fun i hi => by omega⟩
  · rw [hc] at hel
    have each : ∀ i, i < len → ∃ (C : List Value) (d : DataW H × List MemPlace), W.cells? 0 (a.add (i * c)) c = some C ∧ DataW.trod enc Try.prog W 0 (fun _ => true) true n e C = some d := by
      intro i hi
      have h1 := hel i hi
      have h2 : elems[i]? = some (elems[i]'(by omega)) := List.getElem?_eq_getElem _
      rw [h2] at h1
      obtain ⟨C, hC, hd⟩ := Option.bind_eq_some_iff.1 h1
      exact ⟨C, _, hC, hd⟩
    classical
    refine ⟨some a, len, cap, n, fun i => if hi : i < len then Classical.choose (Classical.choose_spec (each i hi)) else (.nil, []), fun i => if hi : i < len then Classical.choose (each i hi) else [], by omega, rfl, hl, by unfold maxLen at hm; exact hm, fun i hi => ?_⟩
    simp only [dif_pos hi]
    have hs := Classical.choose_spec (Classical.choose_spec (each i hi))
    refine ⟨?_, hs.2⟩
    have hlen0 : 0 < len := by omega
    have ha : a = ⟨a.block, a.off, none⟩ := by
      obtain ⟨C0, _, hC0, _⟩ := each 0 hlen0
      obtain ⟨_, hl0, hg⟩ := World.cells?_some hC0
      have hg0 := hg 0 hc0
      rw [show (a.add (0 * c)).add 0 = a by simp [Addr.add], List.getElem?_eq_getElem (by omega)] at hg0
      exact spot_of_cell hg0
    obtain ⟨_, hl0, hg⟩ := World.cells?_some hs.1
    refine ⟨a.block, a.off, by rw [← ha], fun j u hj => ?_⟩
    have hjc : j < c := by rw [← hl0]; exact (List.getElem?_eq_some_iff.1 hj).1
    have e := add_at a.block a.off (i * c) j
    rw [← ha] at e
    rw [← e]; exact (hg j hjc).trans hj
end

set_option maxRecDepth 100000 in
/-- ARGUMENTS: what can be read as a value of the reference is one that lies in memory. -/
theorem open_SV {H : Type} {enc : TypeId × Value → H} {W : World} : ∀ (fuel : Nat) (cs : List Value) (x : DataW H × List MemPlace),
    DataW.trod enc Try.prog W 0 (fun _ => true) true fuel 30 cs = some x → ∃ v : SV, cs = v.cells ∧ SV.In W v := by
  intro fuel
  induction fuel using Nat.strongRecOn with
  | _ fuel ih =>
    intro cs x h
    obtain ⟨xs, n, rfl, _, hlen, hxs, hel⟩ := DataW.trod_struct Try.underlying30 h
    rw [cells30] at hlen
    match cs, hlen with
    | [c0, c1, c2, c3, c4, c5, c6], _ =>
      match xs, hxs with
      | [x0, x1, x2, x3, x4, x5, x6], _ =>
        have h0 : DataW.trod enc Try.prog W 0 (fun _ => true) true n 3 (([c0, c1, c2, c3, c4, c5, c6].drop 0).take (Try.prog.cellsOf 3)) = some x0 := hel 0 _ rfl
        rw [cells3] at h0
        have h1 : DataW.trod enc Try.prog W 0 (fun _ => true) true n 3 (([c0, c1, c2, c3, c4, c5, c6].drop 1).take (Try.prog.cellsOf 3)) = some x1 := hel 1 _ rfl
        rw [cells3] at h1
        have h2 : DataW.trod enc Try.prog W 0 (fun _ => true) true n 26 (([c0, c1, c2, c3, c4, c5, c6].drop 2).take (Try.prog.cellsOf 26)) = some x2 := hel 2 _ rfl
        rw [cells26] at h2
        have h3 : DataW.trod enc Try.prog W 0 (fun _ => true) true n 9 (([c0, c1, c2, c3, c4, c5, c6].drop 3).take (Try.prog.cellsOf 9)) = some x3 := hel 3 _ rfl
        rw [cells9] at h3
        have h4 : DataW.trod enc Try.prog W 0 (fun _ => true) true n 4 (([c0, c1, c2, c3, c4, c5, c6].drop 4).take (Try.prog.cellsOf 4)) = some x4 := hel 4 _ rfl
        rw [cells4] at h4
        have h5 : DataW.trod enc Try.prog W 0 (fun _ => true) true n 27 (([c0, c1, c2, c3, c4, c5, c6].drop 5).take (Try.prog.cellsOf 27)) = some x5 := hel 5 _ rfl
        rw [cells27] at h5
        have h6 : DataW.trod enc Try.prog W 0 (fun _ => true) true n 28 (([c0, c1, c2, c3, c4, c5, c6].drop 6).take (Try.prog.cellsOf 28)) = some x6 := hel 6 _ rfl
        rw [cells28] at h6
        obtain ⟨k, e0, _, w0⟩ := DataW.trod_int Try.underlying3 h0
        obtain ⟨m, e1, _, w1⟩ := DataW.trod_int Try.underlying3 h1
        obtain ⟨f, e2, w2⟩ := trod_float Try.underlying26 h2
        obtain ⟨s, e3, _, w3⟩ := DataW.trod_string Try.underlying9 h3
        obtain ⟨b, e4, _⟩ := DataW.trod_bool Try.underlying4 h4
        obtain ⟨p5, l5, k5, n5, D5, C5, hn5, e5, hl5, hc5, hi5⟩ := slice_at Try.underlying27 cells30 (by omega) h5
        obtain ⟨p6, l6, k6, n6, D6, C6, hn6, e6, hl6, hc6, hi6⟩ := slice_at Try.underlying28 cells9 (by omega) h6
        simp at e0 e1 e2 e3 e4 e5 e6
        subst e0 e1 e2 e3 e4 e5 e6
        have each5 : ∀ i, i < l5 → ∃ v : SV, C5 i = v.cells ∧ SV.In W v := fun i hi => ih n5 (by omega) (C5 i) (D5 i) (hi5 i hi).2
        have each6 : ∀ i, i < l6 → ∃ s : ByteArray, C6 i = [.string s] ∧ s.size ≤ maxLen := fun i hi => by
          obtain ⟨s, e, _, hs⟩ := DataW.trod_string Try.underlying9 (hi6 i hi).2
          exact ⟨s, e, hs⟩
        classical
        let V : Nat → SV := fun i => if hi : i < l5 then Classical.choose (each5 i hi) else .mk 0 0 0 ByteArray.empty false none 0 [] none 0 []
        let S : Nat → ByteArray := fun i => if hi : i < l6 then Classical.choose (each6 i hi) else ByteArray.empty
        have hV : ∀ i, i < l5 → C5 i = (V i).cells ∧ SV.In W (V i) := fun i hi => by
          simp only [V, dif_pos hi]; exact Classical.choose_spec (each5 i hi)
        have hS : ∀ i, i < l6 → C6 i = [.string (S i)] ∧ (S i).size ≤ maxLen := fun i hi => by
          simp only [S, dif_pos hi]; exact Classical.choose_spec (each6 i hi)
        refine ⟨.mk k m f s b p5 k5 ((List.range l5).map V) p6 k6 ((List.range l6).map S), by simp [SV.cells, SV.kind, SV.int, SV.fl, SV.text, SV.bool, SV.ip, SV.ic, SV.items, SV.kp, SV.kc, SV.keys], ?_⟩
        refine SV.in_mk ⟨i64_wf w0, i64_wf w1, show f < 18446744073709551616 by simpa [Lit.wf] using w2, by unfold maxLen at w3; exact w3, ⟨show ((List.range l5).map V).length ≤ k5 by simpa using hl5, hc5⟩, ⟨show ((List.range l6).map S).length ≤ k6 by simpa using hl6, hc6⟩, ?_⟩ ?_
        · intro i s hs
          have hi : i < l6 := by
            have := (List.getElem?_eq_some_iff.1 hs).1
            simpa [SV.keys] using this
          have e : s = S i := by
            have : ((List.range l6).map S)[i]? = some s := hs
            simpa [hi] using this.symm
          subst e
          refine ⟨(hS i hi).2, ?_⟩
          have := (hi6 i hi).1
          rw [(hS i hi).1, Nat.mul_one] at this
          exact this
        · intro i y hy
          have hi : i < l5 := by
            have := (List.getElem?_eq_some_iff.1 hy).1
            simpa [SV.items] using this
          have e : y = V i := by
            have : ((List.range l5).map V)[i]? = some y := hy
            simpa [hi] using this.symm
          subst e
          refine ⟨?_, (hV i hi).2⟩
          have := (hi5 i hi).1
          rw [(hV i hi).1] at this
          exact this

set_option maxRecDepth 100000 in
/-- An argument of the reference's type. -/
theorem open_V {H : Type} {enc : TypeId × Value → H} {W : World} {r : Reach} {b0 : Nat} {v : Value} {d : DataW H} {p : List MemPlace} (hv : Value.okWide Try.prog W r b0 30 v)
    (h : DataW.Trod enc Try.prog W 0 (fun _ => true) true 30 v d p) : ∃ x : SV, v = x.val ∧ SV.In W x := by
  obtain ⟨cs, rfl, _⟩ := okWide_struct Try.underlying30 hv
  obtain ⟨fuel, hf⟩ := h
  obtain ⟨x, hx, hin⟩ := open_SV fuel _ _ hf
  refine ⟨x, ?_, hin⟩
  have : cs = x.cells.toArray := by rw [← hx]; simp [Value.cells]
  rw [this]; rfl
end Go.Proofs.Ythmogfjmngbamaa
