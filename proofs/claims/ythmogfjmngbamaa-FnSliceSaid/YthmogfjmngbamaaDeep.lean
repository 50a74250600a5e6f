/-
  Values of any depth at the doors (impl.Value) and as Go's any: what it is for one to lie in a world, in blocks of a set, and that what turns no block of the set does not disturb it.
-/
import Derived.Test.YthmogfjmngbamaaScv
import Derived.OwnWalk
import Derived.MapKept
namespace Go.Proofs.Ythmogfjmngbamaa
open Go.RowKit
set_option linter.unusedSimpArgs false
set_option linter.unusedVariables false

/-- Cells behind a slice's address, in a block of B. -/
def cellsIn (w : World) (B : Nat → Prop) (p : Option Addr) (i : Nat) (cs : List Value) : Prop :=
  ∃ b o, p = some ⟨b, o, none⟩ ∧ B b ∧ ∀ j u, cs[j]? = some u → w.cell? ⟨b, o + i + j, none⟩ = some u

theorem cell_same {w w' : World} {b : Nat} (h : w'.heap[b]? = w.heap[b]?) (o : Nat) : w'.cell? ⟨b, o, none⟩ = w.cell? ⟨b, o, none⟩ := by simp [World.cell?, h]

theorem cellsIn.keep {w w' : World} {B B' : Nat → Prop} {p : Option Addr} {i : Nat} {cs : List Value} (h : cellsIn w B p i cs) (hk : ∀ b, B b → w'.heap[b]? = w.heap[b]?) (hB : ∀ b, B b → B' b) : cellsIn w' B' p i cs := by
  obtain ⟨b, o, rfl, hb, h⟩ := h
  exact ⟨b, o, rfl, hB b hb, fun j u hj => (cell_same (hk b hb) _).trans (h j u hj)⟩

/-- The fields of a value at the door. -/
structure Dv where
  k : Int
  n : Int
  f : Nat
  t : ByteArray
  b : Bool
  kp : Option Addr
  kl : Nat
  kc : Nat
  ip : Option Addr
  il : Nat
  ic : Nat

namespace Dv
def cells (d : Dv) : List Value := [.int .i64 d.k, .int .i64 d.n, .int .u64 0, .float .f64 d.f, .string d.t, .bool d.b, .slice d.kp d.kl d.kc, .slice d.ip d.il d.ic]
def val (d : Dv) : Value := .agg #[.int .i64 d.k, .int .i64 d.n, .int .u64 0, .float .f64 d.f, .string d.t, .bool d.b, .slice d.kp d.kl d.kc, .slice d.ip d.il d.ic]
theorem val_eq (d : Dv) : d.val = .agg d.cells.toArray := rfl
theorem val_inj {d e : Dv} (h : d.val = e.val) : d = e := by
  cases d; cases e
  simp only [val, Value.agg.injEq, Array.mk.injEq, List.cons.injEq, Value.int.injEq, Value.float.injEq, Value.string.injEq, Value.bool.injEq, Value.slice.injEq, true_and, and_true] at h
  simp only [Dv.mk.injEq]
  obtain ⟨h1, h2, h3, h4, h5, ⟨h6, h7, h8⟩, h9, h10, h11⟩ := h
  exact ⟨h1, h2, h3, h4, h5, h6, h7, h8, h9, h10, h11⟩
/-- A plain value's fields. -/
def plain (x : SV) : Dv := ⟨x.dk, x.dn, x.df, x.dt, x.db, none, 0, 0, none, 0, 0⟩
theorem plain_val (x : SV) : (plain x).val = x.door := rfl
/-- A key's fields. -/
def key (s : ByteArray) : Dv := ⟨13, 0, 0, s, false, none, 0, 0, none, 0, 0⟩
def list (p : Option Addr) (n c : Nat) : Dv := ⟨15, 0, 0, ⟨#[]⟩, false, none, 0, 0, p, n, c⟩
def map (kp : Option Addr) (kl kc : Nat) (p : Option Addr) (n c : Nat) : Dv := ⟨21, 0, 0, ⟨#[]⟩, false, kp, kl, kc, p, n, c⟩
end Dv

/-- A value of the reference, whole, at the door: what lies behind it is in blocks of B. -/
inductive DoorOf (w : World) (B : Nat → Prop) : SV → Dv → Prop
  | plain (x : SV) (hk : 0 ≤ x.kind ∧ x.kind < 5) : DoorOf w B x (Dv.plain x)
  | list (x : SV) (p : Option Addr) (c : Nat) (D : Nat → Dv) (hk : x.kind = 5) (hc : x.items.length ≤ c ∧ c ≤ 9223372036854775807)
      (hcell : ∀ i y, x.items[i]? = some y → cellsIn w B p (i * 8) (D i).cells) (hsub : ∀ i y, x.items[i]? = some y → DoorOf w B y (D i)) :
      DoorOf w B x (Dv.list p x.items.length c)
  | map (x : SV) (kp : Option Addr) (kc : Nat) (p : Option Addr) (c : Nat) (D : Nat → Dv) (hk : x.kind = 6) (hc : x.items.length ≤ c ∧ c ≤ 9223372036854775807) (hkc : x.keys.length ≤ kc ∧ kc ≤ 9223372036854775807)
      (hkey : ∀ i s, x.keys[i]? = some s → cellsIn w B kp (i * 8) (Dv.key s).cells)
      (hcell : ∀ i y, x.items[i]? = some y → cellsIn w B p (i * 8) (D i).cells) (hsub : ∀ i y, x.items[i]? = some y → DoorOf w B y (D i)) :
      DoorOf w B x (Dv.map kp x.keys.length kc p x.items.length c)

theorem DoorOf.keep {w w' : World} {B B' : Nat → Prop} {x : SV} {d : Dv} (h : DoorOf w B x d) (hk : ∀ b, B b → w'.heap[b]? = w.heap[b]?) (hB : ∀ b, B b → B' b) : DoorOf w' B' x d := by
  induction h with
  | plain x h => exact .plain x h
  | list x p c D h hc hcell _ ih => exact .list x p c D h hc (fun i y hy => (hcell i y hy).keep hk hB) ih
  | map x kp kc p c D h hc hkc hkey hcell _ ih => exact .map x kp kc p c D h hc hkc (fun i s hs => (hkey i s hs).keep hk hB) (fun i y hy => (hcell i y hy).keep hk hB) ih

/-- A value of the reference, whole, as Go's any. -/
inductive AnyOf (w : World) (B : Nat → Prop) : SV → Value → Prop
  | plain (x : SV) (hk : 0 ≤ x.kind ∧ x.kind < 5) : AnyOf w B x x.any
  | list (x : SV) (a : Addr) (c : Nat) (A : Nat → Value) (hk : x.kind = 5) (hc : x.items.length ≤ c ∧ c ≤ 9223372036854775807)
      (hcell : ∀ i y, x.items[i]? = some y → cellsIn w B (some a) i [A i]) (hsub : ∀ i y, x.items[i]? = some y → AnyOf w B y (A i)) :
      AnyOf w B x (.iface 87 (.slice (some a) x.items.length c))
  | map (x : SV) (b : Nat) (es : Array MapEntry) (clock : Nat) (A : Nat → Value) (hk : x.kind = 6) (hl : x.keys.length = x.items.length) (hb : B b) (hm : w.heap[b]? = some (.map es clock)) (hs : es.size = x.items.length ∧ MapKept.Stamped es clock)
      (hent : ∀ i s, x.keys[i]? = some s → ∃ t, es[i]? = some (MapEntry.mk (Value.string s) (A i) t)) (hsub : ∀ i y, x.items[i]? = some y → AnyOf w B y (A i)) :
      AnyOf w B x (.iface 103 (.map (some b)))

theorem AnyOf.keep {w w' : World} {B B' : Nat → Prop} {x : SV} {v : Value} (h : AnyOf w B x v) (hk : ∀ b, B b → w'.heap[b]? = w.heap[b]?) (hB : ∀ b, B b → B' b) : AnyOf w' B' x v := by
  induction h with
  | plain x h => exact .plain x h
  | list x a c A h hc hcell _ ih => exact .list x a c A h hc (fun i y hy => (hcell i y hy).keep hk hB) ih
  | map x b es clock A h hl hb hm hs hent _ ih => exact .map x b es clock A h hl (hB b hb) ((hk b hb).trans hm) hs hent ih

/-- The blocks between two sizes. -/
def betw (a b : Nat) : Nat → Prop := fun k => a ≤ k ∧ k < b

/-- A row of values of s cells each, one behind the other. -/
def RowOf (s : Nat) (xs : List Value) (n : Nat) (D : Nat → List Value) : Prop := xs.length = n * s ∧ ∀ i, i < n → (D i).length = s ∧ ∀ m, m < s → xs[i * s + m]? = (D i)[m]?

theorem RowOf.nil (s : Nat) (D : Nat → List Value) : RowOf s [] 0 D := ⟨by simp, fun i h => by omega⟩
theorem RowOf.snoc {s : Nat} {xs : List Value} {n : Nat} {D : Nat → List Value} (h : RowOf s xs n D) (c : List Value) (hc : c.length = s) :
    RowOf s (xs ++ c) (n + 1) (fun i => if i = n then c else D i) := by
  refine ⟨by rw [List.length_append, h.1, hc, Nat.add_mul, Nat.one_mul], fun i hi => ?_⟩
  by_cases hin : i = n
  · subst hin
    simp only [if_true]
    refine ⟨hc, fun m hm => ?_⟩
    rw [List.getElem?_append_right (by rw [h.1]; omega), h.1]
    congr 1
    omega
  · simp only [if_neg hin]
    have hlt : i < n := by omega
    obtain ⟨h1, h2⟩ := h.2 i hlt
    refine ⟨h1, fun m hm => ?_⟩
    have hb : i * s + m < n * s := by
      have : (i + 1) * s ≤ n * s := Nat.mul_le_mul_right s hlt
      rw [Nat.add_mul, Nat.one_mul] at this
      omega
    rw [List.getElem?_append_left (by rw [h.1]; exact hb), h2 m hm]

/-- An own row's values as cells behind its address. -/
theorem cells_of_row {w : World} {base : Nat} {e : TypeId} {s : Nat} {v : Value} {n : Nat} {xs : List Value} {D : Nat → List Value} (hown : w.ownsRow base e s v n xs) (hr : RowOf s xs n D) (B : Nat → Prop)
    (hB : ∀ g, v.ownBlock = some g → B g) : ∃ p c, v = .slice p n c ∧ n ≤ c ∧ c ≤ 9223372036854775807 ∧ ∀ i, i < n → cellsIn w B p (i * s) (D i) := by
  rcases hown.2 with ⟨rfl, rfl⟩ | ⟨g, cap, cur, rfl, hb, hg, hn, hm, hcs, htake⟩
  · exact ⟨none, 0, rfl, Nat.le_refl _, by omega, fun i hi => by omega⟩
  · refine ⟨some ⟨g, 0, none⟩, cap, rfl, hn, by unfold maxLen at hm; exact hm, fun i hi => ⟨g, 0, rfl, hB g rfl, fun j u hj => ?_⟩⟩
    obtain ⟨h1, h2⟩ := hr.2 i hi
    have hjs : j < s := by rw [← h1]; exact (List.getElem?_eq_some_iff.1 hj).1
    have hx : xs[i * s + j]? = some u := (h2 j hjs).trans hj
    have := hown.cells (g := g) rfl (i * s + j) u hx
    have hadd : (⟨g, 0, none⟩ : Addr).add (i * s + j) = ⟨g, i * s + j, none⟩ := by unfold Addr.add; split <;> simp_all
    rw [hadd] at this
    rw [Nat.zero_add]
    exact this

namespace SV
theorem partsAll_item : ∀ (l : List SV) (i : Nat) (y : SV), l[i]? = some y → y.parts ≤ partsAll l := by
  intro l
  induction l with
  | nil => intro i y h; simp at h
  | cons x r ih =>
    intro i y h
    cases i with
    | zero => simp at h; subst h; simp [partsAll]
    | succ i =>
      have := ih i y (by simpa using h)
      simp only [partsAll]
      omega
theorem parts_item {x y : SV} {i : Nat} (h : x.items[i]? = some y) : y.parts < x.parts := by
  have := partsAll_item _ _ _ h
  rw [parts_eq x]
  omega
theorem partsAll_length : ∀ l : List SV, l.length ≤ partsAll l := by
  intro l
  induction l with
  | nil => simp [partsAll]
  | cons x r ih =>
    have := parts_pos x
    simp only [partsAll, List.length_cons]
    omega
theorem items_parts (x : SV) : x.items.length < x.parts := by
  have := partsAll_length x.items
  rw [parts_eq x]
  omega
end SV
end Go.Proofs.Ythmogfjmngbamaa
