/-
  When two values of the reference are the same as 'spec.Same' has it; and values that lie in memory in blocks of a set.
-/
import Derived.Test.YthmogfjmngbamaaDeep
namespace Go.Proofs.Ythmogfjmngbamaa
open Go.RowKit
set_option linter.unusedSimpArgs false
set_option linter.unusedVariables false

/-- The same: numbers by kind and bits, lists element by element, maps key by key. -/
inductive Like : SV → SV → Prop
  | plain (x y : SV) (hk : 0 ≤ x.kind ∧ x.kind < 5) (he : x.kind = y.kind) (hi : x.items = [] ∧ y.items = []) (hks : x.keys = [] ∧ y.keys = []) (h1 : x.kind = 1 → x.int = y.int) (h2 : x.kind = 2 → x.fl = y.fl)
      (h3 : x.kind = 3 → x.text = y.text) (h4 : x.kind = 4 → x.bool = y.bool) : Like x y
  | list (x y : SV) (hx : x.kind = 5) (hy : y.kind = 5) (hks : x.keys = [] ∧ y.keys = []) (hl : x.items.length = y.items.length)
      (h : ∀ (i : Nat) (a b : SV), x.items[i]? = some a → y.items[i]? = some b → Like a b) : Like x y
  | map (x y : SV) (hx : x.kind = 6) (hy : y.kind = 6) (hl : x.items.length = y.items.length) (hkx : x.keys.length = x.items.length) (hky : y.keys.length = y.items.length) (J : Nat → Nat)
      (hj : ∀ (i : Nat) (s : ByteArray), x.keys[i]? = some s → y.keys[J i]? = some s)
      (h : ∀ (i : Nat) (a b : SV), x.items[i]? = some a → y.items[J i]? = some b → Like a b) : Like x y

theorem Like.kind {x y : SV} (h : Like x y) : x.kind = y.kind := by
  cases h with
  | plain _ _ _ he => exact he
  | list _ _ hx hy => rw [hx, hy]
  | map _ _ hx hy => rw [hx, hy]

theorem Like.trans {x y : SV} (h : Like x y) : ∀ {z : SV}, Like y z → Like x z := by
  induction h with
  | plain x y hk he hi hks h1 h2 h3 h4 =>
    intro z k
    cases k with
    | plain _ _ _ ke ki kks k1 k2 k3 k4 =>
      exact .plain x z hk (he.trans ke) ⟨hi.1, ki.2⟩ ⟨hks.1, kks.2⟩ (fun e => (h1 e).trans (k1 (he ▸ e))) (fun e => (h2 e).trans (k2 (he ▸ e))) (fun e => (h3 e).trans (k3 (he ▸ e))) (fun e => (h4 e).trans (k4 (he ▸ e)))
    | list _ _ hx => omega
    | map _ _ hx => omega
  | list x y hx hy hks hl h ih =>
    intro z k
    cases k with
    | plain _ _ kk => omega
    | map _ _ kx => omega
    | list _ _ kx ky kks kl kh =>
      refine .list x z hx ky ⟨hks.1, kks.2⟩ (hl.trans kl) fun i a c ha hc => ?_
      have hi := (List.getElem?_eq_some_iff.1 ha).1
      have hb : y.items[i]? = some (y.items[i]'(by omega)) := List.getElem?_eq_getElem _
      exact ih i a _ ha hb (kh i _ c hb hc)
  | map x y hx hy hl hkx hky J hj h ih =>
    intro z k
    cases k with
    | plain _ _ kk => omega
    | list _ _ kx => omega
    | map _ _ kx ky kl kkx kky K kj kh =>
      refine .map x z hx ky (hl.trans kl) hkx kky (fun i => K (J i)) (fun i s hs => kj _ s (hj i s hs)) fun i a c ha hc => ?_
      have hi := (List.getElem?_eq_some_iff.1 ha).1
      have hs : x.keys[i]? = some (x.keys[i]'(by omega)) := List.getElem?_eq_getElem _
      have hJ := (List.getElem?_eq_some_iff.1 (hj i _ hs)).1
      have hb : y.items[J i]? = some (y.items[J i]'(by omega)) := List.getElem?_eq_getElem _
      exact ih i a _ ha hb (kh _ _ c hb hc)

/-- What a value's own numbers keep to. -/
structure FlatN (x : SV) : Prop where
  kind : -9223372036854775808 ≤ x.kind ∧ x.kind ≤ 9223372036854775807
  int : -9223372036854775808 ≤ x.int ∧ x.int ≤ 9223372036854775807
  fl : x.fl < 18446744073709551616
  text : x.text.size ≤ 9223372036854775807
  items : x.items.length ≤ x.ic ∧ x.ic ≤ 9223372036854775807
  keys : x.keys.length ≤ x.kc ∧ x.kc ≤ 9223372036854775807

/-- A value that lies, whole, in blocks of B. -/
inductive VOf (w : World) (B : Nat → Prop) : SV → Prop
  | mk (x : SV) (hf : FlatN x) (hs : ∀ (i : Nat) (s : ByteArray), x.keys[i]? = some s → s.size ≤ maxLen ∧ cellsIn w B x.kp i [.string s])
      (hc : ∀ (i : Nat) (y : SV), x.items[i]? = some y → cellsIn w B x.ip (i * 7) y.cells) (hsub : ∀ (i : Nat) (y : SV), x.items[i]? = some y → VOf w B y) : VOf w B x

theorem VOf.keep {w w' : World} {B B' : Nat → Prop} {x : SV} (h : VOf w B x) (hk : ∀ b, B b → w'.heap[b]? = w.heap[b]?) (hB : ∀ b, B b → B' b) : VOf w' B' x := by
  induction h with
  | mk x hf hs hc _ ih => exact .mk x hf (fun i s h => ⟨(hs i s h).1, (hs i s h).2.keep hk hB⟩) (fun i y h => (hc i y h).keep hk hB) ih

theorem cellsIn.at {w : World} {B : Nat → Prop} {p : Option Addr} {i : Nat} {cs : List Value} (h : cellsIn w B p i cs) : cellsAt w p i cs := by
  obtain ⟨b, o, hp, _, hc⟩ := h
  exact ⟨b, o, hp, hc⟩

theorem VOf.lies {w : World} {B : Nat → Prop} {x : SV} (h : VOf w B x) : SV.In w x := by
  induction h with
  | mk x hf hs hc _ ih => exact SV.in_mk ⟨hf.kind, hf.int, hf.fl, hf.text, hf.items, hf.keys, fun i s h => ⟨(hs i s h).1, (hs i s h).2.at⟩⟩ fun i y hy => ⟨(hc i y hy).at, ih i y hy⟩
end Go.Proofs.Ythmogfjmngbamaa
