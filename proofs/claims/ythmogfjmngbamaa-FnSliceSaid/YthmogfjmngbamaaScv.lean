/-
  'spec.CuV' and 'spec.Same' walked at plain values.
-/
import Derived.Test.YthmogfjmngbamaaUn
namespace Go.Proofs.Ythmogfjmngbamaa
open Go.RowKit
set_option linter.unusedSimpArgs false

theorem order_itself (v : Nat) : FloatKind.f64.format.order v v = none ∨ FloatKind.f64.format.order v v = some .eq := by
  have h := order_swap v v
  show Ieee.double.order v v = none ∨ Ieee.double.order v v = some .eq
  cases ho : Ieee.double.order v v with
  | none => exact .inl rfl
  | some o =>
    rw [ho] at h
    cases o <;> simp [Ordering.swap] at h ⊢

/-- The same float, or no number both. -/
def FlAlike (a b : Nat) : Prop := (FloatKind.f64.format.order a b == some .eq) = true ∨ ((FloatKind.f64.format.order a b == some .eq) = false ∧ (FloatKind.f64.format.order a a != some .eq) = true ∧ (FloatKind.f64.format.order b b != some .eq) = true)

/-- A plain value without what its kind does not tell. -/
def SV.bare (x : SV) : SV := .mk x.kind x.dn x.df x.dt x.db none 0 [] none 0 []

set_option maxHeartbeats 1000000 in
set_option maxRecDepth 100000 in
/-- 'spec.CuV' at a plain value. -/
theorem cuV_plain (x : SV) (hk : 0 ≤ x.kind ∧ x.kind < 5) (w : World) : Calls Try.prog 75 #[x.door] w (Gives (.tuple #[x.bare.val, .bool true]) w) := by
  cases x with
  | mk k n f t b ip ic items kp kc keys =>
  simp only [SV.bare, SV.val, SV.door, SV.dk, SV.dn, SV.df, SV.dt, SV.db, SV.kind, SV.int, SV.fl, SV.text, SV.bool, SV.ip, SV.ic, SV.items, SV.kp, SV.kc, SV.keys, List.length_nil] at hk ⊢
  rcases kinds hk with rfl | rfl | rfl | rfl | rfl
  all_goals
    simp only [Int.reduceEq, ↓reduceIte]
    go_enter Try.func75, Try.ntmps75
    go_wp2_with fail
    go_loop [48] (fun i => i = .int .i64 0) (fun _ => 0)
    case atStart => rfl
    case round =>
      obtain rfl := hrel
      go_wp2_with fail
      refine bodyPost_ret (by simp [results, Try.results75, go_sem]) rfl ⟨rfl, ?_⟩
      repeat (refine Below.setCell ?_ (by simp; omega) _)
      repeat (refine Below.alloc ?_ (by simp; omega) _)
      exact ((Below.refl _ _).alloc (Nat.le_refl _) _).alloc (by simp) _

set_option maxHeartbeats 1000000 in
set_option maxRecDepth 100000 in
/-- 'spec.Same' at plain values that are the same. -/
theorem same_plain (k n n2 : Int) (hk : 0 ≤ k ∧ k < 5) (f f2 : Nat) (t t2 : ByteArray) (b b2 : Bool) (ip ip2 kp kp2 : Option Addr) (ic ic2 kc kc2 : Nat)
    (hn : k = 1 → n = n2) (hf : k = 2 → FlAlike f f2) (ht : k = 3 → t = t2) (hb : k = 4 → b = b2) (w : World) :
    Calls Try.prog 76 #[.agg #[.int .i64 k, .int .i64 n, .float .f64 f, .string t, .bool b, .slice ip 0 ic, .slice kp 0 kc], .agg #[.int .i64 k, .int .i64 n2, .float .f64 f2, .string t2, .bool b2, .slice ip2 0 ic2, .slice kp2 0 kc2]] w (Gives (.bool true) w) := by
  rcases kinds hk with rfl | rfl | rfl | rfl | rfl
  · clear hn hf ht hb
    go_enter Try.func76, Try.ntmps76
    go_wp2_with fail
    go_ret
    exact ⟨rfl, ((Below.refl _ _).alloc (Nat.le_refl _) _).alloc (by simp) _⟩
  · have e := hn rfl
    subst e
    clear hn hf ht hb
    go_enter Try.func76, Try.ntmps76
    go_wp2_with fail
    go_ret
    exact ⟨rfl, ((Below.refl _ _).alloc (Nat.le_refl _) _).alloc (by simp) _⟩
  · have e := hf rfl
    clear hn hf ht hb
    rcases e with e | ⟨e, e1, e2⟩
    all_goals
      go_enter Try.func76, Try.ntmps76
      go_wp2_with fail
      go_ret
      exact ⟨rfl, ((Below.refl _ _).alloc (Nat.le_refl _) _).alloc (by simp) _⟩
  · have e := ht rfl
    subst e
    clear hn hf ht hb
    go_enter Try.func76, Try.ntmps76
    go_wp2_with fail
    go_ret
    exact ⟨rfl, ((Below.refl _ _).alloc (Nat.le_refl _) _).alloc (by simp) _⟩
  · have e := hb rfl
    subst e
    clear hn hf ht hb
    go_enter Try.func76, Try.ntmps76
    go_wp2_with fail
    go_ret
    exact ⟨rfl, ((Below.refl _ _).alloc (Nat.le_refl _) _).alloc (by simp) _⟩

end Go.Proofs.Ythmogfjmngbamaa
