/-
  'spec.CuV', 'spec.Same', 'spec.CuSame' walked at plain values.
-/
import Derived.Test.YthmogfjmngbamaaSar
namespace Go.Proofs.Ythmogfjmngbamaa
open Go.RowKit
set_option linter.unusedSimpArgs false
set_option linter.unusedVariables false

/-- A float is itself, or no number. -/
theorem order_itself (v : Nat) : FloatKind.f64.format.order v v = none ∨ FloatKind.f64.format.order v v = some .eq := by
  have h := order_swap v v
  show Ieee.double.order v v = none ∨ Ieee.double.order v v = some .eq
  cases ho : Ieee.double.order v v with
  | none => exact .inl rfl
  | some o =>
    rw [ho] at h
    cases o <;> simp [Ordering.swap] at h ⊢

/-- The same float, or no number both. -/
def FlAlike (a b : Nat) : Prop := (FloatKind.f64.format.order a b == some .eq) = true ∨ ((FloatKind.f64.format.order a b == some .eq) = false ∧ (FloatKind.f64.format.order a a != some .eq) = true ∧ (FloatKind.f64.format.order b b != some .eq) = true)

theorem flAlike_of {op : BinOp} {a b v v' : Nat} (h : FAns op a b v) (h' : FAns op a b v') : FlAlike v v' := by
  unfold FAns at h h'
  split at h
  · rename_i r hr
    simp only [hr] at h'
    subst h
    subst h'
    rcases order_itself v' with h | h
    · exact .inr ⟨by rw [h]; rfl, by rw [h]; rfl, by rw [h]; rfl⟩
    · exact .inl (by rw [h]; rfl)
  · rename_i hr
    simp only [hr] at h'
    have h1 : FloatKind.f64.format.order v v = none := h
    have h2 : FloatKind.f64.format.order v' v' = none := h'
    rcases Bool.eq_false_or_eq_true (FloatKind.f64.format.order v v' == some .eq) with g | g
    · exact .inl g
    · exact .inr ⟨g, by rw [h1]; rfl, by rw [h2]; rfl⟩

/-- A plain value without what its kind does not tell. -/
def SV.bare (x : SV) : SV := .mk x.kind x.dn x.df x.dt x.db none 0 [] none 0 []

set_option maxHeartbeats 1000000 in
set_option maxRecDepth 100000 in
/-- 'spec.CuV' at a plain value. -/
theorem cuV_plain (x : SV) (hk : 0 ≤ x.kind ∧ x.kind < 5) (w : World) : Calls Try.prog 75 #[x.door] w (Gives (.tuple #[x.bare.val, .bool true]) w) := by
  cases x with
  | mk k n f t b ip ic items kp kc keys =>
  simp only [SV.bare, SV.val, SV.door, SV.dk, SV.dn, SV.df, SV.dt, SV.db, SV.kind, SV.int, SV.fl, SV.text, SV.bool, SV.ip, SV.ic, SV.items, SV.kp, SV.kc, SV.keys, List.length_nil] at hk ⊢
  rcases kinds hk with rfl | rfl | rfl | rfl | rfl
  all_goals
    simp only [Int.reduceEq, ↓reduceIte]
    go_enter Try.func75, Try.ntmps75
    go_wp2_with fail
    go_loop [48] (fun i => i = .int .i64 0) (fun _ => 0)
    case atStart => rfl
    case round =>
      obtain rfl := hrel
      go_wp2_with fail
      refine bodyPost_ret (by simp [results, Try.results75, go_sem]) rfl ⟨rfl, ?_⟩
      repeat (refine Below.setCell ?_ (by simp; omega) _)
      repeat (refine Below.alloc ?_ (by simp; omega) _)
      exact ((Below.refl _ _).alloc (Nat.le_refl _) _).alloc (by simp) _

set_option maxHeartbeats 1000000 in
set_option maxRecDepth 100000 in
/-- 'spec.Same' at plain values that are the same. -/
theorem same_plain (k n n2 : Int) (hk : 0 ≤ k ∧ k < 5) (f f2 : Nat) (t t2 : ByteArray) (b b2 : Bool) (ip ip2 kp kp2 : Option Addr) (ic ic2 kc kc2 : Nat)
    (hn : k = 1 → n = n2) (hf : k = 2 → FlAlike f f2) (ht : k = 3 → t = t2) (hb : k = 4 → b = b2) (w : World) :
    Calls Try.prog 76 #[.agg #[.int .i64 k, .int .i64 n, .float .f64 f, .string t, .bool b, .slice ip 0 ic, .slice kp 0 kc], .agg #[.int .i64 k, .int .i64 n2, .float .f64 f2, .string t2, .bool b2, .slice ip2 0 ic2, .slice kp2 0 kc2]] w (Gives (.bool true) w) := by
  rcases kinds hk with rfl | rfl | rfl | rfl | rfl
  · clear hn hf ht hb
    go_enter Try.func76, Try.ntmps76
    go_wp2_with fail
    go_ret
    exact ⟨rfl, ((Below.refl _ _).alloc (Nat.le_refl _) _).alloc (by simp) _⟩
  · have e := hn rfl
    subst e
    clear hn hf ht hb
    go_enter Try.func76, Try.ntmps76
    go_wp2_with fail
    go_ret
    exact ⟨rfl, ((Below.refl _ _).alloc (Nat.le_refl _) _).alloc (by simp) _⟩
  · have e := hf rfl
    clear hn hf ht hb
    rcases e with e | ⟨e, e1, e2⟩
    all_goals
      go_enter Try.func76, Try.ntmps76
      go_wp2_with fail
      go_ret
      exact ⟨rfl, ((Below.refl _ _).alloc (Nat.le_refl _) _).alloc (by simp) _⟩
  · have e := ht rfl
    subst e
    clear hn hf ht hb
    go_enter Try.func76, Try.ntmps76
    go_wp2_with fail
    go_ret
    exact ⟨rfl, ((Below.refl _ _).alloc (Nat.le_refl _) _).alloc (by simp) _⟩
  · have e := hb rfl
    subst e
    clear hn hf ht hb
    go_enter Try.func76, Try.ntmps76
    go_wp2_with fail
    go_ret
    exact ⟨rfl, ((Below.refl _ _).alloc (Nat.le_refl _) _).alloc (by simp) _⟩

/-- What two outcomes of one operation hold is the same. -/
theorem good_alike {r : Res} {y z : SV} (h : r.Good (some y)) (h' : r.Good (some z)) :
    y.kind = z.kind ∧ (0 ≤ y.kind ∧ y.kind < 5) ∧ (y.kind = 1 → y.dn = z.int) ∧ (y.kind = 2 → FlAlike y.df z.fl) ∧ (y.kind = 3 → y.dt = z.text) ∧ (y.kind = 4 → y.db = z.bool) ∧ z.items = [] ∧ z.keys = [] := by
  cases r with
  | dies => cases h
  | int n =>
    cases h; cases h'
    have k : (SV.ofInt n).kind = 1 := rfl
    exact ⟨rfl, by omega, fun _ => rfl, fun h => by omega, fun h => by omega, fun h => by omega, rfl, rfl⟩
  | txt t =>
    cases h; cases h'
    have k : (SV.ofText t).kind = 3 := rfl
    exact ⟨rfl, by omega, fun h => by omega, fun h => by omega, fun _ => rfl, fun h => by omega, rfl, rfl⟩
  | fl op a b =>
    obtain ⟨v, hv, h⟩ := h
    obtain ⟨v', hv', h'⟩ := h'
    cases h; cases h'
    have k : (SV.ofFloat v).kind = 2 := rfl
    exact ⟨rfl, by omega, fun h => by omega, fun _ => flAlike_of hv hv', fun h => by omega, fun h => by omega, rfl, rfl⟩

set_option maxHeartbeats 1000000 in
set_option maxRecDepth 100000 in
/-- 'spec.CuSame' at two outcomes of one operation. -/
theorem cuSame_good {r : Res} {y z : SV} (h : r.Good (some y)) (h' : r.Good (some z)) (w : World) : Calls Try.prog 33 #[y.door, z.val] w (Gives (.bool true) w) := by
  obtain ⟨h1, h2, h3, h4, h5, h6, h7, h8⟩ := good_alike h h'
  have HV := Lib.hid (cuV_plain y h2)
  have HS := Lib.hid (fun ip ic kp kc => same_plain y.kind y.dn z.int h2 y.df z.fl y.dt z.text y.db z.bool none ip none kp 0 ic 0 kc h3 h4 h5 h6)
  have V : ∀ z : SV, z.val = .agg #[.int .i64 z.kind, .int .i64 z.int, .float .f64 z.fl, .string z.text, .bool z.bool, .slice z.ip z.items.length z.ic, .slice z.kp z.keys.length z.kc] := fun _ => rfl
  have VB : y.bare.val = .agg #[.int .i64 y.kind, .int .i64 y.dn, .float .f64 y.df, .string y.dt, .bool y.db, .slice none 0 0, .slice none 0 0] := rfl
  rw [V, ← h1, h7, h8]
  rw [VB] at HV
  clear h h' h1 h2 h3 h4 h5 h6 h7 h8 V VB
  simp only [List.length_nil]
  unfold SV.door at *
  go_enter Try.func33, Try.ntmps33
  go_wp2_with fail
  refine Calls.mono (by exact HV.out _) ?_
  rintro e w1 ⟨rfl, hb⟩
  have hb1 := (hb.block _ (by simp)).trans (heap_alloc_new (w.alloc _) _)
  have hbw : Below w.heap.size w w1 := (((Below.refl _ _).alloc (Nat.le_refl _) _).alloc (by simp) _).trans (hb.mono (by simp; omega))
  have hsz := hb.size
  simp only [World.size_alloc] at hb1 hsz
  have HB1 := Lib.hid hb1
  have HBW := Lib.hid hbw
  obtain ⟨c0, c1, c2, c3, c4, c5, c6, -⟩ := any_seven hb1
  have q1 : ¬ w.heap.size + 1 = w1.heap.size := by omega
  have q2 : ¬ w1.heap.size = w.heap.size + 1 := by omega
  clear hb hb1 hbw
  go_wp2_with fail
  refine Calls.mono (by exact HS.out _ _ _ _ _) ?_
  rintro e w2 ⟨rfl, hb⟩
  have HBW2 := Lib.hid ((HBW.out.alloc (by omega) _).trans (hb.mono (by simp; omega)))
  clear hb
  go_wp2_with fail
  go_ret
  exact ⟨rfl, HBW2.out⟩
end Go.Proofs.Ythmogfjmngbamaa
