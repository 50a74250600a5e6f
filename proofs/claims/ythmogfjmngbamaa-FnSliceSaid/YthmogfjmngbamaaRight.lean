/-
  'spec.V.right', 'spec.Right', 'spec.CuFits', 'laws.cuPlain' walked: each returns, and what its 'true' says.
-/
import Derived.Test.YthmogfjmngbamaaFits
import Derived.OneCell
namespace Go.Proofs.Ythmogfjmngbamaa
open Go.RowKit

/-- Of what was there one block alone may have turned. -/
structure ButAt (q : Nat) (w w' : World) : Prop where
  os : w'.os = w.os
  tape : w'.tape = w.tape
  output : w'.output = w.output
  size : w.heap.size ≤ w'.heap.size
  block : ∀ k, k < w.heap.size → k ≠ q → w'.heap[k]? = w.heap[k]?

theorem ButAt.refl (q : Nat) (w : World) : ButAt q w w := ⟨rfl, rfl, rfl, Nat.le_refl _, fun _ _ _ => rfl⟩
theorem ButAt.trans {q : Nat} {a b c : World} (h : ButAt q a b) (k : ButAt q b c) : ButAt q a c :=
  ⟨k.os.trans h.os, k.tape.trans h.tape, k.output.trans h.output, Nat.le_trans h.size k.size, fun i hi hq => (k.block i (Nat.lt_of_lt_of_le hi h.size) hq).trans (h.block i hi hq)⟩
theorem ButAt.below {q B : Nat} {w w' : World} (h : ButAt q w w') (h1 : B ≤ q) (h2 : B ≤ w.heap.size) : Below B w w' :=
  ⟨h.os, h.tape, h.output, h.size, fun k hk => h.block k (by omega) (by omega)⟩
theorem ButAt.of_below {q : Nat} {w w' : World} (h : Below w.heap.size w w') : ButAt q w w' := ⟨h.os, h.tape, h.output, h.size, fun k hk _ => h.block k hk⟩
theorem ButAt.setCell {q : Nat} (w : World) (a : Addr) (ha : a.block = q) (u : Value) : ButAt q w (w.setCell a u) :=
  ⟨rfl, rfl, rfl, by simp [World.setCell], fun k _ hk => Below.heap_setCell _ _ _ _ (by rw [ha]; exact hk)⟩
theorem ButAt.alloc {q : Nat} (w : World) (o : Obj) : ButAt q w (w.alloc o) := .of_below ((Below.refl _ _).alloc (Nat.le_refl _) _)
theorem ButAt.drew {q : Nat} {a w : World} (h : ButAt q a w) : ButAt q a w.drew := ⟨h.os, h.tape, h.output, h.size, h.block⟩

/-- A counter's block. -/
def Counter (w : World) (q : Nat) (m : Int) : Prop := w.heap[q]? = some (.cells #[.int .i64 m] 3 (0, 0))

theorem Counter.lt {w : World} {q : Nat} {m : Int} (h : Counter w q m) : q < w.heap.size := lt_of_block h
theorem Counter.later {w w' : World} {q B : Nat} {m : Int} (h : Counter w q m) (hb : Below B w w') (hq : q < B) : Counter w' q m := (hb.block q hq).trans h

namespace SV
mutual
/-- How many values there are in a value, itself one of them. -/
def parts : SV → Nat | .mk _ _ _ _ _ _ _ items _ _ _ => 1 + partsAll items
def partsAll : List SV → Nat
  | [] => 0
  | x :: r => parts x + partsAll r
end

/-- A value's own kind, and what hangs on it. -/
def Shape (x : SV) : Prop := 0 ≤ x.kind ∧ x.kind ≤ 6 ∧ (x.kind < 5 → x.items = []) ∧ (x.kind ≠ 6 → x.keys = []) ∧
  (x.kind = 6 → x.keys.length = x.items.length ∧ ∀ (i j : Nat) (s : ByteArray), x.keys[i]? = some s → x.keys[j]? = some s → i = j)

mutual
/-- A value as the reference has them. -/
def Ok : SV → Prop | .mk k n f t b ip ic items kp kc keys => Shape (.mk k n f t b ip ic items kp kc keys) ∧ OkAll items
def OkAll : List SV → Prop
  | [] => True
  | x :: r => Ok x ∧ OkAll r
end

theorem ok_shape {x : SV} (h : Ok x) : Shape x := by cases x; exact h.1
theorem okAll_at : ∀ {l : List SV}, OkAll l → ∀ (i : Nat) (x : SV), l[i]? = some x → Ok x := by
  intro l
  induction l with
  | nil => intro _ i x h; simp at h
  | cons y r ih =>
    intro h i x hx
    cases i with
    | zero => simp at hx; subst hx; exact h.1
    | succ i => exact ih h.2 i x (by simpa using hx)
theorem okAll_mk : ∀ {l : List SV}, (∀ (i : Nat) (x : SV), l[i]? = some x → Ok x) → OkAll l := by
  intro l
  induction l with
  | nil => intro _; exact trivial
  | cons y r ih => exact fun h => ⟨h 0 y rfl, ih fun i x hx => h (i + 1) x (by simpa using hx)⟩
theorem ok_item {x y : SV} {i : Nat} (h : Ok x) (hy : x.items[i]? = some y) : Ok y := by
  cases x; exact okAll_at h.2 i y hy
theorem ok_mk {x : SV} (h : Shape x) (h2 : ∀ (i : Nat) (y : SV), x.items[i]? = some y → Ok y) : Ok x := by
  cases x; exact ⟨h, okAll_mk h2⟩
theorem parts_pos (x : SV) : 1 ≤ x.parts := by cases x; simp [parts]
theorem parts_eq (x : SV) : x.parts = 1 + partsAll x.items := by cases x; rfl
theorem partsAll_take : ∀ (l : List SV) (j : Nat) (y : SV), l[j]? = some y → partsAll (l.take (j + 1)) = partsAll (l.take j) + parts y := by
  intro l
  induction l with
  | nil => intro j y h; simp at h
  | cons x r ih =>
    intro j y h
    cases j with
    | zero => simp at h; subst h; simp [partsAll]
    | succ j => simp only [List.take_succ_cons, partsAll, ih j y (by simpa using h)]; omega
end SV

/-- What 'right' leaves: its answer, the counter, all else as it was. -/
def RightPost (x : SV) (m : Int) (q : Nat) (w : World) (e : Ending) (w' : World) : Prop :=
  ∃ (r : Bool) (m' : Int), e = .returned (.bool r) ∧ (r = true → SV.Ok x ∧ m' = m - x.parts ∧ 0 ≤ m') ∧ ButAt q w w' ∧ Counter w' q m'

set_option maxHeartbeats 400000 in
set_option maxRecDepth 100000 in
theorem right_bad (x : SV) (m : Int) (q : Nat) (w : World) (hc : Counter w q m) (hm : 0 ≤ m) (hm2 : m ≤ 100000) (hk : -9223372036854775808 ≤ x.kind ∧ x.kind ≤ 9223372036854775807)
    (hl1 : x.items.length ≤ 9223372036854775807) (hl2 : x.keys.length ≤ 9223372036854775807)
    (h : m = 0 ∨ x.kind < 0 ∨ 6 < x.kind ∨ (x.kind < 5 ∧ 0 < x.items.length) ∨ (x.kind ≠ 6 ∧ 0 < x.keys.length) ∨ (x.kind = 6 ∧ x.keys.length ≠ x.items.length)) :
    Calls Try.prog 102 #[x.val, .pointer (some ⟨q, 0, none⟩)] w (RightPost x m q w) := by
  cases x with
  | mk k n f t b ip ic items kp kc keys =>
  simp only [SV.val, SV.kind, SV.int, SV.fl, SV.text, SV.bool, SV.ip, SV.ic, SV.items, SV.kp, SV.kc, SV.keys] at hk hl1 hl2 h ⊢
  have HQ := Lib.hid hc.lt
  have c0 : (w.alloc (.cells #[Value.int .i64 k, .int .i64 n, .float .f64 f, .string t, .bool b, .slice ip items.length ic, .slice kp keys.length kc] 30)).cell? ⟨q, 0, none⟩ = some (.int .i64 m) := by
    rw [World.cell?_alloc_past _ _ _ hc.lt]; exact cell_of_one hc
  have f0 : (w.alloc (.cells #[Value.int .i64 k, .int .i64 n, .float .f64 f, .string t, .bool b, .slice ip items.length ic, .slice kp keys.length kc] 30)).frozen? ⟨q, 0, none⟩ = false := by
    rw [World.frozen?_alloc_old _ _ _ (by have := hc.lt; simp; omega)]; exact free_of_one hc
  have fin : ∀ w', ButAt q w w' → Counter w' q (m - 1) → RightPost (.mk k n f t b ip ic items kp kc keys) m q w (.returned (.bool false)) w' :=
    fun w' h1 h2 => ⟨false, m - 1, rfl, (fun h => by cases h), h1, h2⟩
  have FIN := Lib.hid fin
  have hq : ¬ q = w.heap.size := by have := hc.lt; omega
  clear fin
  have hone : Hid (Counter ((w.alloc (.cells #[Value.int .i64 k, .int .i64 n, .float .f64 f, .string t, .bool b, .slice ip items.length ic, .slice kp keys.length kc] 30)).setCell ⟨q, 0, none⟩ (.int .i64 (m - 1))) q (m - 1)) :=
    one_setCell (v := .int .i64 m) (Counter.later hc ((Below.refl _ _).alloc (Nat.le_refl _) _) hc.lt)
  have hbut : Hid (ButAt q w ((w.alloc (.cells #[Value.int .i64 k, .int .i64 n, .float .f64 f, .string t, .bool b, .slice ip items.length ic, .slice kp keys.length kc] 30)).setCell ⟨q, 0, none⟩ (.int .i64 (m - 1)))) :=
    (ButAt.alloc _ _).trans (ButAt.setCell _ ⟨q, 0, none⟩ rfl _)
  clear hc
  by_cases h1 : m = 0
  · subst h1
    go_enter Try.func102, Try.ntmps102
    go_wp2_with fail
    go_ret
    exact FIN.out _ hbut.out hone.out
  have hm1 : 0 ≤ m - 1 := by omega
  by_cases h2 : k < 0
  · clear h
    go_enter Try.func102, Try.ntmps102
    go_wp2_with fail
    go_ret
    exact FIN.out _ hbut.out hone.out
  by_cases h3 : 6 < k
  · have hk0 : 0 ≤ k := by omega
    clear h h2
    go_enter Try.func102, Try.ntmps102
    go_wp2_with fail
    go_ret
    exact FIN.out _ hbut.out hone.out
  have hk0 : 0 ≤ k := by omega
  have hk6 : k ≤ 6 := by omega
  by_cases h4 : k < 5 ∧ 0 < items.length
  · obtain ⟨h4, h5⟩ := h4
    clear h h2 h3
    go_enter Try.func102, Try.ntmps102
    go_wp2_with fail
    go_ret
    exact FIN.out _ hbut.out hone.out
  by_cases h5 : k < 5
  · have hi0 : items.length = 0 := by omega
    have hk0' : 0 < keys.length := by omega
    have e6 : (k != 6) = true := by rw [bne_iff_ne]; omega
    clear h h2 h3 h4
    obtain rfl : items = [] := List.eq_nil_of_length_eq_zero hi0
    simp only [List.length_nil] at c0 f0 hone hbut ⊢
    clear hi0
    go_enter Try.func102, Try.ntmps102
    go_wp2_with fail
    go_ret
    exact FIN.out _ hbut.out hone.out
  have hk5 : 5 ≤ k := by omega
  by_cases h6 : k = 6
  · have hne : keys.length ≠ items.length := by omega
    have e1 : ((keys.length : Int) != (items.length : Int)) = true := by rw [bne_iff_ne]; omega
    have e2 : (keys.length != items.length) = true := by rw [bne_iff_ne]; omega
    subst h6
    clear h h2 h3 h4 h5 hne
    go_enter Try.func102, Try.ntmps102
    go_wp2_with fail
    go_ret
    exact FIN.out _ hbut.out hone.out
  · have hk0' : 0 < keys.length := by omega
    have e6 : (k != 6) = true := by rw [bne_iff_ne]; omega
    clear h h2 h3 h4 h5 h6
    go_enter Try.func102, Try.ntmps102
    go_wp2_with fail
    go_ret
    exact FIN.out _ hbut.out hone.out
end Go.Proofs.Ythmogfjmngbamaa
