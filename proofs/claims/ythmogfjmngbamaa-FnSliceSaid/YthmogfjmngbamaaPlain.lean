/-
  'spec.V.right' at every value; 'spec.Right', 'spec.CuFits', 'laws.cuPlain': each returns, and what its 'true' says.
-/
import Derived.Test.YthmogfjmngbamaaRightb
namespace Go.Proofs.Ythmogfjmngbamaa
open Go.RowKit

theorem right_any (q : Nat) (w0 : World) (hq0 : w0.heap.size ≤ q) (N : Nat) : ∀ (x : SV) (m : Int) (w : World), m ≤ N → 0 ≤ m → m ≤ 100000 → SV.In w0 x → Below w0.heap.size w0 w → Counter w q m →
    Calls Try.prog 102 #[x.val, .pointer (some ⟨q, 0, none⟩)] w (RightPost x m q w) := by
  induction N with
  | zero =>
    intro x m w hN hm hm2 hx hb hc
    have hf := SV.in_flat hx
    exact right_bad x m q w hc hm hm2 hf.kind (by have := hf.items; omega) (by have := hf.keys; omega) (.inl (by omega))
  | succ N ih =>
    intro x m w hN hm hm2 hx hb hc
    have hf := SV.in_flat hx
    have l1 := hf.items
    have l2 := hf.keys
    by_cases h : m = 0 ∨ x.kind < 0 ∨ 6 < x.kind ∨ (x.kind < 5 ∧ 0 < x.items.length) ∨ (x.kind ≠ 6 ∧ 0 < x.keys.length) ∨ (x.kind = 6 ∧ x.keys.length ≠ x.items.length)
    · exact right_bad x m q w hc hm hm2 hf.kind (by omega) (by omega) h
    · refine right_good x m q w0 w hx hb hq0 hc (by omega) hm2 ⟨by omega, by omega, fun h5 => List.eq_nil_of_length_eq_zero (by omega), fun h6 => List.eq_nil_of_length_eq_zero (by omega), fun h6 => by omega⟩ ?_
      intro y m' w' h0 hlt hy hb' hc'
      exact ih y m' w' (by omega) h0 (by omega) hy hb' hc'

set_option maxHeartbeats 400000 in
set_option maxRecDepth 100000 in
/-- 'spec.Right' with a bound of 200. -/
theorem Right_any (x : SV) (w : World) (hx : SV.In w x) :
    Calls Try.prog 61 #[x.val, .int .i64 200] w (AnswersB (fun r => r = true → SV.Ok x ∧ x.parts ≤ 200) w) := by
  have HX := Lib.hid hx
  clear hx
  cases x with
  | mk k n f t b ip ic items kp kc keys =>
  simp only [SV.val, SV.kind, SV.int, SV.fl, SV.text, SV.bool, SV.ip, SV.ic, SV.items, SV.kp, SV.kc, SV.keys]
  go_enter Try.func61, Try.ntmps61
  go_wp2_with fail
  refine (right_any (w.heap.size + 1) w (by omega) 200 (.mk k n f t b ip ic items kp kc keys) 200 _ (by omega) (by omega) (by omega) HX.out ?_ ?_).mono ?_
  · exact ((Below.refl _ _).alloc (Nat.le_refl _) _).alloc (by simp) _
  · have h := heap_alloc_new (w.alloc (.cells #[Value.int .i64 k, .int .i64 n, .float .f64 f, .string t, .bool b, .slice ip items.length ic, .slice kp keys.length kc] 30)) (.cells #[Value.int .i64 200] 3)
    rw [World.size_alloc] at h
    exact h
  rintro e w' ⟨r, m', rfl, hr, hb, hc⟩
  have hB : Hid (Below w.heap.size w w') := (((Below.refl _ _).alloc (Nat.le_refl _) _).alloc (by simp) _).trans (hb.below (by omega) (by simp; omega))
  have HR := Lib.hid hr
  clear hr hb hc
  go_wp2_with fail
  go_ret
  exact AnswersB.mk (fun h => ⟨(HR.out h).1, by have := (HR.out h).2; omega⟩) hB.out

set_option maxHeartbeats 400000 in
set_option maxRecDepth 100000 in
/-- 'spec.CuFits'. -/
theorem CuFits_any (x : SV) (w : World) (hx : SV.In w x) :
    Calls Try.prog 25 #[x.val] w (AnswersB (fun r => r = true → SV.Ok x ∧ x.parts ≤ 200 ∧ SV.Small 10 x) w) := by
  have HX := Lib.hid hx
  clear hx
  cases x with
  | mk k n f t b ip ic items kp kc keys =>
  simp only [SV.val, SV.kind, SV.int, SV.fl, SV.text, SV.bool, SV.ip, SV.ic, SV.items, SV.kp, SV.kc, SV.keys]
  go_enter Try.func25, Try.ntmps25
  go_wp2_with fail
  have h1 := Right_any (.mk k n f t b ip ic items kp kc keys) _ (SV.in_later ((Below.refl _ _).alloc (Nat.le_refl _) (.cells #[Value.int .i64 k, .int .i64 n, .float .f64 f, .string t, .bool b, .slice ip items.length ic, .slice kp keys.length kc] 30)) _ HX.out)
  refine Calls.mono (by exact h1) ?_
  clear h1
  rintro e w1 ⟨r, hr, rfl, hb1⟩
  have hB1 : Hid (Below w.heap.size w w1) := ((Below.refl _ _).alloc (Nat.le_refl _) _).trans (hb1.mono (by simp))
  have hbox : Hid (∀ j u, #[Value.int .i64 k, .int .i64 n, .float .f64 f, .string t, .bool b, .slice ip items.length ic, .slice kp keys.length kc][j]? = some u → w1.cell? ⟨w.heap.size, j, none⟩ = some u) := fun j u hu => by
    have := (hb1.block w.heap.size (by simp)).trans (heap_alloc_new w _)
    simp [World.cell?, this, hu]
  clear hb1
  cases r
  · clear hr
    go_wp2_with fail
    go_ret
    exact AnswersB.mk (fun h => by cases h) hB1.out
  · have HR := Lib.hid (hr rfl)
    clear hr
    have c0 := hbox.out 0 _ rfl
    have c1 := hbox.out 1 _ rfl
    have c2 := hbox.out 2 _ rfl
    have c3 := hbox.out 3 _ rfl
    have c4 := hbox.out 4 _ rfl
    have c5 := hbox.out 5 _ rfl
    have c6 := hbox.out 6 _ rfl
    go_wp2_with fail
    have h2 := cuFits_any 10 (by omega) (.mk k n f t b ip ic items kp kc keys) w1 (SV.in_later hB1.out _ HX.out)
    refine Calls.mono (by exact h2) ?_
    clear h2
    rintro e w2 ⟨r, hr, rfl, hb2⟩
    have hB2 : Hid (Below w.heap.size w w2) := hB1.out.trans (hb2.mono hB1.out.size)
    have HR2 := Lib.hid hr
    clear hr hb2
    go_wp2_with fail
    go_ret
    exact AnswersB.mk (fun h => ⟨HR.out.1, HR.out.2, HR2.out h⟩) hB2.out

/-- A number, a text, a truth or nil, such as the doors take. -/
structure SV.Plain (x : SV) : Prop where
  kind : 0 ≤ x.kind ∧ x.kind < 5
  items : x.items = []
  keys : x.keys = []
  text : x.text.size ≤ 500
  fl : Fin x.fl

theorem SV.plain_of {x : SV} (h1 : SV.Ok x) (h2 : SV.Small 10 x) (h3 : x.kind < 5) : SV.Plain x := by
  obtain ⟨a, _, b, c, _⟩ := SV.ok_shape h1
  exact ⟨⟨a, h3⟩, b h3, c (by omega), h2.1, h2.2.1⟩

set_option maxHeartbeats 400000 in
set_option maxRecDepth 100000 in
/-- 'laws.cuPlain'. -/
theorem cuPlain_any (x : SV) (w : World) (hx : SV.In w x) :
    Calls Try.prog 15 #[x.val] w (AnswersB (fun r => r = true → SV.Plain x) w) := by
  have HX := Lib.hid hx
  have hkk := (SV.in_flat hx).kind
  clear hx
  cases x with
  | mk k n f t b ip ic items kp kc keys =>
  simp only [SV.val, SV.kind, SV.int, SV.fl, SV.text, SV.bool, SV.ip, SV.ic, SV.items, SV.kp, SV.kc, SV.keys] at hkk ⊢
  go_enter Try.func15, Try.ntmps15
  go_wp2_with fail
  have h1 := CuFits_any (.mk k n f t b ip ic items kp kc keys) _ (SV.in_later ((Below.refl _ _).alloc (Nat.le_refl _) (.cells #[Value.int .i64 k, .int .i64 n, .float .f64 f, .string t, .bool b, .slice ip items.length ic, .slice kp keys.length kc] 30)) _ HX.out)
  refine Calls.mono (by exact h1) ?_
  clear h1
  rintro e w1 ⟨r, hr, rfl, hb1⟩
  have hB1 : Hid (Below w.heap.size w w1) := ((Below.refl _ _).alloc (Nat.le_refl _) _).trans (hb1.mono (by simp))
  have c0 : w1.cell? ⟨w.heap.size, 0, none⟩ = some (.int .i64 k) := by
    have := (hb1.block w.heap.size (by simp)).trans (heap_alloc_new w _)
    simp [World.cell?, this]
  clear hb1
  cases r
  · clear hr
    go_wp2_with fail
    go_ret
    exact AnswersB.mk (fun h => by cases h) hB1.out
  · have HR := Lib.hid (hr rfl)
    clear hr
    go_wp2_with fail
    go_ret
    exact AnswersB.mk (fun h => SV.plain_of HR.out.1 HR.out.2.2 (of_decide_eq_true h)) hB1.out
end Go.Proofs.Ythmogfjmngbamaa
