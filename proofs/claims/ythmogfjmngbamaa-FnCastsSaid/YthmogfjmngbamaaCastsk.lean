/-
  'laws.FnCasts' walked at each kind of plain value.
-/
import Derived.Test.YthmogfjmngbamaaNeg
import Derived.Deep.Cut
namespace Go.Proofs.Ythmogfjmngbamaa
open Go.RowKit

set_option linter.unusedVariables false
set_option linter.unusedSimpArgs false

/-- One box that a later world still holds. -/
structure One (w w1 : World) (o0 : Obj) : Prop where
  fst : w1.heap[w.heap.size]? = some o0
  size : w.heap.size + 1 ≤ w1.heap.size
  below : Below w.heap.size w w1
theorem One.mk' {w w1 : World} {o0 : Obj} (hb : Below (w.alloc o0).heap.size (w.alloc o0) w1) : One w w1 o0 := by
  have h0 := heap_alloc_new w o0
  simp only [World.size_alloc] at hb
  refine ⟨(hb.block _ (by omega)).trans h0, ?_, ((Below.refl _ _).alloc (Nat.le_refl _) _).trans (hb.mono (by omega))⟩
  have := hb.size
  simp only [World.size_alloc] at this
  omega
theorem One.later {w w1 w2 : World} {o0 : Obj} (h : One w w1 o0) (hb : Below w1.heap.size w1 w2) : One w w2 o0 :=
  ⟨(hb.block _ (by have := h.size; omega)).trans h.fst, Nat.le_trans h.size hb.size, h.below.trans (hb.mono (by have := h.size; omega))⟩

/-- One box and a block more that a later world still holds. -/
structure OneOf (w w1 : World) (o0 : Obj) (g : Nat) (p : Obj) : Prop where
  one : One w w1 o0
  blk : w1.heap[g]? = some p
theorem OneOf.later {w w1 w2 : World} {o0 : Obj} {g : Nat} {p : Obj} (h : OneOf w w1 o0 g p) (hb : Below w1.heap.size w1 w2) : OneOf w w2 o0 g p :=
  ⟨h.one.later hb, (hb.block _ (lt_of_block h.blk)).trans h.blk⟩
theorem OneOf.mk' {w w4 w5 : World} {o0 p : Obj} (h : One w w4 o0) (hb : Below w4.heap.size w4 w5) : OneOf w (w5.alloc p) o0 w5.heap.size p :=
  ⟨(h.later hb).later ((Below.refl _ _).alloc (Nat.le_refl _) _), heap_alloc_new _ _⟩
/-- One box and two blocks more. -/
structure OneTwo (w w1 : World) (o0 : Obj) (g : Nat) (p : Obj) (g2 : Nat) (p2 : Obj) : Prop where
  one : OneOf w w1 o0 g p
  blk : w1.heap[g2]? = some p2
theorem OneTwo.later {w w1 w2 : World} {o0 : Obj} {g : Nat} {p : Obj} {g2 : Nat} {p2 : Obj} (h : OneTwo w w1 o0 g p g2 p2) (hb : Below w1.heap.size w1 w2) : OneTwo w w2 o0 g p g2 p2 :=
  ⟨h.one.later hb, (hb.block _ (lt_of_block h.blk)).trans h.blk⟩
theorem OneTwo.mk' {w w4 w5 : World} {o0 : Obj} {g : Nat} {p p2 : Obj} (h : OneOf w w4 o0 g p) (hb : Below w4.heap.size w4 w5) : OneTwo w (w5.alloc p2) o0 g p w5.heap.size p2 :=
  ⟨(h.later hb).later ((Below.refl _ _).alloc (Nat.le_refl _) _), heap_alloc_new _ _⟩


/-- What the doors tell of a plain value of kind 0. -/
structure Doors0 (n : Int) (f : Nat) (t : ByteArray) (b : Bool) (m : Int) : Prop where
  neg : ∀ w, Calls Try.prog 36 #[.agg #[.int .i64 0, .int .i64 0, .int .u64 0, .float .f64 0, .string ⟨#[]⟩, .bool false, .slice none 0 0, .slice none 0 0]] w (Gives (.tuple #[.agg #[.int .i64 0, .int .i64 0, .int .u64 0, .float .f64 0, .string ⟨#[]⟩, .bool false, .slice none 0 0, .slice none 0 0], .int .i64 2]) w)
  int : ∀ w, Calls Try.prog 37 #[.agg #[.int .i64 0, .int .i64 0, .int .u64 0, .float .f64 0, .string ⟨#[]⟩, .bool false, .slice none 0 0, .slice none 0 0]] w (Gives (.tuple #[.int .i64 0, .int .i64 2]) w)
  flo : ∀ w, Calls Try.prog 38 #[.agg #[.int .i64 0, .int .i64 0, .int .u64 0, .float .f64 0, .string ⟨#[]⟩, .bool false, .slice none 0 0, .slice none 0 0]] w (Gives (.tuple #[.float .f64 0, .int .i64 2]) w)
  tru : ∀ w, Calls Try.prog 39 #[.agg #[.int .i64 0, .int .i64 0, .int .u64 0, .float .f64 0, .string ⟨#[]⟩, .bool false, .slice none 0 0, .slice none 0 0]] w (Gives (.tuple #[.bool false, .int .i64 0]) w)
  nil : ∀ w, Calls Try.prog 40 #[.agg #[.int .i64 0, .int .i64 0, .int .u64 0, .float .f64 0, .string ⟨#[]⟩, .bool false, .slice none 0 0, .slice none 0 0]] w (Gives (.tuple #[.bool true, .int .i64 0]) w)


/-- What the doors tell of a plain value of kind 1. -/
structure Doors1 (n : Int) (f : Nat) (t : ByteArray) (b : Bool) (m : Int) : Prop where
  neg : ∀ w, Calls Try.prog 36 #[.agg #[.int .i64 1, .int .i64 n, .int .u64 0, .float .f64 0, .string ⟨#[]⟩, .bool false, .slice none 0 0, .slice none 0 0]] w (Gives (.tuple #[.agg #[.int .i64 1, .int .i64 (-n), .int .u64 0, .float .f64 0, .string ⟨#[]⟩, .bool false, .slice none 0 0, .slice none 0 0], .int .i64 0]) w)
  int : ∀ w, Calls Try.prog 37 #[.agg #[.int .i64 1, .int .i64 n, .int .u64 0, .float .f64 0, .string ⟨#[]⟩, .bool false, .slice none 0 0, .slice none 0 0]] w (Gives (.tuple #[.int .i64 n, .int .i64 0]) w)
  flo : ∀ w, Calls Try.prog 38 #[.agg #[.int .i64 1, .int .i64 n, .int .u64 0, .float .f64 0, .string ⟨#[]⟩, .bool false, .slice none 0 0, .slice none 0 0]] w (Gives (.tuple #[.float .f64 (floatOfInt .f64 n), .int .i64 0]) w)
  tru : ∀ w, Calls Try.prog 39 #[.agg #[.int .i64 1, .int .i64 n, .int .u64 0, .float .f64 0, .string ⟨#[]⟩, .bool false, .slice none 0 0, .slice none 0 0]] w (Gives (.tuple #[.bool false, .int .i64 2]) w)
  nil : ∀ w, Calls Try.prog 40 #[.agg #[.int .i64 1, .int .i64 n, .int .u64 0, .float .f64 0, .string ⟨#[]⟩, .bool false, .slice none 0 0, .slice none 0 0]] w (Gives (.tuple #[.bool false, .int .i64 0]) w)


/-- What the doors tell of a plain value of kind 2. -/
structure Doors2 (n : Int) (f : Nat) (t : ByteArray) (b : Bool) (m : Int) : Prop where
  neg : ∀ w, Calls Try.prog 36 #[.agg #[.int .i64 12, .int .i64 0, .int .u64 0, .float .f64 f, .string ⟨#[]⟩, .bool false, .slice none 0 0, .slice none 0 0]] w (Gives (.tuple #[.agg #[.int .i64 12, .int .i64 0, .int .u64 0, .float .f64 (Op.negFloat .f64 f), .string ⟨#[]⟩, .bool false, .slice none 0 0, .slice none 0 0], .int .i64 0]) w)
  int : ∀ w, Calls Try.prog 37 #[.agg #[.int .i64 12, .int .i64 0, .int .u64 0, .float .f64 f, .string ⟨#[]⟩, .bool false, .slice none 0 0, .slice none 0 0]] w (Gives (.tuple #[.int .i64 m, .int .i64 0]) w)
  flo : ∀ w, Calls Try.prog 38 #[.agg #[.int .i64 12, .int .i64 0, .int .u64 0, .float .f64 f, .string ⟨#[]⟩, .bool false, .slice none 0 0, .slice none 0 0]] w (Gives (.tuple #[.float .f64 f, .int .i64 0]) w)
  tru : ∀ w, Calls Try.prog 39 #[.agg #[.int .i64 12, .int .i64 0, .int .u64 0, .float .f64 f, .string ⟨#[]⟩, .bool false, .slice none 0 0, .slice none 0 0]] w (Gives (.tuple #[.bool false, .int .i64 2]) w)
  nil : ∀ w, Calls Try.prog 40 #[.agg #[.int .i64 12, .int .i64 0, .int .u64 0, .float .f64 f, .string ⟨#[]⟩, .bool false, .slice none 0 0, .slice none 0 0]] w (Gives (.tuple #[.bool false, .int .i64 0]) w)


/-- What the doors tell of a plain value of kind 3. -/
structure Doors3 (n : Int) (f : Nat) (t : ByteArray) (b : Bool) (m : Int) : Prop where
  neg : ∀ w, Calls Try.prog 36 #[.agg #[.int .i64 13, .int .i64 0, .int .u64 0, .float .f64 0, .string t, .bool false, .slice none 0 0, .slice none 0 0]] w (Gives (.tuple #[.agg #[.int .i64 0, .int .i64 0, .int .u64 0, .float .f64 0, .string ⟨#[]⟩, .bool false, .slice none 0 0, .slice none 0 0], .int .i64 2]) w)
  int : ∀ w, Calls Try.prog 37 #[.agg #[.int .i64 13, .int .i64 0, .int .u64 0, .float .f64 0, .string t, .bool false, .slice none 0 0, .slice none 0 0]] w (Gives (.tuple #[.int .i64 0, .int .i64 2]) w)
  flo : ∀ w, Calls Try.prog 38 #[.agg #[.int .i64 13, .int .i64 0, .int .u64 0, .float .f64 0, .string t, .bool false, .slice none 0 0, .slice none 0 0]] w (Gives (.tuple #[.float .f64 0, .int .i64 2]) w)
  tru : ∀ w, Calls Try.prog 39 #[.agg #[.int .i64 13, .int .i64 0, .int .u64 0, .float .f64 0, .string t, .bool false, .slice none 0 0, .slice none 0 0]] w (Gives (.tuple #[.bool false, .int .i64 2]) w)
  nil : ∀ w, Calls Try.prog 40 #[.agg #[.int .i64 13, .int .i64 0, .int .u64 0, .float .f64 0, .string t, .bool false, .slice none 0 0, .slice none 0 0]] w (Gives (.tuple #[.bool false, .int .i64 0]) w)


/-- What the doors tell of a plain value of kind 4. -/
structure Doors4 (n : Int) (f : Nat) (t : ByteArray) (b : Bool) (m : Int) : Prop where
  neg : ∀ w, Calls Try.prog 36 #[.agg #[.int .i64 14, .int .i64 0, .int .u64 0, .float .f64 0, .string ⟨#[]⟩, .bool b, .slice none 0 0, .slice none 0 0]] w (Gives (.tuple #[.agg #[.int .i64 0, .int .i64 0, .int .u64 0, .float .f64 0, .string ⟨#[]⟩, .bool false, .slice none 0 0, .slice none 0 0], .int .i64 2]) w)
  int : ∀ w, Calls Try.prog 37 #[.agg #[.int .i64 14, .int .i64 0, .int .u64 0, .float .f64 0, .string ⟨#[]⟩, .bool b, .slice none 0 0, .slice none 0 0]] w (Gives (.tuple #[.int .i64 0, .int .i64 2]) w)
  flo : ∀ w, Calls Try.prog 38 #[.agg #[.int .i64 14, .int .i64 0, .int .u64 0, .float .f64 0, .string ⟨#[]⟩, .bool b, .slice none 0 0, .slice none 0 0]] w (Gives (.tuple #[.float .f64 0, .int .i64 2]) w)
  tru : ∀ w, Calls Try.prog 39 #[.agg #[.int .i64 14, .int .i64 0, .int .u64 0, .float .f64 0, .string ⟨#[]⟩, .bool b, .slice none 0 0, .slice none 0 0]] w (Gives (.tuple #[.bool b, .int .i64 0]) w)
  nil : ∀ w, Calls Try.prog 40 #[.agg #[.int .i64 14, .int .i64 0, .int .u64 0, .float .f64 0, .string ⟨#[]⟩, .bool b, .slice none 0 0, .slice none 0 0]] w (Gives (.tuple #[.bool false, .int .i64 0]) w)


set_option maxHeartbeats 4000000 in
set_option maxRecDepth 100000 in
theorem casts_0 (Q : Prop) (n : Int) (f : Nat) (t : ByteArray) (b : Bool) (m : Int) (ip kp : Option Addr) (ni ic nk kc : Nat) (w : World)
    (F1 : Calls Try.prog 14 #[.agg #[.int .i64 0, .int .i64 n, .float .f64 f, .string t, .bool b, .slice ip ni ic, .slice kp nk kc]] (w.alloc (.cells #[.int .i64 0, .int .i64 n, .float .f64 f, .string t, .bool b, .slice ip ni ic, .slice kp nk kc] 30)) (AnswersB (fun _ => True) (w.alloc (.cells #[.int .i64 0, .int .i64 n, .float .f64 f, .string t, .bool b, .slice ip ni ic, .slice kp nk kc] 30))))
    (P1 : ∀ w1, Below w.heap.size w w1 → Calls Try.prog 15 #[.agg #[.int .i64 0, .int .i64 n, .float .f64 f, .string t, .bool b, .slice ip ni ic, .slice kp nk kc]] w1 (AnswersB (fun r => r = true → Q) w1))
    (CX : Q → ∀ w1, Calls Try.prog 16 #[.agg #[.int .i64 0, .int .i64 n, .float .f64 f, .string t, .bool b, .slice ip ni ic, .slice kp nk kc]] w1 (Gives (.agg #[.int .i64 0, .int .i64 0, .int .u64 0, .float .f64 0, .string ⟨#[]⟩, .bool false, .slice none 0 0, .slice none 0 0]) w1))
    (HD : Q → Doors0 n f t b m) : Calls Try.prog 11 #[.agg #[.int .i64 0, .int .i64 n, .float .f64 f, .string t, .bool b, .slice ip ni ic, .slice kp nk kc]] w (Holds w) := by
  have F1 := Lib.hid F1
  have P1 := Lib.hid P1
  have CX := Lib.hid CX
  have HD := Lib.hid HD
  go_enter Try.func11, Try.ntmps11
  go_wp2_with fail
  refine Calls.mono (by exact F1.out) ?_
  rintro e w1 ⟨r, -, rfl, hb⟩
  have T1 := Lib.hid (One.mk' hb)
  clear hb F1
  obtain ⟨a0, a1, a2, a3, a4, a5, a6⟩ := seven T1.out.fst
  cases r
  · go_wp2_with fail
    go_ret
    exact ⟨rfl, T1.out.below⟩
  go_wp2_with fail
  refine Calls.mono (by exact P1.out _ T1.out.below) ?_
  rintro e w2 ⟨r, hr, rfl, hb⟩
  have T2 := Lib.hid (T1.out.later hb)
  clear T1 a0 a1 a2 a3 a4 a5 a6
  clear hb P1
  obtain ⟨a0, a1, a2, a3, a4, a5, a6⟩ := seven T2.out.fst
  cases r
  · clear hr
    go_wp2_with fail
    go_ret
    exact ⟨rfl, T2.out.below⟩
  have HQ := Lib.hid (hr rfl)
  clear hr
  have HD := Lib.hid (HD.out HQ.out)
  have CX := Lib.hid (CX.out HQ.out)
  go_wp2_with fail
  refine Calls.mono (by exact CX.out _) ?_
  rintro e w3 ⟨rfl, hb⟩
  have T3 := Lib.hid (OneOf.mk' (p := .cells #[.int .i64 0, .int .i64 0, .int .u64 0, .float .f64 0, .string ⟨#[]⟩, .bool false, .slice none 0 0, .slice none 0 0] 35) T2.out hb)
  clear T2 hb CX a0 a1 a2 a3 a4 a5 a6
  go_wp2_with fail
  refine Calls.mono (by exact HD.out.neg _) ?_
  rintro e w4 ⟨rfl, hb⟩
  have T4 := Lib.hid (OneTwo.mk' (p2 := .cells #[.int .i64 0, .int .i64 0, .int .u64 0, .float .f64 0, .string ⟨#[]⟩, .bool false, .slice none 0 0, .slice none 0 0] 35) T3.out hb)
  clear T3 hb
  obtain ⟨a0, a1, a2, a3, a4, a5, a6⟩ := seven T4.out.one.one.fst
  obtain ⟨d0, d1, d2, d3, d4, d5, d6, d7⟩ := eight T4.out.one.blk
  go_wp2_with fail
  refine Calls.mono (by exact HD.out.int _) ?_
  rintro e w5 ⟨rfl, hb⟩
  have T5 := Lib.hid (T4.out.later hb)
  clear T4 hb a0 a1 a2 a3 a4 a5 a6 d0 d1 d2 d3 d4 d5 d6 d7
  obtain ⟨a0, a1, a2, a3, a4, a5, a6⟩ := seven T5.out.one.one.fst
  obtain ⟨d0, d1, d2, d3, d4, d5, d6, d7⟩ := eight T5.out.one.blk
  go_wp2_with fail
  refine Calls.mono (by exact HD.out.flo _) ?_
  rintro e w6 ⟨rfl, hb⟩
  have T6 := Lib.hid (T5.out.later hb)
  clear T5 hb a0 a1 a2 a3 a4 a5 a6 d0 d1 d2 d3 d4 d5 d6 d7
  obtain ⟨a0, a1, a2, a3, a4, a5, a6⟩ := seven T6.out.one.one.fst
  obtain ⟨d0, d1, d2, d3, d4, d5, d6, d7⟩ := eight T6.out.one.blk
  go_wp2_with fail
  refine Calls.mono (by exact HD.out.tru _) ?_
  rintro e w7 ⟨rfl, hb⟩
  have T7 := Lib.hid (T6.out.later hb)
  clear T6 hb a0 a1 a2 a3 a4 a5 a6 d0 d1 d2 d3 d4 d5 d6 d7
  obtain ⟨a0, a1, a2, a3, a4, a5, a6⟩ := seven T7.out.one.one.fst
  obtain ⟨d0, d1, d2, d3, d4, d5, d6, d7⟩ := eight T7.out.one.blk
  go_wp2_with fail
  refine Calls.mono (by exact HD.out.nil _) ?_
  rintro e w8 ⟨rfl, hb⟩
  have T8 := Lib.hid (T7.out.later hb)
  clear T7 hb a0 a1 a2 a3 a4 a5 a6 d0 d1 d2 d3 d4 d5 d6 d7
  obtain ⟨a0, a1, a2, a3, a4, a5, a6⟩ := seven T8.out.one.one.fst
  obtain ⟨d0, d1, d2, d3, d4, d5, d6, d7⟩ := eight T8.out.one.blk
  obtain ⟨e0, e1, e2, e3, e4, e5, e6, e7⟩ := eight T8.out.blk
  go_wp2_with fail
  go_ret
  exact ⟨rfl, T8.out.one.one.below⟩

set_option maxHeartbeats 4000000 in
set_option maxRecDepth 100000 in
theorem casts_1 (Q : Prop) (n : Int) (f : Nat) (t : ByteArray) (b : Bool) (m : Int) (ip kp : Option Addr) (ni ic nk kc : Nat) (w : World)
    (F1 : Calls Try.prog 14 #[.agg #[.int .i64 1, .int .i64 n, .float .f64 f, .string t, .bool b, .slice ip ni ic, .slice kp nk kc]] (w.alloc (.cells #[.int .i64 1, .int .i64 n, .float .f64 f, .string t, .bool b, .slice ip ni ic, .slice kp nk kc] 30)) (AnswersB (fun _ => True) (w.alloc (.cells #[.int .i64 1, .int .i64 n, .float .f64 f, .string t, .bool b, .slice ip ni ic, .slice kp nk kc] 30))))
    (P1 : ∀ w1, Below w.heap.size w w1 → Calls Try.prog 15 #[.agg #[.int .i64 1, .int .i64 n, .float .f64 f, .string t, .bool b, .slice ip ni ic, .slice kp nk kc]] w1 (AnswersB (fun r => r = true → Q) w1))
    (CX : Q → ∀ w1, Calls Try.prog 16 #[.agg #[.int .i64 1, .int .i64 n, .float .f64 f, .string t, .bool b, .slice ip ni ic, .slice kp nk kc]] w1 (Gives (.agg #[.int .i64 1, .int .i64 n, .int .u64 0, .float .f64 0, .string ⟨#[]⟩, .bool false, .slice none 0 0, .slice none 0 0]) w1)) (hr : (FloatKind.f64.format.order (floatOfInt .f64 n) (floatOfInt .f64 n) == some .eq) = true)
    (HD : Q → n ≤ 9007199254740992 → -9007199254740992 ≤ n → Doors1 n f t b m) : Calls Try.prog 11 #[.agg #[.int .i64 1, .int .i64 n, .float .f64 f, .string t, .bool b, .slice ip ni ic, .slice kp nk kc]] w (Holds w) := by
  have F1 := Lib.hid F1
  have P1 := Lib.hid P1
  have CX := Lib.hid CX
  have HD := Lib.hid HD
  go_enter Try.func11, Try.ntmps11
  go_wp2_with fail
  refine Calls.mono (by exact F1.out) ?_
  rintro e w1 ⟨r, -, rfl, hb⟩
  have T1 := Lib.hid (One.mk' hb)
  clear hb F1
  obtain ⟨a0, a1, a2, a3, a4, a5, a6⟩ := seven T1.out.fst
  cases r
  · go_wp2_with fail
    go_ret
    exact ⟨rfl, T1.out.below⟩
  go_wp2_with fail
  refine Calls.mono (by exact P1.out _ T1.out.below) ?_
  rintro e w2 ⟨r, hr, rfl, hb⟩
  have T2 := Lib.hid (T1.out.later hb)
  clear T1 a0 a1 a2 a3 a4 a5 a6
  clear hb P1
  obtain ⟨a0, a1, a2, a3, a4, a5, a6⟩ := seven T2.out.fst
  cases r
  · clear hr
    go_wp2_with fail
    go_ret
    exact ⟨rfl, T2.out.below⟩
  have HQ := Lib.hid (hr rfl)
  clear hr
  have HD := Lib.hid (HD.out HQ.out)
  have CX := Lib.hid (CX.out HQ.out)
  by_cases g1 : 9007199254740992 < n
  · have g2 : ¬ n ≤ 9007199254740992 := by omega
    go_wp2_with fail
    go_ret
    exact ⟨rfl, T2.out.below⟩
  by_cases g2 : n < -9007199254740992
  · have g3 : n ≤ 9007199254740992 := by omega
    go_wp2_with fail
    go_ret
    exact ⟨rfl, T2.out.below⟩
  have g3 : n ≤ 9007199254740992 := by omega
  have g4 : -9007199254740992 ≤ n := by omega
  have HD := Lib.hid (HD.out g3 g4)
  clear g1 g2
  go_wp2_with fail
  refine Calls.mono (by exact CX.out _) ?_
  rintro e w3 ⟨rfl, hb⟩
  have T3 := Lib.hid (OneOf.mk' (p := .cells #[.int .i64 1, .int .i64 n, .int .u64 0, .float .f64 0, .string ⟨#[]⟩, .bool false, .slice none 0 0, .slice none 0 0] 35) T2.out hb)
  clear T2 hb CX a0 a1 a2 a3 a4 a5 a6
  go_wp2_with fail
  refine Calls.mono (by exact HD.out.neg _) ?_
  rintro e w4 ⟨rfl, hb⟩
  have T4 := Lib.hid (OneTwo.mk' (p2 := .cells #[.int .i64 1, .int .i64 (-n), .int .u64 0, .float .f64 0, .string ⟨#[]⟩, .bool false, .slice none 0 0, .slice none 0 0] 35) T3.out hb)
  clear T3 hb
  obtain ⟨a0, a1, a2, a3, a4, a5, a6⟩ := seven T4.out.one.one.fst
  obtain ⟨d0, d1, d2, d3, d4, d5, d6, d7⟩ := eight T4.out.one.blk
  go_wp2_with fail
  refine Calls.mono (by exact HD.out.int _) ?_
  rintro e w5 ⟨rfl, hb⟩
  have T5 := Lib.hid (T4.out.later hb)
  clear T4 hb a0 a1 a2 a3 a4 a5 a6 d0 d1 d2 d3 d4 d5 d6 d7
  obtain ⟨a0, a1, a2, a3, a4, a5, a6⟩ := seven T5.out.one.one.fst
  obtain ⟨d0, d1, d2, d3, d4, d5, d6, d7⟩ := eight T5.out.one.blk
  go_wp2_with fail
  refine Calls.mono (by exact HD.out.flo _) ?_
  rintro e w6 ⟨rfl, hb⟩
  have T6 := Lib.hid (T5.out.later hb)
  clear T5 hb a0 a1 a2 a3 a4 a5 a6 d0 d1 d2 d3 d4 d5 d6 d7
  obtain ⟨a0, a1, a2, a3, a4, a5, a6⟩ := seven T6.out.one.one.fst
  obtain ⟨d0, d1, d2, d3, d4, d5, d6, d7⟩ := eight T6.out.one.blk
  go_wp2_with fail
  refine Calls.mono (by exact HD.out.tru _) ?_
  rintro e w7 ⟨rfl, hb⟩
  have T7 := Lib.hid (T6.out.later hb)
  clear T6 hb a0 a1 a2 a3 a4 a5 a6 d0 d1 d2 d3 d4 d5 d6 d7
  obtain ⟨a0, a1, a2, a3, a4, a5, a6⟩ := seven T7.out.one.one.fst
  obtain ⟨d0, d1, d2, d3, d4, d5, d6, d7⟩ := eight T7.out.one.blk
  go_wp2_with fail
  refine Calls.mono (by exact HD.out.nil _) ?_
  rintro e w8 ⟨rfl, hb⟩
  have T8 := Lib.hid (T7.out.later hb)
  clear T7 hb a0 a1 a2 a3 a4 a5 a6 d0 d1 d2 d3 d4 d5 d6 d7
  obtain ⟨a0, a1, a2, a3, a4, a5, a6⟩ := seven T8.out.one.one.fst
  obtain ⟨d0, d1, d2, d3, d4, d5, d6, d7⟩ := eight T8.out.one.blk
  obtain ⟨e0, e1, e2, e3, e4, e5, e6, e7⟩ := eight T8.out.blk
  go_wp2_with fail
  go_ret
  exact ⟨rfl, T8.out.one.one.below⟩

set_option maxHeartbeats 4000000 in
set_option maxRecDepth 100000 in
theorem casts_2 (Q : Prop) (n : Int) (f : Nat) (t : ByteArray) (b : Bool) (m : Int) (ip kp : Option Addr) (ni ic nk kc : Nat) (w : World)
    (F1 : Calls Try.prog 14 #[.agg #[.int .i64 2, .int .i64 n, .float .f64 f, .string t, .bool b, .slice ip ni ic, .slice kp nk kc]] (w.alloc (.cells #[.int .i64 2, .int .i64 n, .float .f64 f, .string t, .bool b, .slice ip ni ic, .slice kp nk kc] 30)) (AnswersB (fun _ => True) (w.alloc (.cells #[.int .i64 2, .int .i64 n, .float .f64 f, .string t, .bool b, .slice ip ni ic, .slice kp nk kc] 30))))
    (P1 : ∀ w1, Below w.heap.size w w1 → Calls Try.prog 15 #[.agg #[.int .i64 2, .int .i64 n, .float .f64 f, .string t, .bool b, .slice ip ni ic, .slice kp nk kc]] w1 (AnswersB (fun r => r = true → Q) w1))
    (CX : Q → ∀ w1, Calls Try.prog 16 #[.agg #[.int .i64 2, .int .i64 n, .float .f64 f, .string t, .bool b, .slice ip ni ic, .slice kp nk kc]] w1 (Gives (.agg #[.int .i64 12, .int .i64 0, .int .u64 0, .float .f64 f, .string ⟨#[]⟩, .bool false, .slice none 0 0, .slice none 0 0]) w1)) (hc : Q → (FloatKind.f64.format.order f 4845873199050653696 == some .gt) = false → (FloatKind.f64.format.order f 14069245235905429504 == some .lt) = false → ∀ w : World, (convert 26 3 (.float .f64 f)).run Try.prog w = .ok (.int .i64 m) w) (hr : Q → (FloatKind.f64.format.order f f == some .eq) = true ∧ (FloatKind.f64.format.order (Op.negFloat .f64 f) (Op.negFloat .f64 f) == some .eq) = true)
    (HD : Q → (FloatKind.f64.format.order f 4845873199050653696 == some .gt) = false → (FloatKind.f64.format.order f 14069245235905429504 == some .lt) = false → Doors2 n f t b m) : Calls Try.prog 11 #[.agg #[.int .i64 2, .int .i64 n, .float .f64 f, .string t, .bool b, .slice ip ni ic, .slice kp nk kc]] w (Holds w) := by
  have F1 := Lib.hid F1
  have P1 := Lib.hid P1
  have CX := Lib.hid CX
  have HD := Lib.hid HD
  have HC := Lib.hid hc
  have HRR := Lib.hid hr
  clear hc hr
  go_enter Try.func11, Try.ntmps11
  go_wp2_with fail
  refine Calls.mono (by exact F1.out) ?_
  rintro e w1 ⟨r, -, rfl, hb⟩
  have T1 := Lib.hid (One.mk' hb)
  clear hb F1
  obtain ⟨a0, a1, a2, a3, a4, a5, a6⟩ := seven T1.out.fst
  cases r
  · go_wp2_with fail
    go_ret
    exact ⟨rfl, T1.out.below⟩
  go_wp2_with fail
  refine Calls.mono (by exact P1.out _ T1.out.below) ?_
  rintro e w2 ⟨r, hr, rfl, hb⟩
  have T2 := Lib.hid (T1.out.later hb)
  clear T1 a0 a1 a2 a3 a4 a5 a6
  clear hb P1
  obtain ⟨a0, a1, a2, a3, a4, a5, a6⟩ := seven T2.out.fst
  cases r
  · clear hr
    go_wp2_with fail
    go_ret
    exact ⟨rfl, T2.out.below⟩
  have HQ := Lib.hid (hr rfl)
  clear hr
  have HD := Lib.hid (HD.out HQ.out)
  have CX := Lib.hid (CX.out HQ.out)
  rcases Bool.eq_false_or_eq_true (FloatKind.f64.format.order f 4845873199050653696 == some .gt) with g1 | g1
  · go_wp2_with fail
    go_ret
    exact ⟨rfl, T2.out.below⟩
  rcases Bool.eq_false_or_eq_true (FloatKind.f64.format.order f 14069245235905429504 == some .lt) with g2 | g2
  · go_wp2_with fail
    go_ret
    exact ⟨rfl, T2.out.below⟩
  have HD := Lib.hid (HD.out g1 g2)
  have hc := HC.out HQ.out g1 g2
  obtain ⟨hr1, hr2⟩ := HRR.out HQ.out
  clear HC HRR
  go_wp2_with fail
  refine Calls.mono (by exact CX.out _) ?_
  rintro e w3 ⟨rfl, hb⟩
  have T3 := Lib.hid (OneOf.mk' (p := .cells #[.int .i64 12, .int .i64 0, .int .u64 0, .float .f64 f, .string ⟨#[]⟩, .bool false, .slice none 0 0, .slice none 0 0] 35) T2.out hb)
  clear T2 hb CX a0 a1 a2 a3 a4 a5 a6
  go_wp2_with fail
  refine Calls.mono (by exact HD.out.neg _) ?_
  rintro e w4 ⟨rfl, hb⟩
  have T4 := Lib.hid (OneTwo.mk' (p2 := .cells #[.int .i64 12, .int .i64 0, .int .u64 0, .float .f64 (Op.negFloat .f64 f), .string ⟨#[]⟩, .bool false, .slice none 0 0, .slice none 0 0] 35) T3.out hb)
  clear T3 hb
  obtain ⟨a0, a1, a2, a3, a4, a5, a6⟩ := seven T4.out.one.one.fst
  obtain ⟨d0, d1, d2, d3, d4, d5, d6, d7⟩ := eight T4.out.one.blk
  go_wp2_with fail
  refine Calls.mono (by exact HD.out.int _) ?_
  rintro e w5 ⟨rfl, hb⟩
  have T5 := Lib.hid (T4.out.later hb)
  clear T4 hb a0 a1 a2 a3 a4 a5 a6 d0 d1 d2 d3 d4 d5 d6 d7
  obtain ⟨a0, a1, a2, a3, a4, a5, a6⟩ := seven T5.out.one.one.fst
  obtain ⟨d0, d1, d2, d3, d4, d5, d6, d7⟩ := eight T5.out.one.blk
  go_wp2_with fail
  refine Calls.mono (by exact HD.out.flo _) ?_
  rintro e w6 ⟨rfl, hb⟩
  have T6 := Lib.hid (T5.out.later hb)
  clear T5 hb a0 a1 a2 a3 a4 a5 a6 d0 d1 d2 d3 d4 d5 d6 d7
  obtain ⟨a0, a1, a2, a3, a4, a5, a6⟩ := seven T6.out.one.one.fst
  obtain ⟨d0, d1, d2, d3, d4, d5, d6, d7⟩ := eight T6.out.one.blk
  go_wp2_with fail
  refine Calls.mono (by exact HD.out.tru _) ?_
  rintro e w7 ⟨rfl, hb⟩
  have T7 := Lib.hid (T6.out.later hb)
  clear T6 hb a0 a1 a2 a3 a4 a5 a6 d0 d1 d2 d3 d4 d5 d6 d7
  obtain ⟨a0, a1, a2, a3, a4, a5, a6⟩ := seven T7.out.one.one.fst
  obtain ⟨d0, d1, d2, d3, d4, d5, d6, d7⟩ := eight T7.out.one.blk
  go_wp2_with fail
  refine Calls.mono (by exact HD.out.nil _) ?_
  rintro e w8 ⟨rfl, hb⟩
  have T8 := Lib.hid (T7.out.later hb)
  clear T7 hb a0 a1 a2 a3 a4 a5 a6 d0 d1 d2 d3 d4 d5 d6 d7
  obtain ⟨a0, a1, a2, a3, a4, a5, a6⟩ := seven T8.out.one.one.fst
  obtain ⟨d0, d1, d2, d3, d4, d5, d6, d7⟩ := eight T8.out.one.blk
  obtain ⟨e0, e1, e2, e3, e4, e5, e6, e7⟩ := eight T8.out.blk
  go_wp2_with fail
  go_ret
  exact ⟨rfl, T8.out.one.one.below⟩

set_option maxHeartbeats 4000000 in
set_option maxRecDepth 100000 in
theorem casts_3 (Q : Prop) (n : Int) (f : Nat) (t : ByteArray) (b : Bool) (m : Int) (ip kp : Option Addr) (ni ic nk kc : Nat) (w : World)
    (F1 : Calls Try.prog 14 #[.agg #[.int .i64 3, .int .i64 n, .float .f64 f, .string t, .bool b, .slice ip ni ic, .slice kp nk kc]] (w.alloc (.cells #[.int .i64 3, .int .i64 n, .float .f64 f, .string t, .bool b, .slice ip ni ic, .slice kp nk kc] 30)) (AnswersB (fun _ => True) (w.alloc (.cells #[.int .i64 3, .int .i64 n, .float .f64 f, .string t, .bool b, .slice ip ni ic, .slice kp nk kc] 30))))
    (P1 : ∀ w1, Below w.heap.size w w1 → Calls Try.prog 15 #[.agg #[.int .i64 3, .int .i64 n, .float .f64 f, .string t, .bool b, .slice ip ni ic, .slice kp nk kc]] w1 (AnswersB (fun r => r = true → Q) w1))
    (CX : Q → ∀ w1, Calls Try.prog 16 #[.agg #[.int .i64 3, .int .i64 n, .float .f64 f, .string t, .bool b, .slice ip ni ic, .slice kp nk kc]] w1 (Gives (.agg #[.int .i64 13, .int .i64 0, .int .u64 0, .float .f64 0, .string t, .bool false, .slice none 0 0, .slice none 0 0]) w1))
    (HD : Q → Doors3 n f t b m) : Calls Try.prog 11 #[.agg #[.int .i64 3, .int .i64 n, .float .f64 f, .string t, .bool b, .slice ip ni ic, .slice kp nk kc]] w (Holds w) := by
  have F1 := Lib.hid F1
  have P1 := Lib.hid P1
  have CX := Lib.hid CX
  have HD := Lib.hid HD
  go_enter Try.func11, Try.ntmps11
  go_wp2_with fail
  refine Calls.mono (by exact F1.out) ?_
  rintro e w1 ⟨r, -, rfl, hb⟩
  have T1 := Lib.hid (One.mk' hb)
  clear hb F1
  obtain ⟨a0, a1, a2, a3, a4, a5, a6⟩ := seven T1.out.fst
  cases r
  · go_wp2_with fail
    go_ret
    exact ⟨rfl, T1.out.below⟩
  go_wp2_with fail
  refine Calls.mono (by exact P1.out _ T1.out.below) ?_
  rintro e w2 ⟨r, hr, rfl, hb⟩
  have T2 := Lib.hid (T1.out.later hb)
  clear T1 a0 a1 a2 a3 a4 a5 a6
  clear hb P1
  obtain ⟨a0, a1, a2, a3, a4, a5, a6⟩ := seven T2.out.fst
  cases r
  · clear hr
    go_wp2_with fail
    go_ret
    exact ⟨rfl, T2.out.below⟩
  have HQ := Lib.hid (hr rfl)
  clear hr
  have HD := Lib.hid (HD.out HQ.out)
  have CX := Lib.hid (CX.out HQ.out)
  go_wp2_with fail
  refine Calls.mono (by exact CX.out _) ?_
  rintro e w3 ⟨rfl, hb⟩
  have T3 := Lib.hid (OneOf.mk' (p := .cells #[.int .i64 13, .int .i64 0, .int .u64 0, .float .f64 0, .string t, .bool false, .slice none 0 0, .slice none 0 0] 35) T2.out hb)
  clear T2 hb CX a0 a1 a2 a3 a4 a5 a6
  go_wp2_with fail
  refine Calls.mono (by exact HD.out.neg _) ?_
  rintro e w4 ⟨rfl, hb⟩
  have T4 := Lib.hid (OneTwo.mk' (p2 := .cells #[.int .i64 0, .int .i64 0, .int .u64 0, .float .f64 0, .string ⟨#[]⟩, .bool false, .slice none 0 0, .slice none 0 0] 35) T3.out hb)
  clear T3 hb
  obtain ⟨a0, a1, a2, a3, a4, a5, a6⟩ := seven T4.out.one.one.fst
  obtain ⟨d0, d1, d2, d3, d4, d5, d6, d7⟩ := eight T4.out.one.blk
  go_wp2_with fail
  refine Calls.mono (by exact HD.out.int _) ?_
  rintro e w5 ⟨rfl, hb⟩
  have T5 := Lib.hid (T4.out.later hb)
  clear T4 hb a0 a1 a2 a3 a4 a5 a6 d0 d1 d2 d3 d4 d5 d6 d7
  obtain ⟨a0, a1, a2, a3, a4, a5, a6⟩ := seven T5.out.one.one.fst
  obtain ⟨d0, d1, d2, d3, d4, d5, d6, d7⟩ := eight T5.out.one.blk
  go_wp2_with fail
  refine Calls.mono (by exact HD.out.flo _) ?_
  rintro e w6 ⟨rfl, hb⟩
  have T6 := Lib.hid (T5.out.later hb)
  clear T5 hb a0 a1 a2 a3 a4 a5 a6 d0 d1 d2 d3 d4 d5 d6 d7
  obtain ⟨a0, a1, a2, a3, a4, a5, a6⟩ := seven T6.out.one.one.fst
  obtain ⟨d0, d1, d2, d3, d4, d5, d6, d7⟩ := eight T6.out.one.blk
  go_wp2_with fail
  refine Calls.mono (by exact HD.out.tru _) ?_
  rintro e w7 ⟨rfl, hb⟩
  have T7 := Lib.hid (T6.out.later hb)
  clear T6 hb a0 a1 a2 a3 a4 a5 a6 d0 d1 d2 d3 d4 d5 d6 d7
  obtain ⟨a0, a1, a2, a3, a4, a5, a6⟩ := seven T7.out.one.one.fst
  obtain ⟨d0, d1, d2, d3, d4, d5, d6, d7⟩ := eight T7.out.one.blk
  go_wp2_with fail
  refine Calls.mono (by exact HD.out.nil _) ?_
  rintro e w8 ⟨rfl, hb⟩
  have T8 := Lib.hid (T7.out.later hb)
  clear T7 hb a0 a1 a2 a3 a4 a5 a6 d0 d1 d2 d3 d4 d5 d6 d7
  obtain ⟨a0, a1, a2, a3, a4, a5, a6⟩ := seven T8.out.one.one.fst
  obtain ⟨d0, d1, d2, d3, d4, d5, d6, d7⟩ := eight T8.out.one.blk
  obtain ⟨e0, e1, e2, e3, e4, e5, e6, e7⟩ := eight T8.out.blk
  go_wp2_with fail
  go_ret
  exact ⟨rfl, T8.out.one.one.below⟩

set_option maxHeartbeats 4000000 in
set_option maxRecDepth 100000 in
theorem casts_4 (Q : Prop) (n : Int) (f : Nat) (t : ByteArray) (b : Bool) (m : Int) (ip kp : Option Addr) (ni ic nk kc : Nat) (w : World)
    (F1 : Calls Try.prog 14 #[.agg #[.int .i64 4, .int .i64 n, .float .f64 f, .string t, .bool b, .slice ip ni ic, .slice kp nk kc]] (w.alloc (.cells #[.int .i64 4, .int .i64 n, .float .f64 f, .string t, .bool b, .slice ip ni ic, .slice kp nk kc] 30)) (AnswersB (fun _ => True) (w.alloc (.cells #[.int .i64 4, .int .i64 n, .float .f64 f, .string t, .bool b, .slice ip ni ic, .slice kp nk kc] 30))))
    (P1 : ∀ w1, Below w.heap.size w w1 → Calls Try.prog 15 #[.agg #[.int .i64 4, .int .i64 n, .float .f64 f, .string t, .bool b, .slice ip ni ic, .slice kp nk kc]] w1 (AnswersB (fun r => r = true → Q) w1))
    (CX : Q → ∀ w1, Calls Try.prog 16 #[.agg #[.int .i64 4, .int .i64 n, .float .f64 f, .string t, .bool b, .slice ip ni ic, .slice kp nk kc]] w1 (Gives (.agg #[.int .i64 14, .int .i64 0, .int .u64 0, .float .f64 0, .string ⟨#[]⟩, .bool b, .slice none 0 0, .slice none 0 0]) w1))
    (HD : Q → Doors4 n f t b m) : Calls Try.prog 11 #[.agg #[.int .i64 4, .int .i64 n, .float .f64 f, .string t, .bool b, .slice ip ni ic, .slice kp nk kc]] w (Holds w) := by
  have F1 := Lib.hid F1
  have P1 := Lib.hid P1
  have CX := Lib.hid CX
  have HD := Lib.hid HD
  go_enter Try.func11, Try.ntmps11
  go_wp2_with fail
  refine Calls.mono (by exact F1.out) ?_
  rintro e w1 ⟨r, -, rfl, hb⟩
  have T1 := Lib.hid (One.mk' hb)
  clear hb F1
  obtain ⟨a0, a1, a2, a3, a4, a5, a6⟩ := seven T1.out.fst
  cases r
  · go_wp2_with fail
    go_ret
    exact ⟨rfl, T1.out.below⟩
  go_wp2_with fail
  refine Calls.mono (by exact P1.out _ T1.out.below) ?_
  rintro e w2 ⟨r, hr, rfl, hb⟩
  have T2 := Lib.hid (T1.out.later hb)
  clear T1 a0 a1 a2 a3 a4 a5 a6
  clear hb P1
  obtain ⟨a0, a1, a2, a3, a4, a5, a6⟩ := seven T2.out.fst
  cases r
  · clear hr
    go_wp2_with fail
    go_ret
    exact ⟨rfl, T2.out.below⟩
  have HQ := Lib.hid (hr rfl)
  clear hr
  have HD := Lib.hid (HD.out HQ.out)
  have CX := Lib.hid (CX.out HQ.out)
  go_wp2_with fail
  refine Calls.mono (by exact CX.out _) ?_
  rintro e w3 ⟨rfl, hb⟩
  have T3 := Lib.hid (OneOf.mk' (p := .cells #[.int .i64 14, .int .i64 0, .int .u64 0, .float .f64 0, .string ⟨#[]⟩, .bool b, .slice none 0 0, .slice none 0 0] 35) T2.out hb)
  clear T2 hb CX a0 a1 a2 a3 a4 a5 a6
  go_wp2_with fail
  refine Calls.mono (by exact HD.out.neg _) ?_
  rintro e w4 ⟨rfl, hb⟩
  have T4 := Lib.hid (OneTwo.mk' (p2 := .cells #[.int .i64 0, .int .i64 0, .int .u64 0, .float .f64 0, .string ⟨#[]⟩, .bool false, .slice none 0 0, .slice none 0 0] 35) T3.out hb)
  clear T3 hb
  obtain ⟨a0, a1, a2, a3, a4, a5, a6⟩ := seven T4.out.one.one.fst
  obtain ⟨d0, d1, d2, d3, d4, d5, d6, d7⟩ := eight T4.out.one.blk
  go_wp2_with fail
  refine Calls.mono (by exact HD.out.int _) ?_
  rintro e w5 ⟨rfl, hb⟩
  have T5 := Lib.hid (T4.out.later hb)
  clear T4 hb a0 a1 a2 a3 a4 a5 a6 d0 d1 d2 d3 d4 d5 d6 d7
  obtain ⟨a0, a1, a2, a3, a4, a5, a6⟩ := seven T5.out.one.one.fst
  obtain ⟨d0, d1, d2, d3, d4, d5, d6, d7⟩ := eight T5.out.one.blk
  go_wp2_with fail
  refine Calls.mono (by exact HD.out.flo _) ?_
  rintro e w6 ⟨rfl, hb⟩
  have T6 := Lib.hid (T5.out.later hb)
  clear T5 hb a0 a1 a2 a3 a4 a5 a6 d0 d1 d2 d3 d4 d5 d6 d7
  obtain ⟨a0, a1, a2, a3, a4, a5, a6⟩ := seven T6.out.one.one.fst
  obtain ⟨d0, d1, d2, d3, d4, d5, d6, d7⟩ := eight T6.out.one.blk
  go_wp2_with fail
  refine Calls.mono (by exact HD.out.tru _) ?_
  rintro e w7 ⟨rfl, hb⟩
  have T7 := Lib.hid (T6.out.later hb)
  clear T6 hb a0 a1 a2 a3 a4 a5 a6 d0 d1 d2 d3 d4 d5 d6 d7
  obtain ⟨a0, a1, a2, a3, a4, a5, a6⟩ := seven T7.out.one.one.fst
  obtain ⟨d0, d1, d2, d3, d4, d5, d6, d7⟩ := eight T7.out.one.blk
  go_wp2_with fail
  refine Calls.mono (by exact HD.out.nil _) ?_
  rintro e w8 ⟨rfl, hb⟩
  have T8 := Lib.hid (T7.out.later hb)
  clear T7 hb a0 a1 a2 a3 a4 a5 a6 d0 d1 d2 d3 d4 d5 d6 d7
  obtain ⟨a0, a1, a2, a3, a4, a5, a6⟩ := seven T8.out.one.one.fst
  obtain ⟨d0, d1, d2, d3, d4, d5, d6, d7⟩ := eight T8.out.one.blk
  obtain ⟨e0, e1, e2, e3, e4, e5, e6, e7⟩ := eight T8.out.blk
  go_wp2_with fail
  go_ret
  exact ⟨rfl, T8.out.one.one.below⟩

theorem wrap_small {n : Int} (h1 : n ≤ 9007199254740992) (h2 : -9007199254740992 ≤ n) : wrap64 (-n) = -n := by
  unfold wrap64
  omega

set_option maxHeartbeats 4000000 in
set_option maxRecDepth 100000 in
theorem casts_no (k n : Int) (f : Nat) (t : ByteArray) (b : Bool) (ip kp : Option Addr) (ni ic nk kc : Nat) (w : World)
    (F1 : Calls Try.prog 14 #[.agg #[.int .i64 k, .int .i64 n, .float .f64 f, .string t, .bool b, .slice ip ni ic, .slice kp nk kc]] (w.alloc (.cells #[.int .i64 k, .int .i64 n, .float .f64 f, .string t, .bool b, .slice ip ni ic, .slice kp nk kc] 30)) (AnswersB (fun _ => True) (w.alloc (.cells #[.int .i64 k, .int .i64 n, .float .f64 f, .string t, .bool b, .slice ip ni ic, .slice kp nk kc] 30))))
    (P1 : ∀ w1, Below w.heap.size w w1 → Calls Try.prog 15 #[.agg #[.int .i64 k, .int .i64 n, .float .f64 f, .string t, .bool b, .slice ip ni ic, .slice kp nk kc]] w1 (AnswersB (fun r => r = true → False) w1)) :
    Calls Try.prog 11 #[.agg #[.int .i64 k, .int .i64 n, .float .f64 f, .string t, .bool b, .slice ip ni ic, .slice kp nk kc]] w (Holds w) := by
  have F1 := Lib.hid F1
  have P1 := Lib.hid P1
  go_enter Try.func11, Try.ntmps11
  go_wp2_with fail
  refine Calls.mono (by exact F1.out) ?_
  rintro e w1 ⟨r, -, rfl, hb⟩
  have T1 := Lib.hid (One.mk' hb)
  clear hb F1
  obtain ⟨a0, a1, a2, a3, a4, a5, a6⟩ := seven T1.out.fst
  cases r
  · go_wp2_with fail
    go_ret
    exact ⟨rfl, T1.out.below⟩
  go_wp2_with fail
  refine Calls.mono (by exact P1.out _ T1.out.below) ?_
  rintro e w2 ⟨r, hr, rfl, hb⟩
  have T2 := Lib.hid (T1.out.later hb)
  clear T1 a0 a1 a2 a3 a4 a5 a6
  clear hb P1
  obtain ⟨a0, a1, a2, a3, a4, a5, a6⟩ := seven T2.out.fst
  cases r
  · clear hr
    by_cases h1 : k = 1
    · subst h1
      by_cases g1 : 9007199254740992 < n
      all_goals
      by_cases g2 : n < -9007199254740992
      all_goals
      go_wp2_with fail
      go_ret
      exact ⟨rfl, T2.out.below⟩
    have h1' : (k == 1) = false := beq_eq_false_iff_ne.2 h1
    by_cases h2 : k = 2
    · subst h2
      clear h1 h1'
      go_wp2_with fail
      go_ret
      exact ⟨rfl, T2.out.below⟩
    have h2' : (k == 2) = false := beq_eq_false_iff_ne.2 h2
    clear h1 h2
    go_wp2_with fail
    go_ret
    exact ⟨rfl, T2.out.below⟩
  · exact (hr rfl).elim


end Go.Proofs.Ythmogfjmngbamaa
