/-
  What the four comparisons tell of plain values, as plain functions; and that the package's and the reference's agree on it.
-/
import Derived.Test.YthmogfjmngbamaaDoor
import Derived.Test.YthmogfjmngbamaaCmp
namespace Go.Proofs.Ythmogfjmngbamaa
open Go.RowKit

/-- A number as a float. -/
def SV.num (x : SV) : Option Nat := if x.kind = 1 then some (floatOfInt .f64 x.int) else if x.kind = 2 then some x.fl else none

/-- Two plain values held against each other: by whole numbers, by floats, by texts. -/
def held (fi : Int → Int → Bool) (ff : Nat → Nat → Bool) (ft : ByteArray → ByteArray → Bool) (x y : SV) : Option Bool :=
  if x.kind = 1 ∧ y.kind = 1 then some (fi x.int y.int) else if x.kind = 3 ∧ y.kind = 3 then some (ft x.text y.text) else
  match x.num, y.num with
  | some a, some b => some (ff a b)
  | _, _ => none

def lessO : SV → SV → Option Bool := held (fun m n => decide (m < n)) (fun a b => FloatKind.f64.format.order a b == some .lt) (fun s u => Op.bytesLess s.toList u.toList)
def moreO : SV → SV → Option Bool := held (fun m n => decide (n < m)) (fun a b => FloatKind.f64.format.order a b == some .gt) (fun s u => !Op.bytesLess s.toList u.toList && !(s.toList == u.toList))
def leqO : SV → SV → Option Bool := held (fun m n => decide (m ≤ n)) (fun a b => FloatKind.f64.format.order a b == some .lt || FloatKind.f64.format.order a b == some .eq) (fun s u => Op.bytesLess s.toList u.toList || s.toList == u.toList)
def geqO : SV → SV → Option Bool := held (fun m n => decide (n ≤ m)) (fun a b => FloatKind.f64.format.order a b == some .gt || FloatKind.f64.format.order a b == some .eq) (fun s u => !Op.bytesLess s.toList u.toList)

/-- It told, or it panicked. -/
def Outcome : Option Bool → World → Ending → World → Prop
  | some r => Tells (.bool r)
  | none => Dies
theorem outcome_some (r : Bool) : Outcome (some r) = Tells (.bool r) := rfl
theorem outcome_none : Outcome none = Dies := rfl

theorem kinds {k : Int} (h : 0 ≤ k ∧ k < 5) : k = 0 ∨ k = 1 ∨ k = 2 ∨ k = 3 ∨ k = 4 := by omega

theorem less_run (x y : SV) (hx : SV.Plain x) (hy : SV.Plain y) (w : World) : Calls Try.prog 50 #[x.any, y.any] w (Outcome (lessO x y) w) := by
  rcases kinds hx.kind with h | h | h | h | h <;> rcases kinds hy.kind with h' | h' | h' | h' | h' <;>
    simp only [SV.any, lessO, held, SV.num, outcome_some, outcome_none, h, h', Int.reduceEq, ↓reduceIte, and_self, and_true, and_false] <;>
    with_reducible first | exact less_nil _ w | exact less_tru _ _ w | exact less_int_int _ _ w | exact less_int_flo _ _ w | exact less_int_txt _ _ w | exact less_int_tru _ _ w | exact less_int_nil _ w | exact less_flo_int _ _ w | exact less_flo_flo _ _ w | exact less_flo_txt _ _ w | exact less_flo_tru _ _ w | exact less_flo_nil _ w | exact less_txt_int _ _ w | exact less_txt_flo _ _ w | exact less_txt_txt _ _ w | exact less_txt_tru _ _ w | exact less_txt_nil _ w

theorem more_run (x y : SV) (hx : SV.Plain x) (hy : SV.Plain y) (w : World) : Calls Try.prog 52 #[x.any, y.any] w (Outcome (moreO x y) w) := by
  rcases kinds hx.kind with h | h | h | h | h <;> rcases kinds hy.kind with h' | h' | h' | h' | h' <;>
    simp only [SV.any, moreO, held, SV.num, outcome_some, outcome_none, h, h', Int.reduceEq, ↓reduceIte, and_self, and_true, and_false] <;>
    with_reducible first | exact more_nil _ w | exact more_tru _ _ w | exact more_int_int _ _ w | exact more_int_flo _ _ w | exact more_int_txt _ _ w | exact more_int_tru _ _ w | exact more_int_nil _ w | exact more_flo_int _ _ w | exact more_flo_flo _ _ w | exact more_flo_txt _ _ w | exact more_flo_tru _ _ w | exact more_flo_nil _ w | exact more_txt_int _ _ w | exact more_txt_flo _ _ w | exact more_txt_txt _ _ w | exact more_txt_tru _ _ w | exact more_txt_nil _ w

theorem leq_run (x y : SV) (hx : SV.Plain x) (hy : SV.Plain y) (w : World) : Calls Try.prog 54 #[x.any, y.any] w (Outcome (leqO x y) w) := by
  rcases kinds hx.kind with h | h | h | h | h <;> rcases kinds hy.kind with h' | h' | h' | h' | h' <;>
    simp only [SV.any, leqO, held, SV.num, outcome_some, outcome_none, h, h', Int.reduceEq, ↓reduceIte, and_self, and_true, and_false] <;>
    with_reducible first | exact leq_nil _ w | exact leq_tru _ _ w | exact leq_int_int _ _ w | exact leq_int_flo _ _ w | exact leq_int_txt _ _ w | exact leq_int_tru _ _ w | exact leq_int_nil _ w | exact leq_flo_int _ _ w | exact leq_flo_flo _ _ w | exact leq_flo_txt _ _ w | exact leq_flo_tru _ _ w | exact leq_flo_nil _ w | exact leq_txt_int _ _ w | exact leq_txt_flo _ _ w | exact leq_txt_txt _ _ w | exact leq_txt_tru _ _ w | exact leq_txt_nil _ w

theorem geq_run (x y : SV) (hx : SV.Plain x) (hy : SV.Plain y) (w : World) : Calls Try.prog 56 #[x.any, y.any] w (Outcome (geqO x y) w) := by
  rcases kinds hx.kind with h | h | h | h | h <;> rcases kinds hy.kind with h' | h' | h' | h' | h' <;>
    simp only [SV.any, geqO, held, SV.num, outcome_some, outcome_none, h, h', Int.reduceEq, ↓reduceIte, and_self, and_true, and_false] <;>
    with_reducible first | exact geq_nil _ w | exact geq_tru _ _ w | exact geq_int_int _ _ w | exact geq_int_flo _ _ w | exact geq_int_txt _ _ w | exact geq_int_tru _ _ w | exact geq_int_nil _ w | exact geq_flo_int _ _ w | exact geq_flo_flo _ _ w | exact geq_flo_txt _ _ w | exact geq_flo_tru _ _ w | exact geq_flo_nil _ w | exact geq_txt_int _ _ w | exact geq_txt_flo _ _ w | exact geq_txt_txt _ _ w | exact geq_txt_tru _ _ w | exact geq_txt_nil _ w


namespace SV
def nf (x : SV) : Nat := x.num.getD 0
def isn (x : SV) : Bool := x.num.isSome
end SV

set_option maxHeartbeats 400000 in
set_option maxRecDepth 100000 in
/-- 'spec.V.number'. -/
theorem number_any (x : SV) (w : World) : Calls Try.prog 99 #[x.val] w (Gives (.tuple #[.float .f64 x.nf, .bool x.isn]) w) := by
  cases x with
  | mk k n f t b ip ic items kp kc keys =>
  simp only [SV.nf, SV.isn, SV.num, SV.val, SV.kind, SV.int, SV.fl, SV.text, SV.bool, SV.ip, SV.ic, SV.items, SV.kp, SV.kc, SV.keys]
  by_cases h1 : k = 1
  · subst h1
    go_enter Try.func99, Try.ntmps99
    go_wp2_with fail
    go_ret2
    exact ⟨rfl, (Below.refl _ _).alloc (Nat.le_refl _) _⟩
  by_cases h2 : k = 2
  · subst h2
    go_enter Try.func99, Try.ntmps99
    go_wp2_with fail
    go_ret2
    exact ⟨rfl, (Below.refl _ _).alloc (Nat.le_refl _) _⟩
  · have e1 : (k == 1) = false := beq_eq_false_iff_ne.2 h1
    have e2 : (k == 2) = false := beq_eq_false_iff_ne.2 h2
    go_enter Try.func99, Try.ntmps99
    go_wp2_with fail
    go_ret2
    exact ⟨rfl, (Below.refl _ _).alloc (Nat.le_refl _) _⟩

/-- A box of a value's seven cells: what it holds in a later world. -/
theorem held_box {w w1 : World} {cs : Array Value} (hb : Below (w.alloc (.cells cs 30)).heap.size (w.alloc (.cells cs 30)) w1) (j : Nat) (u : Value) (hu : cs[j]? = some u) : w1.cell? ⟨w.heap.size, j, none⟩ = some u := by
  have := (hb.block w.heap.size (by simp)).trans (heap_alloc_new w _)
  simp [World.cell?, this, hu]

theorem second_box {w w1 : World} {o1 : Obj} {cs : Array Value} {t : TypeId} (hb : Below ((w.alloc o1).alloc (.cells cs t)).heap.size ((w.alloc o1).alloc (.cells cs t)) w1) (j : Nat) (u : Value) (hu : cs[j]? = some u) :
    w1.cell? ⟨w.heap.size + 1, j, none⟩ = some u := by
  have h := heap_alloc_new (w.alloc o1) (.cells cs t)
  rw [World.size_alloc] at h
  have := (hb.block (w.heap.size + 1) (by simp)).trans h
  simp [World.cell?, this, hu]

set_option maxHeartbeats 4000000 in
set_option maxRecDepth 100000 in
/-- 'spec.less'. -/
theorem sless_any (x y : SV) (w : World) : Calls Try.prog 57 #[x.val, y.val] w (Gives (.tuple #[.bool ((lessO x y).getD false), .bool (lessO x y).isSome]) w) := by
  have HX := Lib.hid (number_any x)
  have HY := Lib.hid (number_any y)
  have hnx : x.nf = x.num.getD 0 := rfl
  have hny : y.nf = y.num.getD 0 := rfl
  have hix : x.isn = x.num.isSome := rfl
  have hiy : y.isn = y.num.isSome := rfl
  generalize x.nf = xf at *
  generalize x.isn = xi at *
  generalize y.nf = yf at *
  generalize y.isn = yi at *
  have HR : Hid (¬ (x.kind = 3 ∧ y.kind = 3) → ¬ (x.kind = 1 ∧ y.kind = 1) → lessO x y = if xi = true ∧ yi = true then some (FloatKind.f64.format.order xf yf == some .lt) else none) := fun h1 h2 => by
    unfold lessO held
    rw [if_neg h2, if_neg h1, hnx, hny, hix, hiy]
    cases x.num <;> cases y.num <;> rfl
  clear hnx hny hix hiy
  cases x with
  | mk k n f t b ip ic items kp kc keys =>
  cases y with
  | mk k2 n2 f2 t2 b2 ip2 ic2 items2 kp2 kc2 keys2 =>
  simp only [SV.val, SV.kind, SV.int, SV.fl, SV.text, SV.bool, SV.ip, SV.ic, SV.items, SV.kp, SV.kc, SV.keys] at *
  by_cases h3 : k = 3 ∧ k2 = 3
  · obtain ⟨rfl, rfl⟩ := h3
    clear HR
    go_enter Try.func57, Try.ntmps57
    go_wp2_with fail
    go_ret2
    exact ⟨rfl, ((Below.refl _ _).alloc (Nat.le_refl _) _).alloc (by simp) _⟩
  by_cases h1 : k = 1 ∧ k2 = 1
  · obtain ⟨rfl, rfl⟩ := h1
    clear HR
    go_enter Try.func57, Try.ntmps57
    go_wp2_with fail
    go_ret2
    exact ⟨rfl, ((Below.refl _ _).alloc (Nat.le_refl _) _).alloc (by simp) _⟩
  have HR2 := Lib.hid (HR.out h3 h1)
  clear HR
  have hk : (k = 3 ∧ k2 ≠ 3) ∨ (k = 1 ∧ k2 ≠ 1) ∨ (k ≠ 3 ∧ k ≠ 1) := by omega
  clear h3 h1
  rcases hk with ⟨rfl, h⟩ | ⟨rfl, h⟩ | ⟨h, h'⟩
  · have e1 : (k2 == 3) = false := beq_eq_false_iff_ne.2 h
    clear h
    cases xi <;> cases yi
    all_goals
      go_enter Try.func57, Try.ntmps57
      go_wp2_with fail
      refine Calls.mono (by exact HX.out _) ?_
      rintro e w1 ⟨rfl, hb⟩
      have c0 := second_box hb 0 _ rfl
      have c1 := second_box hb 1 _ rfl
      have c2 := second_box hb 2 _ rfl
      have c3 := second_box hb 3 _ rfl
      have c4 := second_box hb 4 _ rfl
      have c5 := second_box hb 5 _ rfl
      have c6 := second_box hb 6 _ rfl
      have hB := Lib.hid ((((Below.refl w.heap.size w).alloc (Nat.le_refl _) _).alloc (by simp) _).trans (hb.mono (by simp; omega)))
      clear hb
      go_wp2_with fail
      refine Calls.mono (by exact HY.out _) ?_
      rintro e w2 ⟨rfl, hb2⟩
      have hB2 := Lib.hid (hB.out.trans (hb2.mono hB.out.size))
      clear hb2
      go_wp2_with fail
      go_ret2
      rw [HR2.out]
      exact ⟨rfl, hB2.out⟩
  · have e1 : (k2 == 1) = false := beq_eq_false_iff_ne.2 h
    clear h
    cases xi <;> cases yi
    all_goals
      go_enter Try.func57, Try.ntmps57
      go_wp2_with fail
      refine Calls.mono (by exact HX.out _) ?_
      rintro e w1 ⟨rfl, hb⟩
      have c0 := second_box hb 0 _ rfl
      have c1 := second_box hb 1 _ rfl
      have c2 := second_box hb 2 _ rfl
      have c3 := second_box hb 3 _ rfl
      have c4 := second_box hb 4 _ rfl
      have c5 := second_box hb 5 _ rfl
      have c6 := second_box hb 6 _ rfl
      have hB := Lib.hid ((((Below.refl w.heap.size w).alloc (Nat.le_refl _) _).alloc (by simp) _).trans (hb.mono (by simp; omega)))
      clear hb
      go_wp2_with fail
      refine Calls.mono (by exact HY.out _) ?_
      rintro e w2 ⟨rfl, hb2⟩
      have hB2 := Lib.hid (hB.out.trans (hb2.mono hB.out.size))
      clear hb2
      go_wp2_with fail
      go_ret2
      rw [HR2.out]
      exact ⟨rfl, hB2.out⟩
  · have e1 : (k == 1) = false := beq_eq_false_iff_ne.2 h'
    have e3 : (k == 3) = false := beq_eq_false_iff_ne.2 h
    clear h h'
    cases xi <;> cases yi
    all_goals
      go_enter Try.func57, Try.ntmps57
      go_wp2_with fail
      refine Calls.mono (by exact HX.out _) ?_
      rintro e w1 ⟨rfl, hb⟩
      have c0 := second_box hb 0 _ rfl
      have c1 := second_box hb 1 _ rfl
      have c2 := second_box hb 2 _ rfl
      have c3 := second_box hb 3 _ rfl
      have c4 := second_box hb 4 _ rfl
      have c5 := second_box hb 5 _ rfl
      have c6 := second_box hb 6 _ rfl
      have hB := Lib.hid ((((Below.refl w.heap.size w).alloc (Nat.le_refl _) _).alloc (by simp) _).trans (hb.mono (by simp; omega)))
      clear hb
      go_wp2_with fail
      refine Calls.mono (by exact HY.out _) ?_
      rintro e w2 ⟨rfl, hb2⟩
      have hB2 := Lib.hid (hB.out.trans (hb2.mono hB.out.size))
      clear hb2
      go_wp2_with fail
      go_ret2
      rw [HR2.out]
      exact ⟨rfl, hB2.out⟩

/-! ### The four comparisons hang together -/

theorem bytesLess_swap : ∀ (a b : List UInt8), (Op.bytesLess a b || a == b) = !Op.bytesLess b a := by
  intro a
  induction a with
  | nil => intro b; cases b <;> simp [Op.bytesLess]
  | cons x r ih =>
    intro b
    cases b with
    | nil => simp [Op.bytesLess]
    | cons y q =>
      simp only [Op.bytesLess]
      by_cases h2 : x = y
      · subst h2
        have hx : ¬ x < x := by rw [UInt8.lt_iff_toNat_lt]; omega
        have := ih q
        simp only [hx, decide_false, Bool.false_or, beq_self_eq_true, Bool.true_and]
        rw [← this]
        congr 1
        rw [Bool.eq_iff_iff]; simp
      · have h3 : ¬ y = x := fun e => h2 e.symm
        have e1 : (x == y) = false := beq_eq_false_iff_ne.2 h2
        have e2 : (y == x) = false := beq_eq_false_iff_ne.2 h3
        have e3 : (x :: r == y :: q) = false := by rw [beq_eq_false_iff_ne]; intro e; cases e; exact h2 rfl
        have hne : x.toNat ≠ y.toNat := fun e => h2 (UInt8.toNat_inj.1 e)
        rw [e1, e2, e3]
        simp only [Bool.false_and, Bool.or_false]
        by_cases h1 : x < y
        · have h4 : ¬ y < x := by rw [UInt8.lt_iff_toNat_lt] at h1 ⊢; omega
          simp [h1, h4]
        · have h4 : y < x := by rw [UInt8.lt_iff_toNat_lt] at h1 ⊢; omega
          simp [h1, h4]

theorem order_floats {a b : Nat} (ha : NotNaN a) (hb : NotNaN b) :
    (FloatKind.f64.format.order a b == some .gt) = (FloatKind.f64.format.order b a == some .lt) ∧
    (FloatKind.f64.format.order a b == some .lt || FloatKind.f64.format.order a b == some .eq) = !(FloatKind.f64.format.order b a == some .lt) ∧
    (FloatKind.f64.format.order a b == some .gt || FloatKind.f64.format.order a b == some .eq) = !(FloatKind.f64.format.order a b == some .lt) := by
  obtain ⟨o, ho⟩ := order_some' ha hb
  have hs := order_swap a b
  have h1 : FloatKind.f64.format.order a b = some o := ho
  have h2 : FloatKind.f64.format.order b a = some o.swap := by
    show Ieee.double.order b a = _
    rw [hs, ho]; rfl
  rw [h1, h2]
  cases o <;> decide

theorem num_notNaN {x : SV} (hx : SV.Plain x) {a : Nat} (h : x.num = some a) : NotNaN a := by
  unfold SV.num at h
  split at h
  · cases h; exact nearest_notNaN _
  · split at h
    · cases h; exact hx.fl.notNaN
    · cases h

theorem held_num {fi : Int → Int → Bool} {ff : Nat → Nat → Bool} {ft : ByteArray → ByteArray → Bool} {x y : SV} {a b : Nat} (h1 : ¬ (x.kind = 1 ∧ y.kind = 1)) (h3 : ¬ (x.kind = 3 ∧ y.kind = 3)) (ha : x.num = some a) (hb : y.num = some b) :
    held fi ff ft x y = some (ff a b) := by
  unfold held
  rw [if_neg h1, if_neg h3, ha, hb]
theorem held_none {fi : Int → Int → Bool} {ff : Nat → Nat → Bool} {ft : ByteArray → ByteArray → Bool} {x y : SV} (h1 : ¬ (x.kind = 1 ∧ y.kind = 1)) (h3 : ¬ (x.kind = 3 ∧ y.kind = 3)) (h : x.num = none ∨ y.num = none) :
    held fi ff ft x y = none := by
  unfold held
  rw [if_neg h1, if_neg h3]
  rcases h with h | h
  · rw [h]
  · rw [h]; cases x.num <;> rfl

theorem order_all (x y : SV) (hx : SV.Plain x) (hy : SV.Plain y) :
    (∃ l b : Bool, lessO x y = some l ∧ moreO x y = some b ∧ leqO x y = some (!b) ∧ geqO x y = some (!l) ∧ lessO y x = some b) ∨
    (lessO x y = none ∧ moreO x y = none ∧ leqO x y = none ∧ geqO x y = none ∧ lessO y x = none) := by
  unfold lessO moreO leqO geqO
  by_cases h1 : x.kind = 1 ∧ y.kind = 1
  · left
    have h1' : y.kind = 1 ∧ x.kind = 1 := ⟨h1.2, h1.1⟩
    refine ⟨decide (x.int < y.int), decide (y.int < x.int), ?_⟩
    simp only [held, if_pos h1, if_pos h1', true_and, Option.some.injEq, and_true]
    constructor
    · rw [Bool.eq_iff_iff]; simp
    · rw [Bool.eq_iff_iff]; simp
  have h1' : ¬ (y.kind = 1 ∧ x.kind = 1) := fun h => h1 ⟨h.2, h.1⟩
  by_cases h3 : x.kind = 3 ∧ y.kind = 3
  · left
    have h3' : y.kind = 3 ∧ x.kind = 3 := ⟨h3.2, h3.1⟩
    refine ⟨Op.bytesLess x.text.toList y.text.toList, Op.bytesLess y.text.toList x.text.toList, ?_⟩
    simp only [held, if_neg h1, if_neg h1', if_pos h3, if_pos h3', true_and, Option.some.injEq, and_true]
    have hs := bytesLess_swap x.text.toList y.text.toList
    refine ⟨?_, hs⟩
    rw [← Bool.not_or, hs, Bool.not_not]
  have h3' : ¬ (y.kind = 3 ∧ x.kind = 3) := fun h => h3 ⟨h.2, h.1⟩
  cases ha : x.num with
  | none =>
    right
    exact ⟨held_none h1 h3 (.inl ha), held_none h1 h3 (.inl ha), held_none h1 h3 (.inl ha), held_none h1 h3 (.inl ha), held_none h1' h3' (.inr ha)⟩
  | some a =>
    cases hb : y.num with
    | none =>
      right
      exact ⟨held_none h1 h3 (.inr hb), held_none h1 h3 (.inr hb), held_none h1 h3 (.inr hb), held_none h1 h3 (.inr hb), held_none h1' h3' (.inl hb)⟩
    | some b =>
      left
      obtain ⟨e1, e2, e3⟩ := order_floats (num_notNaN hx ha) (num_notNaN hy hb)
      refine ⟨FloatKind.f64.format.order a b == some .lt, FloatKind.f64.format.order b a == some .lt, held_num h1 h3 ha hb, ?_, ?_, ?_, held_num h1' h3' hb ha⟩
      · rw [held_num h1 h3 ha hb, e1]
      · rw [held_num h1 h3 ha hb, e2]
      · rw [held_num h1 h3 ha hb, e3]
end Go.Proofs.Ythmogfjmngbamaa
