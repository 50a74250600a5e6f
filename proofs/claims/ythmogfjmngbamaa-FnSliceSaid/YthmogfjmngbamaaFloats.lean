/-
  What the laws need of floats: x - x, comparisons turned round, a NaN whose bits are open.
-/
import Derived.Test.YthmogfjmngbamaaVals
import Derived.WalkLawsBesides
import Derived.WideLaws
namespace Go.Proofs.Ythmogfjmngbamaa
open Go.RowKit Ieee

/-- A float is a number: it less itself is 0. -/
def Fin (f : Nat) : Prop := Ieee.double.sub f f = some 0

theorem sub_self_number (s : Bool) (m : Nat) (i : Int) : (Datum.number s m i).sum (Datum.number s m i).opposite = some (.number false 0 i) := by
  simp only [Datum.opposite, Datum.sum, Int.min_self, Int.sub_self, Int.toNat_zero]
  cases s <;> simp [signed] <;> omega

theorem fin_or (f : Nat) : Fin f ∨ Ieee.double.sub f f = none := by
  unfold Fin Format.sub
  cases h : Ieee.double.read f with
  | number s m i =>
    left
    rw [sub_self_number]
    rfl
  | infinity s => right; cases s <;> rfl
  | nan s t => right; rfl

/-- What the tape gives for an invalid operation is a NaN. -/
theorem nan_of_tape (x y t : Nat) : ∃ s u, Ieee.double.read ((Question.nanBits .f64 x y).cut t) = .nan s u := by
  have hb : (Question.nanBits .f64 x y).cut t = (t % 2) * 2 ^ 63 + 0x7ff0000000000000 + 1 + (t / 2) % (2 ^ 52 - 1) := by
    rfl
  rw [hb]
  have h1 : (t / 2) % (2 ^ 52 - 1) < 2 ^ 52 - 1 := Nat.mod_lt _ (by decide)
  generalize (t / 2) % (2 ^ 52 - 1) = r at h1 ⊢
  have h2 : t % 2 < 2 := Nat.mod_lt _ (by decide)
  generalize t % 2 = q at h2 ⊢
  have e1 : Ieee.double.signWeight = 9223372036854775808 := by decide
  have e2 : Ieee.double.binade = 4503599627370496 := by decide
  have e3 : Ieee.double.infRung = 9218868437227405312 := by decide
  simp only [Format.read, e1, e2, e3]
  have e4 : (q * 2 ^ 63 + 9218868437227405312 + 1 + r) % 9223372036854775808 = 9218868437227405312 + 1 + r := by omega
  rw [e4, if_neg (by omega), if_neg (by omega), if_neg (by omega)]
  exact ⟨_, _, rfl⟩

theorem nan_order (x y t z : Nat) : Ieee.double.order ((Question.nanBits .f64 x y).cut t) z = none := by
  obtain ⟨s, u, h⟩ := nan_of_tape x y t
  simp only [Format.order, h]
  cases Ieee.double.read z <;> rfl

/-- A number is no NaN. -/
theorem fin_read {f : Nat} (h : Fin f) : ∃ s m i, Ieee.double.read f = .number s m i := by
  unfold Fin Format.sub at h
  cases hf : Ieee.double.read f with
  | number s m i => exact ⟨s, m, i, rfl⟩
  | infinity s => rw [hf] at h; cases s <;> cases h
  | nan s t => rw [hf] at h; cases h

theorem order_self {f : Nat} (h : Fin f) : Ieee.double.order f f = some .eq := by
  obtain ⟨s, m, i, hf⟩ := fin_read h
  simp [Format.order, hf, Datum.order]

/-- Comparisons turned round. -/
theorem order_swap (f g : Nat) : Ieee.double.order g f = (Ieee.double.order f g).map Ordering.swap := by
  unfold Format.order
  cases Ieee.double.read f <;> cases Ieee.double.read g <;> simp only [Datum.order, Option.map_some, Option.map_none]
  · rename_i s m i t n j
    rw [Int.min_comm j i]
    generalize signed s m _ = a
    generalize signed t n _ = b
    exact congrArg some Std.OrientedCmp.eq_swap
  · rename_i s t
    cases t <;> rfl
  · rename_i s t n j
    cases s <;> rfl
  · rename_i s t
    cases s <;> cases t <;> rfl

/-- Numbers can be compared. -/
theorem order_some {f g : Nat} (hf : Fin f) (hg : Fin g) : ∃ o, Ieee.double.order f g = some o := by
  obtain ⟨s, m, i, h1⟩ := fin_read hf
  obtain ⟨t, n, j, h2⟩ := fin_read hg
  exact ⟨_, by rw [Format.order, h1, h2]; rfl⟩

/-- No NaN. -/
def NotNaN (f : Nat) : Prop := ∀ s u, Ieee.double.read f ≠ .nan s u

theorem Fin.notNaN {f : Nat} (h : Fin f) : NotNaN f := by
  obtain ⟨s, m, i, h1⟩ := fin_read h
  intro s u h2
  rw [h1] at h2
  cases h2

theorem order_some' {f g : Nat} (hf : NotNaN f) (hg : NotNaN g) : ∃ o, Ieee.double.order f g = some o := by
  unfold Format.order
  cases h1 : Ieee.double.read f with
  | nan s u => exact absurd h1 (hf s u)
  | number s m i =>
    cases h2 : Ieee.double.read g with
    | nan s u => exact absurd h2 (hg s u)
    | number t n j => exact ⟨_, rfl⟩
    | infinity t => exact ⟨_, rfl⟩
  | infinity s =>
    cases h2 : Ieee.double.read g with
    | nan s u => exact absurd h2 (hg s u)
    | number t n j => exact ⟨_, rfl⟩
    | infinity t => exact ⟨_, rfl⟩

theorem read_word (neg : Bool) (r : Nat) (h : r ≤ 9218868437227405312) : NotNaN (Ieee.double.word neg r) := by
  have e1 : Ieee.double.signWeight = 9223372036854775808 := by decide
  have e2 : Ieee.double.binade = 4503599627370496 := by decide
  have e3 : Ieee.double.infRung = 9218868437227405312 := by decide
  have e4 : Ieee.double.word neg r % 9223372036854775808 = r := by
    unfold Format.word
    rw [e1]
    split <;> omega
  intro s u
  simp only [Format.read, e1, e2, e3, e4]
  split
  · intro h; cases h
  · split
    · intro h; cases h
    · split
      · intro h; cases h
      · omega

/-- A whole number as a float is no NaN. -/
theorem nearest_notNaN (n : Int) : NotNaN (floatOfInt .f64 n) := by
  unfold floatOfInt FloatKind.nearest FloatKind.encode Format.write
  simp only [FloatKind.format, Format.nearest]
  have e3 : Ieee.double.infRung = 9218868437227405312 := by decide
  split
  · exact read_word _ _ (by omega)
  · exact read_word _ _ (by rw [e3]; omega)

/-! As the walk spells it. -/
theorem run_sub_fin {f : Nat} (h : Fin f) (w : World) : (binOp .sub 26 (.float .f64 f) (.float .f64 f)).run Try.prog w = .ok (.float .f64 0) w :=
  run_float_arith w .sub 26 .f64 f f 0 h
theorem run_sub_nan {f : Nat} (h : Ieee.double.sub f f = none) (w : World) :
    (binOp .sub 26 (.float .f64 f) (.float .f64 f)).run Try.prog w = .ok (.float .f64 ((Question.nanBits .f64 f f).cut (w.tape w.drawn (.nanBits .f64 f f)))) w.drew := by
  have h' : FloatKind.f64.format.sub f f = none := h
  simp [binOp, Op.floatArith, h', choose, Sem.run, Question.forced]
theorem zero_order : (FloatKind.f64.format.order 0 0 != some .eq) = false := by decide
theorem tape_order (x y t z : Nat) : (FloatKind.f64.format.order ((Question.nanBits .f64 x y).cut t) z != some .eq) = true := by
  show (Ieee.double.order _ z != some .eq) = true
  rw [nan_order]; rfl
@[go_sem] theorem run_store_float {P : Program} (w : World) (a : Addr) (m : Mode) (k : FloatKind) (b : Nat) : (store a (.float k b) m).run P w = stored P w a (.float k b) m := run_store P w a _ m rfl

/-! Equality of strings, as the walk spells it. -/
theorem ba_beq (a b : ByteArray) : (a.toList == b.toList) = decide (a = b) := by
  rw [ByteArray.toList_eq, ByteArray.toList_eq]
  obtain ⟨⟨x⟩⟩ := a
  obtain ⟨⟨y⟩⟩ := b
  rw [Bool.eq_iff_iff]
  simp
theorem ba_true {a b : ByteArray} (h : a = b) : (a.toList == b.toList) = true := by rw [ba_beq]; exact decide_eq_true h
theorem ba_false {a b : ByteArray} (h : ¬ a = b) : (a.toList == b.toList) = false := by rw [ba_beq]; exact decide_eq_false h
end Go.Proofs.Ythmogfjmngbamaa
