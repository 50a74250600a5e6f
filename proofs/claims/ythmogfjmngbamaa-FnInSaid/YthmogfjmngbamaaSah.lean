/-
  'spec.arithmetic' and 'spec.CuArithmetic' walked at plain values.
-/
import Derived.Test.YthmogfjmngbamaaDoors
namespace Go.Proofs.Ythmogfjmngbamaa
open Go.RowKit
set_option linter.unusedSimpArgs false
set_option linter.unusedVariables false

/-- What the reference tells of an operation: its result, and whether there is one. -/
def arRes : Option SV → Value
  | some y => .tuple #[y.val, .bool true]
  | none => .tuple #[zeroV, .bool false]

theorem SV.ofInt_val (n : Int) : (SV.ofInt n).val = .agg #[.int .i64 1, .int .i64 n, .float .f64 0, .string ⟨#[]⟩, .bool false, .slice none 0 0, .slice none 0 0] := rfl
theorem SV.ofFloat_val (f : Nat) : (SV.ofFloat f).val = .agg #[.int .i64 2, .int .i64 0, .float .f64 f, .string ⟨#[]⟩, .bool false, .slice none 0 0, .slice none 0 0] := rfl
theorem SV.ofText_val (t : ByteArray) : (SV.ofText t).val = .agg #[.int .i64 3, .int .i64 0, .float .f64 0, .string t, .bool false, .slice none 0 0, .slice none 0 0] := rfl

theorem seven_later {w1 : World} {b : Nat} {o : Obj} (h : w1.heap[b]? = some o) (p : Obj) : (w1.alloc p).heap[b]? = some o :=
  (Below.heap_alloc _ _ _ (lt_of_block h)).trans h

theorem any_seven {w1 : World} {b : Nat} {c0 c1 c2 c3 c4 c5 c6 : Value} {t : TypeId} (h : w1.heap[b]? = some (.cells #[c0, c1, c2, c3, c4, c5, c6] t (0, 0))) :
    (∀ o, (w1.alloc o).cell? ⟨b, 0, none⟩ = some c0) ∧ (∀ o, (w1.alloc o).cell? ⟨b, 1, none⟩ = some c1) ∧ (∀ o, (w1.alloc o).cell? ⟨b, 2, none⟩ = some c2) ∧ (∀ o, (w1.alloc o).cell? ⟨b, 3, none⟩ = some c3) ∧
    (∀ o, (w1.alloc o).cell? ⟨b, 4, none⟩ = some c4) ∧ (∀ o, (w1.alloc o).cell? ⟨b, 5, none⟩ = some c5) ∧ (∀ o, (w1.alloc o).cell? ⟨b, 6, none⟩ = some c6) ∧ (∀ o j, (w1.alloc o).frozen? ⟨b, j, none⟩ = false) :=
  ⟨fun o => cell_at_block (seven_later h o) 0 _ rfl, fun o => cell_at_block (seven_later h o) 1 _ rfl, fun o => cell_at_block (seven_later h o) 2 _ rfl, fun o => cell_at_block (seven_later h o) 3 _ rfl,
    fun o => cell_at_block (seven_later h o) 4 _ rfl, fun o => cell_at_block (seven_later h o) 5 _ rfl, fun o => cell_at_block (seven_later h o) 6 _ rfl, fun o j => free_block (seven_later h o) j⟩

end Go.Proofs.Ythmogfjmngbamaa
