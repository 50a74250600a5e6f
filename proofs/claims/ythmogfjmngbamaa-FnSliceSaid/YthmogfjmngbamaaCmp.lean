/-
  'runtime.Less', 'More', 'LessOrEqual', 'MoreOrEqual' walked at numbers, texts, truths and nil.
-/
import Derived.Test.YthmogfjmngbamaaAssert
namespace Go.Proofs.Ythmogfjmngbamaa
open Go.RowKit

/-- It returned a value, and the world is as it was. -/
def Tells (v : Value) (w : World) (e : Ending) (w' : World) : Prop := e = .returned v ∧ w = w'
/-- It panicked with "invalid operation", and the world is as it was. -/
def invalidOp : ByteArray := ⟨#[105, 110, 118, 97, 108, 105, 100, 32, 111, 112, 101, 114, 97, 116, 105, 111, 110]⟩
def Dies (w : World) (e : Ending) (w' : World) : Prop := e = .panicked [{ v := .iface 9 (.string invalidOp), recovered := false }] ∧ w = w'

set_option maxRecDepth 100000 in
theorem less_int_int (m : Int) (n : Int) (w : World) : Calls Try.prog 50 #[.iface 3 (.int .i64 m), .iface 3 (.int .i64 n)] w (Tells (.bool (decide (m < n))) w) := by
  go_enter Try.func50, Try.ntmps50
  go_wp2_with fail
  go_ret
  exact ⟨rfl, rfl⟩
set_option maxRecDepth 100000 in
theorem less_int_flo (m : Int) (b : Nat) (w : World) : Calls Try.prog 50 #[.iface 3 (.int .i64 m), .iface 26 (.float .f64 b)] w (Tells (.bool (FloatKind.f64.format.order (floatOfInt .f64 m) (b) == some .lt)) w) := by
  go_enter Try.func50, Try.ntmps50
  go_wp2_with fail
  go_ret
  exact ⟨rfl, rfl⟩
set_option maxRecDepth 100000 in
theorem less_int_txt (m : Int) (u : ByteArray) (w : World) : Calls Try.prog 50 #[.iface 3 (.int .i64 m), .iface 9 (.string u)] w (Dies w) := by
  go_enter Try.func50, Try.ntmps50
  go_wp2_with fail
  exact ⟨rfl, rfl, rfl⟩
set_option maxRecDepth 100000 in
theorem less_int_tru (m : Int) (d : Bool) (w : World) : Calls Try.prog 50 #[.iface 3 (.int .i64 m), .iface 4 (.bool d)] w (Dies w) := by
  go_enter Try.func50, Try.ntmps50
  go_wp2_with fail
  exact ⟨rfl, rfl, rfl⟩
set_option maxRecDepth 100000 in
theorem less_int_nil (m : Int)  (w : World) : Calls Try.prog 50 #[.iface 3 (.int .i64 m), .nilIface] w (Dies w) := by
  go_enter Try.func50, Try.ntmps50
  go_wp2_with fail
  exact ⟨rfl, rfl, rfl⟩
set_option maxRecDepth 100000 in
theorem less_flo_int (a : Nat) (n : Int) (w : World) : Calls Try.prog 50 #[.iface 26 (.float .f64 a), .iface 3 (.int .i64 n)] w (Tells (.bool (FloatKind.f64.format.order (a) (floatOfInt .f64 n) == some .lt)) w) := by
  go_enter Try.func50, Try.ntmps50
  go_wp2_with fail
  go_ret
  exact ⟨rfl, rfl⟩
set_option maxRecDepth 100000 in
theorem less_flo_flo (a : Nat) (b : Nat) (w : World) : Calls Try.prog 50 #[.iface 26 (.float .f64 a), .iface 26 (.float .f64 b)] w (Tells (.bool (FloatKind.f64.format.order (a) (b) == some .lt)) w) := by
  go_enter Try.func50, Try.ntmps50
  go_wp2_with fail
  go_ret
  exact ⟨rfl, rfl⟩
set_option maxRecDepth 100000 in
theorem less_flo_txt (a : Nat) (u : ByteArray) (w : World) : Calls Try.prog 50 #[.iface 26 (.float .f64 a), .iface 9 (.string u)] w (Dies w) := by
  go_enter Try.func50, Try.ntmps50
  go_wp2_with fail
  exact ⟨rfl, rfl, rfl⟩
set_option maxRecDepth 100000 in
theorem less_flo_tru (a : Nat) (d : Bool) (w : World) : Calls Try.prog 50 #[.iface 26 (.float .f64 a), .iface 4 (.bool d)] w (Dies w) := by
  go_enter Try.func50, Try.ntmps50
  go_wp2_with fail
  exact ⟨rfl, rfl, rfl⟩
set_option maxRecDepth 100000 in
theorem less_flo_nil (a : Nat)  (w : World) : Calls Try.prog 50 #[.iface 26 (.float .f64 a), .nilIface] w (Dies w) := by
  go_enter Try.func50, Try.ntmps50
  go_wp2_with fail
  exact ⟨rfl, rfl, rfl⟩
set_option maxRecDepth 100000 in
theorem less_txt_int (s : ByteArray) (n : Int) (w : World) : Calls Try.prog 50 #[.iface 9 (.string s), .iface 3 (.int .i64 n)] w (Dies w) := by
  go_enter Try.func50, Try.ntmps50
  go_wp2_with fail
  exact ⟨rfl, rfl, rfl⟩
set_option maxRecDepth 100000 in
theorem less_txt_flo (s : ByteArray) (b : Nat) (w : World) : Calls Try.prog 50 #[.iface 9 (.string s), .iface 26 (.float .f64 b)] w (Dies w) := by
  go_enter Try.func50, Try.ntmps50
  go_wp2_with fail
  exact ⟨rfl, rfl, rfl⟩
set_option maxRecDepth 100000 in
theorem less_txt_txt (s : ByteArray) (u : ByteArray) (w : World) : Calls Try.prog 50 #[.iface 9 (.string s), .iface 9 (.string u)] w (Tells (.bool (Op.bytesLess s.toList u.toList)) w) := by
  go_enter Try.func50, Try.ntmps50
  go_wp2_with fail
  go_ret
  exact ⟨rfl, rfl⟩
set_option maxRecDepth 100000 in
theorem less_txt_tru (s : ByteArray) (d : Bool) (w : World) : Calls Try.prog 50 #[.iface 9 (.string s), .iface 4 (.bool d)] w (Dies w) := by
  go_enter Try.func50, Try.ntmps50
  go_wp2_with fail
  exact ⟨rfl, rfl, rfl⟩
set_option maxRecDepth 100000 in
theorem less_txt_nil (s : ByteArray)  (w : World) : Calls Try.prog 50 #[.iface 9 (.string s), .nilIface] w (Dies w) := by
  go_enter Try.func50, Try.ntmps50
  go_wp2_with fail
  exact ⟨rfl, rfl, rfl⟩
set_option maxRecDepth 100000 in
theorem less_tru (c : Bool) (v : Value) (w : World) : Calls Try.prog 50 #[.iface 4 (.bool c), v] w (Dies w) := by
  go_enter Try.func50, Try.ntmps50
  go_wp2_with fail
  exact ⟨rfl, rfl, rfl⟩
set_option maxRecDepth 100000 in
theorem less_nil  (v : Value) (w : World) : Calls Try.prog 50 #[.nilIface, v] w (Dies w) := by
  go_enter Try.func50, Try.ntmps50
  go_wp2_with fail
  exact ⟨rfl, rfl, rfl⟩
set_option maxRecDepth 100000 in
theorem more_int_int (m : Int) (n : Int) (w : World) : Calls Try.prog 52 #[.iface 3 (.int .i64 m), .iface 3 (.int .i64 n)] w (Tells (.bool (decide (n < m))) w) := by
  go_enter Try.func52, Try.ntmps52
  go_wp2_with fail
  go_ret
  exact ⟨rfl, rfl⟩
set_option maxRecDepth 100000 in
theorem more_int_flo (m : Int) (b : Nat) (w : World) : Calls Try.prog 52 #[.iface 3 (.int .i64 m), .iface 26 (.float .f64 b)] w (Tells (.bool (FloatKind.f64.format.order (floatOfInt .f64 m) (b) == some .gt)) w) := by
  go_enter Try.func52, Try.ntmps52
  go_wp2_with fail
  go_ret
  exact ⟨rfl, rfl⟩
set_option maxRecDepth 100000 in
theorem more_int_txt (m : Int) (u : ByteArray) (w : World) : Calls Try.prog 52 #[.iface 3 (.int .i64 m), .iface 9 (.string u)] w (Dies w) := by
  go_enter Try.func52, Try.ntmps52
  go_wp2_with fail
  exact ⟨rfl, rfl, rfl⟩
set_option maxRecDepth 100000 in
theorem more_int_tru (m : Int) (d : Bool) (w : World) : Calls Try.prog 52 #[.iface 3 (.int .i64 m), .iface 4 (.bool d)] w (Dies w) := by
  go_enter Try.func52, Try.ntmps52
  go_wp2_with fail
  exact ⟨rfl, rfl, rfl⟩
set_option maxRecDepth 100000 in
theorem more_int_nil (m : Int)  (w : World) : Calls Try.prog 52 #[.iface 3 (.int .i64 m), .nilIface] w (Dies w) := by
  go_enter Try.func52, Try.ntmps52
  go_wp2_with fail
  exact ⟨rfl, rfl, rfl⟩
set_option maxRecDepth 100000 in
theorem more_flo_int (a : Nat) (n : Int) (w : World) : Calls Try.prog 52 #[.iface 26 (.float .f64 a), .iface 3 (.int .i64 n)] w (Tells (.bool (FloatKind.f64.format.order (a) (floatOfInt .f64 n) == some .gt)) w) := by
  go_enter Try.func52, Try.ntmps52
  go_wp2_with fail
  go_ret
  exact ⟨rfl, rfl⟩
set_option maxRecDepth 100000 in
theorem more_flo_flo (a : Nat) (b : Nat) (w : World) : Calls Try.prog 52 #[.iface 26 (.float .f64 a), .iface 26 (.float .f64 b)] w (Tells (.bool (FloatKind.f64.format.order (a) (b) == some .gt)) w) := by
  go_enter Try.func52, Try.ntmps52
  go_wp2_with fail
  go_ret
  exact ⟨rfl, rfl⟩
set_option maxRecDepth 100000 in
theorem more_flo_txt (a : Nat) (u : ByteArray) (w : World) : Calls Try.prog 52 #[.iface 26 (.float .f64 a), .iface 9 (.string u)] w (Dies w) := by
  go_enter Try.func52, Try.ntmps52
  go_wp2_with fail
  exact ⟨rfl, rfl, rfl⟩
set_option maxRecDepth 100000 in
theorem more_flo_tru (a : Nat) (d : Bool) (w : World) : Calls Try.prog 52 #[.iface 26 (.float .f64 a), .iface 4 (.bool d)] w (Dies w) := by
  go_enter Try.func52, Try.ntmps52
  go_wp2_with fail
  exact ⟨rfl, rfl, rfl⟩
set_option maxRecDepth 100000 in
theorem more_flo_nil (a : Nat)  (w : World) : Calls Try.prog 52 #[.iface 26 (.float .f64 a), .nilIface] w (Dies w) := by
  go_enter Try.func52, Try.ntmps52
  go_wp2_with fail
  exact ⟨rfl, rfl, rfl⟩
set_option maxRecDepth 100000 in
theorem more_txt_int (s : ByteArray) (n : Int) (w : World) : Calls Try.prog 52 #[.iface 9 (.string s), .iface 3 (.int .i64 n)] w (Dies w) := by
  go_enter Try.func52, Try.ntmps52
  go_wp2_with fail
  exact ⟨rfl, rfl, rfl⟩
set_option maxRecDepth 100000 in
theorem more_txt_flo (s : ByteArray) (b : Nat) (w : World) : Calls Try.prog 52 #[.iface 9 (.string s), .iface 26 (.float .f64 b)] w (Dies w) := by
  go_enter Try.func52, Try.ntmps52
  go_wp2_with fail
  exact ⟨rfl, rfl, rfl⟩
set_option maxRecDepth 100000 in
theorem more_txt_txt (s : ByteArray) (u : ByteArray) (w : World) : Calls Try.prog 52 #[.iface 9 (.string s), .iface 9 (.string u)] w (Tells (.bool (!Op.bytesLess s.toList u.toList && !(s.toList == u.toList))) w) := by
  go_enter Try.func52, Try.ntmps52
  go_wp2_with fail
  go_ret
  exact ⟨rfl, rfl⟩
set_option maxRecDepth 100000 in
theorem more_txt_tru (s : ByteArray) (d : Bool) (w : World) : Calls Try.prog 52 #[.iface 9 (.string s), .iface 4 (.bool d)] w (Dies w) := by
  go_enter Try.func52, Try.ntmps52
  go_wp2_with fail
  exact ⟨rfl, rfl, rfl⟩
set_option maxRecDepth 100000 in
theorem more_txt_nil (s : ByteArray)  (w : World) : Calls Try.prog 52 #[.iface 9 (.string s), .nilIface] w (Dies w) := by
  go_enter Try.func52, Try.ntmps52
  go_wp2_with fail
  exact ⟨rfl, rfl, rfl⟩
set_option maxRecDepth 100000 in
theorem more_tru (c : Bool) (v : Value) (w : World) : Calls Try.prog 52 #[.iface 4 (.bool c), v] w (Dies w) := by
  go_enter Try.func52, Try.ntmps52
  go_wp2_with fail
  exact ⟨rfl, rfl, rfl⟩
set_option maxRecDepth 100000 in
theorem more_nil  (v : Value) (w : World) : Calls Try.prog 52 #[.nilIface, v] w (Dies w) := by
  go_enter Try.func52, Try.ntmps52
  go_wp2_with fail
  exact ⟨rfl, rfl, rfl⟩
set_option maxRecDepth 100000 in
theorem leq_int_int (m : Int) (n : Int) (w : World) : Calls Try.prog 54 #[.iface 3 (.int .i64 m), .iface 3 (.int .i64 n)] w (Tells (.bool (decide (m ≤ n))) w) := by
  go_enter Try.func54, Try.ntmps54
  go_wp2_with fail
  go_ret
  exact ⟨rfl, rfl⟩
set_option maxRecDepth 100000 in
theorem leq_int_flo (m : Int) (b : Nat) (w : World) : Calls Try.prog 54 #[.iface 3 (.int .i64 m), .iface 26 (.float .f64 b)] w (Tells (.bool (FloatKind.f64.format.order (floatOfInt .f64 m) (b) == some .lt || FloatKind.f64.format.order (floatOfInt .f64 m) (b) == some .eq)) w) := by
  go_enter Try.func54, Try.ntmps54
  go_wp2_with fail
  go_ret
  exact ⟨rfl, rfl⟩
set_option maxRecDepth 100000 in
theorem leq_int_txt (m : Int) (u : ByteArray) (w : World) : Calls Try.prog 54 #[.iface 3 (.int .i64 m), .iface 9 (.string u)] w (Dies w) := by
  go_enter Try.func54, Try.ntmps54
  go_wp2_with fail
  exact ⟨rfl, rfl, rfl⟩
set_option maxRecDepth 100000 in
theorem leq_int_tru (m : Int) (d : Bool) (w : World) : Calls Try.prog 54 #[.iface 3 (.int .i64 m), .iface 4 (.bool d)] w (Dies w) := by
  go_enter Try.func54, Try.ntmps54
  go_wp2_with fail
  exact ⟨rfl, rfl, rfl⟩
set_option maxRecDepth 100000 in
theorem leq_int_nil (m : Int)  (w : World) : Calls Try.prog 54 #[.iface 3 (.int .i64 m), .nilIface] w (Dies w) := by
  go_enter Try.func54, Try.ntmps54
  go_wp2_with fail
  exact ⟨rfl, rfl, rfl⟩
set_option maxRecDepth 100000 in
theorem leq_flo_int (a : Nat) (n : Int) (w : World) : Calls Try.prog 54 #[.iface 26 (.float .f64 a), .iface 3 (.int .i64 n)] w (Tells (.bool (FloatKind.f64.format.order (a) (floatOfInt .f64 n) == some .lt || FloatKind.f64.format.order (a) (floatOfInt .f64 n) == some .eq)) w) := by
  go_enter Try.func54, Try.ntmps54
  go_wp2_with fail
  go_ret
  exact ⟨rfl, rfl⟩
set_option maxRecDepth 100000 in
theorem leq_flo_flo (a : Nat) (b : Nat) (w : World) : Calls Try.prog 54 #[.iface 26 (.float .f64 a), .iface 26 (.float .f64 b)] w (Tells (.bool (FloatKind.f64.format.order (a) (b) == some .lt || FloatKind.f64.format.order (a) (b) == some .eq)) w) := by
  go_enter Try.func54, Try.ntmps54
  go_wp2_with fail
  go_ret
  exact ⟨rfl, rfl⟩
set_option maxRecDepth 100000 in
theorem leq_flo_txt (a : Nat) (u : ByteArray) (w : World) : Calls Try.prog 54 #[.iface 26 (.float .f64 a), .iface 9 (.string u)] w (Dies w) := by
  go_enter Try.func54, Try.ntmps54
  go_wp2_with fail
  exact ⟨rfl, rfl, rfl⟩
set_option maxRecDepth 100000 in
theorem leq_flo_tru (a : Nat) (d : Bool) (w : World) : Calls Try.prog 54 #[.iface 26 (.float .f64 a), .iface 4 (.bool d)] w (Dies w) := by
  go_enter Try.func54, Try.ntmps54
  go_wp2_with fail
  exact ⟨rfl, rfl, rfl⟩
set_option maxRecDepth 100000 in
theorem leq_flo_nil (a : Nat)  (w : World) : Calls Try.prog 54 #[.iface 26 (.float .f64 a), .nilIface] w (Dies w) := by
  go_enter Try.func54, Try.ntmps54
  go_wp2_with fail
  exact ⟨rfl, rfl, rfl⟩
set_option maxRecDepth 100000 in
theorem leq_txt_int (s : ByteArray) (n : Int) (w : World) : Calls Try.prog 54 #[.iface 9 (.string s), .iface 3 (.int .i64 n)] w (Dies w) := by
  go_enter Try.func54, Try.ntmps54
  go_wp2_with fail
  exact ⟨rfl, rfl, rfl⟩
set_option maxRecDepth 100000 in
theorem leq_txt_flo (s : ByteArray) (b : Nat) (w : World) : Calls Try.prog 54 #[.iface 9 (.string s), .iface 26 (.float .f64 b)] w (Dies w) := by
  go_enter Try.func54, Try.ntmps54
  go_wp2_with fail
  exact ⟨rfl, rfl, rfl⟩
set_option maxRecDepth 100000 in
theorem leq_txt_txt (s : ByteArray) (u : ByteArray) (w : World) : Calls Try.prog 54 #[.iface 9 (.string s), .iface 9 (.string u)] w (Tells (.bool (Op.bytesLess s.toList u.toList || s.toList == u.toList)) w) := by
  go_enter Try.func54, Try.ntmps54
  go_wp2_with fail
  go_ret
  exact ⟨rfl, rfl⟩
set_option maxRecDepth 100000 in
theorem leq_txt_tru (s : ByteArray) (d : Bool) (w : World) : Calls Try.prog 54 #[.iface 9 (.string s), .iface 4 (.bool d)] w (Dies w) := by
  go_enter Try.func54, Try.ntmps54
  go_wp2_with fail
  exact ⟨rfl, rfl, rfl⟩
set_option maxRecDepth 100000 in
theorem leq_txt_nil (s : ByteArray)  (w : World) : Calls Try.prog 54 #[.iface 9 (.string s), .nilIface] w (Dies w) := by
  go_enter Try.func54, Try.ntmps54
  go_wp2_with fail
  exact ⟨rfl, rfl, rfl⟩
set_option maxRecDepth 100000 in
theorem leq_tru (c : Bool) (v : Value) (w : World) : Calls Try.prog 54 #[.iface 4 (.bool c), v] w (Dies w) := by
  go_enter Try.func54, Try.ntmps54
  go_wp2_with fail
  exact ⟨rfl, rfl, rfl⟩
set_option maxRecDepth 100000 in
theorem leq_nil  (v : Value) (w : World) : Calls Try.prog 54 #[.nilIface, v] w (Dies w) := by
  go_enter Try.func54, Try.ntmps54
  go_wp2_with fail
  exact ⟨rfl, rfl, rfl⟩
set_option maxRecDepth 100000 in
theorem geq_int_int (m : Int) (n : Int) (w : World) : Calls Try.prog 56 #[.iface 3 (.int .i64 m), .iface 3 (.int .i64 n)] w (Tells (.bool (decide (n ≤ m))) w) := by
  go_enter Try.func56, Try.ntmps56
  go_wp2_with fail
  go_ret
  exact ⟨rfl, rfl⟩
set_option maxRecDepth 100000 in
theorem geq_int_flo (m : Int) (b : Nat) (w : World) : Calls Try.prog 56 #[.iface 3 (.int .i64 m), .iface 26 (.float .f64 b)] w (Tells (.bool (FloatKind.f64.format.order (floatOfInt .f64 m) (b) == some .gt || FloatKind.f64.format.order (floatOfInt .f64 m) (b) == some .eq)) w) := by
  go_enter Try.func56, Try.ntmps56
  go_wp2_with fail
  go_ret
  exact ⟨rfl, rfl⟩
set_option maxRecDepth 100000 in
theorem geq_int_txt (m : Int) (u : ByteArray) (w : World) : Calls Try.prog 56 #[.iface 3 (.int .i64 m), .iface 9 (.string u)] w (Dies w) := by
  go_enter Try.func56, Try.ntmps56
  go_wp2_with fail
  exact ⟨rfl, rfl, rfl⟩
set_option maxRecDepth 100000 in
theorem geq_int_tru (m : Int) (d : Bool) (w : World) : Calls Try.prog 56 #[.iface 3 (.int .i64 m), .iface 4 (.bool d)] w (Dies w) := by
  go_enter Try.func56, Try.ntmps56
  go_wp2_with fail
  exact ⟨rfl, rfl, rfl⟩
set_option maxRecDepth 100000 in
theorem geq_int_nil (m : Int)  (w : World) : Calls Try.prog 56 #[.iface 3 (.int .i64 m), .nilIface] w (Dies w) := by
  go_enter Try.func56, Try.ntmps56
  go_wp2_with fail
  exact ⟨rfl, rfl, rfl⟩
set_option maxRecDepth 100000 in
theorem geq_flo_int (a : Nat) (n : Int) (w : World) : Calls Try.prog 56 #[.iface 26 (.float .f64 a), .iface 3 (.int .i64 n)] w (Tells (.bool (FloatKind.f64.format.order (a) (floatOfInt .f64 n) == some .gt || FloatKind.f64.format.order (a) (floatOfInt .f64 n) == some .eq)) w) := by
  go_enter Try.func56, Try.ntmps56
  go_wp2_with fail
  go_ret
  exact ⟨rfl, rfl⟩
set_option maxRecDepth 100000 in
theorem geq_flo_flo (a : Nat) (b : Nat) (w : World) : Calls Try.prog 56 #[.iface 26 (.float .f64 a), .iface 26 (.float .f64 b)] w (Tells (.bool (FloatKind.f64.format.order (a) (b) == some .gt || FloatKind.f64.format.order (a) (b) == some .eq)) w) := by
  go_enter Try.func56, Try.ntmps56
  go_wp2_with fail
  go_ret
  exact ⟨rfl, rfl⟩
set_option maxRecDepth 100000 in
theorem geq_flo_txt (a : Nat) (u : ByteArray) (w : World) : Calls Try.prog 56 #[.iface 26 (.float .f64 a), .iface 9 (.string u)] w (Dies w) := by
  go_enter Try.func56, Try.ntmps56
  go_wp2_with fail
  exact ⟨rfl, rfl, rfl⟩
set_option maxRecDepth 100000 in
theorem geq_flo_tru (a : Nat) (d : Bool) (w : World) : Calls Try.prog 56 #[.iface 26 (.float .f64 a), .iface 4 (.bool d)] w (Dies w) := by
  go_enter Try.func56, Try.ntmps56
  go_wp2_with fail
  exact ⟨rfl, rfl, rfl⟩
set_option maxRecDepth 100000 in
theorem geq_flo_nil (a : Nat)  (w : World) : Calls Try.prog 56 #[.iface 26 (.float .f64 a), .nilIface] w (Dies w) := by
  go_enter Try.func56, Try.ntmps56
  go_wp2_with fail
  exact ⟨rfl, rfl, rfl⟩
set_option maxRecDepth 100000 in
theorem geq_txt_int (s : ByteArray) (n : Int) (w : World) : Calls Try.prog 56 #[.iface 9 (.string s), .iface 3 (.int .i64 n)] w (Dies w) := by
  go_enter Try.func56, Try.ntmps56
  go_wp2_with fail
  exact ⟨rfl, rfl, rfl⟩
set_option maxRecDepth 100000 in
theorem geq_txt_flo (s : ByteArray) (b : Nat) (w : World) : Calls Try.prog 56 #[.iface 9 (.string s), .iface 26 (.float .f64 b)] w (Dies w) := by
  go_enter Try.func56, Try.ntmps56
  go_wp2_with fail
  exact ⟨rfl, rfl, rfl⟩
set_option maxRecDepth 100000 in
theorem geq_txt_txt (s : ByteArray) (u : ByteArray) (w : World) : Calls Try.prog 56 #[.iface 9 (.string s), .iface 9 (.string u)] w (Tells (.bool (!Op.bytesLess s.toList u.toList)) w) := by
  go_enter Try.func56, Try.ntmps56
  go_wp2_with fail
  go_ret
  exact ⟨rfl, rfl⟩
set_option maxRecDepth 100000 in
theorem geq_txt_tru (s : ByteArray) (d : Bool) (w : World) : Calls Try.prog 56 #[.iface 9 (.string s), .iface 4 (.bool d)] w (Dies w) := by
  go_enter Try.func56, Try.ntmps56
  go_wp2_with fail
  exact ⟨rfl, rfl, rfl⟩
set_option maxRecDepth 100000 in
theorem geq_txt_nil (s : ByteArray)  (w : World) : Calls Try.prog 56 #[.iface 9 (.string s), .nilIface] w (Dies w) := by
  go_enter Try.func56, Try.ntmps56
  go_wp2_with fail
  exact ⟨rfl, rfl, rfl⟩
set_option maxRecDepth 100000 in
theorem geq_tru (c : Bool) (v : Value) (w : World) : Calls Try.prog 56 #[.iface 4 (.bool c), v] w (Dies w) := by
  go_enter Try.func56, Try.ntmps56
  go_wp2_with fail
  exact ⟨rfl, rfl, rfl⟩
set_option maxRecDepth 100000 in
theorem geq_nil  (v : Value) (w : World) : Calls Try.prog 56 #[.nilIface, v] w (Dies w) := by
  go_enter Try.func56, Try.ntmps56
  go_wp2_with fail
  exact ⟨rfl, rfl, rfl⟩
end Go.Proofs.Ythmogfjmngbamaa
