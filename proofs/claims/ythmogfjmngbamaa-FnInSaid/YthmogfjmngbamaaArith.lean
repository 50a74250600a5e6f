/-
  'runtime.Add', 'Subtract', 'Multiply', 'Divide', 'Modulo' walked at numbers, texts, truths and nil.
-/
import Derived.Test.YthmogfjmngbamaaNeg
namespace Go.Proofs.Ythmogfjmngbamaa
open Go.RowKit
set_option linter.unusedSimpArgs false

/-- What an operation on two floats gives: the bits that the standard names, or any NaN where it names none. -/
def FAns (op : BinOp) (a b v : Nat) : Prop :=
  match floatBits op .f64 a b with
  | some r => v = r
  | none => Ieee.double.order v v = none

/-- The NaN that the tape gives. -/
def tapeNaN (a b : Nat) (w : World) : Nat := (Question.nanBits .f64 a b).cut (w.tape w.drawn (.nanBits .f64 a b))

theorem fans_some {op : BinOp} {a b r : Nat} (h : floatBits op .f64 a b = some r) : FAns op a b r := by unfold FAns; rw [h]
theorem fans_none {op : BinOp} {a b : Nat} (w : World) (h : floatBits op .f64 a b = none) : FAns op a b (tapeNaN a b w) := by
  unfold FAns
  rw [h]
  exact nan_order a b _ _

theorem run_float_none (op : BinOp) (ho : op = .add ∨ op = .sub ∨ op = .mul ∨ op = .quo) (a b : Nat) (h : floatBits op .f64 a b = none) (w : World) :
    (binOp op 26 (.float .f64 a) (.float .f64 b)).run Try.prog w = .ok (.float .f64 (tapeNaN a b w)) w.drew := by
  unfold tapeNaN
  rcases ho with rfl | rfl | rfl | rfl
  · have h' : FloatKind.f64.format.add a b = none := h
    simp [binOp, Op.floatArith, h', choose, Sem.run, Question.forced]
  · have h' : FloatKind.f64.format.sub a b = none := h
    simp [binOp, Op.floatArith, h', choose, Sem.run, Question.forced]
  · have h' : FloatKind.f64.format.mul a b = none := h
    simp [binOp, Op.floatArith, h', choose, Sem.run, Question.forced]
  · have h' : FloatKind.f64.format.div a b = none := h
    simp [binOp, Op.floatArith, h', choose, Sem.run, Question.forced]

set_option maxRecDepth 100000 in
theorem add_int_int (m : Int) (n : Int) (w : World) : Calls Try.prog 90 #[.iface 3 (.int .i64 m), .iface 3 (.int .i64 n)] w (Tells (.iface 3 (.int .i64 (wrap64 (m + n)))) w) := by
  go_enter Try.func90, Try.ntmps90
  go_wp2_with fail
  go_ret
  exact ⟨rfl, rfl⟩
set_option maxRecDepth 100000 in
theorem add_int_flo (m : Int) (b : Nat) (w : World) : Calls Try.prog 90 #[.iface 3 (.int .i64 m), .iface 26 (.float .f64 b)] w (fun e w' => ∃ v, FAns .add (floatOfInt .f64 m) (b) v ∧ e = .returned (.iface 26 (.float .f64 v)) ∧ Below w.heap.size w w') := by
  cases h : floatBits .add .f64 (floatOfInt .f64 m) (b) with
  | some r =>
    have H := Lib.hid (fans_some h)
    have hr : ∀ w : World, (binOp .add 26 (.float .f64 (floatOfInt .f64 m)) (.float .f64 (b))).run Try.prog w = .ok (.float .f64 r) w := fun w => run_float_arith w .add 26 .f64 _ _ r h
    clear h
    go_enter Try.func90, Try.ntmps90
    go_wp2_with fail
    go_ret
    exact ⟨r, H.out, rfl, Below.refl _ _⟩
  | none =>
    have H := Lib.hid (fun w => fans_none w h)
    have hr : ∀ w : World, (binOp .add 26 (.float .f64 (floatOfInt .f64 m)) (.float .f64 (b))).run Try.prog w = .ok (.float .f64 (tapeNaN (floatOfInt .f64 m) (b) w)) w.drew := run_float_none .add (by simp) _ _ h
    clear h
    go_enter Try.func90, Try.ntmps90
    go_wp2_with fail
    go_ret
    exact ⟨_, H.out w, rfl, (Below.refl _ _).drew⟩
set_option maxRecDepth 100000 in
theorem add_int_txt (m : Int) (u : ByteArray) (w : World) : Calls Try.prog 90 #[.iface 3 (.int .i64 m), .iface 9 (.string u)] w (Dies w) := by
  go_enter Try.func90, Try.ntmps90
  go_wp2_with fail
  exact ⟨rfl, rfl, rfl⟩
set_option maxRecDepth 100000 in
theorem add_int_tru (m : Int) (d : Bool) (w : World) : Calls Try.prog 90 #[.iface 3 (.int .i64 m), .iface 4 (.bool d)] w (Dies w) := by
  go_enter Try.func90, Try.ntmps90
  go_wp2_with fail
  exact ⟨rfl, rfl, rfl⟩
set_option maxRecDepth 100000 in
theorem add_int_nil (m : Int)  (w : World) : Calls Try.prog 90 #[.iface 3 (.int .i64 m), .nilIface] w (Dies w) := by
  go_enter Try.func90, Try.ntmps90
  go_wp2_with fail
  exact ⟨rfl, rfl, rfl⟩
set_option maxRecDepth 100000 in
theorem add_flo_int (a : Nat) (n : Int) (w : World) : Calls Try.prog 90 #[.iface 26 (.float .f64 a), .iface 3 (.int .i64 n)] w (fun e w' => ∃ v, FAns .add (a) (floatOfInt .f64 n) v ∧ e = .returned (.iface 26 (.float .f64 v)) ∧ Below w.heap.size w w') := by
  cases h : floatBits .add .f64 (a) (floatOfInt .f64 n) with
  | some r =>
    have H := Lib.hid (fans_some h)
    have hr : ∀ w : World, (binOp .add 26 (.float .f64 (a)) (.float .f64 (floatOfInt .f64 n))).run Try.prog w = .ok (.float .f64 r) w := fun w => run_float_arith w .add 26 .f64 _ _ r h
    clear h
    go_enter Try.func90, Try.ntmps90
    go_wp2_with fail
    go_ret
    exact ⟨r, H.out, rfl, Below.refl _ _⟩
  | none =>
    have H := Lib.hid (fun w => fans_none w h)
    have hr : ∀ w : World, (binOp .add 26 (.float .f64 (a)) (.float .f64 (floatOfInt .f64 n))).run Try.prog w = .ok (.float .f64 (tapeNaN (a) (floatOfInt .f64 n) w)) w.drew := run_float_none .add (by simp) _ _ h
    clear h
    go_enter Try.func90, Try.ntmps90
    go_wp2_with fail
    go_ret
    exact ⟨_, H.out w, rfl, (Below.refl _ _).drew⟩
set_option maxRecDepth 100000 in
theorem add_flo_flo (a : Nat) (b : Nat) (w : World) : Calls Try.prog 90 #[.iface 26 (.float .f64 a), .iface 26 (.float .f64 b)] w (fun e w' => ∃ v, FAns .add (a) (b) v ∧ e = .returned (.iface 26 (.float .f64 v)) ∧ Below w.heap.size w w') := by
  cases h : floatBits .add .f64 (a) (b) with
  | some r =>
    have H := Lib.hid (fans_some h)
    have hr : ∀ w : World, (binOp .add 26 (.float .f64 (a)) (.float .f64 (b))).run Try.prog w = .ok (.float .f64 r) w := fun w => run_float_arith w .add 26 .f64 _ _ r h
    clear h
    go_enter Try.func90, Try.ntmps90
    go_wp2_with fail
    go_ret
    exact ⟨r, H.out, rfl, Below.refl _ _⟩
  | none =>
    have H := Lib.hid (fun w => fans_none w h)
    have hr : ∀ w : World, (binOp .add 26 (.float .f64 (a)) (.float .f64 (b))).run Try.prog w = .ok (.float .f64 (tapeNaN (a) (b) w)) w.drew := run_float_none .add (by simp) _ _ h
    clear h
    go_enter Try.func90, Try.ntmps90
    go_wp2_with fail
    go_ret
    exact ⟨_, H.out w, rfl, (Below.refl _ _).drew⟩
set_option maxRecDepth 100000 in
theorem add_flo_txt (a : Nat) (u : ByteArray) (w : World) : Calls Try.prog 90 #[.iface 26 (.float .f64 a), .iface 9 (.string u)] w (Dies w) := by
  go_enter Try.func90, Try.ntmps90
  go_wp2_with fail
  exact ⟨rfl, rfl, rfl⟩
set_option maxRecDepth 100000 in
theorem add_flo_tru (a : Nat) (d : Bool) (w : World) : Calls Try.prog 90 #[.iface 26 (.float .f64 a), .iface 4 (.bool d)] w (Dies w) := by
  go_enter Try.func90, Try.ntmps90
  go_wp2_with fail
  exact ⟨rfl, rfl, rfl⟩
set_option maxRecDepth 100000 in
theorem add_flo_nil (a : Nat)  (w : World) : Calls Try.prog 90 #[.iface 26 (.float .f64 a), .nilIface] w (Dies w) := by
  go_enter Try.func90, Try.ntmps90
  go_wp2_with fail
  exact ⟨rfl, rfl, rfl⟩
set_option maxRecDepth 100000 in
theorem add_txt_int (s : ByteArray) (n : Int) (w : World) : Calls Try.prog 90 #[.iface 9 (.string s), .iface 3 (.int .i64 n)] w (Dies w) := by
  go_enter Try.func90, Try.ntmps90
  go_wp2_with fail
  exact ⟨rfl, rfl, rfl⟩
set_option maxRecDepth 100000 in
theorem add_txt_flo (s : ByteArray) (b : Nat) (w : World) : Calls Try.prog 90 #[.iface 9 (.string s), .iface 26 (.float .f64 b)] w (Dies w) := by
  go_enter Try.func90, Try.ntmps90
  go_wp2_with fail
  exact ⟨rfl, rfl, rfl⟩
set_option maxRecDepth 100000 in
theorem add_txt_tru (s : ByteArray) (d : Bool) (w : World) : Calls Try.prog 90 #[.iface 9 (.string s), .iface 4 (.bool d)] w (Dies w) := by
  go_enter Try.func90, Try.ntmps90
  go_wp2_with fail
  exact ⟨rfl, rfl, rfl⟩
set_option maxRecDepth 100000 in
theorem add_txt_nil (s : ByteArray)  (w : World) : Calls Try.prog 90 #[.iface 9 (.string s), .nilIface] w (Dies w) := by
  go_enter Try.func90, Try.ntmps90
  go_wp2_with fail
  exact ⟨rfl, rfl, rfl⟩
set_option maxRecDepth 100000 in
theorem add_txt_txt (s : ByteArray) (u : ByteArray) (hs : s.size ≤ 500) (hu : u.size ≤ 500) (w : World) : Calls Try.prog 90 #[.iface 9 (.string s), .iface 9 (.string u)] w (Tells (.iface 9 (.string (s ++ u))) w) := by
  go_enter Try.func90, Try.ntmps90
  go_wp2_with fail
  go_ret
  exact ⟨rfl, rfl⟩
set_option maxRecDepth 100000 in
theorem add_tru (c : Bool) (v : Value) (w : World) : Calls Try.prog 90 #[.iface 4 (.bool c), v] w (Dies w) := by
  go_enter Try.func90, Try.ntmps90
  go_wp2_with fail
  exact ⟨rfl, rfl, rfl⟩
set_option maxRecDepth 100000 in
theorem add_nil  (v : Value) (w : World) : Calls Try.prog 90 #[.nilIface, v] w (Dies w) := by
  go_enter Try.func90, Try.ntmps90
  go_wp2_with fail
  exact ⟨rfl, rfl, rfl⟩
set_option maxRecDepth 100000 in
theorem subt_int_int (m : Int) (n : Int) (w : World) : Calls Try.prog 92 #[.iface 3 (.int .i64 m), .iface 3 (.int .i64 n)] w (Tells (.iface 3 (.int .i64 (wrap64 (m - n)))) w) := by
  go_enter Try.func92, Try.ntmps92
  go_wp2_with fail
  go_ret
  exact ⟨rfl, rfl⟩
set_option maxRecDepth 100000 in
theorem subt_int_flo (m : Int) (b : Nat) (w : World) : Calls Try.prog 92 #[.iface 3 (.int .i64 m), .iface 26 (.float .f64 b)] w (fun e w' => ∃ v, FAns .sub (floatOfInt .f64 m) (b) v ∧ e = .returned (.iface 26 (.float .f64 v)) ∧ Below w.heap.size w w') := by
  cases h : floatBits .sub .f64 (floatOfInt .f64 m) (b) with
  | some r =>
    have H := Lib.hid (fans_some h)
    have hr : ∀ w : World, (binOp .sub 26 (.float .f64 (floatOfInt .f64 m)) (.float .f64 (b))).run Try.prog w = .ok (.float .f64 r) w := fun w => run_float_arith w .sub 26 .f64 _ _ r h
    clear h
    go_enter Try.func92, Try.ntmps92
    go_wp2_with fail
    go_ret
    exact ⟨r, H.out, rfl, Below.refl _ _⟩
  | none =>
    have H := Lib.hid (fun w => fans_none w h)
    have hr : ∀ w : World, (binOp .sub 26 (.float .f64 (floatOfInt .f64 m)) (.float .f64 (b))).run Try.prog w = .ok (.float .f64 (tapeNaN (floatOfInt .f64 m) (b) w)) w.drew := run_float_none .sub (by simp) _ _ h
    clear h
    go_enter Try.func92, Try.ntmps92
    go_wp2_with fail
    go_ret
    exact ⟨_, H.out w, rfl, (Below.refl _ _).drew⟩
set_option maxRecDepth 100000 in
theorem subt_int_txt (m : Int) (u : ByteArray) (w : World) : Calls Try.prog 92 #[.iface 3 (.int .i64 m), .iface 9 (.string u)] w (Dies w) := by
  go_enter Try.func92, Try.ntmps92
  go_wp2_with fail
  exact ⟨rfl, rfl, rfl⟩
set_option maxRecDepth 100000 in
theorem subt_int_tru (m : Int) (d : Bool) (w : World) : Calls Try.prog 92 #[.iface 3 (.int .i64 m), .iface 4 (.bool d)] w (Dies w) := by
  go_enter Try.func92, Try.ntmps92
  go_wp2_with fail
  exact ⟨rfl, rfl, rfl⟩
set_option maxRecDepth 100000 in
theorem subt_int_nil (m : Int)  (w : World) : Calls Try.prog 92 #[.iface 3 (.int .i64 m), .nilIface] w (Dies w) := by
  go_enter Try.func92, Try.ntmps92
  go_wp2_with fail
  exact ⟨rfl, rfl, rfl⟩
set_option maxRecDepth 100000 in
theorem subt_flo_int (a : Nat) (n : Int) (w : World) : Calls Try.prog 92 #[.iface 26 (.float .f64 a), .iface 3 (.int .i64 n)] w (fun e w' => ∃ v, FAns .sub (a) (floatOfInt .f64 n) v ∧ e = .returned (.iface 26 (.float .f64 v)) ∧ Below w.heap.size w w') := by
  cases h : floatBits .sub .f64 (a) (floatOfInt .f64 n) with
  | some r =>
    have H := Lib.hid (fans_some h)
    have hr : ∀ w : World, (binOp .sub 26 (.float .f64 (a)) (.float .f64 (floatOfInt .f64 n))).run Try.prog w = .ok (.float .f64 r) w := fun w => run_float_arith w .sub 26 .f64 _ _ r h
    clear h
    go_enter Try.func92, Try.ntmps92
    go_wp2_with fail
    go_ret
    exact ⟨r, H.out, rfl, Below.refl _ _⟩
  | none =>
    have H := Lib.hid (fun w => fans_none w h)
    have hr : ∀ w : World, (binOp .sub 26 (.float .f64 (a)) (.float .f64 (floatOfInt .f64 n))).run Try.prog w = .ok (.float .f64 (tapeNaN (a) (floatOfInt .f64 n) w)) w.drew := run_float_none .sub (by simp) _ _ h
    clear h
    go_enter Try.func92, Try.ntmps92
    go_wp2_with fail
    go_ret
    exact ⟨_, H.out w, rfl, (Below.refl _ _).drew⟩
set_option maxRecDepth 100000 in
theorem subt_flo_flo (a : Nat) (b : Nat) (w : World) : Calls Try.prog 92 #[.iface 26 (.float .f64 a), .iface 26 (.float .f64 b)] w (fun e w' => ∃ v, FAns .sub (a) (b) v ∧ e = .returned (.iface 26 (.float .f64 v)) ∧ Below w.heap.size w w') := by
  cases h : floatBits .sub .f64 (a) (b) with
  | some r =>
    have H := Lib.hid (fans_some h)
    have hr : ∀ w : World, (binOp .sub 26 (.float .f64 (a)) (.float .f64 (b))).run Try.prog w = .ok (.float .f64 r) w := fun w => run_float_arith w .sub 26 .f64 _ _ r h
    clear h
    go_enter Try.func92, Try.ntmps92
    go_wp2_with fail
    go_ret
    exact ⟨r, H.out, rfl, Below.refl _ _⟩
  | none =>
    have H := Lib.hid (fun w => fans_none w h)
    have hr : ∀ w : World, (binOp .sub 26 (.float .f64 (a)) (.float .f64 (b))).run Try.prog w = .ok (.float .f64 (tapeNaN (a) (b) w)) w.drew := run_float_none .sub (by simp) _ _ h
    clear h
    go_enter Try.func92, Try.ntmps92
    go_wp2_with fail
    go_ret
    exact ⟨_, H.out w, rfl, (Below.refl _ _).drew⟩
set_option maxRecDepth 100000 in
theorem subt_flo_txt (a : Nat) (u : ByteArray) (w : World) : Calls Try.prog 92 #[.iface 26 (.float .f64 a), .iface 9 (.string u)] w (Dies w) := by
  go_enter Try.func92, Try.ntmps92
  go_wp2_with fail
  exact ⟨rfl, rfl, rfl⟩
set_option maxRecDepth 100000 in
theorem subt_flo_tru (a : Nat) (d : Bool) (w : World) : Calls Try.prog 92 #[.iface 26 (.float .f64 a), .iface 4 (.bool d)] w (Dies w) := by
  go_enter Try.func92, Try.ntmps92
  go_wp2_with fail
  exact ⟨rfl, rfl, rfl⟩
set_option maxRecDepth 100000 in
theorem subt_flo_nil (a : Nat)  (w : World) : Calls Try.prog 92 #[.iface 26 (.float .f64 a), .nilIface] w (Dies w) := by
  go_enter Try.func92, Try.ntmps92
  go_wp2_with fail
  exact ⟨rfl, rfl, rfl⟩
set_option maxRecDepth 100000 in
theorem subt_txt (s : ByteArray) (v : Value) (w : World) : Calls Try.prog 92 #[.iface 9 (.string s), v] w (Dies w) := by
  go_enter Try.func92, Try.ntmps92
  go_wp2_with fail
  exact ⟨rfl, rfl, rfl⟩
set_option maxRecDepth 100000 in
theorem subt_tru (c : Bool) (v : Value) (w : World) : Calls Try.prog 92 #[.iface 4 (.bool c), v] w (Dies w) := by
  go_enter Try.func92, Try.ntmps92
  go_wp2_with fail
  exact ⟨rfl, rfl, rfl⟩
set_option maxRecDepth 100000 in
theorem subt_nil  (v : Value) (w : World) : Calls Try.prog 92 #[.nilIface, v] w (Dies w) := by
  go_enter Try.func92, Try.ntmps92
  go_wp2_with fail
  exact ⟨rfl, rfl, rfl⟩
set_option maxRecDepth 100000 in
theorem mul_int_int (m : Int) (n : Int) (w : World) : Calls Try.prog 94 #[.iface 3 (.int .i64 m), .iface 3 (.int .i64 n)] w (Tells (.iface 3 (.int .i64 (wrap64 (m * n)))) w) := by
  go_enter Try.func94, Try.ntmps94
  go_wp2_with fail
  go_ret
  exact ⟨rfl, rfl⟩
set_option maxRecDepth 100000 in
theorem mul_int_flo (m : Int) (b : Nat) (w : World) : Calls Try.prog 94 #[.iface 3 (.int .i64 m), .iface 26 (.float .f64 b)] w (fun e w' => ∃ v, FAns .mul (floatOfInt .f64 m) (b) v ∧ e = .returned (.iface 26 (.float .f64 v)) ∧ Below w.heap.size w w') := by
  cases h : floatBits .mul .f64 (floatOfInt .f64 m) (b) with
  | some r =>
    have H := Lib.hid (fans_some h)
    have hr : ∀ w : World, (binOp .mul 26 (.float .f64 (floatOfInt .f64 m)) (.float .f64 (b))).run Try.prog w = .ok (.float .f64 r) w := fun w => run_float_arith w .mul 26 .f64 _ _ r h
    clear h
    go_enter Try.func94, Try.ntmps94
    go_wp2_with fail
    go_ret
    exact ⟨r, H.out, rfl, Below.refl _ _⟩
  | none =>
    have H := Lib.hid (fun w => fans_none w h)
    have hr : ∀ w : World, (binOp .mul 26 (.float .f64 (floatOfInt .f64 m)) (.float .f64 (b))).run Try.prog w = .ok (.float .f64 (tapeNaN (floatOfInt .f64 m) (b) w)) w.drew := run_float_none .mul (by simp) _ _ h
    clear h
    go_enter Try.func94, Try.ntmps94
    go_wp2_with fail
    go_ret
    exact ⟨_, H.out w, rfl, (Below.refl _ _).drew⟩
set_option maxRecDepth 100000 in
theorem mul_int_txt (m : Int) (u : ByteArray) (w : World) : Calls Try.prog 94 #[.iface 3 (.int .i64 m), .iface 9 (.string u)] w (Dies w) := by
  go_enter Try.func94, Try.ntmps94
  go_wp2_with fail
  exact ⟨rfl, rfl, rfl⟩
set_option maxRecDepth 100000 in
theorem mul_int_tru (m : Int) (d : Bool) (w : World) : Calls Try.prog 94 #[.iface 3 (.int .i64 m), .iface 4 (.bool d)] w (Dies w) := by
  go_enter Try.func94, Try.ntmps94
  go_wp2_with fail
  exact ⟨rfl, rfl, rfl⟩
set_option maxRecDepth 100000 in
theorem mul_int_nil (m : Int)  (w : World) : Calls Try.prog 94 #[.iface 3 (.int .i64 m), .nilIface] w (Dies w) := by
  go_enter Try.func94, Try.ntmps94
  go_wp2_with fail
  exact ⟨rfl, rfl, rfl⟩
set_option maxRecDepth 100000 in
theorem mul_flo_int (a : Nat) (n : Int) (w : World) : Calls Try.prog 94 #[.iface 26 (.float .f64 a), .iface 3 (.int .i64 n)] w (fun e w' => ∃ v, FAns .mul (a) (floatOfInt .f64 n) v ∧ e = .returned (.iface 26 (.float .f64 v)) ∧ Below w.heap.size w w') := by
  cases h : floatBits .mul .f64 (a) (floatOfInt .f64 n) with
  | some r =>
    have H := Lib.hid (fans_some h)
    have hr : ∀ w : World, (binOp .mul 26 (.float .f64 (a)) (.float .f64 (floatOfInt .f64 n))).run Try.prog w = .ok (.float .f64 r) w := fun w => run_float_arith w .mul 26 .f64 _ _ r h
    clear h
    go_enter Try.func94, Try.ntmps94
    go_wp2_with fail
    go_ret
    exact ⟨r, H.out, rfl, Below.refl _ _⟩
  | none =>
    have H := Lib.hid (fun w => fans_none w h)
    have hr : ∀ w : World, (binOp .mul 26 (.float .f64 (a)) (.float .f64 (floatOfInt .f64 n))).run Try.prog w = .ok (.float .f64 (tapeNaN (a) (floatOfInt .f64 n) w)) w.drew := run_float_none .mul (by simp) _ _ h
    clear h
    go_enter Try.func94, Try.ntmps94
    go_wp2_with fail
    go_ret
    exact ⟨_, H.out w, rfl, (Below.refl _ _).drew⟩
set_option maxRecDepth 100000 in
theorem mul_flo_flo (a : Nat) (b : Nat) (w : World) : Calls Try.prog 94 #[.iface 26 (.float .f64 a), .iface 26 (.float .f64 b)] w (fun e w' => ∃ v, FAns .mul (a) (b) v ∧ e = .returned (.iface 26 (.float .f64 v)) ∧ Below w.heap.size w w') := by
  cases h : floatBits .mul .f64 (a) (b) with
  | some r =>
    have H := Lib.hid (fans_some h)
    have hr : ∀ w : World, (binOp .mul 26 (.float .f64 (a)) (.float .f64 (b))).run Try.prog w = .ok (.float .f64 r) w := fun w => run_float_arith w .mul 26 .f64 _ _ r h
    clear h
    go_enter Try.func94, Try.ntmps94
    go_wp2_with fail
    go_ret
    exact ⟨r, H.out, rfl, Below.refl _ _⟩
  | none =>
    have H := Lib.hid (fun w => fans_none w h)
    have hr : ∀ w : World, (binOp .mul 26 (.float .f64 (a)) (.float .f64 (b))).run Try.prog w = .ok (.float .f64 (tapeNaN (a) (b) w)) w.drew := run_float_none .mul (by simp) _ _ h
    clear h
    go_enter Try.func94, Try.ntmps94
    go_wp2_with fail
    go_ret
    exact ⟨_, H.out w, rfl, (Below.refl _ _).drew⟩
set_option maxRecDepth 100000 in
theorem mul_flo_txt (a : Nat) (u : ByteArray) (w : World) : Calls Try.prog 94 #[.iface 26 (.float .f64 a), .iface 9 (.string u)] w (Dies w) := by
  go_enter Try.func94, Try.ntmps94
  go_wp2_with fail
  exact ⟨rfl, rfl, rfl⟩
set_option maxRecDepth 100000 in
theorem mul_flo_tru (a : Nat) (d : Bool) (w : World) : Calls Try.prog 94 #[.iface 26 (.float .f64 a), .iface 4 (.bool d)] w (Dies w) := by
  go_enter Try.func94, Try.ntmps94
  go_wp2_with fail
  exact ⟨rfl, rfl, rfl⟩
set_option maxRecDepth 100000 in
theorem mul_flo_nil (a : Nat)  (w : World) : Calls Try.prog 94 #[.iface 26 (.float .f64 a), .nilIface] w (Dies w) := by
  go_enter Try.func94, Try.ntmps94
  go_wp2_with fail
  exact ⟨rfl, rfl, rfl⟩
set_option maxRecDepth 100000 in
theorem mul_txt (s : ByteArray) (v : Value) (w : World) : Calls Try.prog 94 #[.iface 9 (.string s), v] w (Dies w) := by
  go_enter Try.func94, Try.ntmps94
  go_wp2_with fail
  exact ⟨rfl, rfl, rfl⟩
set_option maxRecDepth 100000 in
theorem mul_tru (c : Bool) (v : Value) (w : World) : Calls Try.prog 94 #[.iface 4 (.bool c), v] w (Dies w) := by
  go_enter Try.func94, Try.ntmps94
  go_wp2_with fail
  exact ⟨rfl, rfl, rfl⟩
set_option maxRecDepth 100000 in
theorem mul_nil  (v : Value) (w : World) : Calls Try.prog 94 #[.nilIface, v] w (Dies w) := by
  go_enter Try.func94, Try.ntmps94
  go_wp2_with fail
  exact ⟨rfl, rfl, rfl⟩
set_option maxRecDepth 100000 in
theorem quo_int_int (m : Int) (n : Int) (w : World) : Calls Try.prog 112 #[.iface 3 (.int .i64 m), .iface 3 (.int .i64 n)] w (fun e w' => ∃ v, FAns .quo (floatOfInt .f64 m) (floatOfInt .f64 n) v ∧ e = .returned (.float .f64 v) ∧ Below w.heap.size w w') := by
  cases h : floatBits .quo .f64 (floatOfInt .f64 m) (floatOfInt .f64 n) with
  | some r =>
    have H := Lib.hid (fans_some h)
    have hr : ∀ w : World, (binOp .quo 26 (.float .f64 (floatOfInt .f64 m)) (.float .f64 (floatOfInt .f64 n))).run Try.prog w = .ok (.float .f64 r) w := fun w => run_float_arith w .quo 26 .f64 _ _ r h
    clear h
    go_enter Try.func112, Try.ntmps112
    go_wp2_with fail
    go_ret
    exact ⟨r, H.out, rfl, Below.refl _ _⟩
  | none =>
    have H := Lib.hid (fun w => fans_none w h)
    have hr : ∀ w : World, (binOp .quo 26 (.float .f64 (floatOfInt .f64 m)) (.float .f64 (floatOfInt .f64 n))).run Try.prog w = .ok (.float .f64 (tapeNaN (floatOfInt .f64 m) (floatOfInt .f64 n) w)) w.drew := run_float_none .quo (by simp) _ _ h
    clear h
    go_enter Try.func112, Try.ntmps112
    go_wp2_with fail
    go_ret
    exact ⟨_, H.out w, rfl, (Below.refl _ _).drew⟩
set_option maxRecDepth 100000 in
theorem quo_int_flo (m : Int) (b : Nat) (w : World) : Calls Try.prog 112 #[.iface 3 (.int .i64 m), .iface 26 (.float .f64 b)] w (fun e w' => ∃ v, FAns .quo (floatOfInt .f64 m) (b) v ∧ e = .returned (.float .f64 v) ∧ Below w.heap.size w w') := by
  cases h : floatBits .quo .f64 (floatOfInt .f64 m) (b) with
  | some r =>
    have H := Lib.hid (fans_some h)
    have hr : ∀ w : World, (binOp .quo 26 (.float .f64 (floatOfInt .f64 m)) (.float .f64 (b))).run Try.prog w = .ok (.float .f64 r) w := fun w => run_float_arith w .quo 26 .f64 _ _ r h
    clear h
    go_enter Try.func112, Try.ntmps112
    go_wp2_with fail
    go_ret
    exact ⟨r, H.out, rfl, Below.refl _ _⟩
  | none =>
    have H := Lib.hid (fun w => fans_none w h)
    have hr : ∀ w : World, (binOp .quo 26 (.float .f64 (floatOfInt .f64 m)) (.float .f64 (b))).run Try.prog w = .ok (.float .f64 (tapeNaN (floatOfInt .f64 m) (b) w)) w.drew := run_float_none .quo (by simp) _ _ h
    clear h
    go_enter Try.func112, Try.ntmps112
    go_wp2_with fail
    go_ret
    exact ⟨_, H.out w, rfl, (Below.refl _ _).drew⟩
set_option maxRecDepth 100000 in
theorem quo_int_txt (m : Int) (u : ByteArray) (w : World) : Calls Try.prog 112 #[.iface 3 (.int .i64 m), .iface 9 (.string u)] w (Dies w) := by
  go_enter Try.func112, Try.ntmps112
  go_wp2_with fail
  exact ⟨rfl, rfl, rfl⟩
set_option maxRecDepth 100000 in
theorem quo_int_tru (m : Int) (d : Bool) (w : World) : Calls Try.prog 112 #[.iface 3 (.int .i64 m), .iface 4 (.bool d)] w (Dies w) := by
  go_enter Try.func112, Try.ntmps112
  go_wp2_with fail
  exact ⟨rfl, rfl, rfl⟩
set_option maxRecDepth 100000 in
theorem quo_int_nil (m : Int)  (w : World) : Calls Try.prog 112 #[.iface 3 (.int .i64 m), .nilIface] w (Dies w) := by
  go_enter Try.func112, Try.ntmps112
  go_wp2_with fail
  exact ⟨rfl, rfl, rfl⟩
set_option maxRecDepth 100000 in
theorem quo_flo_int (a : Nat) (n : Int) (w : World) : Calls Try.prog 112 #[.iface 26 (.float .f64 a), .iface 3 (.int .i64 n)] w (fun e w' => ∃ v, FAns .quo (a) (floatOfInt .f64 n) v ∧ e = .returned (.float .f64 v) ∧ Below w.heap.size w w') := by
  cases h : floatBits .quo .f64 (a) (floatOfInt .f64 n) with
  | some r =>
    have H := Lib.hid (fans_some h)
    have hr : ∀ w : World, (binOp .quo 26 (.float .f64 (a)) (.float .f64 (floatOfInt .f64 n))).run Try.prog w = .ok (.float .f64 r) w := fun w => run_float_arith w .quo 26 .f64 _ _ r h
    clear h
    go_enter Try.func112, Try.ntmps112
    go_wp2_with fail
    go_ret
    exact ⟨r, H.out, rfl, Below.refl _ _⟩
  | none =>
    have H := Lib.hid (fun w => fans_none w h)
    have hr : ∀ w : World, (binOp .quo 26 (.float .f64 (a)) (.float .f64 (floatOfInt .f64 n))).run Try.prog w = .ok (.float .f64 (tapeNaN (a) (floatOfInt .f64 n) w)) w.drew := run_float_none .quo (by simp) _ _ h
    clear h
    go_enter Try.func112, Try.ntmps112
    go_wp2_with fail
    go_ret
    exact ⟨_, H.out w, rfl, (Below.refl _ _).drew⟩
set_option maxRecDepth 100000 in
theorem quo_flo_flo (a : Nat) (b : Nat) (w : World) : Calls Try.prog 112 #[.iface 26 (.float .f64 a), .iface 26 (.float .f64 b)] w (fun e w' => ∃ v, FAns .quo (a) (b) v ∧ e = .returned (.float .f64 v) ∧ Below w.heap.size w w') := by
  cases h : floatBits .quo .f64 (a) (b) with
  | some r =>
    have H := Lib.hid (fans_some h)
    have hr : ∀ w : World, (binOp .quo 26 (.float .f64 (a)) (.float .f64 (b))).run Try.prog w = .ok (.float .f64 r) w := fun w => run_float_arith w .quo 26 .f64 _ _ r h
    clear h
    go_enter Try.func112, Try.ntmps112
    go_wp2_with fail
    go_ret
    exact ⟨r, H.out, rfl, Below.refl _ _⟩
  | none =>
    have H := Lib.hid (fun w => fans_none w h)
    have hr : ∀ w : World, (binOp .quo 26 (.float .f64 (a)) (.float .f64 (b))).run Try.prog w = .ok (.float .f64 (tapeNaN (a) (b) w)) w.drew := run_float_none .quo (by simp) _ _ h
    clear h
    go_enter Try.func112, Try.ntmps112
    go_wp2_with fail
    go_ret
    exact ⟨_, H.out w, rfl, (Below.refl _ _).drew⟩
set_option maxRecDepth 100000 in
theorem quo_flo_txt (a : Nat) (u : ByteArray) (w : World) : Calls Try.prog 112 #[.iface 26 (.float .f64 a), .iface 9 (.string u)] w (Dies w) := by
  go_enter Try.func112, Try.ntmps112
  go_wp2_with fail
  exact ⟨rfl, rfl, rfl⟩
set_option maxRecDepth 100000 in
theorem quo_flo_tru (a : Nat) (d : Bool) (w : World) : Calls Try.prog 112 #[.iface 26 (.float .f64 a), .iface 4 (.bool d)] w (Dies w) := by
  go_enter Try.func112, Try.ntmps112
  go_wp2_with fail
  exact ⟨rfl, rfl, rfl⟩
set_option maxRecDepth 100000 in
theorem quo_flo_nil (a : Nat)  (w : World) : Calls Try.prog 112 #[.iface 26 (.float .f64 a), .nilIface] w (Dies w) := by
  go_enter Try.func112, Try.ntmps112
  go_wp2_with fail
  exact ⟨rfl, rfl, rfl⟩
set_option maxRecDepth 100000 in
theorem quo_txt (s : ByteArray) (v : Value) (w : World) : Calls Try.prog 112 #[.iface 9 (.string s), v] w (Dies w) := by
  go_enter Try.func112, Try.ntmps112
  go_wp2_with fail
  exact ⟨rfl, rfl, rfl⟩
set_option maxRecDepth 100000 in
theorem quo_tru (c : Bool) (v : Value) (w : World) : Calls Try.prog 112 #[.iface 4 (.bool c), v] w (Dies w) := by
  go_enter Try.func112, Try.ntmps112
  go_wp2_with fail
  exact ⟨rfl, rfl, rfl⟩
set_option maxRecDepth 100000 in
theorem quo_nil  (v : Value) (w : World) : Calls Try.prog 112 #[.nilIface, v] w (Dies w) := by
  go_enter Try.func112, Try.ntmps112
  go_wp2_with fail
  exact ⟨rfl, rfl, rfl⟩
set_option maxRecDepth 100000 in
theorem rem_int_flo (m : Int) (b : Nat) (w : World) : Calls Try.prog 114 #[.iface 3 (.int .i64 m), .iface 26 (.float .f64 b)] w (Dies w) := by
  go_enter Try.func114, Try.ntmps114
  go_wp2_with fail
  exact ⟨rfl, rfl, rfl⟩
set_option maxRecDepth 100000 in
theorem rem_int_txt (m : Int) (u : ByteArray) (w : World) : Calls Try.prog 114 #[.iface 3 (.int .i64 m), .iface 9 (.string u)] w (Dies w) := by
  go_enter Try.func114, Try.ntmps114
  go_wp2_with fail
  exact ⟨rfl, rfl, rfl⟩
set_option maxRecDepth 100000 in
theorem rem_int_tru (m : Int) (d : Bool) (w : World) : Calls Try.prog 114 #[.iface 3 (.int .i64 m), .iface 4 (.bool d)] w (Dies w) := by
  go_enter Try.func114, Try.ntmps114
  go_wp2_with fail
  exact ⟨rfl, rfl, rfl⟩
set_option maxRecDepth 100000 in
theorem rem_int_nil (m : Int)  (w : World) : Calls Try.prog 114 #[.iface 3 (.int .i64 m), .nilIface] w (Dies w) := by
  go_enter Try.func114, Try.ntmps114
  go_wp2_with fail
  exact ⟨rfl, rfl, rfl⟩
set_option maxRecDepth 100000 in
theorem rem_flo (a : Nat) (v : Value) (w : World) : Calls Try.prog 114 #[.iface 26 (.float .f64 a), v] w (Dies w) := by
  go_enter Try.func114, Try.ntmps114
  go_wp2_with fail
  exact ⟨rfl, rfl, rfl⟩
set_option maxRecDepth 100000 in
theorem rem_txt (s : ByteArray) (v : Value) (w : World) : Calls Try.prog 114 #[.iface 9 (.string s), v] w (Dies w) := by
  go_enter Try.func114, Try.ntmps114
  go_wp2_with fail
  exact ⟨rfl, rfl, rfl⟩
set_option maxRecDepth 100000 in
theorem rem_tru (c : Bool) (v : Value) (w : World) : Calls Try.prog 114 #[.iface 4 (.bool c), v] w (Dies w) := by
  go_enter Try.func114, Try.ntmps114
  go_wp2_with fail
  exact ⟨rfl, rfl, rfl⟩
set_option maxRecDepth 100000 in
theorem rem_nil  (v : Value) (w : World) : Calls Try.prog 114 #[.nilIface, v] w (Dies w) := by
  go_enter Try.func114, Try.ntmps114
  go_wp2_with fail
  exact ⟨rfl, rfl, rfl⟩
set_option maxRecDepth 100000 in
theorem rem_int_int (m n : Int) (hn : ¬ n = 0) (w : World) : Calls Try.prog 114 #[.iface 3 (.int .i64 m), .iface 3 (.int .i64 n)] w (Tells (.int .i64 (m.tmod n)) w) := by
  go_enter Try.func114, Try.ntmps114
  go_wp2_with fail
  go_ret
  exact ⟨rfl, rfl⟩
set_option maxRecDepth 100000 in
theorem rem_int_zero (m : Int) (w : World) : Calls Try.prog 114 #[.iface 3 (.int .i64 m), .iface 3 (.int .i64 0)] w (fun e w' => e = .panicked [{ v := .iface 10 (strVal "integer divide by zero"), recovered := false }] ∧ w = w') := by
  go_enter Try.func114, Try.ntmps114
  go_wp2_with fail
  exact ⟨rfl, rfl, rfl⟩
end Go.Proofs.Ythmogfjmngbamaa
