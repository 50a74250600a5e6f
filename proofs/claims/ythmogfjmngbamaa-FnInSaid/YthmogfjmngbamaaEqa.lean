/-
  'runtime.IsNil', 'zzDeep' and 'Equal' walked at plain values, and at a list beside a plain value.
-/
import Derived.Test.YthmogfjmngbamaaAssert
import Derived.Test.YthmogfjmngbamaaCmp
import Derived.Lib.Hide
namespace Go.Proofs.Ythmogfjmngbamaa
open Go.RowKit
set_option linter.unusedSimpArgs false
set_option linter.unusedVariables false

theorem eqIn_slice87 (d : Nat) (p : Addr) (l r : Nat) (w : World) : (Op.equalIn (d + 1) 87 (.slice (some p) l r) (.slice none 0 0)).run Try.prog w = .ok false w := by
  simp [Op.equalIn, run_underlying Try.underlying87]
theorem eqIn_ifaces (d : Nat) {t u : TypeId} (h : t ≠ u) (a b : Value) (w : World) : (Op.equalIn (d + 1) 20 (.iface t a) (.iface u b)).run Try.prog w = .ok false w := by
  simp [Op.equalIn, run_underlying Try.underlying20, h]
theorem eqIn_iface_nil (d : Nat) (u : TypeId) (b : Value) (w : World) : (Op.equalIn (d + 1) 20 (.iface u b) .nilIface).run Try.prog w = .ok false w := by
  simp [Op.equalIn, run_underlying Try.underlying20]
theorem eqIn_nil_iface (d : Nat) (u : TypeId) (b : Value) (w : World) : (Op.equalIn (d + 1) 20 .nilIface (.iface u b)).run Try.prog w = .ok false w := by
  simp [Op.equalIn, run_underlying Try.underlying20]
theorem equal_slice87 (p : Addr) (l r : Nat) (w : World) : (Op.equal 87 (.slice (some p) l r) (.slice none 0 0)).run Try.prog w = .ok false w := eqIn_slice87 9999 p l r w
theorem equal_ifaces {t u : TypeId} (h : t ≠ u) (a b : Value) (w : World) : (Op.equal 20 (.iface t a) (.iface u b)).run Try.prog w = .ok false w := eqIn_ifaces 9999 h a b w
theorem equal_iface_nil (u : TypeId) (b : Value) (w : World) : (Op.equal 20 (.iface u b) .nilIface).run Try.prog w = .ok false w := eqIn_iface_nil 9999 u b w
theorem equal_nil_iface (u : TypeId) (b : Value) (w : World) : (Op.equal 20 .nilIface (.iface u b)).run Try.prog w = .ok false w := eqIn_nil_iface 9999 u b w
@[go_sem] theorem eq_slice87 (p : Addr) (l r : Nat) (w : World) : (binOp .eql 87 (.slice (some p) l r) (.slice none 0 0)).run Try.prog w = .ok (.bool false) w := by
  simp only [binOp]
  simp [equal_slice87 p l r w]
theorem eq_ifaces {t u : TypeId} (h : t ≠ u) (a b : Value) (w : World) : (binOp .eql 20 (.iface t a) (.iface u b)).run Try.prog w = .ok (.bool false) w := by
  simp only [binOp]
  simp [equal_ifaces h a b w]
theorem eq_iface_nil (u : TypeId) (b : Value) (w : World) : (binOp .eql 20 (.iface u b) .nilIface).run Try.prog w = .ok (.bool false) w := by
  simp only [binOp]
  simp [equal_iface_nil u b w]
theorem eq_nil_iface (u : TypeId) (b : Value) (w : World) : (binOp .eql 20 .nilIface (.iface u b)).run Try.prog w = .ok (.bool false) w := by
  simp only [binOp]
  simp [equal_nil_iface u b w]

set_option maxHeartbeats 1000000 in
set_option maxRecDepth 100000 in
theorem isNil_int (m : Int) (w : World) : Calls Try.prog 88 #[.iface 3 (.int .i64 m)] w (Tells (.bool false) w) := by
  go_enter Try.func88, Try.ntmps88
  go_wp2_with fail
  go_ret
  exact ⟨rfl, rfl⟩
set_option maxHeartbeats 1000000 in
set_option maxRecDepth 100000 in
theorem isNil_flo (a : Nat) (w : World) : Calls Try.prog 88 #[.iface 26 (.float .f64 a)] w (Tells (.bool false) w) := by
  go_enter Try.func88, Try.ntmps88
  go_wp2_with fail
  go_ret
  exact ⟨rfl, rfl⟩
set_option maxHeartbeats 1000000 in
set_option maxRecDepth 100000 in
theorem isNil_txt (s : ByteArray) (w : World) : Calls Try.prog 88 #[.iface 9 (.string s)] w (Tells (.bool false) w) := by
  go_enter Try.func88, Try.ntmps88
  go_wp2_with fail
  go_ret
  exact ⟨rfl, rfl⟩
set_option maxHeartbeats 1000000 in
set_option maxRecDepth 100000 in
theorem isNil_tru (c : Bool) (w : World) : Calls Try.prog 88 #[.iface 4 (.bool c)] w (Tells (.bool false) w) := by
  go_enter Try.func88, Try.ntmps88
  go_wp2_with fail
  go_ret
  exact ⟨rfl, rfl⟩
set_option maxHeartbeats 1000000 in
set_option maxRecDepth 100000 in
theorem isNil_nil  (w : World) : Calls Try.prog 88 #[.nilIface] w (Tells (.bool true) w) := by
  go_enter Try.func88, Try.ntmps88
  go_wp2_with fail
  go_ret
  exact ⟨rfl, rfl⟩
set_option maxHeartbeats 1000000 in
set_option maxRecDepth 100000 in
theorem isNil_lis (p : Addr) (l r : Nat) (w : World) : Calls Try.prog 88 #[.iface 87 (.slice (some p) l r)] w (Tells (.bool false) w) := by
  go_enter Try.func88, Try.ntmps88
  go_wp2_with fail
  go_ret
  exact ⟨rfl, rfl⟩
set_option maxHeartbeats 1000000 in
set_option maxRecDepth 100000 in
theorem zzDeep_int_txt (m : Int) (u : ByteArray) (w : World) : Calls Try.prog 100 #[.iface 3 (.int .i64 m), .iface 9 (.string u)] w (Tells (.bool false) w) := by
  have hq := @eq_ifaces 3 9 (by decide)
  go_enter Try.func100, Try.ntmps100
  go_wp2_with fail
  go_ret
  exact ⟨rfl, rfl⟩
set_option maxHeartbeats 1000000 in
set_option maxRecDepth 100000 in
theorem zzDeep_int_tru (m : Int) (d : Bool) (w : World) : Calls Try.prog 100 #[.iface 3 (.int .i64 m), .iface 4 (.bool d)] w (Tells (.bool false) w) := by
  have hq := @eq_ifaces 3 4 (by decide)
  go_enter Try.func100, Try.ntmps100
  go_wp2_with fail
  go_ret
  exact ⟨rfl, rfl⟩
set_option maxHeartbeats 1000000 in
set_option maxRecDepth 100000 in
theorem zzDeep_int_nil (m : Int)  (w : World) : Calls Try.prog 100 #[.iface 3 (.int .i64 m), .nilIface] w (Tells (.bool false) w) := by
  have hq := @eq_iface_nil
  go_enter Try.func100, Try.ntmps100
  go_wp2_with fail
  go_ret
  exact ⟨rfl, rfl⟩
set_option maxHeartbeats 1000000 in
set_option maxRecDepth 100000 in
theorem zzDeep_int_lis (m : Int) (q : Addr) (k j : Nat) (w : World) : Calls Try.prog 100 #[.iface 3 (.int .i64 m), .iface 87 (.slice (some q) k j)] w (Tells (.bool false) w) := by
  have hq := @eq_ifaces 3 87 (by decide)
  go_enter Try.func100, Try.ntmps100
  go_wp2_with fail
  go_ret
  exact ⟨rfl, rfl⟩
set_option maxHeartbeats 1000000 in
set_option maxRecDepth 100000 in
theorem zzDeep_flo_txt (a : Nat) (u : ByteArray) (w : World) : Calls Try.prog 100 #[.iface 26 (.float .f64 a), .iface 9 (.string u)] w (Tells (.bool false) w) := by
  have hq := @eq_ifaces 26 9 (by decide)
  go_enter Try.func100, Try.ntmps100
  go_wp2_with fail
  go_ret
  exact ⟨rfl, rfl⟩
set_option maxHeartbeats 1000000 in
set_option maxRecDepth 100000 in
theorem zzDeep_flo_tru (a : Nat) (d : Bool) (w : World) : Calls Try.prog 100 #[.iface 26 (.float .f64 a), .iface 4 (.bool d)] w (Tells (.bool false) w) := by
  have hq := @eq_ifaces 26 4 (by decide)
  go_enter Try.func100, Try.ntmps100
  go_wp2_with fail
  go_ret
  exact ⟨rfl, rfl⟩
set_option maxHeartbeats 1000000 in
set_option maxRecDepth 100000 in
theorem zzDeep_flo_nil (a : Nat)  (w : World) : Calls Try.prog 100 #[.iface 26 (.float .f64 a), .nilIface] w (Tells (.bool false) w) := by
  have hq := @eq_iface_nil
  go_enter Try.func100, Try.ntmps100
  go_wp2_with fail
  go_ret
  exact ⟨rfl, rfl⟩
set_option maxHeartbeats 1000000 in
set_option maxRecDepth 100000 in
theorem zzDeep_flo_lis (a : Nat) (q : Addr) (k j : Nat) (w : World) : Calls Try.prog 100 #[.iface 26 (.float .f64 a), .iface 87 (.slice (some q) k j)] w (Tells (.bool false) w) := by
  have hq := @eq_ifaces 26 87 (by decide)
  go_enter Try.func100, Try.ntmps100
  go_wp2_with fail
  go_ret
  exact ⟨rfl, rfl⟩
set_option maxHeartbeats 1000000 in
set_option maxRecDepth 100000 in
theorem zzDeep_txt_int (s : ByteArray) (n : Int) (w : World) : Calls Try.prog 100 #[.iface 9 (.string s), .iface 3 (.int .i64 n)] w (Tells (.bool false) w) := by
  have hq := @eq_ifaces 9 3 (by decide)
  go_enter Try.func100, Try.ntmps100
  go_wp2_with fail
  go_ret
  exact ⟨rfl, rfl⟩
set_option maxHeartbeats 1000000 in
set_option maxRecDepth 100000 in
theorem zzDeep_txt_flo (s : ByteArray) (b : Nat) (w : World) : Calls Try.prog 100 #[.iface 9 (.string s), .iface 26 (.float .f64 b)] w (Tells (.bool false) w) := by
  have hq := @eq_ifaces 9 26 (by decide)
  go_enter Try.func100, Try.ntmps100
  go_wp2_with fail
  go_ret
  exact ⟨rfl, rfl⟩
set_option maxHeartbeats 1000000 in
set_option maxRecDepth 100000 in
theorem zzDeep_txt_tru (s : ByteArray) (d : Bool) (w : World) : Calls Try.prog 100 #[.iface 9 (.string s), .iface 4 (.bool d)] w (Tells (.bool false) w) := by
  have hq := @eq_ifaces 9 4 (by decide)
  go_enter Try.func100, Try.ntmps100
  go_wp2_with fail
  go_ret
  exact ⟨rfl, rfl⟩
set_option maxHeartbeats 1000000 in
set_option maxRecDepth 100000 in
theorem zzDeep_txt_nil (s : ByteArray)  (w : World) : Calls Try.prog 100 #[.iface 9 (.string s), .nilIface] w (Tells (.bool false) w) := by
  have hq := @eq_iface_nil
  go_enter Try.func100, Try.ntmps100
  go_wp2_with fail
  go_ret
  exact ⟨rfl, rfl⟩
set_option maxHeartbeats 1000000 in
set_option maxRecDepth 100000 in
theorem zzDeep_txt_lis (s : ByteArray) (q : Addr) (k j : Nat) (w : World) : Calls Try.prog 100 #[.iface 9 (.string s), .iface 87 (.slice (some q) k j)] w (Tells (.bool false) w) := by
  have hq := @eq_ifaces 9 87 (by decide)
  go_enter Try.func100, Try.ntmps100
  go_wp2_with fail
  go_ret
  exact ⟨rfl, rfl⟩
set_option maxHeartbeats 1000000 in
set_option maxRecDepth 100000 in
theorem zzDeep_tru_int (c : Bool) (n : Int) (w : World) : Calls Try.prog 100 #[.iface 4 (.bool c), .iface 3 (.int .i64 n)] w (Tells (.bool false) w) := by
  have hq := @eq_ifaces 4 3 (by decide)
  go_enter Try.func100, Try.ntmps100
  go_wp2_with fail
  go_ret
  exact ⟨rfl, rfl⟩
set_option maxHeartbeats 1000000 in
set_option maxRecDepth 100000 in
theorem zzDeep_tru_flo (c : Bool) (b : Nat) (w : World) : Calls Try.prog 100 #[.iface 4 (.bool c), .iface 26 (.float .f64 b)] w (Tells (.bool false) w) := by
  have hq := @eq_ifaces 4 26 (by decide)
  go_enter Try.func100, Try.ntmps100
  go_wp2_with fail
  go_ret
  exact ⟨rfl, rfl⟩
set_option maxHeartbeats 1000000 in
set_option maxRecDepth 100000 in
theorem zzDeep_tru_txt (c : Bool) (u : ByteArray) (w : World) : Calls Try.prog 100 #[.iface 4 (.bool c), .iface 9 (.string u)] w (Tells (.bool false) w) := by
  have hq := @eq_ifaces 4 9 (by decide)
  go_enter Try.func100, Try.ntmps100
  go_wp2_with fail
  go_ret
  exact ⟨rfl, rfl⟩
set_option maxHeartbeats 1000000 in
set_option maxRecDepth 100000 in
theorem zzDeep_tru_nil (c : Bool)  (w : World) : Calls Try.prog 100 #[.iface 4 (.bool c), .nilIface] w (Tells (.bool false) w) := by
  have hq := @eq_iface_nil
  go_enter Try.func100, Try.ntmps100
  go_wp2_with fail
  go_ret
  exact ⟨rfl, rfl⟩
set_option maxHeartbeats 1000000 in
set_option maxRecDepth 100000 in
theorem zzDeep_tru_lis (c : Bool) (q : Addr) (k j : Nat) (w : World) : Calls Try.prog 100 #[.iface 4 (.bool c), .iface 87 (.slice (some q) k j)] w (Tells (.bool false) w) := by
  have hq := @eq_ifaces 4 87 (by decide)
  go_enter Try.func100, Try.ntmps100
  go_wp2_with fail
  go_ret
  exact ⟨rfl, rfl⟩
set_option maxHeartbeats 1000000 in
set_option maxRecDepth 100000 in
theorem zzDeep_nil_int  (n : Int) (w : World) : Calls Try.prog 100 #[.nilIface, .iface 3 (.int .i64 n)] w (Tells (.bool false) w) := by
  have hq := @eq_nil_iface
  go_enter Try.func100, Try.ntmps100
  go_wp2_with fail
  go_ret
  exact ⟨rfl, rfl⟩
set_option maxHeartbeats 1000000 in
set_option maxRecDepth 100000 in
theorem zzDeep_nil_flo  (b : Nat) (w : World) : Calls Try.prog 100 #[.nilIface, .iface 26 (.float .f64 b)] w (Tells (.bool false) w) := by
  have hq := @eq_nil_iface
  go_enter Try.func100, Try.ntmps100
  go_wp2_with fail
  go_ret
  exact ⟨rfl, rfl⟩
set_option maxHeartbeats 1000000 in
set_option maxRecDepth 100000 in
theorem zzDeep_nil_txt  (u : ByteArray) (w : World) : Calls Try.prog 100 #[.nilIface, .iface 9 (.string u)] w (Tells (.bool false) w) := by
  have hq := @eq_nil_iface
  go_enter Try.func100, Try.ntmps100
  go_wp2_with fail
  go_ret
  exact ⟨rfl, rfl⟩
set_option maxHeartbeats 1000000 in
set_option maxRecDepth 100000 in
theorem zzDeep_nil_tru  (d : Bool) (w : World) : Calls Try.prog 100 #[.nilIface, .iface 4 (.bool d)] w (Tells (.bool false) w) := by
  have hq := @eq_nil_iface
  go_enter Try.func100, Try.ntmps100
  go_wp2_with fail
  go_ret
  exact ⟨rfl, rfl⟩
set_option maxHeartbeats 1000000 in
set_option maxRecDepth 100000 in
theorem zzDeep_nil_lis  (q : Addr) (k j : Nat) (w : World) : Calls Try.prog 100 #[.nilIface, .iface 87 (.slice (some q) k j)] w (Tells (.bool false) w) := by
  have hq := @eq_nil_iface
  go_enter Try.func100, Try.ntmps100
  go_wp2_with fail
  go_ret
  exact ⟨rfl, rfl⟩
set_option maxHeartbeats 1000000 in
set_option maxRecDepth 100000 in
theorem zzDeep_lis_int (p : Addr) (l r : Nat) (n : Int) (w : World) : Calls Try.prog 100 #[.iface 87 (.slice (some p) l r), .iface 3 (.int .i64 n)] w (Tells (.bool false) w) := by
  have hq := @eq_ifaces 87 3 (by decide)
  go_enter Try.func100, Try.ntmps100
  go_wp2_with fail
  go_ret
  exact ⟨rfl, rfl⟩
set_option maxHeartbeats 1000000 in
set_option maxRecDepth 100000 in
theorem zzDeep_lis_flo (p : Addr) (l r : Nat) (b : Nat) (w : World) : Calls Try.prog 100 #[.iface 87 (.slice (some p) l r), .iface 26 (.float .f64 b)] w (Tells (.bool false) w) := by
  have hq := @eq_ifaces 87 26 (by decide)
  go_enter Try.func100, Try.ntmps100
  go_wp2_with fail
  go_ret
  exact ⟨rfl, rfl⟩
set_option maxHeartbeats 1000000 in
set_option maxRecDepth 100000 in
theorem zzDeep_lis_txt (p : Addr) (l r : Nat) (u : ByteArray) (w : World) : Calls Try.prog 100 #[.iface 87 (.slice (some p) l r), .iface 9 (.string u)] w (Tells (.bool false) w) := by
  have hq := @eq_ifaces 87 9 (by decide)
  go_enter Try.func100, Try.ntmps100
  go_wp2_with fail
  go_ret
  exact ⟨rfl, rfl⟩
set_option maxHeartbeats 1000000 in
set_option maxRecDepth 100000 in
theorem zzDeep_lis_tru (p : Addr) (l r : Nat) (d : Bool) (w : World) : Calls Try.prog 100 #[.iface 87 (.slice (some p) l r), .iface 4 (.bool d)] w (Tells (.bool false) w) := by
  have hq := @eq_ifaces 87 4 (by decide)
  go_enter Try.func100, Try.ntmps100
  go_wp2_with fail
  go_ret
  exact ⟨rfl, rfl⟩
set_option maxHeartbeats 1000000 in
set_option maxRecDepth 100000 in
theorem zzDeep_lis_nil (p : Addr) (l r : Nat)  (w : World) : Calls Try.prog 100 #[.iface 87 (.slice (some p) l r), .nilIface] w (Tells (.bool false) w) := by
  have hq := @eq_iface_nil
  go_enter Try.func100, Try.ntmps100
  go_wp2_with fail
  go_ret
  exact ⟨rfl, rfl⟩
set_option maxHeartbeats 1000000 in
set_option maxRecDepth 100000 in
theorem equal_int_int (m : Int) (n : Int) (w : World) : Calls Try.prog 59 #[.iface 3 (.int .i64 m), .iface 3 (.int .i64 n)] w (Tells (.bool (m == n)) w) := by
  go_enter Try.func59, Try.ntmps59
  go_wp2_with fail
  go_ret
  exact ⟨rfl, rfl⟩
set_option maxHeartbeats 1000000 in
set_option maxRecDepth 100000 in
theorem equal_int_flo (m : Int) (b : Nat) (w : World) : Calls Try.prog 59 #[.iface 3 (.int .i64 m), .iface 26 (.float .f64 b)] w (Tells (.bool (FloatKind.f64.format.order (floatOfInt .f64 m) (b) == some .eq)) w) := by
  go_enter Try.func59, Try.ntmps59
  go_wp2_with fail
  go_ret
  exact ⟨rfl, rfl⟩
set_option maxHeartbeats 1000000 in
set_option maxRecDepth 100000 in
theorem equal_int_txt (m : Int) (u : ByteArray) (w : World) : Calls Try.prog 59 #[.iface 3 (.int .i64 m), .iface 9 (.string u)] w (Tells (.bool (false)) w) := by
  have I1 := Lib.hid (@isNil_int)
  have I2 := Lib.hid (@isNil_txt)
  have Z := Lib.hid (@zzDeep_int_txt)
  go_enter Try.func59, Try.ntmps59
  go_wp2_with fail
  refine Calls.mono (by exact I1.out _ _) ?_
  rintro e w1 ⟨rfl, rfl⟩
  go_wp2_with fail
  refine Calls.mono (by exact Z.out _ _ _) ?_
  rintro e w1 ⟨rfl, rfl⟩
  go_wp2_with fail
  go_ret
  exact ⟨rfl, rfl⟩
set_option maxHeartbeats 1000000 in
set_option maxRecDepth 100000 in
theorem equal_int_tru (m : Int) (d : Bool) (w : World) : Calls Try.prog 59 #[.iface 3 (.int .i64 m), .iface 4 (.bool d)] w (Tells (.bool (false)) w) := by
  have I1 := Lib.hid (@isNil_int)
  have I2 := Lib.hid (@isNil_tru)
  have Z := Lib.hid (@zzDeep_int_tru)
  go_enter Try.func59, Try.ntmps59
  go_wp2_with fail
  refine Calls.mono (by exact I1.out _ _) ?_
  rintro e w1 ⟨rfl, rfl⟩
  go_wp2_with fail
  refine Calls.mono (by exact Z.out _ _ _) ?_
  rintro e w1 ⟨rfl, rfl⟩
  go_wp2_with fail
  go_ret
  exact ⟨rfl, rfl⟩
set_option maxHeartbeats 1000000 in
set_option maxRecDepth 100000 in
theorem equal_int_nil (m : Int)  (w : World) : Calls Try.prog 59 #[.iface 3 (.int .i64 m), .nilIface] w (Tells (.bool (false)) w) := by
  have I1 := Lib.hid (@isNil_int)
  have I2 := Lib.hid (@isNil_nil)
  have Z := Lib.hid (@zzDeep_int_nil)
  go_enter Try.func59, Try.ntmps59
  go_wp2_with fail
  refine Calls.mono (by exact I1.out _ _) ?_
  rintro e w1 ⟨rfl, rfl⟩
  go_wp2_with fail
  refine Calls.mono (by exact Z.out _ _) ?_
  rintro e w1 ⟨rfl, rfl⟩
  go_wp2_with fail
  go_ret
  exact ⟨rfl, rfl⟩
set_option maxHeartbeats 1000000 in
set_option maxRecDepth 100000 in
theorem equal_int_lis (m : Int) (q : Addr) (k j : Nat) (w : World) : Calls Try.prog 59 #[.iface 3 (.int .i64 m), .iface 87 (.slice (some q) k j)] w (Tells (.bool (false)) w) := by
  have I1 := Lib.hid (@isNil_int)
  have I2 := Lib.hid (@isNil_lis)
  have Z := Lib.hid (@zzDeep_int_lis)
  go_enter Try.func59, Try.ntmps59
  go_wp2_with fail
  refine Calls.mono (by exact I1.out _ _) ?_
  rintro e w1 ⟨rfl, rfl⟩
  go_wp2_with fail
  refine Calls.mono (by exact Z.out _ _ _ _ _) ?_
  rintro e w1 ⟨rfl, rfl⟩
  go_wp2_with fail
  go_ret
  exact ⟨rfl, rfl⟩
set_option maxHeartbeats 1000000 in
set_option maxRecDepth 100000 in
theorem equal_flo_int (a : Nat) (n : Int) (w : World) : Calls Try.prog 59 #[.iface 26 (.float .f64 a), .iface 3 (.int .i64 n)] w (Tells (.bool (FloatKind.f64.format.order (a) (floatOfInt .f64 n) == some .eq)) w) := by
  go_enter Try.func59, Try.ntmps59
  go_wp2_with fail
  go_ret
  exact ⟨rfl, rfl⟩
set_option maxHeartbeats 1000000 in
set_option maxRecDepth 100000 in
theorem equal_flo_flo (a : Nat) (b : Nat) (w : World) : Calls Try.prog 59 #[.iface 26 (.float .f64 a), .iface 26 (.float .f64 b)] w (Tells (.bool (FloatKind.f64.format.order (a) (b) == some .eq)) w) := by
  go_enter Try.func59, Try.ntmps59
  go_wp2_with fail
  go_ret
  exact ⟨rfl, rfl⟩
set_option maxHeartbeats 1000000 in
set_option maxRecDepth 100000 in
theorem equal_flo_txt (a : Nat) (u : ByteArray) (w : World) : Calls Try.prog 59 #[.iface 26 (.float .f64 a), .iface 9 (.string u)] w (Tells (.bool (false)) w) := by
  have I1 := Lib.hid (@isNil_flo)
  have I2 := Lib.hid (@isNil_txt)
  have Z := Lib.hid (@zzDeep_flo_txt)
  go_enter Try.func59, Try.ntmps59
  go_wp2_with fail
  refine Calls.mono (by exact I1.out _ _) ?_
  rintro e w1 ⟨rfl, rfl⟩
  go_wp2_with fail
  refine Calls.mono (by exact Z.out _ _ _) ?_
  rintro e w1 ⟨rfl, rfl⟩
  go_wp2_with fail
  go_ret
  exact ⟨rfl, rfl⟩
set_option maxHeartbeats 1000000 in
set_option maxRecDepth 100000 in
theorem equal_flo_tru (a : Nat) (d : Bool) (w : World) : Calls Try.prog 59 #[.iface 26 (.float .f64 a), .iface 4 (.bool d)] w (Tells (.bool (false)) w) := by
  have I1 := Lib.hid (@isNil_flo)
  have I2 := Lib.hid (@isNil_tru)
  have Z := Lib.hid (@zzDeep_flo_tru)
  go_enter Try.func59, Try.ntmps59
  go_wp2_with fail
  refine Calls.mono (by exact I1.out _ _) ?_
  rintro e w1 ⟨rfl, rfl⟩
  go_wp2_with fail
  refine Calls.mono (by exact Z.out _ _ _) ?_
  rintro e w1 ⟨rfl, rfl⟩
  go_wp2_with fail
  go_ret
  exact ⟨rfl, rfl⟩
set_option maxHeartbeats 1000000 in
set_option maxRecDepth 100000 in
theorem equal_flo_nil (a : Nat)  (w : World) : Calls Try.prog 59 #[.iface 26 (.float .f64 a), .nilIface] w (Tells (.bool (false)) w) := by
  have I1 := Lib.hid (@isNil_flo)
  have I2 := Lib.hid (@isNil_nil)
  have Z := Lib.hid (@zzDeep_flo_nil)
  go_enter Try.func59, Try.ntmps59
  go_wp2_with fail
  refine Calls.mono (by exact I1.out _ _) ?_
  rintro e w1 ⟨rfl, rfl⟩
  go_wp2_with fail
  refine Calls.mono (by exact Z.out _ _) ?_
  rintro e w1 ⟨rfl, rfl⟩
  go_wp2_with fail
  go_ret
  exact ⟨rfl, rfl⟩
set_option maxHeartbeats 1000000 in
set_option maxRecDepth 100000 in
theorem equal_flo_lis (a : Nat) (q : Addr) (k j : Nat) (w : World) : Calls Try.prog 59 #[.iface 26 (.float .f64 a), .iface 87 (.slice (some q) k j)] w (Tells (.bool (false)) w) := by
  have I1 := Lib.hid (@isNil_flo)
  have I2 := Lib.hid (@isNil_lis)
  have Z := Lib.hid (@zzDeep_flo_lis)
  go_enter Try.func59, Try.ntmps59
  go_wp2_with fail
  refine Calls.mono (by exact I1.out _ _) ?_
  rintro e w1 ⟨rfl, rfl⟩
  go_wp2_with fail
  refine Calls.mono (by exact Z.out _ _ _ _ _) ?_
  rintro e w1 ⟨rfl, rfl⟩
  go_wp2_with fail
  go_ret
  exact ⟨rfl, rfl⟩
set_option maxHeartbeats 1000000 in
set_option maxRecDepth 100000 in
theorem equal_txt_int (s : ByteArray) (n : Int) (w : World) : Calls Try.prog 59 #[.iface 9 (.string s), .iface 3 (.int .i64 n)] w (Tells (.bool (false)) w) := by
  have I1 := Lib.hid (@isNil_txt)
  have I2 := Lib.hid (@isNil_int)
  have Z := Lib.hid (@zzDeep_txt_int)
  go_enter Try.func59, Try.ntmps59
  go_wp2_with fail
  refine Calls.mono (by exact I1.out _ _) ?_
  rintro e w1 ⟨rfl, rfl⟩
  go_wp2_with fail
  refine Calls.mono (by exact Z.out _ _ _) ?_
  rintro e w1 ⟨rfl, rfl⟩
  go_wp2_with fail
  go_ret
  exact ⟨rfl, rfl⟩
set_option maxHeartbeats 1000000 in
set_option maxRecDepth 100000 in
theorem equal_txt_flo (s : ByteArray) (b : Nat) (w : World) : Calls Try.prog 59 #[.iface 9 (.string s), .iface 26 (.float .f64 b)] w (Tells (.bool (false)) w) := by
  have I1 := Lib.hid (@isNil_txt)
  have I2 := Lib.hid (@isNil_flo)
  have Z := Lib.hid (@zzDeep_txt_flo)
  go_enter Try.func59, Try.ntmps59
  go_wp2_with fail
  refine Calls.mono (by exact I1.out _ _) ?_
  rintro e w1 ⟨rfl, rfl⟩
  go_wp2_with fail
  refine Calls.mono (by exact Z.out _ _ _) ?_
  rintro e w1 ⟨rfl, rfl⟩
  go_wp2_with fail
  go_ret
  exact ⟨rfl, rfl⟩
set_option maxHeartbeats 1000000 in
set_option maxRecDepth 100000 in
theorem equal_txt_txt (s : ByteArray) (u : ByteArray) (w : World) : Calls Try.prog 59 #[.iface 9 (.string s), .iface 9 (.string u)] w (Tells (.bool (s.toList == u.toList)) w) := by
  go_enter Try.func59, Try.ntmps59
  go_wp2_with fail
  go_ret
  exact ⟨rfl, rfl⟩
set_option maxHeartbeats 1000000 in
set_option maxRecDepth 100000 in
theorem equal_txt_tru (s : ByteArray) (d : Bool) (w : World) : Calls Try.prog 59 #[.iface 9 (.string s), .iface 4 (.bool d)] w (Tells (.bool (false)) w) := by
  have I1 := Lib.hid (@isNil_txt)
  have I2 := Lib.hid (@isNil_tru)
  have Z := Lib.hid (@zzDeep_txt_tru)
  go_enter Try.func59, Try.ntmps59
  go_wp2_with fail
  refine Calls.mono (by exact I1.out _ _) ?_
  rintro e w1 ⟨rfl, rfl⟩
  go_wp2_with fail
  refine Calls.mono (by exact Z.out _ _ _) ?_
  rintro e w1 ⟨rfl, rfl⟩
  go_wp2_with fail
  go_ret
  exact ⟨rfl, rfl⟩
set_option maxHeartbeats 1000000 in
set_option maxRecDepth 100000 in
theorem equal_txt_nil (s : ByteArray)  (w : World) : Calls Try.prog 59 #[.iface 9 (.string s), .nilIface] w (Tells (.bool (false)) w) := by
  have I1 := Lib.hid (@isNil_txt)
  have I2 := Lib.hid (@isNil_nil)
  have Z := Lib.hid (@zzDeep_txt_nil)
  go_enter Try.func59, Try.ntmps59
  go_wp2_with fail
  refine Calls.mono (by exact I1.out _ _) ?_
  rintro e w1 ⟨rfl, rfl⟩
  go_wp2_with fail
  refine Calls.mono (by exact Z.out _ _) ?_
  rintro e w1 ⟨rfl, rfl⟩
  go_wp2_with fail
  go_ret
  exact ⟨rfl, rfl⟩
set_option maxHeartbeats 1000000 in
set_option maxRecDepth 100000 in
theorem equal_txt_lis (s : ByteArray) (q : Addr) (k j : Nat) (w : World) : Calls Try.prog 59 #[.iface 9 (.string s), .iface 87 (.slice (some q) k j)] w (Tells (.bool (false)) w) := by
  have I1 := Lib.hid (@isNil_txt)
  have I2 := Lib.hid (@isNil_lis)
  have Z := Lib.hid (@zzDeep_txt_lis)
  go_enter Try.func59, Try.ntmps59
  go_wp2_with fail
  refine Calls.mono (by exact I1.out _ _) ?_
  rintro e w1 ⟨rfl, rfl⟩
  go_wp2_with fail
  refine Calls.mono (by exact Z.out _ _ _ _ _) ?_
  rintro e w1 ⟨rfl, rfl⟩
  go_wp2_with fail
  go_ret
  exact ⟨rfl, rfl⟩
set_option maxHeartbeats 1000000 in
set_option maxRecDepth 100000 in
theorem equal_tru_int (c : Bool) (n : Int) (w : World) : Calls Try.prog 59 #[.iface 4 (.bool c), .iface 3 (.int .i64 n)] w (Tells (.bool (false)) w) := by
  have I1 := Lib.hid (@isNil_tru)
  have I2 := Lib.hid (@isNil_int)
  have Z := Lib.hid (@zzDeep_tru_int)
  go_enter Try.func59, Try.ntmps59
  go_wp2_with fail
  refine Calls.mono (by exact I1.out _ _) ?_
  rintro e w1 ⟨rfl, rfl⟩
  go_wp2_with fail
  refine Calls.mono (by exact Z.out _ _ _) ?_
  rintro e w1 ⟨rfl, rfl⟩
  go_wp2_with fail
  go_ret
  exact ⟨rfl, rfl⟩
set_option maxHeartbeats 1000000 in
set_option maxRecDepth 100000 in
theorem equal_tru_flo (c : Bool) (b : Nat) (w : World) : Calls Try.prog 59 #[.iface 4 (.bool c), .iface 26 (.float .f64 b)] w (Tells (.bool (false)) w) := by
  have I1 := Lib.hid (@isNil_tru)
  have I2 := Lib.hid (@isNil_flo)
  have Z := Lib.hid (@zzDeep_tru_flo)
  go_enter Try.func59, Try.ntmps59
  go_wp2_with fail
  refine Calls.mono (by exact I1.out _ _) ?_
  rintro e w1 ⟨rfl, rfl⟩
  go_wp2_with fail
  refine Calls.mono (by exact Z.out _ _ _) ?_
  rintro e w1 ⟨rfl, rfl⟩
  go_wp2_with fail
  go_ret
  exact ⟨rfl, rfl⟩
set_option maxHeartbeats 1000000 in
set_option maxRecDepth 100000 in
theorem equal_tru_txt (c : Bool) (u : ByteArray) (w : World) : Calls Try.prog 59 #[.iface 4 (.bool c), .iface 9 (.string u)] w (Tells (.bool (false)) w) := by
  have I1 := Lib.hid (@isNil_tru)
  have I2 := Lib.hid (@isNil_txt)
  have Z := Lib.hid (@zzDeep_tru_txt)
  go_enter Try.func59, Try.ntmps59
  go_wp2_with fail
  refine Calls.mono (by exact I1.out _ _) ?_
  rintro e w1 ⟨rfl, rfl⟩
  go_wp2_with fail
  refine Calls.mono (by exact Z.out _ _ _) ?_
  rintro e w1 ⟨rfl, rfl⟩
  go_wp2_with fail
  go_ret
  exact ⟨rfl, rfl⟩
set_option maxHeartbeats 1000000 in
set_option maxRecDepth 100000 in
theorem equal_tru_tru (c : Bool) (d : Bool) (w : World) : Calls Try.prog 59 #[.iface 4 (.bool c), .iface 4 (.bool d)] w (Tells (.bool (c == d)) w) := by
  go_enter Try.func59, Try.ntmps59
  go_wp2_with fail
  go_ret
  exact ⟨rfl, rfl⟩
set_option maxHeartbeats 1000000 in
set_option maxRecDepth 100000 in
theorem equal_tru_nil (c : Bool)  (w : World) : Calls Try.prog 59 #[.iface 4 (.bool c), .nilIface] w (Tells (.bool (false)) w) := by
  have I1 := Lib.hid (@isNil_tru)
  have I2 := Lib.hid (@isNil_nil)
  have Z := Lib.hid (@zzDeep_tru_nil)
  go_enter Try.func59, Try.ntmps59
  go_wp2_with fail
  refine Calls.mono (by exact I1.out _ _) ?_
  rintro e w1 ⟨rfl, rfl⟩
  go_wp2_with fail
  refine Calls.mono (by exact Z.out _ _) ?_
  rintro e w1 ⟨rfl, rfl⟩
  go_wp2_with fail
  go_ret
  exact ⟨rfl, rfl⟩
set_option maxHeartbeats 1000000 in
set_option maxRecDepth 100000 in
theorem equal_tru_lis (c : Bool) (q : Addr) (k j : Nat) (w : World) : Calls Try.prog 59 #[.iface 4 (.bool c), .iface 87 (.slice (some q) k j)] w (Tells (.bool (false)) w) := by
  have I1 := Lib.hid (@isNil_tru)
  have I2 := Lib.hid (@isNil_lis)
  have Z := Lib.hid (@zzDeep_tru_lis)
  go_enter Try.func59, Try.ntmps59
  go_wp2_with fail
  refine Calls.mono (by exact I1.out _ _) ?_
  rintro e w1 ⟨rfl, rfl⟩
  go_wp2_with fail
  refine Calls.mono (by exact Z.out _ _ _ _ _) ?_
  rintro e w1 ⟨rfl, rfl⟩
  go_wp2_with fail
  go_ret
  exact ⟨rfl, rfl⟩
set_option maxHeartbeats 1000000 in
set_option maxRecDepth 100000 in
theorem equal_nil_int  (n : Int) (w : World) : Calls Try.prog 59 #[.nilIface, .iface 3 (.int .i64 n)] w (Tells (.bool (false)) w) := by
  have I1 := Lib.hid (@isNil_nil)
  have I2 := Lib.hid (@isNil_int)
  have Z := Lib.hid (@zzDeep_nil_int)
  go_enter Try.func59, Try.ntmps59
  go_wp2_with fail
  refine Calls.mono (by exact I1.out _) ?_
  rintro e w1 ⟨rfl, rfl⟩
  go_wp2_with fail
  refine Calls.mono (by exact I2.out _ _) ?_
  rintro e w1 ⟨rfl, rfl⟩
  go_wp2_with fail
  refine Calls.mono (by exact Z.out _ _) ?_
  rintro e w1 ⟨rfl, rfl⟩
  go_wp2_with fail
  go_ret
  exact ⟨rfl, rfl⟩
set_option maxHeartbeats 1000000 in
set_option maxRecDepth 100000 in
theorem equal_nil_flo  (b : Nat) (w : World) : Calls Try.prog 59 #[.nilIface, .iface 26 (.float .f64 b)] w (Tells (.bool (false)) w) := by
  have I1 := Lib.hid (@isNil_nil)
  have I2 := Lib.hid (@isNil_flo)
  have Z := Lib.hid (@zzDeep_nil_flo)
  go_enter Try.func59, Try.ntmps59
  go_wp2_with fail
  refine Calls.mono (by exact I1.out _) ?_
  rintro e w1 ⟨rfl, rfl⟩
  go_wp2_with fail
  refine Calls.mono (by exact I2.out _ _) ?_
  rintro e w1 ⟨rfl, rfl⟩
  go_wp2_with fail
  refine Calls.mono (by exact Z.out _ _) ?_
  rintro e w1 ⟨rfl, rfl⟩
  go_wp2_with fail
  go_ret
  exact ⟨rfl, rfl⟩
set_option maxHeartbeats 1000000 in
set_option maxRecDepth 100000 in
theorem equal_nil_txt  (u : ByteArray) (w : World) : Calls Try.prog 59 #[.nilIface, .iface 9 (.string u)] w (Tells (.bool (false)) w) := by
  have I1 := Lib.hid (@isNil_nil)
  have I2 := Lib.hid (@isNil_txt)
  have Z := Lib.hid (@zzDeep_nil_txt)
  go_enter Try.func59, Try.ntmps59
  go_wp2_with fail
  refine Calls.mono (by exact I1.out _) ?_
  rintro e w1 ⟨rfl, rfl⟩
  go_wp2_with fail
  refine Calls.mono (by exact I2.out _ _) ?_
  rintro e w1 ⟨rfl, rfl⟩
  go_wp2_with fail
  refine Calls.mono (by exact Z.out _ _) ?_
  rintro e w1 ⟨rfl, rfl⟩
  go_wp2_with fail
  go_ret
  exact ⟨rfl, rfl⟩
set_option maxHeartbeats 1000000 in
set_option maxRecDepth 100000 in
theorem equal_nil_tru  (d : Bool) (w : World) : Calls Try.prog 59 #[.nilIface, .iface 4 (.bool d)] w (Tells (.bool (false)) w) := by
  have I1 := Lib.hid (@isNil_nil)
  have I2 := Lib.hid (@isNil_tru)
  have Z := Lib.hid (@zzDeep_nil_tru)
  go_enter Try.func59, Try.ntmps59
  go_wp2_with fail
  refine Calls.mono (by exact I1.out _) ?_
  rintro e w1 ⟨rfl, rfl⟩
  go_wp2_with fail
  refine Calls.mono (by exact I2.out _ _) ?_
  rintro e w1 ⟨rfl, rfl⟩
  go_wp2_with fail
  refine Calls.mono (by exact Z.out _ _) ?_
  rintro e w1 ⟨rfl, rfl⟩
  go_wp2_with fail
  go_ret
  exact ⟨rfl, rfl⟩
set_option maxHeartbeats 1000000 in
set_option maxRecDepth 100000 in
theorem equal_nil_nil   (w : World) : Calls Try.prog 59 #[.nilIface, .nilIface] w (Tells (.bool (true)) w) := by
  have I1 := Lib.hid (@isNil_nil)
  have I2 := Lib.hid (@isNil_nil)
  go_enter Try.func59, Try.ntmps59
  go_wp2_with fail
  refine Calls.mono (by exact I1.out _) ?_
  rintro e w1 ⟨rfl, rfl⟩
  go_wp2_with fail
  refine Calls.mono (by exact I2.out _) ?_
  rintro e w1 ⟨rfl, rfl⟩
  go_wp2_with fail
  go_ret
  exact ⟨rfl, rfl⟩
set_option maxHeartbeats 1000000 in
set_option maxRecDepth 100000 in
theorem equal_nil_lis  (q : Addr) (k j : Nat) (w : World) : Calls Try.prog 59 #[.nilIface, .iface 87 (.slice (some q) k j)] w (Tells (.bool (false)) w) := by
  have I1 := Lib.hid (@isNil_nil)
  have I2 := Lib.hid (@isNil_lis)
  have Z := Lib.hid (@zzDeep_nil_lis)
  go_enter Try.func59, Try.ntmps59
  go_wp2_with fail
  refine Calls.mono (by exact I1.out _) ?_
  rintro e w1 ⟨rfl, rfl⟩
  go_wp2_with fail
  refine Calls.mono (by exact I2.out _ _ _ _) ?_
  rintro e w1 ⟨rfl, rfl⟩
  go_wp2_with fail
  refine Calls.mono (by exact Z.out _ _ _ _) ?_
  rintro e w1 ⟨rfl, rfl⟩
  go_wp2_with fail
  go_ret
  exact ⟨rfl, rfl⟩
set_option maxHeartbeats 1000000 in
set_option maxRecDepth 100000 in
theorem equal_lis_int (p : Addr) (l r : Nat) (n : Int) (w : World) : Calls Try.prog 59 #[.iface 87 (.slice (some p) l r), .iface 3 (.int .i64 n)] w (Tells (.bool (false)) w) := by
  have I1 := Lib.hid (@isNil_lis)
  have I2 := Lib.hid (@isNil_int)
  have Z := Lib.hid (@zzDeep_lis_int)
  go_enter Try.func59, Try.ntmps59
  go_wp2_with fail
  refine Calls.mono (by exact I1.out _ _ _ _) ?_
  rintro e w1 ⟨rfl, rfl⟩
  go_wp2_with fail
  refine Calls.mono (by exact Z.out _ _ _ _ _) ?_
  rintro e w1 ⟨rfl, rfl⟩
  go_wp2_with fail
  go_ret
  exact ⟨rfl, rfl⟩
set_option maxHeartbeats 1000000 in
set_option maxRecDepth 100000 in
theorem equal_lis_flo (p : Addr) (l r : Nat) (b : Nat) (w : World) : Calls Try.prog 59 #[.iface 87 (.slice (some p) l r), .iface 26 (.float .f64 b)] w (Tells (.bool (false)) w) := by
  have I1 := Lib.hid (@isNil_lis)
  have I2 := Lib.hid (@isNil_flo)
  have Z := Lib.hid (@zzDeep_lis_flo)
  go_enter Try.func59, Try.ntmps59
  go_wp2_with fail
  refine Calls.mono (by exact I1.out _ _ _ _) ?_
  rintro e w1 ⟨rfl, rfl⟩
  go_wp2_with fail
  refine Calls.mono (by exact Z.out _ _ _ _ _) ?_
  rintro e w1 ⟨rfl, rfl⟩
  go_wp2_with fail
  go_ret
  exact ⟨rfl, rfl⟩
set_option maxHeartbeats 1000000 in
set_option maxRecDepth 100000 in
theorem equal_lis_txt (p : Addr) (l r : Nat) (u : ByteArray) (w : World) : Calls Try.prog 59 #[.iface 87 (.slice (some p) l r), .iface 9 (.string u)] w (Tells (.bool (false)) w) := by
  have I1 := Lib.hid (@isNil_lis)
  have I2 := Lib.hid (@isNil_txt)
  have Z := Lib.hid (@zzDeep_lis_txt)
  go_enter Try.func59, Try.ntmps59
  go_wp2_with fail
  refine Calls.mono (by exact I1.out _ _ _ _) ?_
  rintro e w1 ⟨rfl, rfl⟩
  go_wp2_with fail
  refine Calls.mono (by exact Z.out _ _ _ _ _) ?_
  rintro e w1 ⟨rfl, rfl⟩
  go_wp2_with fail
  go_ret
  exact ⟨rfl, rfl⟩
set_option maxHeartbeats 1000000 in
set_option maxRecDepth 100000 in
theorem equal_lis_tru (p : Addr) (l r : Nat) (d : Bool) (w : World) : Calls Try.prog 59 #[.iface 87 (.slice (some p) l r), .iface 4 (.bool d)] w (Tells (.bool (false)) w) := by
  have I1 := Lib.hid (@isNil_lis)
  have I2 := Lib.hid (@isNil_tru)
  have Z := Lib.hid (@zzDeep_lis_tru)
  go_enter Try.func59, Try.ntmps59
  go_wp2_with fail
  refine Calls.mono (by exact I1.out _ _ _ _) ?_
  rintro e w1 ⟨rfl, rfl⟩
  go_wp2_with fail
  refine Calls.mono (by exact Z.out _ _ _ _ _) ?_
  rintro e w1 ⟨rfl, rfl⟩
  go_wp2_with fail
  go_ret
  exact ⟨rfl, rfl⟩
set_option maxHeartbeats 1000000 in
set_option maxRecDepth 100000 in
theorem equal_lis_nil (p : Addr) (l r : Nat)  (w : World) : Calls Try.prog 59 #[.iface 87 (.slice (some p) l r), .nilIface] w (Tells (.bool (false)) w) := by
  have I1 := Lib.hid (@isNil_lis)
  have I2 := Lib.hid (@isNil_nil)
  have Z := Lib.hid (@zzDeep_lis_nil)
  go_enter Try.func59, Try.ntmps59
  go_wp2_with fail
  refine Calls.mono (by exact I1.out _ _ _ _) ?_
  rintro e w1 ⟨rfl, rfl⟩
  go_wp2_with fail
  refine Calls.mono (by exact Z.out _ _ _ _) ?_
  rintro e w1 ⟨rfl, rfl⟩
  go_wp2_with fail
  go_ret
  exact ⟨rfl, rfl⟩
end Go.Proofs.Ythmogfjmngbamaa

