/-
  'spec.CuPart' at lists.
-/
import Derived.Test.YthmogfjmngbamaaSlc
namespace Go.Proofs.Ythmogfjmngbamaa
open Go.RowKit
set_option linter.unusedSimpArgs false
set_option linter.unusedVariables false

/-- Where the part of a slice begins. -/
def slO (p : Option Addr) (c lo s : Nat) : Option Addr := if c = lo then p else p.map (·.add (lo * s))

set_option maxRecDepth 100000 in
theorem slice27 (ip : Option Addr) (n c lo hi : Nat) (h1 : lo ≤ hi) (h2 : hi ≤ c) (w : World) : (Instr.slice 27 (.slice ip n c) (some (.int .i64 lo)) (some (.int .i64 hi)) none).run Try.prog w = .ok (.slice (slO ip c lo 7) (hi - lo) (c - lo)) w := by
  rw [run_slice_lh (P := Try.prog) w 27 ip n c Try.underlying27 .i64 .i64 lo hi (by omega) (by omega) (by omega)]
  have e : (sizeOf (Try.prog.elem 27)).run Try.prog w = .ok 7 w := by simp [go_sem]
  rw [e]
  simp only [Result.andThen, Int.toNat_natCast]
  rfl

set_option maxHeartbeats 400000 in
set_option maxRecDepth 100000 in
theorem cupart_nn_nn_g (i : Int) (f : Nat) (t : ByteArray) (bo : Bool) (ip : Option Addr) (n c : Nat) (kp : Option Addr) (kl kc : Nat) (a b : Int) (w : World) (hn : n ≤ 200) (hc : n ≤ c) (ra : -9223372036854775808 ≤ a ∧ a ≤ 9223372036854775807) (rb : -9223372036854775808 ≤ b ∧ b ≤ 9223372036854775807) (ha : a < 0) (hz : (n : Int) + a < 0) (hb : b < 0) (hy : (n : Int) + b < 0) :
    Calls Try.prog 35 #[.agg #[.int .i64 5, .int .i64 i, .float .f64 f, .string t, .bool bo, .slice ip n c, .slice kp kl kc], .int .i64 a, .int .i64 b] w (Gives (.agg #[Value.int .i64 5, .int .i64 0, .float .f64 0, .string ⟨#[]⟩, .bool false, .slice none 0 0, .slice none 0 0]) w) := by
  have da : decide (a < 0) = true := decide_eq_true ha
  obtain ⟨z, hz'⟩ : ∃ z, z = a + (n : Int) := ⟨_, rfl⟩
  have ez : a + (n : Int) = z := hz'.symm
  have hzw : IntKind.i64.wrap z = z := by simp [IntKind.wrap, IntKind.bits, IntKind.signed]; omega
  have im : max 0 z = 0 := by omega
  clear hz hz' ha
  have db : decide (b < 0) = true := decide_eq_true hb
  obtain ⟨y, hy'⟩ : ∃ y, y = b + (n : Int) := ⟨_, rfl⟩
  have ey : b + (n : Int) = y := hy'.symm
  have hyw : IntKind.i64.wrap y = y := by simp [IntKind.wrap, IntKind.bits, IntKind.signed]; omega
  have iy : min (n : Int) y = y := by omega
  have dC : decide (y < 0) = true := decide_eq_true (by omega)
  clear hy hy' hb
  clear ra rb
  go_enter Try.func35, Try.ntmps35
  go_wp2_with fail
  refine bodyPost_ret (by simp [results, Try.results35, go_sem]) rfl ⟨rfl, ?_⟩
  exact ((Below.refl w.heap.size w).alloc (Nat.le_refl _) _).alloc (by simp) _

set_option maxHeartbeats 400000 in
set_option maxRecDepth 100000 in
theorem cupart_nn_np_l (i : Int) (f : Nat) (t : ByteArray) (bo : Bool) (ip : Option Addr) (n c : Nat) (kp : Option Addr) (kl kc : Nat) (a b : Int) (w : World) (hn : n ≤ 200) (hc : n ≤ c) (ra : -9223372036854775808 ≤ a ∧ a ≤ 9223372036854775807) (rb : -9223372036854775808 ≤ b ∧ b ≤ 9223372036854775807) (ha : a < 0) (hz : (n : Int) + a < 0) (m : Nat) (hb : b < 0) (hm : (n : Int) + b = m) :
    Calls Try.prog 35 #[.agg #[.int .i64 5, .int .i64 i, .float .f64 f, .string t, .bool bo, .slice ip n c, .slice kp kl kc], .int .i64 a, .int .i64 b] w (Gives (.agg #[Value.int .i64 5, .int .i64 0, .float .f64 0, .string ⟨#[]⟩, .bool false, .slice (slO ip c 0 7) (m - 0) (c - 0), .slice none 0 0]) w) := by
  have da : decide (a < 0) = true := decide_eq_true ha
  obtain ⟨z, hz'⟩ : ∃ z, z = a + (n : Int) := ⟨_, rfl⟩
  have ez : a + (n : Int) = z := hz'.symm
  have hzw : IntKind.i64.wrap z = z := by simp [IntKind.wrap, IntKind.bits, IntKind.signed]; omega
  have im : max 0 z = 0 := by omega
  clear hz hz' ha
  have db : decide (b < 0) = true := decide_eq_true hb
  rw [Int.add_comm] at hm
  have hmn : m < n := by omega
  have iy : min (n : Int) m = m := by omega
  have hq : slO ip c 0 7 = ip := by unfold slO; split <;> simp [go_sem]
  rw [hq]
  clear ra rb
  go_enter Try.func35, Try.ntmps35
  go_wp2_with fail
  refine bodyPost_ret (by simp [results, Try.results35, go_sem]) rfl ⟨rfl, ?_⟩
  exact ((Below.refl w.heap.size w).alloc (Nat.le_refl _) _).alloc (by simp) _

set_option maxHeartbeats 400000 in
set_option maxRecDepth 100000 in
theorem cupart_nn_pi_l (i : Int) (f : Nat) (t : ByteArray) (bo : Bool) (ip : Option Addr) (n c : Nat) (kp : Option Addr) (kl kc : Nat) (a b : Int) (w : World) (hn : n ≤ 200) (hc : n ≤ c) (ra : -9223372036854775808 ≤ a ∧ a ≤ 9223372036854775807) (rb : -9223372036854775808 ≤ b ∧ b ≤ 9223372036854775807) (ha : a < 0) (hz : (n : Int) + a < 0) (m : Nat) (hb : b = m) (hmn : m ≤ n) :
    Calls Try.prog 35 #[.agg #[.int .i64 5, .int .i64 i, .float .f64 f, .string t, .bool bo, .slice ip n c, .slice kp kl kc], .int .i64 a, .int .i64 b] w (Gives (.agg #[Value.int .i64 5, .int .i64 0, .float .f64 0, .string ⟨#[]⟩, .bool false, .slice (slO ip c 0 7) (m - 0) (c - 0), .slice none 0 0]) w) := by
  have da : decide (a < 0) = true := decide_eq_true ha
  obtain ⟨z, hz'⟩ : ∃ z, z = a + (n : Int) := ⟨_, rfl⟩
  have ez : a + (n : Int) = z := hz'.symm
  have hzw : IntKind.i64.wrap z = z := by simp [IntKind.wrap, IntKind.bits, IntKind.signed]; omega
  have im : max 0 z = 0 := by omega
  clear hz hz' ha
  subst hb
  have iy : min (n : Int) m = m := by omega
  have hq : slO ip c 0 7 = ip := by unfold slO; split <;> simp [go_sem]
  rw [hq]
  clear ra rb
  go_enter Try.func35, Try.ntmps35
  go_wp2_with fail
  refine bodyPost_ret (by simp [results, Try.results35, go_sem]) rfl ⟨rfl, ?_⟩
  exact ((Below.refl w.heap.size w).alloc (Nat.le_refl _) _).alloc (by simp) _

set_option maxHeartbeats 400000 in
set_option maxRecDepth 100000 in
theorem cupart_nn_po_l (i : Int) (f : Nat) (t : ByteArray) (bo : Bool) (ip : Option Addr) (n c : Nat) (kp : Option Addr) (kl kc : Nat) (a b : Int) (w : World) (hn : n ≤ 200) (hc : n ≤ c) (ra : -9223372036854775808 ≤ a ∧ a ≤ 9223372036854775807) (rb : -9223372036854775808 ≤ b ∧ b ≤ 9223372036854775807) (ha : a < 0) (hz : (n : Int) + a < 0) (m : Nat) (hb : b = m) (hmn : n < m) :
    Calls Try.prog 35 #[.agg #[.int .i64 5, .int .i64 i, .float .f64 f, .string t, .bool bo, .slice ip n c, .slice kp kl kc], .int .i64 a, .int .i64 b] w (Gives (.agg #[Value.int .i64 5, .int .i64 0, .float .f64 0, .string ⟨#[]⟩, .bool false, .slice (slO ip c 0 7) (n - 0) (c - 0), .slice none 0 0]) w) := by
  have da : decide (a < 0) = true := decide_eq_true ha
  obtain ⟨z, hz'⟩ : ∃ z, z = a + (n : Int) := ⟨_, rfl⟩
  have ez : a + (n : Int) = z := hz'.symm
  have hzw : IntKind.i64.wrap z = z := by simp [IntKind.wrap, IntKind.bits, IntKind.signed]; omega
  have im : max 0 z = 0 := by omega
  clear hz hz' ha
  subst hb
  have iy : min (n : Int) m = n := by omega
  have hq : slO ip c 0 7 = ip := by unfold slO; split <;> simp [go_sem]
  rw [hq]
  clear ra rb
  go_enter Try.func35, Try.ntmps35
  go_wp2_with fail
  refine bodyPost_ret (by simp [results, Try.results35, go_sem]) rfl ⟨rfl, ?_⟩
  exact ((Below.refl w.heap.size w).alloc (Nat.le_refl _) _).alloc (by simp) _

set_option maxHeartbeats 400000 in
set_option maxRecDepth 100000 in
theorem cupart_np_nn_g (i : Int) (f : Nat) (t : ByteArray) (bo : Bool) (ip : Option Addr) (n c : Nat) (kp : Option Addr) (kl kc : Nat) (a b : Int) (w : World) (hn : n ≤ 200) (hc : n ≤ c) (ra : -9223372036854775808 ≤ a ∧ a ≤ 9223372036854775807) (rb : -9223372036854775808 ≤ b ∧ b ≤ 9223372036854775807) (k : Nat) (ha : a < 0) (hk : (n : Int) + a = k) (hb : b < 0) (hy : (n : Int) + b < 0) :
    Calls Try.prog 35 #[.agg #[.int .i64 5, .int .i64 i, .float .f64 f, .string t, .bool bo, .slice ip n c, .slice kp kl kc], .int .i64 a, .int .i64 b] w (Gives (.agg #[Value.int .i64 5, .int .i64 0, .float .f64 0, .string ⟨#[]⟩, .bool false, .slice none 0 0, .slice none 0 0]) w) := by
  have da : decide (a < 0) = true := decide_eq_true ha
  rw [Int.add_comm] at hk
  have hkn : k < n := by omega
  have im : max 0 (k : Int) = k := by omega
  have db : decide (b < 0) = true := decide_eq_true hb
  obtain ⟨y, hy'⟩ : ∃ y, y = b + (n : Int) := ⟨_, rfl⟩
  have ey : b + (n : Int) = y := hy'.symm
  have hyw : IntKind.i64.wrap y = y := by simp [IntKind.wrap, IntKind.bits, IntKind.signed]; omega
  have iy : min (n : Int) y = y := by omega
  have dC : decide (y < (k : Int)) = true := decide_eq_true (by omega)
  clear hy hy' hb
  clear ra rb
  go_enter Try.func35, Try.ntmps35
  go_wp2_with fail
  refine bodyPost_ret (by simp [results, Try.results35, go_sem]) rfl ⟨rfl, ?_⟩
  exact ((Below.refl w.heap.size w).alloc (Nat.le_refl _) _).alloc (by simp) _

set_option maxHeartbeats 400000 in
set_option maxRecDepth 100000 in
theorem cupart_np_np_l (i : Int) (f : Nat) (t : ByteArray) (bo : Bool) (ip : Option Addr) (n c : Nat) (kp : Option Addr) (kl kc : Nat) (a b : Int) (w : World) (hn : n ≤ 200) (hc : n ≤ c) (ra : -9223372036854775808 ≤ a ∧ a ≤ 9223372036854775807) (rb : -9223372036854775808 ≤ b ∧ b ≤ 9223372036854775807) (k : Nat) (ha : a < 0) (hk : (n : Int) + a = k) (m : Nat) (hb : b < 0) (hm : (n : Int) + b = m) (hC : k ≤ m) :
    Calls Try.prog 35 #[.agg #[.int .i64 5, .int .i64 i, .float .f64 f, .string t, .bool bo, .slice ip n c, .slice kp kl kc], .int .i64 a, .int .i64 b] w (Gives (.agg #[Value.int .i64 5, .int .i64 0, .float .f64 0, .string ⟨#[]⟩, .bool false, .slice (slO ip c k 7) (m - k) (c - k), .slice none 0 0]) w) := by
  have da : decide (a < 0) = true := decide_eq_true ha
  rw [Int.add_comm] at hk
  have hkn : k < n := by omega
  have im : max 0 (k : Int) = k := by omega
  have db : decide (b < 0) = true := decide_eq_true hb
  rw [Int.add_comm] at hm
  have hmn : m < n := by omega
  have iy : min (n : Int) m = m := by omega
  have dC : decide (m < k) = false := decide_eq_false (by omega)
  have HSL := slice27 ip n c k m (by omega) (by omega)
  generalize slO ip c k 7 = q at *
  clear ra rb
  go_enter Try.func35, Try.ntmps35
  go_wp2_with fail
  refine bodyPost_ret (by simp [results, Try.results35, go_sem]) rfl ⟨rfl, ?_⟩
  exact ((Below.refl w.heap.size w).alloc (Nat.le_refl _) _).alloc (by simp) _

set_option maxHeartbeats 400000 in
set_option maxRecDepth 100000 in
theorem cupart_np_np_g (i : Int) (f : Nat) (t : ByteArray) (bo : Bool) (ip : Option Addr) (n c : Nat) (kp : Option Addr) (kl kc : Nat) (a b : Int) (w : World) (hn : n ≤ 200) (hc : n ≤ c) (ra : -9223372036854775808 ≤ a ∧ a ≤ 9223372036854775807) (rb : -9223372036854775808 ≤ b ∧ b ≤ 9223372036854775807) (k : Nat) (ha : a < 0) (hk : (n : Int) + a = k) (m : Nat) (hb : b < 0) (hm : (n : Int) + b = m) (hC : m < k) :
    Calls Try.prog 35 #[.agg #[.int .i64 5, .int .i64 i, .float .f64 f, .string t, .bool bo, .slice ip n c, .slice kp kl kc], .int .i64 a, .int .i64 b] w (Gives (.agg #[Value.int .i64 5, .int .i64 0, .float .f64 0, .string ⟨#[]⟩, .bool false, .slice none 0 0, .slice none 0 0]) w) := by
  have da : decide (a < 0) = true := decide_eq_true ha
  rw [Int.add_comm] at hk
  have hkn : k < n := by omega
  have im : max 0 (k : Int) = k := by omega
  have db : decide (b < 0) = true := decide_eq_true hb
  rw [Int.add_comm] at hm
  have hmn : m < n := by omega
  have iy : min (n : Int) m = m := by omega
  have dC : decide (m < k) = true := decide_eq_true hC
  clear ra rb
  go_enter Try.func35, Try.ntmps35
  go_wp2_with fail
  refine bodyPost_ret (by simp [results, Try.results35, go_sem]) rfl ⟨rfl, ?_⟩
  exact ((Below.refl w.heap.size w).alloc (Nat.le_refl _) _).alloc (by simp) _

set_option maxHeartbeats 400000 in
set_option maxRecDepth 100000 in
theorem cupart_np_pi_l (i : Int) (f : Nat) (t : ByteArray) (bo : Bool) (ip : Option Addr) (n c : Nat) (kp : Option Addr) (kl kc : Nat) (a b : Int) (w : World) (hn : n ≤ 200) (hc : n ≤ c) (ra : -9223372036854775808 ≤ a ∧ a ≤ 9223372036854775807) (rb : -9223372036854775808 ≤ b ∧ b ≤ 9223372036854775807) (k : Nat) (ha : a < 0) (hk : (n : Int) + a = k) (m : Nat) (hb : b = m) (hmn : m ≤ n) (hC : k ≤ m) :
    Calls Try.prog 35 #[.agg #[.int .i64 5, .int .i64 i, .float .f64 f, .string t, .bool bo, .slice ip n c, .slice kp kl kc], .int .i64 a, .int .i64 b] w (Gives (.agg #[Value.int .i64 5, .int .i64 0, .float .f64 0, .string ⟨#[]⟩, .bool false, .slice (slO ip c k 7) (m - k) (c - k), .slice none 0 0]) w) := by
  have da : decide (a < 0) = true := decide_eq_true ha
  rw [Int.add_comm] at hk
  have hkn : k < n := by omega
  have im : max 0 (k : Int) = k := by omega
  subst hb
  have iy : min (n : Int) m = m := by omega
  have dC : decide (m < k) = false := decide_eq_false (by omega)
  have HSL := slice27 ip n c k m (by omega) (by omega)
  generalize slO ip c k 7 = q at *
  clear ra rb
  go_enter Try.func35, Try.ntmps35
  go_wp2_with fail
  refine bodyPost_ret (by simp [results, Try.results35, go_sem]) rfl ⟨rfl, ?_⟩
  exact ((Below.refl w.heap.size w).alloc (Nat.le_refl _) _).alloc (by simp) _

set_option maxHeartbeats 400000 in
set_option maxRecDepth 100000 in
theorem cupart_np_pi_g (i : Int) (f : Nat) (t : ByteArray) (bo : Bool) (ip : Option Addr) (n c : Nat) (kp : Option Addr) (kl kc : Nat) (a b : Int) (w : World) (hn : n ≤ 200) (hc : n ≤ c) (ra : -9223372036854775808 ≤ a ∧ a ≤ 9223372036854775807) (rb : -9223372036854775808 ≤ b ∧ b ≤ 9223372036854775807) (k : Nat) (ha : a < 0) (hk : (n : Int) + a = k) (m : Nat) (hb : b = m) (hmn : m ≤ n) (hC : m < k) :
    Calls Try.prog 35 #[.agg #[.int .i64 5, .int .i64 i, .float .f64 f, .string t, .bool bo, .slice ip n c, .slice kp kl kc], .int .i64 a, .int .i64 b] w (Gives (.agg #[Value.int .i64 5, .int .i64 0, .float .f64 0, .string ⟨#[]⟩, .bool false, .slice none 0 0, .slice none 0 0]) w) := by
  have da : decide (a < 0) = true := decide_eq_true ha
  rw [Int.add_comm] at hk
  have hkn : k < n := by omega
  have im : max 0 (k : Int) = k := by omega
  subst hb
  have iy : min (n : Int) m = m := by omega
  have dC : decide (m < k) = true := decide_eq_true hC
  clear ra rb
  go_enter Try.func35, Try.ntmps35
  go_wp2_with fail
  refine bodyPost_ret (by simp [results, Try.results35, go_sem]) rfl ⟨rfl, ?_⟩
  exact ((Below.refl w.heap.size w).alloc (Nat.le_refl _) _).alloc (by simp) _

set_option maxHeartbeats 400000 in
set_option maxRecDepth 100000 in
theorem cupart_np_po_l (i : Int) (f : Nat) (t : ByteArray) (bo : Bool) (ip : Option Addr) (n c : Nat) (kp : Option Addr) (kl kc : Nat) (a b : Int) (w : World) (hn : n ≤ 200) (hc : n ≤ c) (ra : -9223372036854775808 ≤ a ∧ a ≤ 9223372036854775807) (rb : -9223372036854775808 ≤ b ∧ b ≤ 9223372036854775807) (k : Nat) (ha : a < 0) (hk : (n : Int) + a = k) (m : Nat) (hb : b = m) (hmn : n < m) (hC : k ≤ n) :
    Calls Try.prog 35 #[.agg #[.int .i64 5, .int .i64 i, .float .f64 f, .string t, .bool bo, .slice ip n c, .slice kp kl kc], .int .i64 a, .int .i64 b] w (Gives (.agg #[Value.int .i64 5, .int .i64 0, .float .f64 0, .string ⟨#[]⟩, .bool false, .slice (slO ip c k 7) (n - k) (c - k), .slice none 0 0]) w) := by
  have da : decide (a < 0) = true := decide_eq_true ha
  rw [Int.add_comm] at hk
  have hkn : k < n := by omega
  have im : max 0 (k : Int) = k := by omega
  subst hb
  have iy : min (n : Int) m = n := by omega
  have dC : decide (n < k) = false := decide_eq_false (by omega)
  have HSL := slice27 ip n c k n (by omega) (by omega)
  generalize slO ip c k 7 = q at *
  clear ra rb
  go_enter Try.func35, Try.ntmps35
  go_wp2_with fail
  refine bodyPost_ret (by simp [results, Try.results35, go_sem]) rfl ⟨rfl, ?_⟩
  exact ((Below.refl w.heap.size w).alloc (Nat.le_refl _) _).alloc (by simp) _

set_option maxHeartbeats 400000 in
set_option maxRecDepth 100000 in
theorem cupart_pp_nn_g (i : Int) (f : Nat) (t : ByteArray) (bo : Bool) (ip : Option Addr) (n c : Nat) (kp : Option Addr) (kl kc : Nat) (a b : Int) (w : World) (hn : n ≤ 200) (hc : n ≤ c) (ra : -9223372036854775808 ≤ a ∧ a ≤ 9223372036854775807) (rb : -9223372036854775808 ≤ b ∧ b ≤ 9223372036854775807) (k : Nat) (ha : a = k) (hb : b < 0) (hy : (n : Int) + b < 0) :
    Calls Try.prog 35 #[.agg #[.int .i64 5, .int .i64 i, .float .f64 f, .string t, .bool bo, .slice ip n c, .slice kp kl kc], .int .i64 a, .int .i64 b] w (Gives (.agg #[Value.int .i64 5, .int .i64 0, .float .f64 0, .string ⟨#[]⟩, .bool false, .slice none 0 0, .slice none 0 0]) w) := by
  subst ha
  have im : max 0 (k : Int) = k := by omega
  have db : decide (b < 0) = true := decide_eq_true hb
  obtain ⟨y, hy'⟩ : ∃ y, y = b + (n : Int) := ⟨_, rfl⟩
  have ey : b + (n : Int) = y := hy'.symm
  have hyw : IntKind.i64.wrap y = y := by simp [IntKind.wrap, IntKind.bits, IntKind.signed]; omega
  have iy : min (n : Int) y = y := by omega
  have dC : decide (y < (k : Int)) = true := decide_eq_true (by omega)
  clear hy hy' hb
  clear ra rb
  go_enter Try.func35, Try.ntmps35
  go_wp2_with fail
  refine bodyPost_ret (by simp [results, Try.results35, go_sem]) rfl ⟨rfl, ?_⟩
  exact ((Below.refl w.heap.size w).alloc (Nat.le_refl _) _).alloc (by simp) _

set_option maxHeartbeats 400000 in
set_option maxRecDepth 100000 in
theorem cupart_pp_np_l (i : Int) (f : Nat) (t : ByteArray) (bo : Bool) (ip : Option Addr) (n c : Nat) (kp : Option Addr) (kl kc : Nat) (a b : Int) (w : World) (hn : n ≤ 200) (hc : n ≤ c) (ra : -9223372036854775808 ≤ a ∧ a ≤ 9223372036854775807) (rb : -9223372036854775808 ≤ b ∧ b ≤ 9223372036854775807) (k : Nat) (ha : a = k) (m : Nat) (hb : b < 0) (hm : (n : Int) + b = m) (hC : k ≤ m) :
    Calls Try.prog 35 #[.agg #[.int .i64 5, .int .i64 i, .float .f64 f, .string t, .bool bo, .slice ip n c, .slice kp kl kc], .int .i64 a, .int .i64 b] w (Gives (.agg #[Value.int .i64 5, .int .i64 0, .float .f64 0, .string ⟨#[]⟩, .bool false, .slice (slO ip c k 7) (m - k) (c - k), .slice none 0 0]) w) := by
  subst ha
  have im : max 0 (k : Int) = k := by omega
  have db : decide (b < 0) = true := decide_eq_true hb
  rw [Int.add_comm] at hm
  have hmn : m < n := by omega
  have iy : min (n : Int) m = m := by omega
  have dC : decide (m < k) = false := decide_eq_false (by omega)
  have HSL := slice27 ip n c k m (by omega) (by omega)
  generalize slO ip c k 7 = q at *
  clear ra rb
  go_enter Try.func35, Try.ntmps35
  go_wp2_with fail
  refine bodyPost_ret (by simp [results, Try.results35, go_sem]) rfl ⟨rfl, ?_⟩
  exact ((Below.refl w.heap.size w).alloc (Nat.le_refl _) _).alloc (by simp) _

set_option maxHeartbeats 400000 in
set_option maxRecDepth 100000 in
theorem cupart_pp_np_g (i : Int) (f : Nat) (t : ByteArray) (bo : Bool) (ip : Option Addr) (n c : Nat) (kp : Option Addr) (kl kc : Nat) (a b : Int) (w : World) (hn : n ≤ 200) (hc : n ≤ c) (ra : -9223372036854775808 ≤ a ∧ a ≤ 9223372036854775807) (rb : -9223372036854775808 ≤ b ∧ b ≤ 9223372036854775807) (k : Nat) (ha : a = k) (m : Nat) (hb : b < 0) (hm : (n : Int) + b = m) (hC : m < k) :
    Calls Try.prog 35 #[.agg #[.int .i64 5, .int .i64 i, .float .f64 f, .string t, .bool bo, .slice ip n c, .slice kp kl kc], .int .i64 a, .int .i64 b] w (Gives (.agg #[Value.int .i64 5, .int .i64 0, .float .f64 0, .string ⟨#[]⟩, .bool false, .slice none 0 0, .slice none 0 0]) w) := by
  subst ha
  have im : max 0 (k : Int) = k := by omega
  have db : decide (b < 0) = true := decide_eq_true hb
  rw [Int.add_comm] at hm
  have hmn : m < n := by omega
  have iy : min (n : Int) m = m := by omega
  have dC : decide (m < k) = true := decide_eq_true hC
  clear ra rb
  go_enter Try.func35, Try.ntmps35
  go_wp2_with fail
  refine bodyPost_ret (by simp [results, Try.results35, go_sem]) rfl ⟨rfl, ?_⟩
  exact ((Below.refl w.heap.size w).alloc (Nat.le_refl _) _).alloc (by simp) _

set_option maxHeartbeats 400000 in
set_option maxRecDepth 100000 in
theorem cupart_pp_pi_l (i : Int) (f : Nat) (t : ByteArray) (bo : Bool) (ip : Option Addr) (n c : Nat) (kp : Option Addr) (kl kc : Nat) (a b : Int) (w : World) (hn : n ≤ 200) (hc : n ≤ c) (ra : -9223372036854775808 ≤ a ∧ a ≤ 9223372036854775807) (rb : -9223372036854775808 ≤ b ∧ b ≤ 9223372036854775807) (k : Nat) (ha : a = k) (m : Nat) (hb : b = m) (hmn : m ≤ n) (hC : k ≤ m) :
    Calls Try.prog 35 #[.agg #[.int .i64 5, .int .i64 i, .float .f64 f, .string t, .bool bo, .slice ip n c, .slice kp kl kc], .int .i64 a, .int .i64 b] w (Gives (.agg #[Value.int .i64 5, .int .i64 0, .float .f64 0, .string ⟨#[]⟩, .bool false, .slice (slO ip c k 7) (m - k) (c - k), .slice none 0 0]) w) := by
  subst ha
  have im : max 0 (k : Int) = k := by omega
  subst hb
  have iy : min (n : Int) m = m := by omega
  have dC : decide (m < k) = false := decide_eq_false (by omega)
  have HSL := slice27 ip n c k m (by omega) (by omega)
  generalize slO ip c k 7 = q at *
  clear ra rb
  go_enter Try.func35, Try.ntmps35
  go_wp2_with fail
  refine bodyPost_ret (by simp [results, Try.results35, go_sem]) rfl ⟨rfl, ?_⟩
  exact ((Below.refl w.heap.size w).alloc (Nat.le_refl _) _).alloc (by simp) _

set_option maxHeartbeats 400000 in
set_option maxRecDepth 100000 in
theorem cupart_pp_pi_g (i : Int) (f : Nat) (t : ByteArray) (bo : Bool) (ip : Option Addr) (n c : Nat) (kp : Option Addr) (kl kc : Nat) (a b : Int) (w : World) (hn : n ≤ 200) (hc : n ≤ c) (ra : -9223372036854775808 ≤ a ∧ a ≤ 9223372036854775807) (rb : -9223372036854775808 ≤ b ∧ b ≤ 9223372036854775807) (k : Nat) (ha : a = k) (m : Nat) (hb : b = m) (hmn : m ≤ n) (hC : m < k) :
    Calls Try.prog 35 #[.agg #[.int .i64 5, .int .i64 i, .float .f64 f, .string t, .bool bo, .slice ip n c, .slice kp kl kc], .int .i64 a, .int .i64 b] w (Gives (.agg #[Value.int .i64 5, .int .i64 0, .float .f64 0, .string ⟨#[]⟩, .bool false, .slice none 0 0, .slice none 0 0]) w) := by
  subst ha
  have im : max 0 (k : Int) = k := by omega
  subst hb
  have iy : min (n : Int) m = m := by omega
  have dC : decide (m < k) = true := decide_eq_true hC
  clear ra rb
  go_enter Try.func35, Try.ntmps35
  go_wp2_with fail
  refine bodyPost_ret (by simp [results, Try.results35, go_sem]) rfl ⟨rfl, ?_⟩
  exact ((Below.refl w.heap.size w).alloc (Nat.le_refl _) _).alloc (by simp) _

set_option maxHeartbeats 400000 in
set_option maxRecDepth 100000 in
theorem cupart_pp_po_l (i : Int) (f : Nat) (t : ByteArray) (bo : Bool) (ip : Option Addr) (n c : Nat) (kp : Option Addr) (kl kc : Nat) (a b : Int) (w : World) (hn : n ≤ 200) (hc : n ≤ c) (ra : -9223372036854775808 ≤ a ∧ a ≤ 9223372036854775807) (rb : -9223372036854775808 ≤ b ∧ b ≤ 9223372036854775807) (k : Nat) (ha : a = k) (m : Nat) (hb : b = m) (hmn : n < m) (hC : k ≤ n) :
    Calls Try.prog 35 #[.agg #[.int .i64 5, .int .i64 i, .float .f64 f, .string t, .bool bo, .slice ip n c, .slice kp kl kc], .int .i64 a, .int .i64 b] w (Gives (.agg #[Value.int .i64 5, .int .i64 0, .float .f64 0, .string ⟨#[]⟩, .bool false, .slice (slO ip c k 7) (n - k) (c - k), .slice none 0 0]) w) := by
  subst ha
  have im : max 0 (k : Int) = k := by omega
  subst hb
  have iy : min (n : Int) m = n := by omega
  have dC : decide (n < k) = false := decide_eq_false (by omega)
  have HSL := slice27 ip n c k n (by omega) (by omega)
  generalize slO ip c k 7 = q at *
  clear ra rb
  go_enter Try.func35, Try.ntmps35
  go_wp2_with fail
  refine bodyPost_ret (by simp [results, Try.results35, go_sem]) rfl ⟨rfl, ?_⟩
  exact ((Below.refl w.heap.size w).alloc (Nat.le_refl _) _).alloc (by simp) _

set_option maxHeartbeats 400000 in
set_option maxRecDepth 100000 in
theorem cupart_pp_po_g (i : Int) (f : Nat) (t : ByteArray) (bo : Bool) (ip : Option Addr) (n c : Nat) (kp : Option Addr) (kl kc : Nat) (a b : Int) (w : World) (hn : n ≤ 200) (hc : n ≤ c) (ra : -9223372036854775808 ≤ a ∧ a ≤ 9223372036854775807) (rb : -9223372036854775808 ≤ b ∧ b ≤ 9223372036854775807) (k : Nat) (ha : a = k) (m : Nat) (hb : b = m) (hmn : n < m) (hC : n < k) :
    Calls Try.prog 35 #[.agg #[.int .i64 5, .int .i64 i, .float .f64 f, .string t, .bool bo, .slice ip n c, .slice kp kl kc], .int .i64 a, .int .i64 b] w (Gives (.agg #[Value.int .i64 5, .int .i64 0, .float .f64 0, .string ⟨#[]⟩, .bool false, .slice none 0 0, .slice none 0 0]) w) := by
  subst ha
  have im : max 0 (k : Int) = k := by omega
  subst hb
  have iy : min (n : Int) m = n := by omega
  have dC : decide (n < k) = true := decide_eq_true hC
  clear ra rb
  go_enter Try.func35, Try.ntmps35
  go_wp2_with fail
  refine bodyPost_ret (by simp [results, Try.results35, go_sem]) rfl ⟨rfl, ?_⟩
  exact ((Below.refl w.heap.size w).alloc (Nat.le_refl _) _).alloc (by simp) _


/-- The part of a list. -/
def partV (x : SV) (a b : Int) : SV :=
  if (if idxI x.items.length b < x.items.length then idxI x.items.length b else x.items.length) < (if 0 < idxI x.items.length a then idxI x.items.length a else 0) then .mk 5 0 0 ⟨#[]⟩ false none 0 [] none 0 []
  else .mk 5 0 0 ⟨#[]⟩ false (slO x.ip x.ic (loI x.items.length a b) 7) (x.ic - loI x.items.length a b) ((x.items.drop (loI x.items.length a b)).take (hiI x.items.length b - loI x.items.length a b)) none 0 []

theorem cupart_run (x : SV) (hk : x.kind = 5) (a b : Int) (w : World) (hn : x.items.length ≤ 200) (hc : x.items.length ≤ x.ic) (ra : -9223372036854775808 ≤ a ∧ a ≤ 9223372036854775807) (rb : -9223372036854775808 ≤ b ∧ b ≤ 9223372036854775807) :
    Calls Try.prog 35 #[x.val, .int .i64 a, .int .i64 b] w (Gives (partV x a b).val w) := by
  have HA : (a < 0 ∧ (x.items.length : Int) + a < 0) ∨ (∃ k : Nat, a < 0 ∧ (x.items.length : Int) + a = k) ∨ (∃ k : Nat, a = k) := by
    by_cases h : a < 0
    · by_cases h2 : (x.items.length : Int) + a < 0
      · exact .inl ⟨h, h2⟩
      · exact .inr (.inl ⟨((x.items.length : Int) + a).toNat, h, by omega⟩)
    · exact .inr (.inr ⟨a.toNat, by omega⟩)
  have HB : (b < 0 ∧ (x.items.length : Int) + b < 0) ∨ (∃ m : Nat, b < 0 ∧ (x.items.length : Int) + b = m) ∨ (∃ m : Nat, b = m ∧ m ≤ x.items.length) ∨ (∃ m : Nat, b = m ∧ x.items.length < m) := by
    by_cases h : b < 0
    · by_cases h2 : (x.items.length : Int) + b < 0
      · exact .inl ⟨h, h2⟩
      · exact .inr (.inl ⟨((x.items.length : Int) + b).toNat, h, by omega⟩)
    · by_cases h2 : b ≤ x.items.length
      · exact .inr (.inr (.inl ⟨b.toNat, by omega, by omega⟩))
      · exact .inr (.inr (.inr ⟨b.toNat, by omega, by omega⟩))
  have vx : x.val = .agg #[.int .i64 5, .int .i64 x.int, .float .f64 x.fl, .string x.text, .bool x.bool, .slice x.ip x.items.length x.ic, .slice x.kp x.keys.length x.kc] := by unfold SV.val; rw [hk]
  have empty : (if idxI x.items.length b < x.items.length then idxI x.items.length b else x.items.length) < (if 0 < idxI x.items.length a then idxI x.items.length a else 0) → (partV x a b).val = .agg #[Value.int .i64 5, .int .i64 0, .float .f64 0, .string ⟨#[]⟩, .bool false, .slice none 0 0, .slice none 0 0] := fun h => by
    unfold partV
    rw [if_pos h]
    rfl
  have part : ∀ lo hi : Nat, ¬ (if idxI x.items.length b < x.items.length then idxI x.items.length b else x.items.length) < (if 0 < idxI x.items.length a then idxI x.items.length a else 0) → loI x.items.length a b = lo → hiI x.items.length b = hi → hi ≤ x.items.length →
      (partV x a b).val = .agg #[Value.int .i64 5, .int .i64 0, .float .f64 0, .string ⟨#[]⟩, .bool false, .slice (slO x.ip x.ic lo 7) (hi - lo) (x.ic - lo), .slice none 0 0] := fun lo hi h e1 e2 e3 => by
    unfold partV
    rw [if_neg h, e1, e2]
    have e4 : ((x.items.drop lo).take (hi - lo)).length = hi - lo := by simp; omega
    show Value.agg #[Value.int .i64 5, .int .i64 0, .float .f64 0, .string ⟨#[]⟩, .bool false, .slice (slO x.ip x.ic lo 7) ((x.items.drop lo).take (hi - lo)).length (x.ic - lo), .slice none 0 0] = _
    rw [e4]
  rw [vx]
  rcases HA with ⟨ha, hz⟩ | ⟨k, ha, hk2⟩ | ⟨k, ha⟩ <;> rcases HB with ⟨hb, hy⟩ | ⟨m, hb, hm⟩ | ⟨m, hb, hmn⟩ | ⟨m, hb, hmn⟩
  · rw [empty (by unfold idxI; (repeat' split) <;> omega)]
    exact cupart_nn_nn_g _ _ _ _ _ _ _ _ _ _ a b w hn hc ra rb ha hz hb hy
  · rw [part 0 m (by unfold idxI; (repeat' split) <;> omega) (by unfold loI hiI idxI; (repeat' split) <;> omega) (by unfold hiI idxI; (repeat' split) <;> omega) (by omega)]
    exact cupart_nn_np_l _ _ _ _ _ _ _ _ _ _ a b w hn hc ra rb ha hz m hb hm
  · rw [part 0 m (by unfold idxI; (repeat' split) <;> omega) (by unfold loI hiI idxI; (repeat' split) <;> omega) (by unfold hiI idxI; (repeat' split) <;> omega) (by omega)]
    exact cupart_nn_pi_l _ _ _ _ _ _ _ _ _ _ a b w hn hc ra rb ha hz m hb hmn
  · rw [part 0 x.items.length (by unfold idxI; (repeat' split) <;> omega) (by unfold loI hiI idxI; (repeat' split) <;> omega) (by unfold hiI idxI; (repeat' split) <;> omega) (by omega)]
    exact cupart_nn_po_l _ _ _ _ _ _ _ _ _ _ a b w hn hc ra rb ha hz m hb hmn
  · rw [empty (by unfold idxI; (repeat' split) <;> omega)]
    exact cupart_np_nn_g _ _ _ _ _ _ _ _ _ _ a b w hn hc ra rb k ha hk2 hb hy
  · by_cases hC : k ≤ m
    · rw [part k m (by unfold idxI; (repeat' split) <;> omega) (by unfold loI hiI idxI; (repeat' split) <;> omega) (by unfold hiI idxI; (repeat' split) <;> omega) (by omega)]
      exact cupart_np_np_l _ _ _ _ _ _ _ _ _ _ a b w hn hc ra rb k ha hk2 m hb hm hC
    · rw [empty (by unfold idxI; (repeat' split) <;> omega)]
      exact cupart_np_np_g _ _ _ _ _ _ _ _ _ _ a b w hn hc ra rb k ha hk2 m hb hm (by omega)
  · by_cases hC : k ≤ m
    · rw [part k m (by unfold idxI; (repeat' split) <;> omega) (by unfold loI hiI idxI; (repeat' split) <;> omega) (by unfold hiI idxI; (repeat' split) <;> omega) (by omega)]
      exact cupart_np_pi_l _ _ _ _ _ _ _ _ _ _ a b w hn hc ra rb k ha hk2 m hb hmn hC
    · rw [empty (by unfold idxI; (repeat' split) <;> omega)]
      exact cupart_np_pi_g _ _ _ _ _ _ _ _ _ _ a b w hn hc ra rb k ha hk2 m hb hmn (by omega)
  · rw [part k x.items.length (by unfold idxI; (repeat' split) <;> omega) (by unfold loI hiI idxI; (repeat' split) <;> omega) (by unfold hiI idxI; (repeat' split) <;> omega) (by omega)]
    exact cupart_np_po_l _ _ _ _ _ _ _ _ _ _ a b w hn hc ra rb k ha hk2 m hb hmn (by omega)
  · rw [empty (by unfold idxI; (repeat' split) <;> omega)]
    exact cupart_pp_nn_g _ _ _ _ _ _ _ _ _ _ a b w hn hc ra rb k ha hb hy
  · by_cases hC : k ≤ m
    · rw [part k m (by unfold idxI; (repeat' split) <;> omega) (by unfold loI hiI idxI; (repeat' split) <;> omega) (by unfold hiI idxI; (repeat' split) <;> omega) (by omega)]
      exact cupart_pp_np_l _ _ _ _ _ _ _ _ _ _ a b w hn hc ra rb k ha m hb hm hC
    · rw [empty (by unfold idxI; (repeat' split) <;> omega)]
      exact cupart_pp_np_g _ _ _ _ _ _ _ _ _ _ a b w hn hc ra rb k ha m hb hm (by omega)
  · by_cases hC : k ≤ m
    · rw [part k m (by unfold idxI; (repeat' split) <;> omega) (by unfold loI hiI idxI; (repeat' split) <;> omega) (by unfold hiI idxI; (repeat' split) <;> omega) (by omega)]
      exact cupart_pp_pi_l _ _ _ _ _ _ _ _ _ _ a b w hn hc ra rb k ha m hb hmn hC
    · rw [empty (by unfold idxI; (repeat' split) <;> omega)]
      exact cupart_pp_pi_g _ _ _ _ _ _ _ _ _ _ a b w hn hc ra rb k ha m hb hmn (by omega)
  · by_cases hC : k ≤ x.items.length
    · rw [part k x.items.length (by unfold idxI; (repeat' split) <;> omega) (by unfold loI hiI idxI; (repeat' split) <;> omega) (by unfold hiI idxI; (repeat' split) <;> omega) (by omega)]
      exact cupart_pp_po_l _ _ _ _ _ _ _ _ _ _ a b w hn hc ra rb k ha m hb hmn hC
    · rw [empty (by unfold idxI; (repeat' split) <;> omega)]
      exact cupart_pp_po_g _ _ _ _ _ _ _ _ _ _ a b w hn hc ra rb k ha m hb hmn (by omega)
end Go.Proofs.Ythmogfjmngbamaa

