/-
  'runtime.ZzLen', 'runtime.ZzSlice', 'runtime.Slice' at lists.
-/
import Derived.Test.YthmogfjmngbamaaFdoor
import Derived.Laws.Slices
namespace Go.Proofs.Ythmogfjmngbamaa
open Go.RowKit
set_option linter.unusedSimpArgs false
set_option linter.unusedVariables false

set_option maxHeartbeats 400000 in
set_option maxRecDepth 100000 in
theorem zzlen_list (p : Addr) (l c : Nat) (w : World) : Calls Try.prog 108 #[.iface 87 (.slice (some p) l c)] w (Tells (.tuple #[.int .i64 l, .bool true]) w) := by
  go_enter Try.func108, Try.ntmps108
  go_wp2_with fail
  go_ret2
  exact ⟨rfl, rfl⟩

/-- Where the part of a slice begins. -/
def slP (p : Addr) (c lo s : Nat) : Addr := if c = lo then p else p.add (lo * s)
theorem sliced_slP (p : Addr) (lo hi c s : Nat) : sliced (some p) lo hi c s = .slice (some (slP p c lo s)) (hi - lo) (c - lo) := by
  unfold sliced slP
  split <;> rfl

set_option maxHeartbeats 400000 in
set_option maxRecDepth 100000 in
theorem zzslice_list (p : Addr) (l c lo hi : Nat) (h1 : lo ≤ hi) (h2 : hi ≤ c) (w : World) : Calls Try.prog 110 #[.iface 87 (.slice (some p) l c), .int .i64 lo, .int .i64 hi] w (Tells (.iface 87 (.slice (some (slP p c lo 1)) (hi - lo) (c - lo))) w) := by
  have hs : ∀ w, (Instr.slice 87 (.slice (some p) l c) (some (.int .i64 lo)) (some (.int .i64 hi)) none).run Try.prog w = .ok (.slice (some (slP p c lo 1)) (hi - lo) (c - lo)) w := fun w => by
    rw [run_slice_lh (P := Try.prog) w 87 (some p) l c Try.underlying87 .i64 .i64 lo hi (by omega) (by omega) (by omega)]
    have e : (sizeOf (Try.prog.elem 87)).run Try.prog w = .ok 1 w := by simp [go_sem]
    rw [e]
    simp only [Result.andThen, Int.toNat_natCast, sliced_slP]
  generalize slP p c lo 1 = q at *
  clear h1 h2
  go_enter Try.func110, Try.ntmps110
  go_wp2_with fail
  go_ret
  exact ⟨rfl, rfl⟩

/-- The end of the part, and its beginning. -/
def hiI (n : Nat) (b : Int) : Nat := if idxI n b < 0 then 0 else if (n : Int) < idxI n b then n else (idxI n b).toNat
def loI (n : Nat) (a b : Int) : Nat := if hiI n b < (idxI n a).toNat then hiI n b else (idxI n a).toNat

set_option maxHeartbeats 400000 in
set_option maxRecDepth 100000 in
theorem slice_nn_nn_l (p : Addr) (n c : Nat) (a b : Int) (w : World) (hn : n ≤ 200) (hc : n ≤ c) (ra : -9223372036854775808 ≤ a ∧ a ≤ 9223372036854775807) (rb : -9223372036854775808 ≤ b ∧ b ≤ 9223372036854775807) (ha : a < 0) (hz : (n : Int) + a < 0) (hb : b < 0) (hy : (n : Int) + b < 0) :
    Calls Try.prog 78 #[.iface 87 (.slice (some p) n c), .iface 3 (.int .i64 a), .iface 3 (.int .i64 b)] w (Tells (.iface 87 (.slice (some (slP p c 0 1)) (0 - 0) (c - 0))) w) := by
  have da : decide (a < 0) = true := decide_eq_true ha
  obtain ⟨z, hz'⟩ : ∃ z, z = (n : Int) + a := ⟨_, rfl⟩
  have ez : (n : Int) + a = z := hz'.symm
  have hzw : IntKind.i64.wrap z = z := by simp [IntKind.wrap, IntKind.bits, IntKind.signed]; omega
  have dz : decide (z < 0) = true := decide_eq_true (by omega)
  clear hz hz' ha
  have db : decide (b < 0) = true := decide_eq_true hb
  obtain ⟨y, hy'⟩ : ∃ y, y = (n : Int) + b := ⟨_, rfl⟩
  have ey : (n : Int) + b = y := hy'.symm
  have hyw : IntKind.i64.wrap y = y := by simp [IntKind.wrap, IntKind.bits, IntKind.signed]; omega
  have dy : decide (y < 0) = true := decide_eq_true (by omega)
  clear hy hy' hb
  have H1 := Lib.hid (zzlen_list p n c)
  have H2 := Lib.hid (toi_int a)
  have H3 := Lib.hid (toi_int b)
  have H4 := Lib.hid (zzslice_list p n c 0 0 (by omega) (by omega))
  generalize slP p c 0 1 = q at *
  clear ra rb
  go_enter Try.func78, Try.ntmps78
  go_wp2_with fail
  refine Calls.mono (by exact H1.out _) ?_
  rintro e w1 ⟨rfl, rfl⟩
  go_wp2_with fail
  refine Calls.mono (by exact H2.out _) ?_
  rintro e w1 ⟨rfl, rfl⟩
  go_wp2_with fail
  refine Calls.mono (by exact H3.out _) ?_
  rintro e w1 ⟨rfl, rfl⟩
  go_wp2_with fail
  refine Calls.mono (by exact H4.out _) ?_
  rintro e w1 ⟨rfl, rfl⟩
  go_wp2_with fail
  go_ret
  exact ⟨rfl, rfl⟩

set_option maxHeartbeats 400000 in
set_option maxRecDepth 100000 in
theorem slice_nn_np_l (p : Addr) (n c : Nat) (a b : Int) (w : World) (hn : n ≤ 200) (hc : n ≤ c) (ra : -9223372036854775808 ≤ a ∧ a ≤ 9223372036854775807) (rb : -9223372036854775808 ≤ b ∧ b ≤ 9223372036854775807) (ha : a < 0) (hz : (n : Int) + a < 0) (m : Nat) (hb : b < 0) (hm : (n : Int) + b = m) :
    Calls Try.prog 78 #[.iface 87 (.slice (some p) n c), .iface 3 (.int .i64 a), .iface 3 (.int .i64 b)] w (Tells (.iface 87 (.slice (some (slP p c 0 1)) (m - 0) (c - 0))) w) := by
  have da : decide (a < 0) = true := decide_eq_true ha
  obtain ⟨z, hz'⟩ : ∃ z, z = (n : Int) + a := ⟨_, rfl⟩
  have ez : (n : Int) + a = z := hz'.symm
  have hzw : IntKind.i64.wrap z = z := by simp [IntKind.wrap, IntKind.bits, IntKind.signed]; omega
  have dz : decide (z < 0) = true := decide_eq_true (by omega)
  clear hz hz' ha
  have db : decide (b < 0) = true := decide_eq_true hb
  have hmn : m < n := by omega
  have dm : decide (n < m) = false := decide_eq_false (by omega)
  have H1 := Lib.hid (zzlen_list p n c)
  have H2 := Lib.hid (toi_int a)
  have H3 := Lib.hid (toi_int b)
  have H4 := Lib.hid (zzslice_list p n c 0 m (by omega) (by omega))
  generalize slP p c 0 1 = q at *
  clear ra rb
  go_enter Try.func78, Try.ntmps78
  go_wp2_with fail
  refine Calls.mono (by exact H1.out _) ?_
  rintro e w1 ⟨rfl, rfl⟩
  go_wp2_with fail
  refine Calls.mono (by exact H2.out _) ?_
  rintro e w1 ⟨rfl, rfl⟩
  go_wp2_with fail
  refine Calls.mono (by exact H3.out _) ?_
  rintro e w1 ⟨rfl, rfl⟩
  go_wp2_with fail
  refine Calls.mono (by exact H4.out _) ?_
  rintro e w1 ⟨rfl, rfl⟩
  go_wp2_with fail
  go_ret
  exact ⟨rfl, rfl⟩

set_option maxHeartbeats 400000 in
set_option maxRecDepth 100000 in
theorem slice_nn_pi_l (p : Addr) (n c : Nat) (a b : Int) (w : World) (hn : n ≤ 200) (hc : n ≤ c) (ra : -9223372036854775808 ≤ a ∧ a ≤ 9223372036854775807) (rb : -9223372036854775808 ≤ b ∧ b ≤ 9223372036854775807) (ha : a < 0) (hz : (n : Int) + a < 0) (m : Nat) (hb : b = m) (hmn : m ≤ n) :
    Calls Try.prog 78 #[.iface 87 (.slice (some p) n c), .iface 3 (.int .i64 a), .iface 3 (.int .i64 b)] w (Tells (.iface 87 (.slice (some (slP p c 0 1)) (m - 0) (c - 0))) w) := by
  have da : decide (a < 0) = true := decide_eq_true ha
  obtain ⟨z, hz'⟩ : ∃ z, z = (n : Int) + a := ⟨_, rfl⟩
  have ez : (n : Int) + a = z := hz'.symm
  have hzw : IntKind.i64.wrap z = z := by simp [IntKind.wrap, IntKind.bits, IntKind.signed]; omega
  have dz : decide (z < 0) = true := decide_eq_true (by omega)
  clear hz hz' ha
  subst hb
  have dm : decide (n < m) = false := decide_eq_false (by omega)
  have H1 := Lib.hid (zzlen_list p n c)
  have H2 := Lib.hid (toi_int a)
  have H3 := Lib.hid (toi_int m)
  have H4 := Lib.hid (zzslice_list p n c 0 m (by omega) (by omega))
  generalize slP p c 0 1 = q at *
  clear ra rb
  go_enter Try.func78, Try.ntmps78
  go_wp2_with fail
  refine Calls.mono (by exact H1.out _) ?_
  rintro e w1 ⟨rfl, rfl⟩
  go_wp2_with fail
  refine Calls.mono (by exact H2.out _) ?_
  rintro e w1 ⟨rfl, rfl⟩
  go_wp2_with fail
  refine Calls.mono (by exact H3.out _) ?_
  rintro e w1 ⟨rfl, rfl⟩
  go_wp2_with fail
  refine Calls.mono (by exact H4.out _) ?_
  rintro e w1 ⟨rfl, rfl⟩
  go_wp2_with fail
  go_ret
  exact ⟨rfl, rfl⟩

set_option maxHeartbeats 400000 in
set_option maxRecDepth 100000 in
theorem slice_nn_po_l (p : Addr) (n c : Nat) (a b : Int) (w : World) (hn : n ≤ 200) (hc : n ≤ c) (ra : -9223372036854775808 ≤ a ∧ a ≤ 9223372036854775807) (rb : -9223372036854775808 ≤ b ∧ b ≤ 9223372036854775807) (ha : a < 0) (hz : (n : Int) + a < 0) (m : Nat) (hb : b = m) (hmn : n < m) :
    Calls Try.prog 78 #[.iface 87 (.slice (some p) n c), .iface 3 (.int .i64 a), .iface 3 (.int .i64 b)] w (Tells (.iface 87 (.slice (some (slP p c 0 1)) (n - 0) (c - 0))) w) := by
  have da : decide (a < 0) = true := decide_eq_true ha
  obtain ⟨z, hz'⟩ : ∃ z, z = (n : Int) + a := ⟨_, rfl⟩
  have ez : (n : Int) + a = z := hz'.symm
  have hzw : IntKind.i64.wrap z = z := by simp [IntKind.wrap, IntKind.bits, IntKind.signed]; omega
  have dz : decide (z < 0) = true := decide_eq_true (by omega)
  clear hz hz' ha
  subst hb
  have dm : decide (n < m) = true := decide_eq_true hmn
  have H1 := Lib.hid (zzlen_list p n c)
  have H2 := Lib.hid (toi_int a)
  have H3 := Lib.hid (toi_int m)
  have H4 := Lib.hid (zzslice_list p n c 0 n (by omega) (by omega))
  generalize slP p c 0 1 = q at *
  clear ra rb
  go_enter Try.func78, Try.ntmps78
  go_wp2_with fail
  refine Calls.mono (by exact H1.out _) ?_
  rintro e w1 ⟨rfl, rfl⟩
  go_wp2_with fail
  refine Calls.mono (by exact H2.out _) ?_
  rintro e w1 ⟨rfl, rfl⟩
  go_wp2_with fail
  refine Calls.mono (by exact H3.out _) ?_
  rintro e w1 ⟨rfl, rfl⟩
  go_wp2_with fail
  refine Calls.mono (by exact H4.out _) ?_
  rintro e w1 ⟨rfl, rfl⟩
  go_wp2_with fail
  go_ret
  exact ⟨rfl, rfl⟩

set_option maxHeartbeats 400000 in
set_option maxRecDepth 100000 in
theorem slice_np_nn_l (p : Addr) (n c : Nat) (a b : Int) (w : World) (hn : n ≤ 200) (hc : n ≤ c) (ra : -9223372036854775808 ≤ a ∧ a ≤ 9223372036854775807) (rb : -9223372036854775808 ≤ b ∧ b ≤ 9223372036854775807) (k : Nat) (ha : a < 0) (hk : (n : Int) + a = k) (hb : b < 0) (hy : (n : Int) + b < 0) (hC : k = 0) :
    Calls Try.prog 78 #[.iface 87 (.slice (some p) n c), .iface 3 (.int .i64 a), .iface 3 (.int .i64 b)] w (Tells (.iface 87 (.slice (some (slP p c 0 1)) (0 - 0) (c - 0))) w) := by
  have da : decide (a < 0) = true := decide_eq_true ha
  have hkn : k < n := by omega
  have db : decide (b < 0) = true := decide_eq_true hb
  obtain ⟨y, hy'⟩ : ∃ y, y = (n : Int) + b := ⟨_, rfl⟩
  have ey : (n : Int) + b = y := hy'.symm
  have hyw : IntKind.i64.wrap y = y := by simp [IntKind.wrap, IntKind.bits, IntKind.signed]; omega
  have dy : decide (y < 0) = true := decide_eq_true (by omega)
  clear hy hy' hb
  subst hC
  have H1 := Lib.hid (zzlen_list p n c)
  have H2 := Lib.hid (toi_int a)
  have H3 := Lib.hid (toi_int b)
  have H4 := Lib.hid (zzslice_list p n c 0 0 (by omega) (by omega))
  generalize slP p c 0 1 = q at *
  clear ra rb
  go_enter Try.func78, Try.ntmps78
  go_wp2_with fail
  refine Calls.mono (by exact H1.out _) ?_
  rintro e w1 ⟨rfl, rfl⟩
  go_wp2_with fail
  refine Calls.mono (by exact H2.out _) ?_
  rintro e w1 ⟨rfl, rfl⟩
  go_wp2_with fail
  refine Calls.mono (by exact H3.out _) ?_
  rintro e w1 ⟨rfl, rfl⟩
  go_wp2_with fail
  refine Calls.mono (by exact H4.out _) ?_
  rintro e w1 ⟨rfl, rfl⟩
  go_wp2_with fail
  go_ret
  exact ⟨rfl, rfl⟩

set_option maxHeartbeats 400000 in
set_option maxRecDepth 100000 in
theorem slice_np_nn_g (p : Addr) (n c : Nat) (a b : Int) (w : World) (hn : n ≤ 200) (hc : n ≤ c) (ra : -9223372036854775808 ≤ a ∧ a ≤ 9223372036854775807) (rb : -9223372036854775808 ≤ b ∧ b ≤ 9223372036854775807) (k : Nat) (ha : a < 0) (hk : (n : Int) + a = k) (hb : b < 0) (hy : (n : Int) + b < 0) (hC : 0 < k) :
    Calls Try.prog 78 #[.iface 87 (.slice (some p) n c), .iface 3 (.int .i64 a), .iface 3 (.int .i64 b)] w (Tells (.iface 87 (.slice (some (slP p c 0 1)) (0 - 0) (c - 0))) w) := by
  have da : decide (a < 0) = true := decide_eq_true ha
  have hkn : k < n := by omega
  have db : decide (b < 0) = true := decide_eq_true hb
  obtain ⟨y, hy'⟩ : ∃ y, y = (n : Int) + b := ⟨_, rfl⟩
  have ey : (n : Int) + b = y := hy'.symm
  have hyw : IntKind.i64.wrap y = y := by simp [IntKind.wrap, IntKind.bits, IntKind.signed]; omega
  have dy : decide (y < 0) = true := decide_eq_true (by omega)
  clear hy hy' hb
  have dC : decide (0 < k) = true := decide_eq_true hC
  have H1 := Lib.hid (zzlen_list p n c)
  have H2 := Lib.hid (toi_int a)
  have H3 := Lib.hid (toi_int b)
  have H4 := Lib.hid (zzslice_list p n c 0 0 (by omega) (by omega))
  generalize slP p c 0 1 = q at *
  clear ra rb
  go_enter Try.func78, Try.ntmps78
  go_wp2_with fail
  refine Calls.mono (by exact H1.out _) ?_
  rintro e w1 ⟨rfl, rfl⟩
  go_wp2_with fail
  refine Calls.mono (by exact H2.out _) ?_
  rintro e w1 ⟨rfl, rfl⟩
  go_wp2_with fail
  refine Calls.mono (by exact H3.out _) ?_
  rintro e w1 ⟨rfl, rfl⟩
  go_wp2_with fail
  refine Calls.mono (by exact H4.out _) ?_
  rintro e w1 ⟨rfl, rfl⟩
  go_wp2_with fail
  go_ret
  exact ⟨rfl, rfl⟩

set_option maxHeartbeats 400000 in
set_option maxRecDepth 100000 in
theorem slice_np_np_l (p : Addr) (n c : Nat) (a b : Int) (w : World) (hn : n ≤ 200) (hc : n ≤ c) (ra : -9223372036854775808 ≤ a ∧ a ≤ 9223372036854775807) (rb : -9223372036854775808 ≤ b ∧ b ≤ 9223372036854775807) (k : Nat) (ha : a < 0) (hk : (n : Int) + a = k) (m : Nat) (hb : b < 0) (hm : (n : Int) + b = m) (hC : k ≤ m) :
    Calls Try.prog 78 #[.iface 87 (.slice (some p) n c), .iface 3 (.int .i64 a), .iface 3 (.int .i64 b)] w (Tells (.iface 87 (.slice (some (slP p c k 1)) (m - k) (c - k))) w) := by
  have da : decide (a < 0) = true := decide_eq_true ha
  have hkn : k < n := by omega
  have db : decide (b < 0) = true := decide_eq_true hb
  have hmn : m < n := by omega
  have dm : decide (n < m) = false := decide_eq_false (by omega)
  have dC : decide (m < k) = false := decide_eq_false (by omega)
  have H1 := Lib.hid (zzlen_list p n c)
  have H2 := Lib.hid (toi_int a)
  have H3 := Lib.hid (toi_int b)
  have H4 := Lib.hid (zzslice_list p n c k m (by omega) (by omega))
  generalize slP p c k 1 = q at *
  clear ra rb
  go_enter Try.func78, Try.ntmps78
  go_wp2_with fail
  refine Calls.mono (by exact H1.out _) ?_
  rintro e w1 ⟨rfl, rfl⟩
  go_wp2_with fail
  refine Calls.mono (by exact H2.out _) ?_
  rintro e w1 ⟨rfl, rfl⟩
  go_wp2_with fail
  refine Calls.mono (by exact H3.out _) ?_
  rintro e w1 ⟨rfl, rfl⟩
  go_wp2_with fail
  refine Calls.mono (by exact H4.out _) ?_
  rintro e w1 ⟨rfl, rfl⟩
  go_wp2_with fail
  go_ret
  exact ⟨rfl, rfl⟩

set_option maxHeartbeats 400000 in
set_option maxRecDepth 100000 in
theorem slice_np_np_g (p : Addr) (n c : Nat) (a b : Int) (w : World) (hn : n ≤ 200) (hc : n ≤ c) (ra : -9223372036854775808 ≤ a ∧ a ≤ 9223372036854775807) (rb : -9223372036854775808 ≤ b ∧ b ≤ 9223372036854775807) (k : Nat) (ha : a < 0) (hk : (n : Int) + a = k) (m : Nat) (hb : b < 0) (hm : (n : Int) + b = m) (hC : m < k) :
    Calls Try.prog 78 #[.iface 87 (.slice (some p) n c), .iface 3 (.int .i64 a), .iface 3 (.int .i64 b)] w (Tells (.iface 87 (.slice (some (slP p c m 1)) (m - m) (c - m))) w) := by
  have da : decide (a < 0) = true := decide_eq_true ha
  have hkn : k < n := by omega
  have db : decide (b < 0) = true := decide_eq_true hb
  have hmn : m < n := by omega
  have dm : decide (n < m) = false := decide_eq_false (by omega)
  have dC : decide (m < k) = true := decide_eq_true hC
  have H1 := Lib.hid (zzlen_list p n c)
  have H2 := Lib.hid (toi_int a)
  have H3 := Lib.hid (toi_int b)
  have H4 := Lib.hid (zzslice_list p n c m m (by omega) (by omega))
  generalize slP p c m 1 = q at *
  clear ra rb
  go_enter Try.func78, Try.ntmps78
  go_wp2_with fail
  refine Calls.mono (by exact H1.out _) ?_
  rintro e w1 ⟨rfl, rfl⟩
  go_wp2_with fail
  refine Calls.mono (by exact H2.out _) ?_
  rintro e w1 ⟨rfl, rfl⟩
  go_wp2_with fail
  refine Calls.mono (by exact H3.out _) ?_
  rintro e w1 ⟨rfl, rfl⟩
  go_wp2_with fail
  refine Calls.mono (by exact H4.out _) ?_
  rintro e w1 ⟨rfl, rfl⟩
  go_wp2_with fail
  go_ret
  exact ⟨by rw [Nat.sub_self]; rfl, rfl⟩

set_option maxHeartbeats 400000 in
set_option maxRecDepth 100000 in
theorem slice_np_pi_l (p : Addr) (n c : Nat) (a b : Int) (w : World) (hn : n ≤ 200) (hc : n ≤ c) (ra : -9223372036854775808 ≤ a ∧ a ≤ 9223372036854775807) (rb : -9223372036854775808 ≤ b ∧ b ≤ 9223372036854775807) (k : Nat) (ha : a < 0) (hk : (n : Int) + a = k) (m : Nat) (hb : b = m) (hmn : m ≤ n) (hC : k ≤ m) :
    Calls Try.prog 78 #[.iface 87 (.slice (some p) n c), .iface 3 (.int .i64 a), .iface 3 (.int .i64 b)] w (Tells (.iface 87 (.slice (some (slP p c k 1)) (m - k) (c - k))) w) := by
  have da : decide (a < 0) = true := decide_eq_true ha
  have hkn : k < n := by omega
  subst hb
  have dm : decide (n < m) = false := decide_eq_false (by omega)
  have dC : decide (m < k) = false := decide_eq_false (by omega)
  have H1 := Lib.hid (zzlen_list p n c)
  have H2 := Lib.hid (toi_int a)
  have H3 := Lib.hid (toi_int m)
  have H4 := Lib.hid (zzslice_list p n c k m (by omega) (by omega))
  generalize slP p c k 1 = q at *
  clear ra rb
  go_enter Try.func78, Try.ntmps78
  go_wp2_with fail
  refine Calls.mono (by exact H1.out _) ?_
  rintro e w1 ⟨rfl, rfl⟩
  go_wp2_with fail
  refine Calls.mono (by exact H2.out _) ?_
  rintro e w1 ⟨rfl, rfl⟩
  go_wp2_with fail
  refine Calls.mono (by exact H3.out _) ?_
  rintro e w1 ⟨rfl, rfl⟩
  go_wp2_with fail
  refine Calls.mono (by exact H4.out _) ?_
  rintro e w1 ⟨rfl, rfl⟩
  go_wp2_with fail
  go_ret
  exact ⟨rfl, rfl⟩

set_option maxHeartbeats 400000 in
set_option maxRecDepth 100000 in
theorem slice_np_pi_g (p : Addr) (n c : Nat) (a b : Int) (w : World) (hn : n ≤ 200) (hc : n ≤ c) (ra : -9223372036854775808 ≤ a ∧ a ≤ 9223372036854775807) (rb : -9223372036854775808 ≤ b ∧ b ≤ 9223372036854775807) (k : Nat) (ha : a < 0) (hk : (n : Int) + a = k) (m : Nat) (hb : b = m) (hmn : m ≤ n) (hC : m < k) :
    Calls Try.prog 78 #[.iface 87 (.slice (some p) n c), .iface 3 (.int .i64 a), .iface 3 (.int .i64 b)] w (Tells (.iface 87 (.slice (some (slP p c m 1)) (m - m) (c - m))) w) := by
  have da : decide (a < 0) = true := decide_eq_true ha
  have hkn : k < n := by omega
  subst hb
  have dm : decide (n < m) = false := decide_eq_false (by omega)
  have dC : decide (m < k) = true := decide_eq_true hC
  have H1 := Lib.hid (zzlen_list p n c)
  have H2 := Lib.hid (toi_int a)
  have H3 := Lib.hid (toi_int m)
  have H4 := Lib.hid (zzslice_list p n c m m (by omega) (by omega))
  generalize slP p c m 1 = q at *
  clear ra rb
  go_enter Try.func78, Try.ntmps78
  go_wp2_with fail
  refine Calls.mono (by exact H1.out _) ?_
  rintro e w1 ⟨rfl, rfl⟩
  go_wp2_with fail
  refine Calls.mono (by exact H2.out _) ?_
  rintro e w1 ⟨rfl, rfl⟩
  go_wp2_with fail
  refine Calls.mono (by exact H3.out _) ?_
  rintro e w1 ⟨rfl, rfl⟩
  go_wp2_with fail
  refine Calls.mono (by exact H4.out _) ?_
  rintro e w1 ⟨rfl, rfl⟩
  go_wp2_with fail
  go_ret
  exact ⟨by rw [Nat.sub_self]; rfl, rfl⟩

set_option maxHeartbeats 400000 in
set_option maxRecDepth 100000 in
theorem slice_np_po_l (p : Addr) (n c : Nat) (a b : Int) (w : World) (hn : n ≤ 200) (hc : n ≤ c) (ra : -9223372036854775808 ≤ a ∧ a ≤ 9223372036854775807) (rb : -9223372036854775808 ≤ b ∧ b ≤ 9223372036854775807) (k : Nat) (ha : a < 0) (hk : (n : Int) + a = k) (m : Nat) (hb : b = m) (hmn : n < m) (hC : k ≤ n) :
    Calls Try.prog 78 #[.iface 87 (.slice (some p) n c), .iface 3 (.int .i64 a), .iface 3 (.int .i64 b)] w (Tells (.iface 87 (.slice (some (slP p c k 1)) (n - k) (c - k))) w) := by
  have da : decide (a < 0) = true := decide_eq_true ha
  have hkn : k < n := by omega
  subst hb
  have dm : decide (n < m) = true := decide_eq_true hmn
  have dC : decide (n < k) = false := decide_eq_false (by omega)
  have H1 := Lib.hid (zzlen_list p n c)
  have H2 := Lib.hid (toi_int a)
  have H3 := Lib.hid (toi_int m)
  have H4 := Lib.hid (zzslice_list p n c k n (by omega) (by omega))
  generalize slP p c k 1 = q at *
  clear ra rb
  go_enter Try.func78, Try.ntmps78
  go_wp2_with fail
  refine Calls.mono (by exact H1.out _) ?_
  rintro e w1 ⟨rfl, rfl⟩
  go_wp2_with fail
  refine Calls.mono (by exact H2.out _) ?_
  rintro e w1 ⟨rfl, rfl⟩
  go_wp2_with fail
  refine Calls.mono (by exact H3.out _) ?_
  rintro e w1 ⟨rfl, rfl⟩
  go_wp2_with fail
  refine Calls.mono (by exact H4.out _) ?_
  rintro e w1 ⟨rfl, rfl⟩
  go_wp2_with fail
  go_ret
  exact ⟨rfl, rfl⟩

set_option maxHeartbeats 400000 in
set_option maxRecDepth 100000 in
theorem slice_pp_nn_l (p : Addr) (n c : Nat) (a b : Int) (w : World) (hn : n ≤ 200) (hc : n ≤ c) (ra : -9223372036854775808 ≤ a ∧ a ≤ 9223372036854775807) (rb : -9223372036854775808 ≤ b ∧ b ≤ 9223372036854775807) (ha : a = 0) (hb : b < 0) (hy : (n : Int) + b < 0) :
    Calls Try.prog 78 #[.iface 87 (.slice (some p) n c), .iface 3 (.int .i64 a), .iface 3 (.int .i64 b)] w (Tells (.iface 87 (.slice (some (slP p c 0 1)) (0 - 0) (c - 0))) w) := by
  subst ha
  have db : decide (b < 0) = true := decide_eq_true hb
  obtain ⟨y, hy'⟩ : ∃ y, y = (n : Int) + b := ⟨_, rfl⟩
  have ey : (n : Int) + b = y := hy'.symm
  have hyw : IntKind.i64.wrap y = y := by simp [IntKind.wrap, IntKind.bits, IntKind.signed]; omega
  have dy : decide (y < 0) = true := decide_eq_true (by omega)
  clear hy hy' hb
  have H1 := Lib.hid (zzlen_list p n c)
  have H2 := Lib.hid (toi_int 0)
  have H3 := Lib.hid (toi_int b)
  have H4 := Lib.hid (zzslice_list p n c 0 0 (by omega) (by omega))
  generalize slP p c 0 1 = q at *
  clear ra rb
  go_enter Try.func78, Try.ntmps78
  go_wp2_with fail
  refine Calls.mono (by exact H1.out _) ?_
  rintro e w1 ⟨rfl, rfl⟩
  go_wp2_with fail
  refine Calls.mono (by exact H2.out _) ?_
  rintro e w1 ⟨rfl, rfl⟩
  go_wp2_with fail
  refine Calls.mono (by exact H3.out _) ?_
  rintro e w1 ⟨rfl, rfl⟩
  go_wp2_with fail
  refine Calls.mono (by exact H4.out _) ?_
  rintro e w1 ⟨rfl, rfl⟩
  go_wp2_with fail
  go_ret
  exact ⟨rfl, rfl⟩

set_option maxHeartbeats 400000 in
set_option maxRecDepth 100000 in
theorem slice_pp_nn_g (p : Addr) (n c : Nat) (a b : Int) (w : World) (hn : n ≤ 200) (hc : n ≤ c) (ra : -9223372036854775808 ≤ a ∧ a ≤ 9223372036854775807) (rb : -9223372036854775808 ≤ b ∧ b ≤ 9223372036854775807) (k : Nat) (ha : a = k) (hb : b < 0) (hy : (n : Int) + b < 0) (hC : 0 < k) :
    Calls Try.prog 78 #[.iface 87 (.slice (some p) n c), .iface 3 (.int .i64 a), .iface 3 (.int .i64 b)] w (Tells (.iface 87 (.slice (some (slP p c 0 1)) (0 - 0) (c - 0))) w) := by
  subst ha
  have db : decide (b < 0) = true := decide_eq_true hb
  obtain ⟨y, hy'⟩ : ∃ y, y = (n : Int) + b := ⟨_, rfl⟩
  have ey : (n : Int) + b = y := hy'.symm
  have hyw : IntKind.i64.wrap y = y := by simp [IntKind.wrap, IntKind.bits, IntKind.signed]; omega
  have dy : decide (y < 0) = true := decide_eq_true (by omega)
  clear hy hy' hb
  have dC : decide (0 < k) = true := decide_eq_true hC
  have H1 := Lib.hid (zzlen_list p n c)
  have H2 := Lib.hid (toi_int k)
  have H3 := Lib.hid (toi_int b)
  have H4 := Lib.hid (zzslice_list p n c 0 0 (by omega) (by omega))
  generalize slP p c 0 1 = q at *
  clear ra rb
  go_enter Try.func78, Try.ntmps78
  go_wp2_with fail
  refine Calls.mono (by exact H1.out _) ?_
  rintro e w1 ⟨rfl, rfl⟩
  go_wp2_with fail
  refine Calls.mono (by exact H2.out _) ?_
  rintro e w1 ⟨rfl, rfl⟩
  go_wp2_with fail
  refine Calls.mono (by exact H3.out _) ?_
  rintro e w1 ⟨rfl, rfl⟩
  go_wp2_with fail
  refine Calls.mono (by exact H4.out _) ?_
  rintro e w1 ⟨rfl, rfl⟩
  go_wp2_with fail
  go_ret
  exact ⟨rfl, rfl⟩

set_option maxHeartbeats 400000 in
set_option maxRecDepth 100000 in
theorem slice_pp_np_l (p : Addr) (n c : Nat) (a b : Int) (w : World) (hn : n ≤ 200) (hc : n ≤ c) (ra : -9223372036854775808 ≤ a ∧ a ≤ 9223372036854775807) (rb : -9223372036854775808 ≤ b ∧ b ≤ 9223372036854775807) (k : Nat) (ha : a = k) (m : Nat) (hb : b < 0) (hm : (n : Int) + b = m) (hC : k ≤ m) :
    Calls Try.prog 78 #[.iface 87 (.slice (some p) n c), .iface 3 (.int .i64 a), .iface 3 (.int .i64 b)] w (Tells (.iface 87 (.slice (some (slP p c k 1)) (m - k) (c - k))) w) := by
  subst ha
  have db : decide (b < 0) = true := decide_eq_true hb
  have hmn : m < n := by omega
  have dm : decide (n < m) = false := decide_eq_false (by omega)
  have dC : decide (m < k) = false := decide_eq_false (by omega)
  have H1 := Lib.hid (zzlen_list p n c)
  have H2 := Lib.hid (toi_int k)
  have H3 := Lib.hid (toi_int b)
  have H4 := Lib.hid (zzslice_list p n c k m (by omega) (by omega))
  generalize slP p c k 1 = q at *
  clear ra rb
  go_enter Try.func78, Try.ntmps78
  go_wp2_with fail
  refine Calls.mono (by exact H1.out _) ?_
  rintro e w1 ⟨rfl, rfl⟩
  go_wp2_with fail
  refine Calls.mono (by exact H2.out _) ?_
  rintro e w1 ⟨rfl, rfl⟩
  go_wp2_with fail
  refine Calls.mono (by exact H3.out _) ?_
  rintro e w1 ⟨rfl, rfl⟩
  go_wp2_with fail
  refine Calls.mono (by exact H4.out _) ?_
  rintro e w1 ⟨rfl, rfl⟩
  go_wp2_with fail
  go_ret
  exact ⟨rfl, rfl⟩

set_option maxHeartbeats 400000 in
set_option maxRecDepth 100000 in
theorem slice_pp_np_g (p : Addr) (n c : Nat) (a b : Int) (w : World) (hn : n ≤ 200) (hc : n ≤ c) (ra : -9223372036854775808 ≤ a ∧ a ≤ 9223372036854775807) (rb : -9223372036854775808 ≤ b ∧ b ≤ 9223372036854775807) (k : Nat) (ha : a = k) (m : Nat) (hb : b < 0) (hm : (n : Int) + b = m) (hC : m < k) :
    Calls Try.prog 78 #[.iface 87 (.slice (some p) n c), .iface 3 (.int .i64 a), .iface 3 (.int .i64 b)] w (Tells (.iface 87 (.slice (some (slP p c m 1)) (m - m) (c - m))) w) := by
  subst ha
  have db : decide (b < 0) = true := decide_eq_true hb
  have hmn : m < n := by omega
  have dm : decide (n < m) = false := decide_eq_false (by omega)
  have dC : decide (m < k) = true := decide_eq_true hC
  have H1 := Lib.hid (zzlen_list p n c)
  have H2 := Lib.hid (toi_int k)
  have H3 := Lib.hid (toi_int b)
  have H4 := Lib.hid (zzslice_list p n c m m (by omega) (by omega))
  generalize slP p c m 1 = q at *
  clear ra rb
  go_enter Try.func78, Try.ntmps78
  go_wp2_with fail
  refine Calls.mono (by exact H1.out _) ?_
  rintro e w1 ⟨rfl, rfl⟩
  go_wp2_with fail
  refine Calls.mono (by exact H2.out _) ?_
  rintro e w1 ⟨rfl, rfl⟩
  go_wp2_with fail
  refine Calls.mono (by exact H3.out _) ?_
  rintro e w1 ⟨rfl, rfl⟩
  go_wp2_with fail
  refine Calls.mono (by exact H4.out _) ?_
  rintro e w1 ⟨rfl, rfl⟩
  go_wp2_with fail
  go_ret
  exact ⟨by rw [Nat.sub_self]; rfl, rfl⟩

set_option maxHeartbeats 400000 in
set_option maxRecDepth 100000 in
theorem slice_pp_pi_l (p : Addr) (n c : Nat) (a b : Int) (w : World) (hn : n ≤ 200) (hc : n ≤ c) (ra : -9223372036854775808 ≤ a ∧ a ≤ 9223372036854775807) (rb : -9223372036854775808 ≤ b ∧ b ≤ 9223372036854775807) (k : Nat) (ha : a = k) (m : Nat) (hb : b = m) (hmn : m ≤ n) (hC : k ≤ m) :
    Calls Try.prog 78 #[.iface 87 (.slice (some p) n c), .iface 3 (.int .i64 a), .iface 3 (.int .i64 b)] w (Tells (.iface 87 (.slice (some (slP p c k 1)) (m - k) (c - k))) w) := by
  subst ha
  subst hb
  have dm : decide (n < m) = false := decide_eq_false (by omega)
  have dC : decide (m < k) = false := decide_eq_false (by omega)
  have H1 := Lib.hid (zzlen_list p n c)
  have H2 := Lib.hid (toi_int k)
  have H3 := Lib.hid (toi_int m)
  have H4 := Lib.hid (zzslice_list p n c k m (by omega) (by omega))
  generalize slP p c k 1 = q at *
  clear ra rb
  go_enter Try.func78, Try.ntmps78
  go_wp2_with fail
  refine Calls.mono (by exact H1.out _) ?_
  rintro e w1 ⟨rfl, rfl⟩
  go_wp2_with fail
  refine Calls.mono (by exact H2.out _) ?_
  rintro e w1 ⟨rfl, rfl⟩
  go_wp2_with fail
  refine Calls.mono (by exact H3.out _) ?_
  rintro e w1 ⟨rfl, rfl⟩
  go_wp2_with fail
  refine Calls.mono (by exact H4.out _) ?_
  rintro e w1 ⟨rfl, rfl⟩
  go_wp2_with fail
  go_ret
  exact ⟨rfl, rfl⟩

set_option maxHeartbeats 400000 in
set_option maxRecDepth 100000 in
theorem slice_pp_pi_g (p : Addr) (n c : Nat) (a b : Int) (w : World) (hn : n ≤ 200) (hc : n ≤ c) (ra : -9223372036854775808 ≤ a ∧ a ≤ 9223372036854775807) (rb : -9223372036854775808 ≤ b ∧ b ≤ 9223372036854775807) (k : Nat) (ha : a = k) (m : Nat) (hb : b = m) (hmn : m ≤ n) (hC : m < k) :
    Calls Try.prog 78 #[.iface 87 (.slice (some p) n c), .iface 3 (.int .i64 a), .iface 3 (.int .i64 b)] w (Tells (.iface 87 (.slice (some (slP p c m 1)) (m - m) (c - m))) w) := by
  subst ha
  subst hb
  have dm : decide (n < m) = false := decide_eq_false (by omega)
  have dC : decide (m < k) = true := decide_eq_true hC
  have H1 := Lib.hid (zzlen_list p n c)
  have H2 := Lib.hid (toi_int k)
  have H3 := Lib.hid (toi_int m)
  have H4 := Lib.hid (zzslice_list p n c m m (by omega) (by omega))
  generalize slP p c m 1 = q at *
  clear ra rb
  go_enter Try.func78, Try.ntmps78
  go_wp2_with fail
  refine Calls.mono (by exact H1.out _) ?_
  rintro e w1 ⟨rfl, rfl⟩
  go_wp2_with fail
  refine Calls.mono (by exact H2.out _) ?_
  rintro e w1 ⟨rfl, rfl⟩
  go_wp2_with fail
  refine Calls.mono (by exact H3.out _) ?_
  rintro e w1 ⟨rfl, rfl⟩
  go_wp2_with fail
  refine Calls.mono (by exact H4.out _) ?_
  rintro e w1 ⟨rfl, rfl⟩
  go_wp2_with fail
  go_ret
  exact ⟨by rw [Nat.sub_self]; rfl, rfl⟩

set_option maxHeartbeats 400000 in
set_option maxRecDepth 100000 in
theorem slice_pp_po_l (p : Addr) (n c : Nat) (a b : Int) (w : World) (hn : n ≤ 200) (hc : n ≤ c) (ra : -9223372036854775808 ≤ a ∧ a ≤ 9223372036854775807) (rb : -9223372036854775808 ≤ b ∧ b ≤ 9223372036854775807) (k : Nat) (ha : a = k) (m : Nat) (hb : b = m) (hmn : n < m) (hC : k ≤ n) :
    Calls Try.prog 78 #[.iface 87 (.slice (some p) n c), .iface 3 (.int .i64 a), .iface 3 (.int .i64 b)] w (Tells (.iface 87 (.slice (some (slP p c k 1)) (n - k) (c - k))) w) := by
  subst ha
  subst hb
  have dm : decide (n < m) = true := decide_eq_true hmn
  have dC : decide (n < k) = false := decide_eq_false (by omega)
  have H1 := Lib.hid (zzlen_list p n c)
  have H2 := Lib.hid (toi_int k)
  have H3 := Lib.hid (toi_int m)
  have H4 := Lib.hid (zzslice_list p n c k n (by omega) (by omega))
  generalize slP p c k 1 = q at *
  clear ra rb
  go_enter Try.func78, Try.ntmps78
  go_wp2_with fail
  refine Calls.mono (by exact H1.out _) ?_
  rintro e w1 ⟨rfl, rfl⟩
  go_wp2_with fail
  refine Calls.mono (by exact H2.out _) ?_
  rintro e w1 ⟨rfl, rfl⟩
  go_wp2_with fail
  refine Calls.mono (by exact H3.out _) ?_
  rintro e w1 ⟨rfl, rfl⟩
  go_wp2_with fail
  refine Calls.mono (by exact H4.out _) ?_
  rintro e w1 ⟨rfl, rfl⟩
  go_wp2_with fail
  go_ret
  exact ⟨rfl, rfl⟩

set_option maxHeartbeats 400000 in
set_option maxRecDepth 100000 in
theorem slice_pp_po_g (p : Addr) (n c : Nat) (a b : Int) (w : World) (hn : n ≤ 200) (hc : n ≤ c) (ra : -9223372036854775808 ≤ a ∧ a ≤ 9223372036854775807) (rb : -9223372036854775808 ≤ b ∧ b ≤ 9223372036854775807) (k : Nat) (ha : a = k) (m : Nat) (hb : b = m) (hmn : n < m) (hC : n < k) :
    Calls Try.prog 78 #[.iface 87 (.slice (some p) n c), .iface 3 (.int .i64 a), .iface 3 (.int .i64 b)] w (Tells (.iface 87 (.slice (some (slP p c n 1)) (n - n) (c - n))) w) := by
  subst ha
  subst hb
  have dm : decide (n < m) = true := decide_eq_true hmn
  have dC : decide (n < k) = true := decide_eq_true hC
  have H1 := Lib.hid (zzlen_list p n c)
  have H2 := Lib.hid (toi_int k)
  have H3 := Lib.hid (toi_int m)
  have H4 := Lib.hid (zzslice_list p n c n n (by omega) (by omega))
  generalize slP p c n 1 = q at *
  clear ra rb
  go_enter Try.func78, Try.ntmps78
  go_wp2_with fail
  refine Calls.mono (by exact H1.out _) ?_
  rintro e w1 ⟨rfl, rfl⟩
  go_wp2_with fail
  refine Calls.mono (by exact H2.out _) ?_
  rintro e w1 ⟨rfl, rfl⟩
  go_wp2_with fail
  refine Calls.mono (by exact H3.out _) ?_
  rintro e w1 ⟨rfl, rfl⟩
  go_wp2_with fail
  refine Calls.mono (by exact H4.out _) ?_
  rintro e w1 ⟨rfl, rfl⟩
  go_wp2_with fail
  go_ret
  exact ⟨by rw [Nat.sub_self]; rfl, rfl⟩


theorem slice_run (p : Addr) (n c : Nat) (a b : Int) (w : World) (hn : n ≤ 200) (hc : n ≤ c) (ra : -9223372036854775808 ≤ a ∧ a ≤ 9223372036854775807) (rb : -9223372036854775808 ≤ b ∧ b ≤ 9223372036854775807) :
    Calls Try.prog 78 #[.iface 87 (.slice (some p) n c), .iface 3 (.int .i64 a), .iface 3 (.int .i64 b)] w (Tells (.iface 87 (.slice (some (slP p c (loI n a b) 1)) (hiI n b - loI n a b) (c - loI n a b))) w) := by
  have HA : (a < 0 ∧ (n : Int) + a < 0) ∨ (∃ k : Nat, a < 0 ∧ (n : Int) + a = k) ∨ (∃ k : Nat, a = k) := by
    by_cases h : a < 0
    · by_cases h2 : (n : Int) + a < 0
      · exact .inl ⟨h, h2⟩
      · exact .inr (.inl ⟨((n : Int) + a).toNat, h, by omega⟩)
    · exact .inr (.inr ⟨a.toNat, by omega⟩)
  have HB : (b < 0 ∧ (n : Int) + b < 0) ∨ (∃ m : Nat, b < 0 ∧ (n : Int) + b = m) ∨ (∃ m : Nat, b = m ∧ m ≤ n) ∨ (∃ m : Nat, b = m ∧ n < m) := by
    by_cases h : b < 0
    · by_cases h2 : (n : Int) + b < 0
      · exact .inl ⟨h, h2⟩
      · exact .inr (.inl ⟨((n : Int) + b).toNat, h, by omega⟩)
    · by_cases h2 : b ≤ n
      · exact .inr (.inr (.inl ⟨b.toNat, by omega, by omega⟩))
      · exact .inr (.inr (.inr ⟨b.toNat, by omega, by omega⟩))
  rcases HA with ⟨ha, hz⟩ | ⟨k, ha, hk⟩ | ⟨k, ha⟩ <;> rcases HB with ⟨hb, hy⟩ | ⟨m, hb, hm⟩ | ⟨m, hb, hmn⟩ | ⟨m, hb, hmn⟩
  · have eh : hiI n b = 0 := by unfold hiI idxI; (repeat' split) <;> omega
    have el : loI n a b = 0 := by unfold loI; rw [eh]; unfold idxI; (repeat' split) <;> omega
    rw [el, eh]
    exact slice_nn_nn_l p n c a b w hn hc ra rb ha hz hb hy
  · have eh : hiI n b = m := by unfold hiI idxI; (repeat' split) <;> omega
    have el : loI n a b = 0 := by unfold loI; rw [eh]; unfold idxI; (repeat' split) <;> omega
    rw [el, eh]
    exact slice_nn_np_l p n c a b w hn hc ra rb ha hz m hb hm
  · have eh : hiI n b = m := by unfold hiI idxI; (repeat' split) <;> omega
    have el : loI n a b = 0 := by unfold loI; rw [eh]; unfold idxI; (repeat' split) <;> omega
    rw [el, eh]
    exact slice_nn_pi_l p n c a b w hn hc ra rb ha hz m hb hmn
  · have eh : hiI n b = n := by unfold hiI idxI; (repeat' split) <;> omega
    have el : loI n a b = 0 := by unfold loI; rw [eh]; unfold idxI; (repeat' split) <;> omega
    rw [el, eh]
    exact slice_nn_po_l p n c a b w hn hc ra rb ha hz m hb hmn
  · have eh : hiI n b = 0 := by unfold hiI idxI; (repeat' split) <;> omega
    by_cases hC : k = 0
    · have el : loI n a b = 0 := by unfold loI; rw [eh]; unfold idxI; (repeat' split) <;> omega
      rw [el, eh]
      exact slice_np_nn_l p n c a b w hn hc ra rb k ha hk hb hy hC
    · have el : loI n a b = 0 := by unfold loI; rw [eh]; unfold idxI; (repeat' split) <;> omega
      rw [el, eh]
      exact slice_np_nn_g p n c a b w hn hc ra rb k ha hk hb hy (by omega)
  · have eh : hiI n b = m := by unfold hiI idxI; (repeat' split) <;> omega
    by_cases hC : k ≤ m
    · have el : loI n a b = k := by unfold loI; rw [eh]; unfold idxI; (repeat' split) <;> omega
      rw [el, eh]
      exact slice_np_np_l p n c a b w hn hc ra rb k ha hk m hb hm hC
    · have el : loI n a b = m := by unfold loI; rw [eh]; unfold idxI; (repeat' split) <;> omega
      rw [el, eh]
      exact slice_np_np_g p n c a b w hn hc ra rb k ha hk m hb hm (by omega)
  · have eh : hiI n b = m := by unfold hiI idxI; (repeat' split) <;> omega
    by_cases hC : k ≤ m
    · have el : loI n a b = k := by unfold loI; rw [eh]; unfold idxI; (repeat' split) <;> omega
      rw [el, eh]
      exact slice_np_pi_l p n c a b w hn hc ra rb k ha hk m hb hmn hC
    · have el : loI n a b = m := by unfold loI; rw [eh]; unfold idxI; (repeat' split) <;> omega
      rw [el, eh]
      exact slice_np_pi_g p n c a b w hn hc ra rb k ha hk m hb hmn (by omega)
  · have eh : hiI n b = n := by unfold hiI idxI; (repeat' split) <;> omega
    have el : loI n a b = k := by unfold loI; rw [eh]; unfold idxI; (repeat' split) <;> omega
    rw [el, eh]
    exact slice_np_po_l p n c a b w hn hc ra rb k ha hk m hb hmn (by omega)
  · have eh : hiI n b = 0 := by unfold hiI idxI; (repeat' split) <;> omega
    by_cases hC : k = 0
    · have el : loI n a b = 0 := by unfold loI; rw [eh]; unfold idxI; (repeat' split) <;> omega
      rw [el, eh]
      exact slice_pp_nn_l p n c a b w hn hc ra rb (by omega) hb hy
    · have el : loI n a b = 0 := by unfold loI; rw [eh]; unfold idxI; (repeat' split) <;> omega
      rw [el, eh]
      exact slice_pp_nn_g p n c a b w hn hc ra rb k ha hb hy (by omega)
  · have eh : hiI n b = m := by unfold hiI idxI; (repeat' split) <;> omega
    by_cases hC : k ≤ m
    · have el : loI n a b = k := by unfold loI; rw [eh]; unfold idxI; (repeat' split) <;> omega
      rw [el, eh]
      exact slice_pp_np_l p n c a b w hn hc ra rb k ha m hb hm hC
    · have el : loI n a b = m := by unfold loI; rw [eh]; unfold idxI; (repeat' split) <;> omega
      rw [el, eh]
      exact slice_pp_np_g p n c a b w hn hc ra rb k ha m hb hm (by omega)
  · have eh : hiI n b = m := by unfold hiI idxI; (repeat' split) <;> omega
    by_cases hC : k ≤ m
    · have el : loI n a b = k := by unfold loI; rw [eh]; unfold idxI; (repeat' split) <;> omega
      rw [el, eh]
      exact slice_pp_pi_l p n c a b w hn hc ra rb k ha m hb hmn hC
    · have el : loI n a b = m := by unfold loI; rw [eh]; unfold idxI; (repeat' split) <;> omega
      rw [el, eh]
      exact slice_pp_pi_g p n c a b w hn hc ra rb k ha m hb hmn (by omega)
  · have eh : hiI n b = n := by unfold hiI idxI; (repeat' split) <;> omega
    by_cases hC : k ≤ n
    · have el : loI n a b = k := by unfold loI; rw [eh]; unfold idxI; (repeat' split) <;> omega
      rw [el, eh]
      exact slice_pp_po_l p n c a b w hn hc ra rb k ha m hb hmn hC
    · have el : loI n a b = n := by unfold loI; rw [eh]; unfold idxI; (repeat' split) <;> omega
      rw [el, eh]
      exact slice_pp_po_g p n c a b w hn hc ra rb k ha m hb hmn (by omega)
end Go.Proofs.Ythmogfjmngbamaa

