/-
  'runtime.Negate', 'ToInt', 'ToFloat64', 'ToBool', 'IsNil' walked at numbers, texts, truths and nil.
-/
import Derived.Test.YthmogfjmngbamaaCmps
import Derived.Test.YthmogfjmngbamaaKit
import Derived.Laws.FloatArith
namespace Go.Proofs.Ythmogfjmngbamaa
open Go.RowKit Ieee

@[go_sem] theorem unary_neg_float (k : FloatKind) (b : Nat) : Op.unary .neg (.float k b) = pure (.float k (Op.negFloat k b)) := rfl

/-- A float with its sign turned is read as the same number but for the sign. -/
theorem neg_notNaN {f : Nat} (h : Fin f) : NotNaN (Op.negFloat .f64 f) := by
  obtain ⟨s, m, i, h1⟩ := fin_read h
  have e1 : Ieee.double.signWeight = 2 ^ 63 := by decide
  have e2 : Ieee.double.binade = 4503599627370496 := by decide
  have e3 : Ieee.double.infRung = 9218868437227405312 := by decide
  have e4 : Op.negFloat .f64 f % 2 ^ 63 = f % 2 ^ 63 := by
    have e5 : Op.negFloat .f64 f = f ^^^ 2 ^ 63 := rfl
    rw [e5, Nat.xor_mod_two_pow]
    simp
  intro t u
  simp only [Format.read, e1, e2, e3, e4] at h1 ⊢
  split at h1
  · split <;> simp_all
  · split at h1
    · split <;> simp_all
    · split at h1 <;> cases h1

theorem order_refl {f : Nat} (h : NotNaN f) : Ieee.double.order f f = some .eq := by
  unfold Format.order
  cases h1 : Ieee.double.read f with
  | nan s u => exact absurd h1 (h s u)
  | number s m i => simp [Datum.order]
  | infinity s => simp [Datum.order]

theorem cut_bound (q : Nat) (s : Bool) (m : Nat) (i : Int) (h1' : (some (compare (signed s m (i - min i 1).toNat) (signed false q (1 - min i 1).toNat)) == some Ordering.gt) = false)
    (h2' : (some (compare (signed s m (i - min i 1).toNat) (signed true q (1 - min i 1).toNat)) == some Ordering.lt) = false) : m * 2 ^ i.toNat ≤ 2 * q * 2 ^ (-i).toNat := by
  rcases Int.lt_or_le 0 i with hi | hi
  · obtain ⟨k, rfl⟩ : ∃ k : Nat, i = k + 1 := ⟨(i - 1).toNat, by omega⟩
    have a1 : min ((k : Int) + 1) 1 = 1 := by omega
    have a2 : ((k : Int) + 1 - 1).toNat = k := by omega
    have a3 : ((k : Int) + 1).toNat = k + 1 := by omega
    have a4 : (-((k : Int) + 1)).toNat = 0 := by omega
    rw [a1, a2] at h1' h2'
    rw [a3, a4]
    simp only [signed, Nat.shiftLeft_eq, Int.sub_self, Int.toNat_zero] at h1' h2'
    generalize hg : m * 2 ^ k = g at h1' h2'
    rw [Nat.pow_succ, ← Nat.mul_assoc, hg]
    cases s
    · simp [Int.compare_eq_gt] at h1'
      omega
    · simp [Int.compare_eq_lt] at h2'
      omega
  · obtain ⟨k, rfl⟩ : ∃ k : Nat, i = -(k : Int) := ⟨(-i).toNat, by omega⟩
    have a1 : min (-(k : Int)) 1 = -(k : Int) := by omega
    have a2 : (-(k : Int) - -(k : Int)).toNat = 0 := by omega
    have a3 : (-(k : Int)).toNat = 0 := by omega
    have a4 : (-(-(k : Int))).toNat = k := by omega
    have a5 : (1 - -(k : Int)).toNat = k + 1 := by omega
    rw [a1, a2, a5] at h1' h2'
    rw [a3, a4]
    simp only [signed, Nat.shiftLeft_eq, Nat.pow_succ, Nat.pow_zero, Nat.mul_one, ← Nat.mul_assoc] at h1' h2' ⊢
    rw [Nat.mul_assoc 2 q]
    generalize q * 2 ^ k = g at *
    cases s
    · simp [Int.compare_eq_gt] at h1'
      omega
    · simp [Int.compare_eq_lt] at h2'
      omega

theorem cut_small (s : Bool) (m d q : Nat) (hm : m ≤ q * 2 ^ d) : Toward.zero.cut s m d ≤ q := by
  unfold Toward.cut
  simp only [Bool.toNat_false, Nat.add_zero, Nat.shiftLeft_eq, Nat.one_mul]
  rcases Nat.le_total d (m.log2 + 2) with hd | hd
  · rw [Nat.min_eq_left hd]
    exact Nat.div_le_of_le_mul (by rw [Nat.mul_comm]; exact hm)
  · rw [Nat.min_eq_right hd]
    have : m < 2 ^ (m.log2 + 1) := Nat.lt_log2_self
    rw [Nat.div_eq_of_lt (by rw [Nat.pow_succ]; omega)]
    omega
theorem signed_fits (s : Bool) (c : Nat) (h : c ≤ 9007199254740992) : IntKind.i64.min ≤ signed s c 0 ∧ signed s c 0 ≤ IntKind.i64.max := by
  have e1 : IntKind.i64.min = -9223372036854775808 := rfl
  have e2 : IntKind.i64.max = 9223372036854775807 := rfl
  rw [e1, e2]
  unfold signed
  rw [Nat.shiftLeft_zero]
  split <;> omega

/-- A float with an amount of at most 2^53 has a whole part that fits an int. -/
theorem cut_fits {f : Nat} (h : Fin f) (h1 : (FloatKind.f64.format.order f 4845873199050653696 == some .gt) = false) (h2 : (FloatKind.f64.format.order f 14069245235905429504 == some .lt) = false) :
    ∃ n, floatToIntVal .f64 f .i64 = some n := by
  obtain ⟨s, m, i, hf⟩ := fin_read h
  have r1 : Ieee.double.read 4845873199050653696 = .number false 4503599627370496 1 := by decide +kernel
  have r2 : Ieee.double.read 14069245235905429504 = .number true 4503599627370496 1 := by decide +kernel
  have h1' : (Ieee.double.order f 4845873199050653696 == some .gt) = false := h1
  have h2' : (Ieee.double.order f 14069245235905429504 == some .lt) = false := h2
  simp only [Format.order, hf, r1, Datum.order] at h1'
  simp only [Format.order, hf, r2, Datum.order] at h2'
  have hm := cut_bound 4503599627370496 s m i h1' h2'
  have hc := cut_small s (m <<< i.toNat) (-i).toNat _ (by rw [Nat.shiftLeft_eq]; exact hm)
  have hd : FloatKind.f64.decode f = .number s m i := hf
  unfold floatToIntVal
  rw [hd]
  simp only [Datum.toInt, Datum.integral]
  exact ⟨_, if_pos (signed_fits _ _ hc)⟩

set_option maxRecDepth 100000 in
theorem toi_flo (a : Nat) (n : Int) (h : floatToIntVal .f64 a .i64 = some n) (w : World) : Calls Try.prog 82 #[.iface 26 (.float .f64 a)] w (Tells (.int .i64 n) w) := by
  have hc : ∀ w : World, (convert 26 3 (.float .f64 a)).run Try.prog w = .ok (.int .i64 n) w := fun w => run_convert_float_int w 26 3 .f64 .i64 a n (by rw [Try.underlying26]; rfl) Try.underlying3 h
  clear h
  go_enter Try.func82, Try.ntmps82
  go_wp2_with fail
  go_ret
  exact ⟨rfl, rfl⟩
set_option maxRecDepth 100000 in
theorem neg_int (m : Int) (w : World) : Calls Try.prog 80 #[.iface 3 (.int .i64 m)] w (Tells (.iface 3 (.int .i64 (wrap64 (-m)))) w) := by
  go_enter Try.func80, Try.ntmps80
  go_wp2_with fail
  go_ret
  exact ⟨rfl, rfl⟩
set_option maxRecDepth 100000 in
theorem neg_flo (a : Nat) (w : World) : Calls Try.prog 80 #[.iface 26 (.float .f64 a)] w (Tells (.iface 26 (.float .f64 (Op.negFloat .f64 a))) w) := by
  go_enter Try.func80, Try.ntmps80
  go_wp2_with fail
  go_ret
  exact ⟨rfl, rfl⟩
set_option maxRecDepth 100000 in
theorem neg_txt (s : ByteArray) (w : World) : Calls Try.prog 80 #[.iface 9 (.string s)] w (Dies w) := by
  go_enter Try.func80, Try.ntmps80
  go_wp2_with fail
  exact ⟨rfl, rfl, rfl⟩
set_option maxRecDepth 100000 in
theorem neg_tru (c : Bool) (w : World) : Calls Try.prog 80 #[.iface 4 (.bool c)] w (Dies w) := by
  go_enter Try.func80, Try.ntmps80
  go_wp2_with fail
  exact ⟨rfl, rfl, rfl⟩
set_option maxRecDepth 100000 in
theorem neg_nil  (w : World) : Calls Try.prog 80 #[.nilIface] w (Dies w) := by
  go_enter Try.func80, Try.ntmps80
  go_wp2_with fail
  exact ⟨rfl, rfl, rfl⟩
set_option maxRecDepth 100000 in
theorem toi_int (m : Int) (w : World) : Calls Try.prog 82 #[.iface 3 (.int .i64 m)] w (Tells (.int .i64 m) w) := by
  go_enter Try.func82, Try.ntmps82
  go_wp2_with fail
  go_ret
  exact ⟨rfl, rfl⟩
set_option maxRecDepth 100000 in
theorem toi_txt (s : ByteArray) (w : World) : Calls Try.prog 82 #[.iface 9 (.string s)] w (Dies w) := by
  go_enter Try.func82, Try.ntmps82
  go_wp2_with fail
  exact ⟨rfl, rfl, rfl⟩
set_option maxRecDepth 100000 in
theorem toi_tru (c : Bool) (w : World) : Calls Try.prog 82 #[.iface 4 (.bool c)] w (Dies w) := by
  go_enter Try.func82, Try.ntmps82
  go_wp2_with fail
  exact ⟨rfl, rfl, rfl⟩
set_option maxRecDepth 100000 in
theorem toi_nil  (w : World) : Calls Try.prog 82 #[.nilIface] w (Dies w) := by
  go_enter Try.func82, Try.ntmps82
  go_wp2_with fail
  exact ⟨rfl, rfl, rfl⟩
set_option maxRecDepth 100000 in
theorem tof_int (m : Int) (w : World) : Calls Try.prog 84 #[.iface 3 (.int .i64 m)] w (Tells (.float .f64 (floatOfInt .f64 m)) w) := by
  go_enter Try.func84, Try.ntmps84
  go_wp2_with fail
  go_ret
  exact ⟨rfl, rfl⟩
set_option maxRecDepth 100000 in
theorem tof_flo (a : Nat) (w : World) : Calls Try.prog 84 #[.iface 26 (.float .f64 a)] w (Tells (.float .f64 a) w) := by
  go_enter Try.func84, Try.ntmps84
  go_wp2_with fail
  go_ret
  exact ⟨rfl, rfl⟩
set_option maxRecDepth 100000 in
theorem tof_txt (s : ByteArray) (w : World) : Calls Try.prog 84 #[.iface 9 (.string s)] w (Dies w) := by
  go_enter Try.func84, Try.ntmps84
  go_wp2_with fail
  exact ⟨rfl, rfl, rfl⟩
set_option maxRecDepth 100000 in
theorem tof_tru (c : Bool) (w : World) : Calls Try.prog 84 #[.iface 4 (.bool c)] w (Dies w) := by
  go_enter Try.func84, Try.ntmps84
  go_wp2_with fail
  exact ⟨rfl, rfl, rfl⟩
set_option maxRecDepth 100000 in
theorem tof_nil  (w : World) : Calls Try.prog 84 #[.nilIface] w (Dies w) := by
  go_enter Try.func84, Try.ntmps84
  go_wp2_with fail
  exact ⟨rfl, rfl, rfl⟩
set_option maxRecDepth 100000 in
theorem tob_int (m : Int) (w : World) : Calls Try.prog 86 #[.iface 3 (.int .i64 m)] w (Dies w) := by
  go_enter Try.func86, Try.ntmps86
  go_wp2_with fail
  exact ⟨rfl, rfl, rfl⟩
set_option maxRecDepth 100000 in
theorem tob_flo (a : Nat) (w : World) : Calls Try.prog 86 #[.iface 26 (.float .f64 a)] w (Dies w) := by
  go_enter Try.func86, Try.ntmps86
  go_wp2_with fail
  exact ⟨rfl, rfl, rfl⟩
set_option maxRecDepth 100000 in
theorem tob_txt (s : ByteArray) (w : World) : Calls Try.prog 86 #[.iface 9 (.string s)] w (Dies w) := by
  go_enter Try.func86, Try.ntmps86
  go_wp2_with fail
  exact ⟨rfl, rfl, rfl⟩
set_option maxRecDepth 100000 in
theorem tob_tru (c : Bool) (w : World) : Calls Try.prog 86 #[.iface 4 (.bool c)] w (Tells (.bool c) w) := by
  go_enter Try.func86, Try.ntmps86
  go_wp2_with fail
  go_ret
  exact ⟨rfl, rfl⟩
set_option maxRecDepth 100000 in
theorem tob_nil  (w : World) : Calls Try.prog 86 #[.nilIface] w (Tells (.bool false) w) := by
  go_enter Try.func86, Try.ntmps86
  go_wp2_with fail
  go_ret
  exact ⟨rfl, rfl⟩
set_option maxRecDepth 100000 in
theorem isn_int (m : Int) (w : World) : Calls Try.prog 88 #[.iface 3 (.int .i64 m)] w (Tells (.bool false) w) := by
  go_enter Try.func88, Try.ntmps88
  go_wp2_with fail
  go_ret
  exact ⟨rfl, rfl⟩
set_option maxRecDepth 100000 in
theorem isn_flo (a : Nat) (w : World) : Calls Try.prog 88 #[.iface 26 (.float .f64 a)] w (Tells (.bool false) w) := by
  go_enter Try.func88, Try.ntmps88
  go_wp2_with fail
  go_ret
  exact ⟨rfl, rfl⟩
set_option maxRecDepth 100000 in
theorem isn_txt (s : ByteArray) (w : World) : Calls Try.prog 88 #[.iface 9 (.string s)] w (Tells (.bool false) w) := by
  go_enter Try.func88, Try.ntmps88
  go_wp2_with fail
  go_ret
  exact ⟨rfl, rfl⟩
set_option maxRecDepth 100000 in
theorem isn_tru (c : Bool) (w : World) : Calls Try.prog 88 #[.iface 4 (.bool c)] w (Tells (.bool false) w) := by
  go_enter Try.func88, Try.ntmps88
  go_wp2_with fail
  go_ret
  exact ⟨rfl, rfl⟩
set_option maxRecDepth 100000 in
theorem isn_nil  (w : World) : Calls Try.prog 88 #[.nilIface] w (Tells (.bool true) w) := by
  go_enter Try.func88, Try.ntmps88
  go_wp2_with fail
  go_ret
  exact ⟨rfl, rfl⟩
end Go.Proofs.Ythmogfjmngbamaa
