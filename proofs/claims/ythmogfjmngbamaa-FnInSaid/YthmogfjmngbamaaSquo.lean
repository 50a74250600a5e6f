/-
  'spec.arithmetic' walked at plain values: quo.
-/
import Derived.Test.YthmogfjmngbamaaSah
namespace Go.Proofs.Ythmogfjmngbamaa
open Go.RowKit
set_option linter.unusedSimpArgs false
set_option linter.unusedVariables false


set_option maxHeartbeats 4000000 in
set_option maxRecDepth 100000 in
theorem squo_tf (k k2 : Int) (hk : (k = 1 ∧ k2 = 1) ∨ (k = 1 ∧ (k2 == 1) = false) ∨ (k == 1) = false) (xf yf : Nat) (n : Int) (f : Nat) (t : ByteArray) (b : Bool) (ip kp : Option Addr) (ni ic nk kc : Nat) (n2 : Int) (f2 : Nat) (t2 : ByteArray) (b2 : Bool) (ip2 kp2 : Option Addr) (ni2 ic2 nk2 kc2 : Nat) (w : World)
    (HX : ∀ w, Calls Try.prog 99 #[.agg #[.int .i64 k, .int .i64 n, .float .f64 f, .string t, .bool b, .slice ip ni ic, .slice kp nk kc]] w (Gives (.tuple #[.float .f64 xf, .bool true]) w)) (HY : ∀ w, Calls Try.prog 99 #[.agg #[.int .i64 k2, .int .i64 n2, .float .f64 f2, .string t2, .bool b2, .slice ip2 ni2 ic2, .slice kp2 nk2 kc2]] w (Gives (.tuple #[.float .f64 yf, .bool false]) w)) :
    Calls Try.prog 95 #[.string ⟨#[47]⟩, .agg #[.int .i64 k, .int .i64 n, .float .f64 f, .string t, .bool b, .slice ip ni ic, .slice kp nk kc], .agg #[.int .i64 k2, .int .i64 n2, .float .f64 f2, .string t2, .bool b2, .slice ip2 ni2 ic2, .slice kp2 nk2 kc2]] w (Gives (arRes none) w) := by
  have HX := Lib.hid HX
  have HY := Lib.hid HY
  rcases hk with ⟨rfl, rfl⟩ | ⟨rfl, e1⟩ | e1
  all_goals
    go_enter Try.func95, Try.ntmps95
    go_wp2_with fail
    refine Calls.mono (by exact HX.out _) ?_
    rintro e w1 ⟨rfl, hb⟩
    obtain ⟨-, hb1, hb2, hsz, hbw⟩ := three_blocks hb
    have HB2 := Lib.hid hb2
    have HBW := Lib.hid hbw
    obtain ⟨a0, a1, a2, a3, a4, a5, a6⟩ := seven hb1
    clear hb hb1 hb2 hbw
    go_wp2_with fail
    refine Calls.mono (by exact HY.out _) ?_
    rintro e w2 ⟨rfl, hb⟩
    have HB2' := Lib.hid ((hb.block _ (by omega)).trans HB2.out)
    have HBW' := Lib.hid (HBW.out.trans (hb.mono (by omega)))
    have hs2 : w.heap.size + 3 ≤ w2.heap.size := Nat.le_trans hsz hb.size
    clear hb HB2 HBW a0 a1 a2 a3 a4 a5 a6 hsz
    obtain ⟨c0, c1, c2, c3, c4, c5, c6⟩ := seven HB2'.out
    have z2 := free_block HB2'.out
    go_wp2_with fail
    refine bodyPost_ret (by simp [results, Try.results95, go_sem, c0, c1, c2, c3, c4, c5, c6, arRes, zeroV, SV.ofInt_val, SV.ofFloat_val, SV.ofText_val]) rfl ⟨rfl, ?_⟩
    repeat (refine Below.setCell ?_ (by simp; omega) _)
    repeat (refine Below.alloc ?_ (by simp; omega) _)
    exact HBW'.out

set_option maxHeartbeats 4000000 in
set_option maxRecDepth 100000 in
theorem squo_ft (k k2 : Int) (hk : (k = 1 ∧ k2 = 1) ∨ (k = 1 ∧ (k2 == 1) = false) ∨ (k == 1) = false) (xf yf : Nat) (n : Int) (f : Nat) (t : ByteArray) (b : Bool) (ip kp : Option Addr) (ni ic nk kc : Nat) (n2 : Int) (f2 : Nat) (t2 : ByteArray) (b2 : Bool) (ip2 kp2 : Option Addr) (ni2 ic2 nk2 kc2 : Nat) (w : World)
    (HX : ∀ w, Calls Try.prog 99 #[.agg #[.int .i64 k, .int .i64 n, .float .f64 f, .string t, .bool b, .slice ip ni ic, .slice kp nk kc]] w (Gives (.tuple #[.float .f64 xf, .bool false]) w)) (HY : ∀ w, Calls Try.prog 99 #[.agg #[.int .i64 k2, .int .i64 n2, .float .f64 f2, .string t2, .bool b2, .slice ip2 ni2 ic2, .slice kp2 nk2 kc2]] w (Gives (.tuple #[.float .f64 yf, .bool true]) w)) :
    Calls Try.prog 95 #[.string ⟨#[47]⟩, .agg #[.int .i64 k, .int .i64 n, .float .f64 f, .string t, .bool b, .slice ip ni ic, .slice kp nk kc], .agg #[.int .i64 k2, .int .i64 n2, .float .f64 f2, .string t2, .bool b2, .slice ip2 ni2 ic2, .slice kp2 nk2 kc2]] w (Gives (arRes none) w) := by
  have HX := Lib.hid HX
  have HY := Lib.hid HY
  rcases hk with ⟨rfl, rfl⟩ | ⟨rfl, e1⟩ | e1
  all_goals
    go_enter Try.func95, Try.ntmps95
    go_wp2_with fail
    refine Calls.mono (by exact HX.out _) ?_
    rintro e w1 ⟨rfl, hb⟩
    obtain ⟨-, hb1, hb2, hsz, hbw⟩ := three_blocks hb
    have HB2 := Lib.hid hb2
    have HBW := Lib.hid hbw
    obtain ⟨a0, a1, a2, a3, a4, a5, a6⟩ := seven hb1
    clear hb hb1 hb2 hbw
    go_wp2_with fail
    refine Calls.mono (by exact HY.out _) ?_
    rintro e w2 ⟨rfl, hb⟩
    have HB2' := Lib.hid ((hb.block _ (by omega)).trans HB2.out)
    have HBW' := Lib.hid (HBW.out.trans (hb.mono (by omega)))
    have hs2 : w.heap.size + 3 ≤ w2.heap.size := Nat.le_trans hsz hb.size
    clear hb HB2 HBW a0 a1 a2 a3 a4 a5 a6 hsz
    obtain ⟨c0, c1, c2, c3, c4, c5, c6⟩ := seven HB2'.out
    have z2 := free_block HB2'.out
    go_wp2_with fail
    refine bodyPost_ret (by simp [results, Try.results95, go_sem, c0, c1, c2, c3, c4, c5, c6, arRes, zeroV, SV.ofInt_val, SV.ofFloat_val, SV.ofText_val]) rfl ⟨rfl, ?_⟩
    repeat (refine Below.setCell ?_ (by simp; omega) _)
    repeat (refine Below.alloc ?_ (by simp; omega) _)
    exact HBW'.out

set_option maxHeartbeats 4000000 in
set_option maxRecDepth 100000 in
theorem squo_ff (k k2 : Int) (hk : (k = 1 ∧ k2 = 1) ∨ (k = 1 ∧ (k2 == 1) = false) ∨ (k == 1) = false) (xf yf : Nat) (n : Int) (f : Nat) (t : ByteArray) (b : Bool) (ip kp : Option Addr) (ni ic nk kc : Nat) (n2 : Int) (f2 : Nat) (t2 : ByteArray) (b2 : Bool) (ip2 kp2 : Option Addr) (ni2 ic2 nk2 kc2 : Nat) (w : World)
    (HX : ∀ w, Calls Try.prog 99 #[.agg #[.int .i64 k, .int .i64 n, .float .f64 f, .string t, .bool b, .slice ip ni ic, .slice kp nk kc]] w (Gives (.tuple #[.float .f64 xf, .bool false]) w)) (HY : ∀ w, Calls Try.prog 99 #[.agg #[.int .i64 k2, .int .i64 n2, .float .f64 f2, .string t2, .bool b2, .slice ip2 ni2 ic2, .slice kp2 nk2 kc2]] w (Gives (.tuple #[.float .f64 yf, .bool false]) w)) :
    Calls Try.prog 95 #[.string ⟨#[47]⟩, .agg #[.int .i64 k, .int .i64 n, .float .f64 f, .string t, .bool b, .slice ip ni ic, .slice kp nk kc], .agg #[.int .i64 k2, .int .i64 n2, .float .f64 f2, .string t2, .bool b2, .slice ip2 ni2 ic2, .slice kp2 nk2 kc2]] w (Gives (arRes none) w) := by
  have HX := Lib.hid HX
  have HY := Lib.hid HY
  rcases hk with ⟨rfl, rfl⟩ | ⟨rfl, e1⟩ | e1
  all_goals
    go_enter Try.func95, Try.ntmps95
    go_wp2_with fail
    refine Calls.mono (by exact HX.out _) ?_
    rintro e w1 ⟨rfl, hb⟩
    obtain ⟨-, hb1, hb2, hsz, hbw⟩ := three_blocks hb
    have HB2 := Lib.hid hb2
    have HBW := Lib.hid hbw
    obtain ⟨a0, a1, a2, a3, a4, a5, a6⟩ := seven hb1
    clear hb hb1 hb2 hbw
    go_wp2_with fail
    refine Calls.mono (by exact HY.out _) ?_
    rintro e w2 ⟨rfl, hb⟩
    have HB2' := Lib.hid ((hb.block _ (by omega)).trans HB2.out)
    have HBW' := Lib.hid (HBW.out.trans (hb.mono (by omega)))
    have hs2 : w.heap.size + 3 ≤ w2.heap.size := Nat.le_trans hsz hb.size
    clear hb HB2 HBW a0 a1 a2 a3 a4 a5 a6 hsz
    obtain ⟨c0, c1, c2, c3, c4, c5, c6⟩ := seven HB2'.out
    have z2 := free_block HB2'.out
    go_wp2_with fail
    refine bodyPost_ret (by simp [results, Try.results95, go_sem, c0, c1, c2, c3, c4, c5, c6, arRes, zeroV, SV.ofInt_val, SV.ofFloat_val, SV.ofText_val]) rfl ⟨rfl, ?_⟩
    repeat (refine Below.setCell ?_ (by simp; omega) _)
    repeat (refine Below.alloc ?_ (by simp; omega) _)
    exact HBW'.out

set_option maxHeartbeats 4000000 in
set_option maxRecDepth 100000 in
theorem squo_some (k k2 : Int) (hk : (k = 1 ∧ k2 = 1) ∨ (k = 1 ∧ (k2 == 1) = false) ∨ (k == 1) = false) (xf yf : Nat) (r : Nat) (h : floatBits .quo .f64 xf yf = some r) (n : Int) (f : Nat) (t : ByteArray) (b : Bool) (ip kp : Option Addr) (ni ic nk kc : Nat) (n2 : Int) (f2 : Nat) (t2 : ByteArray) (b2 : Bool) (ip2 kp2 : Option Addr) (ni2 ic2 nk2 kc2 : Nat) (w : World)
    (HX : ∀ w, Calls Try.prog 99 #[.agg #[.int .i64 k, .int .i64 n, .float .f64 f, .string t, .bool b, .slice ip ni ic, .slice kp nk kc]] w (Gives (.tuple #[.float .f64 xf, .bool true]) w)) (HY : ∀ w, Calls Try.prog 99 #[.agg #[.int .i64 k2, .int .i64 n2, .float .f64 f2, .string t2, .bool b2, .slice ip2 ni2 ic2, .slice kp2 nk2 kc2]] w (Gives (.tuple #[.float .f64 yf, .bool true]) w)) :
    Calls Try.prog 95 #[.string ⟨#[47]⟩, .agg #[.int .i64 k, .int .i64 n, .float .f64 f, .string t, .bool b, .slice ip ni ic, .slice kp nk kc], .agg #[.int .i64 k2, .int .i64 n2, .float .f64 f2, .string t2, .bool b2, .slice ip2 ni2 ic2, .slice kp2 nk2 kc2]] w (Gives (arRes (some (.ofFloat r))) w) := by
  have hr : ∀ w : World, (binOp .quo 26 (.float .f64 xf) (.float .f64 yf)).run Try.prog w = .ok (.float .f64 r) w := fun w => run_float_arith w .quo 26 .f64 _ _ r h
  clear h
  have HX := Lib.hid HX
  have HY := Lib.hid HY
  rcases hk with ⟨rfl, rfl⟩ | ⟨rfl, e1⟩ | e1
  all_goals
    go_enter Try.func95, Try.ntmps95
    go_wp2_with fail
    refine Calls.mono (by exact HX.out _) ?_
    rintro e w1 ⟨rfl, hb⟩
    obtain ⟨-, hb1, hb2, hsz, hbw⟩ := three_blocks hb
    have HB2 := Lib.hid hb2
    have HBW := Lib.hid hbw
    obtain ⟨a0, a1, a2, a3, a4, a5, a6⟩ := seven hb1
    clear hb hb1 hb2 hbw
    go_wp2_with fail
    refine Calls.mono (by exact HY.out _) ?_
    rintro e w2 ⟨rfl, hb⟩
    have HB2' := Lib.hid ((hb.block _ (by omega)).trans HB2.out)
    have HBW' := Lib.hid (HBW.out.trans (hb.mono (by omega)))
    have hs2 : w.heap.size + 3 ≤ w2.heap.size := Nat.le_trans hsz hb.size
    clear hb HB2 HBW a0 a1 a2 a3 a4 a5 a6 hsz
    obtain ⟨c0, c1, c2, c3, c4, c5, c6, z2⟩ := any_seven HB2'.out
    have q1 : ¬ w.heap.size + 1 + 1 = w2.heap.size := by omega
    have q2 : ¬ w2.heap.size = w.heap.size + 1 + 1 := by omega
    go_wp2_with fail
    refine bodyPost_ret (by simp [results, Try.results95, go_sem, c0, c1, c2, c3, c4, c5, c6, arRes, zeroV, SV.ofInt_val, SV.ofFloat_val, SV.ofText_val]) rfl ⟨rfl, ?_⟩
    repeat (refine Below.setCell ?_ (by simp; omega) _)
    refine Below.alloc HBW'.out ?_ _
    omega

set_option maxHeartbeats 4000000 in
set_option maxRecDepth 100000 in
theorem squo_none (k k2 : Int) (hk : (k = 1 ∧ k2 = 1) ∨ (k = 1 ∧ (k2 == 1) = false) ∨ (k == 1) = false) (xf yf : Nat) (h : floatBits .quo .f64 xf yf = none) (n : Int) (f : Nat) (t : ByteArray) (b : Bool) (ip kp : Option Addr) (ni ic nk kc : Nat) (n2 : Int) (f2 : Nat) (t2 : ByteArray) (b2 : Bool) (ip2 kp2 : Option Addr) (ni2 ic2 nk2 kc2 : Nat) (w : World)
    (HX : ∀ w, Calls Try.prog 99 #[.agg #[.int .i64 k, .int .i64 n, .float .f64 f, .string t, .bool b, .slice ip ni ic, .slice kp nk kc]] w (Gives (.tuple #[.float .f64 xf, .bool true]) w)) (HY : ∀ w, Calls Try.prog 99 #[.agg #[.int .i64 k2, .int .i64 n2, .float .f64 f2, .string t2, .bool b2, .slice ip2 ni2 ic2, .slice kp2 nk2 kc2]] w (Gives (.tuple #[.float .f64 yf, .bool true]) w)) :
    Calls Try.prog 95 #[.string ⟨#[47]⟩, .agg #[.int .i64 k, .int .i64 n, .float .f64 f, .string t, .bool b, .slice ip ni ic, .slice kp nk kc], .agg #[.int .i64 k2, .int .i64 n2, .float .f64 f2, .string t2, .bool b2, .slice ip2 ni2 ic2, .slice kp2 nk2 kc2]] w (fun e w' => ∃ wt, Gives (arRes (some (.ofFloat (tapeNaN xf yf wt)))) w e w') := by
  have hr : ∀ w : World, (binOp .quo 26 (.float .f64 xf) (.float .f64 yf)).run Try.prog w = .ok (.float .f64 (tapeNaN xf yf w)) w.drew := run_float_none .quo (by simp) _ _ h
  clear h
  have HX := Lib.hid HX
  have HY := Lib.hid HY
  rcases hk with ⟨rfl, rfl⟩ | ⟨rfl, e1⟩ | e1
  all_goals
    go_enter Try.func95, Try.ntmps95
    go_wp2_with fail
    refine Calls.mono (by exact HX.out _) ?_
    rintro e w1 ⟨rfl, hb⟩
    obtain ⟨-, hb1, hb2, hsz, hbw⟩ := three_blocks hb
    have HB2 := Lib.hid hb2
    have HBW := Lib.hid hbw
    obtain ⟨a0, a1, a2, a3, a4, a5, a6⟩ := seven hb1
    clear hb hb1 hb2 hbw
    go_wp2_with fail
    refine Calls.mono (by exact HY.out _) ?_
    rintro e w2 ⟨rfl, hb⟩
    have HB2' := Lib.hid ((hb.block _ (by omega)).trans HB2.out)
    have HBW' := Lib.hid (HBW.out.trans (hb.mono (by omega)))
    have hs2 : w.heap.size + 3 ≤ w2.heap.size := Nat.le_trans hsz hb.size
    clear hb HB2 HBW a0 a1 a2 a3 a4 a5 a6 hsz
    obtain ⟨c0, c1, c2, c3, c4, c5, c6, z2⟩ := any_seven HB2'.out
    have q1 : ¬ w.heap.size + 1 + 1 = w2.heap.size := by omega
    have q2 : ¬ w2.heap.size = w.heap.size + 1 + 1 := by omega
    go_wp2_with fail
    refine bodyPost_ret (by simp [results, Try.results95, go_sem, c0, c1, c2, c3, c4, c5, c6, arRes, zeroV, SV.ofInt_val, SV.ofFloat_val, SV.ofText_val]) rfl ⟨w2.alloc (.cells #[.int .i64 2, .int .i64 0, .float .f64 0, .string ⟨#[]⟩, .bool false, .slice none 0 0, .slice none 0 0] 30), rfl, ?_⟩
    refine Below.drew ?_
    repeat (refine Below.setCell ?_ (by simp; omega) _)
    refine Below.alloc HBW'.out ?_ _
    omega
end Go.Proofs.Ythmogfjmngbamaa
