/-
  'spec.arithmetic' walked at plain values: tt ii iz.
-/
import Derived.Test.YthmogfjmngbamaaSah
namespace Go.Proofs.Ythmogfjmngbamaa
open Go.RowKit
set_option linter.unusedSimpArgs false
set_option linter.unusedVariables false


set_option maxHeartbeats 4000000 in
set_option maxRecDepth 100000 in
theorem sadd_tt (n : Int) (f : Nat) (t : ByteArray) (b : Bool) (ip kp : Option Addr) (ni ic nk kc : Nat) (n2 : Int) (f2 : Nat) (t2 : ByteArray) (b2 : Bool) (ip2 kp2 : Option Addr) (ni2 ic2 nk2 kc2 : Nat) (hs : t.size ≤ 500) (hu : t2.size ≤ 500) (w : World) :
    Calls Try.prog 95 #[.string ⟨#[43]⟩, .agg #[.int .i64 3, .int .i64 n, .float .f64 f, .string t, .bool b, .slice ip ni ic, .slice kp nk kc], .agg #[.int .i64 3, .int .i64 n2, .float .f64 f2, .string t2, .bool b2, .slice ip2 ni2 ic2, .slice kp2 nk2 kc2]] w (Gives (arRes (some (.ofText (t ++ t2)))) w) := by
  go_enter Try.func95, Try.ntmps95
  go_wp2_with fail
  refine bodyPost_ret (by simp [results, Try.results95, go_sem, arRes, zeroV, SV.ofInt_val, SV.ofFloat_val, SV.ofText_val]) rfl ⟨rfl, ?_⟩
  repeat (refine Below.setCell ?_ (by simp; omega) _)
  repeat (refine Below.alloc ?_ (by simp; omega) _)
  exact ((Below.refl _ _).alloc (Nat.le_refl _) _).alloc (by simp) _

set_option maxHeartbeats 4000000 in
set_option maxRecDepth 100000 in
theorem sadd_ii (n : Int) (f : Nat) (t : ByteArray) (b : Bool) (ip kp : Option Addr) (ni ic nk kc : Nat) (n2 : Int) (f2 : Nat) (t2 : ByteArray) (b2 : Bool) (ip2 kp2 : Option Addr) (ni2 ic2 nk2 kc2 : Nat) (w : World) :
    Calls Try.prog 95 #[.string ⟨#[43]⟩, .agg #[.int .i64 1, .int .i64 n, .float .f64 f, .string t, .bool b, .slice ip ni ic, .slice kp nk kc], .agg #[.int .i64 1, .int .i64 n2, .float .f64 f2, .string t2, .bool b2, .slice ip2 ni2 ic2, .slice kp2 nk2 kc2]] w (Gives (arRes (some (.ofInt (wrap64 (n + n2))))) w) := by
  go_enter Try.func95, Try.ntmps95
  go_wp2_with fail
  refine bodyPost_ret (by simp [results, Try.results95, go_sem, arRes, zeroV, SV.ofInt_val, SV.ofFloat_val, SV.ofText_val]) rfl ⟨rfl, ?_⟩
  repeat (refine Below.setCell ?_ (by simp; omega) _)
  repeat (refine Below.alloc ?_ (by simp; omega) _)
  exact ((Below.refl _ _).alloc (Nat.le_refl _) _).alloc (by simp) _

set_option maxHeartbeats 4000000 in
set_option maxRecDepth 100000 in
theorem ssub_ii (n : Int) (f : Nat) (t : ByteArray) (b : Bool) (ip kp : Option Addr) (ni ic nk kc : Nat) (n2 : Int) (f2 : Nat) (t2 : ByteArray) (b2 : Bool) (ip2 kp2 : Option Addr) (ni2 ic2 nk2 kc2 : Nat) (w : World) :
    Calls Try.prog 95 #[.string ⟨#[45]⟩, .agg #[.int .i64 1, .int .i64 n, .float .f64 f, .string t, .bool b, .slice ip ni ic, .slice kp nk kc], .agg #[.int .i64 1, .int .i64 n2, .float .f64 f2, .string t2, .bool b2, .slice ip2 ni2 ic2, .slice kp2 nk2 kc2]] w (Gives (arRes (some (.ofInt (wrap64 (n - n2))))) w) := by
  go_enter Try.func95, Try.ntmps95
  go_wp2_with fail
  refine bodyPost_ret (by simp [results, Try.results95, go_sem, arRes, zeroV, SV.ofInt_val, SV.ofFloat_val, SV.ofText_val]) rfl ⟨rfl, ?_⟩
  repeat (refine Below.setCell ?_ (by simp; omega) _)
  repeat (refine Below.alloc ?_ (by simp; omega) _)
  exact ((Below.refl _ _).alloc (Nat.le_refl _) _).alloc (by simp) _

set_option maxHeartbeats 4000000 in
set_option maxRecDepth 100000 in
theorem smul_ii (n : Int) (f : Nat) (t : ByteArray) (b : Bool) (ip kp : Option Addr) (ni ic nk kc : Nat) (n2 : Int) (f2 : Nat) (t2 : ByteArray) (b2 : Bool) (ip2 kp2 : Option Addr) (ni2 ic2 nk2 kc2 : Nat) (w : World) :
    Calls Try.prog 95 #[.string ⟨#[42]⟩, .agg #[.int .i64 1, .int .i64 n, .float .f64 f, .string t, .bool b, .slice ip ni ic, .slice kp nk kc], .agg #[.int .i64 1, .int .i64 n2, .float .f64 f2, .string t2, .bool b2, .slice ip2 ni2 ic2, .slice kp2 nk2 kc2]] w (Gives (arRes (some (.ofInt (wrap64 (n * n2))))) w) := by
  go_enter Try.func95, Try.ntmps95
  go_wp2_with fail
  refine bodyPost_ret (by simp [results, Try.results95, go_sem, arRes, zeroV, SV.ofInt_val, SV.ofFloat_val, SV.ofText_val]) rfl ⟨rfl, ?_⟩
  repeat (refine Below.setCell ?_ (by simp; omega) _)
  repeat (refine Below.alloc ?_ (by simp; omega) _)
  exact ((Below.refl _ _).alloc (Nat.le_refl _) _).alloc (by simp) _

set_option maxHeartbeats 4000000 in
set_option maxRecDepth 100000 in
theorem srem_ii (n : Int) (f : Nat) (t : ByteArray) (b : Bool) (ip kp : Option Addr) (ni ic nk kc : Nat) (n2 : Int) (f2 : Nat) (t2 : ByteArray) (b2 : Bool) (ip2 kp2 : Option Addr) (ni2 ic2 nk2 kc2 : Nat) (hz : ¬ n2 = 0) (w : World) :
    Calls Try.prog 95 #[.string ⟨#[37]⟩, .agg #[.int .i64 1, .int .i64 n, .float .f64 f, .string t, .bool b, .slice ip ni ic, .slice kp nk kc], .agg #[.int .i64 1, .int .i64 n2, .float .f64 f2, .string t2, .bool b2, .slice ip2 ni2 ic2, .slice kp2 nk2 kc2]] w (Gives (arRes (some (.ofInt (n.tmod n2)))) w) := by
  go_enter Try.func95, Try.ntmps95
  go_wp2_with fail
  refine bodyPost_ret (by simp [results, Try.results95, go_sem, arRes, zeroV, SV.ofInt_val, SV.ofFloat_val, SV.ofText_val]) rfl ⟨rfl, ?_⟩
  repeat (refine Below.setCell ?_ (by simp; omega) _)
  repeat (refine Below.alloc ?_ (by simp; omega) _)
  exact ((Below.refl _ _).alloc (Nat.le_refl _) _).alloc (by simp) _

set_option maxHeartbeats 4000000 in
set_option maxRecDepth 100000 in
theorem srem_iz (n : Int) (f : Nat) (t : ByteArray) (b : Bool) (ip kp : Option Addr) (ni ic nk kc : Nat) (n2 : Int) (f2 : Nat) (t2 : ByteArray) (b2 : Bool) (ip2 kp2 : Option Addr) (ni2 ic2 nk2 kc2 : Nat) (w : World) :
    Calls Try.prog 95 #[.string ⟨#[37]⟩, .agg #[.int .i64 1, .int .i64 n, .float .f64 f, .string t, .bool b, .slice ip ni ic, .slice kp nk kc], .agg #[.int .i64 1, .int .i64 0, .float .f64 f2, .string t2, .bool b2, .slice ip2 ni2 ic2, .slice kp2 nk2 kc2]] w (Gives (arRes (none)) w) := by
  go_enter Try.func95, Try.ntmps95
  go_wp2_with fail
  refine bodyPost_ret (by simp [results, Try.results95, go_sem, arRes, zeroV, SV.ofInt_val, SV.ofFloat_val, SV.ofText_val]) rfl ⟨rfl, ?_⟩
  repeat (refine Below.setCell ?_ (by simp; omega) _)
  repeat (refine Below.alloc ?_ (by simp; omega) _)
  exact ((Below.refl _ _).alloc (Nat.le_refl _) _).alloc (by simp) _
end Go.Proofs.Ythmogfjmngbamaa
