/-
  Numbers, texts, truths and nil on their way through the doors: 'spec.CuOf', 'impl.given' walked at these.
-/
import Derived.Test.YthmogfjmngbamaaPlain
import Derived.Test.YthmogfjmngbamaaAssert
namespace Go.Proofs.Ythmogfjmngbamaa
open Go.RowKit

namespace SV
/-- The fields of a plain value at the door. -/
def dk (x : SV) : Int := if x.kind = 1 then 1 else if x.kind = 2 then 12 else if x.kind = 3 then 13 else if x.kind = 4 then 14 else 0
def dn (x : SV) : Int := if x.kind = 1 then x.int else 0
def df (x : SV) : Nat := if x.kind = 2 then x.fl else 0
def dt (x : SV) : ByteArray := if x.kind = 3 then x.text else ⟨#[]⟩
def db (x : SV) : Bool := if x.kind = 4 then x.bool else false
/-- A plain value at the door. -/
def door (x : SV) : Value := .agg #[.int .i64 x.dk, .int .i64 x.dn, .int .u64 0, .float .f64 x.df, .string x.dt, .bool x.db, .slice none 0 0, .slice none 0 0]
/-- A plain value as Go's any. -/
def any (x : SV) : Value := if x.kind = 1 then .iface 3 (.int .i64 x.int) else if x.kind = 2 then .iface 26 (.float .f64 x.fl) else if x.kind = 3 then .iface 9 (.string x.text) else if x.kind = 4 then .iface 4 (.bool x.bool) else .nilIface
end SV

/-- It returned a value, and made new memory alone. -/
def Gives (v : Value) (w : World) (e : Ending) (w' : World) : Prop := e = .returned v ∧ Below w.heap.size w w'

set_option maxHeartbeats 400000 in
set_option maxRecDepth 100000 in
theorem cuOf_plain (x : SV) (hx : SV.Plain x) (w : World) : Calls Try.prog 16 #[x.val] w (Gives x.door w) := by
  obtain ⟨⟨hk0, hk5⟩, hi, hky, _, _⟩ := hx
  cases x with
  | mk k n f t b ip ic items kp kc keys =>
  simp only [SV.door, SV.dk, SV.dn, SV.df, SV.dt, SV.db, SV.val, SV.kind, SV.int, SV.fl, SV.text, SV.bool, SV.ip, SV.ic, SV.items, SV.kp, SV.kc, SV.keys] at hk0 hk5 hi hky ⊢
  subst hi
  subst hky
  have hk : k = 0 ∨ k = 1 ∨ k = 2 ∨ k = 3 ∨ k = 4 := by omega
  rcases hk with rfl | rfl | rfl | rfl | rfl
  rotate_left
  all_goals
    go_enter Try.func16, Try.ntmps16
    go_wp2_with fail
  · exact bodyPost_ret (by simp [results, Try.results16, go_sem]) rfl ⟨rfl, (((Below.refl _ _).alloc (Nat.le_refl _) _).alloc (by simp) _).alloc (by simp; omega) _⟩
  · exact bodyPost_ret (by simp [results, Try.results16, go_sem]) rfl ⟨rfl, (((Below.refl _ _).alloc (Nat.le_refl _) _).alloc (by simp) _).alloc (by simp; omega) _⟩
  · exact bodyPost_ret (by simp [results, Try.results16, go_sem]) rfl ⟨rfl, (((Below.refl _ _).alloc (Nat.le_refl _) _).alloc (by simp) _).alloc (by simp; omega) _⟩
  · exact bodyPost_ret (by simp [results, Try.results16, go_sem]) rfl ⟨rfl, (((Below.refl _ _).alloc (Nat.le_refl _) _).alloc (by simp) _).alloc (by simp; omega) _⟩
  go_loop [38] (fun i => i = .int .i64 0) (fun _ => 0)
  case atStart => rfl
  case round =>
    obtain rfl := hrel
    go_wp2_with fail
    exact bodyPost_ret (by simp [results, Try.results16, go_sem]) rfl ⟨rfl, (((Below.refl _ _).alloc (Nat.le_refl _) _).alloc (by simp) _).alloc (by simp; omega) _⟩

set_option maxHeartbeats 400000 in
set_option maxRecDepth 100000 in
/-- 'impl.Value.any' at a plain value. -/
theorem vany_plain (x : SV) (hx : SV.Plain x) (w : World) : Calls Try.prog 115 #[x.door] w (Gives (.tuple #[x.any, .bool true]) w) := by
  obtain ⟨⟨hk0, hk5⟩, hi, hky, _, _⟩ := hx
  cases x with
  | mk k n f t b ip ic items kp kc keys =>
  simp only [SV.door, SV.dk, SV.dn, SV.df, SV.dt, SV.db, SV.any, SV.kind, SV.int, SV.fl, SV.text, SV.bool] at hk0 hk5 ⊢
  have hk : k = 0 ∨ k = 1 ∨ k = 2 ∨ k = 3 ∨ k = 4 := by omega
  rcases hk with rfl | rfl | rfl | rfl | rfl
  all_goals
    go_enter Try.func115, Try.ntmps115
    go_wp2_with fail
    go_ret2
    exact ⟨rfl, (Below.refl _ _).alloc (Nat.le_refl _) _⟩

/-- It returned a value; of what was there the counter alone may have turned. -/
def GivesAt (q : Nat) (v : Value) (w : World) (e : Ending) (w' : World) : Prop := e = .returned v ∧ ButAt q w w'

set_option maxHeartbeats 400000 in
set_option maxRecDepth 100000 in
/-- 'impl.given2' at a plain value. -/
theorem given2_plain (x : SV) (hx : SV.Plain x) (q : Nat) (m lv : Int) (hm : 1 ≤ m) (hm2 : m ≤ 100000) (hlv : 1 ≤ lv) (w : World) (hc : Counter w q m) :
    Calls Try.prog 98 #[x.door, .int .i64 lv, .pointer (some ⟨q, 0, none⟩)] w (GivesAt q (.tuple #[x.any, .bool true]) w) := by
  have hdk : x.dk < 15 := by
    have := hx.kind
    unfold SV.dk
    repeat' split
    all_goals omega
  have hdt : x.dt.size ≤ 2000 := by
    have := hx.text
    unfold SV.dt
    split
    · omega
    · decide
  have hm1 : 0 ≤ m - 1 := by omega
  have HC := Lib.hid (vany_plain x hx)
  have c0 : (w.alloc (.cells #[Value.int .i64 x.dk, .int .i64 x.dn, .int .u64 0, .float .f64 x.df, .string x.dt, .bool x.db, .slice none 0 0, .slice none 0 0] 35)).cell? ⟨q, 0, none⟩ = some (.int .i64 m) := by
    rw [World.cell?_alloc_past _ _ _ hc.lt]; exact cell_of_one hc
  have f0 : (w.alloc (.cells #[Value.int .i64 x.dk, .int .i64 x.dn, .int .u64 0, .float .f64 x.df, .string x.dt, .bool x.db, .slice none 0 0, .slice none 0 0] 35)).frozen? ⟨q, 0, none⟩ = false := by
    rw [World.frozen?_alloc_old _ _ _ (by have := hc.lt; simp; omega)]; exact free_of_one hc
  have hq : ¬ q = w.heap.size := by have := hc.lt; omega
  clear hc hx
  unfold SV.door
  go_enter Try.func98, Try.ntmps98
  go_wp2_with fail
  refine Calls.mono (by exact HC.out _) ?_
  rintro e w1 ⟨rfl, hb⟩
  have hB : Hid (ButAt q w w1) := ((ButAt.alloc _ _).trans (ButAt.setCell _ ⟨q, 0, none⟩ rfl _)).trans (ButAt.of_below hb)
  clear hb
  go_wp2_with fail
  go_ret2
  exact ⟨rfl, hB.out⟩

set_option maxHeartbeats 400000 in
set_option maxRecDepth 100000 in
/-- 'impl.given' at a plain value. -/
theorem given_plain (x : SV) (hx : SV.Plain x) (w : World) : Calls Try.prog 49 #[x.door] w (Gives (.tuple #[x.any, .bool true]) w) := by
  unfold SV.door
  go_enter Try.func49, Try.ntmps49
  go_wp2_with fail
  refine (given2_plain x hx (w.heap.size + 1) 3000 30 (by omega) (by omega) (by omega) _ ?_).mono ?_
  · have h := heap_alloc_new (w.alloc (.cells #[Value.int .i64 x.dk, .int .i64 x.dn, .int .u64 0, .float .f64 x.df, .string x.dt, .bool x.db, .slice none 0 0, .slice none 0 0] 35)) (.cells #[Value.int .i64 3000] 3)
    rw [World.size_alloc] at h
    exact h
  rintro e w1 ⟨rfl, hb⟩
  have hB : Hid (Below w.heap.size w w1) := (((Below.refl _ _).alloc (Nat.le_refl _) _).alloc (by simp) _).trans (hb.below (by omega) (by simp; omega))
  clear hb
  go_wp2_with fail
  go_ret2
  exact ⟨rfl, hB.out⟩
end Go.Proofs.Ythmogfjmngbamaa
