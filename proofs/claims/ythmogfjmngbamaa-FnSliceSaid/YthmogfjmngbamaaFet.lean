/-
  'runtime.ZzItems', 'runtime.Fetch' walked at lists and maps.
-/
import Derived.Test.YthmogfjmngbamaaLookc
import Derived.Test.YthmogfjmngbamaaCasts
import Derived.Test.YthmogfjmngbamaaVald
namespace Go.Proofs.Ythmogfjmngbamaa
open Go.RowKit
set_option linter.unusedSimpArgs false
set_option linter.unusedVariables false

set_option maxHeartbeats 1000000 in
set_option maxRecDepth 100000 in
theorem items_list (p : Addr) (l c : Nat) (w : World) : Calls Try.prog 109 #[.iface 87 (.slice (some p) l c)] w (Tells (.tuple #[.slice (some p) l c, .bool true]) w) := by
  go_enter Try.func109, Try.ntmps109
  go_wp2_with fail
  go_ret2
  exact ⟨rfl, rfl⟩
set_option maxHeartbeats 1000000 in
set_option maxRecDepth 100000 in
theorem items_map (b : Nat) (w : World) : Calls Try.prog 109 #[.iface 103 (.map (some b))] w (Tells (.tuple #[.slice none 0 0, .bool false]) w) := by
  go_enter Try.func109, Try.ntmps109
  go_wp2_with fail
  go_ret2
  exact ⟨rfl, rfl⟩

/-- A place in a list, from behind if it is below 0. -/
def idxI (n : Nat) (i : Int) : Int := if i < 0 then n + i else i
def atI (l : List SV) (i : Int) : Option SV := if 0 ≤ idxI l.length i ∧ idxI l.length i < l.length then l[(idxI l.length i).toNat]? else none

/-- "index out of range" -/
def outOf : ByteArray := ⟨#[105, 110, 100, 101, 120, 32, 111, 117, 116, 32, 111, 102, 32, 114, 97, 110, 103, 101]⟩
def DiesOut (w : World) (e : Ending) (w' : World) : Prop := e = .panicked [{ v := .iface 9 (.string outOf), recovered := false }] ∧ w = w'

set_option maxHeartbeats 1000000 in
set_option maxRecDepth 100000 in
theorem fetch_in (p : Addr) (n c : Nat) (i : Int) (k : Nat) (a : Value) (w : World) (hn : n ≤ 200) (hc : n ≤ c) (hi : -9223372036854775808 ≤ i ∧ i ≤ 9223372036854775807) (hk : idxI n i = k) (hkn : k < n) (b o : Nat) (hp : p = ⟨b, o, none⟩) (hcell : w.cell? ⟨b, o + k, none⟩ = some a) :
    Calls Try.prog 73 #[.iface 87 (.slice (some p) n c), .iface 3 (.int .i64 i)] w (Tells a w) := by
  subst hp
  have H1 := Lib.hid (items_list ⟨b, o, none⟩ n c)
  have H2 := Lib.hid (toi_int i)
  have hkn2 : (k : Int) < n := by omega
  unfold idxI at hk
  by_cases hneg : i < 0
  · rw [if_pos hneg] at hk
    have hd : decide (i < 0) = true := decide_eq_true hneg
    clear hi
    go_enter Try.func73, Try.ntmps73
    go_wp2_with fail
    refine Calls.mono (by exact H1.out _) ?_
    rintro e w1 ⟨rfl, rfl⟩
    go_wp2_with fail
    refine Calls.mono (by exact H2.out _) ?_
    rintro e w1 ⟨rfl, rfl⟩
    go_wp2_with fail
    go_ret
    exact ⟨rfl, rfl⟩
  · rw [if_neg hneg] at hk
    subst hk
    clear hi
    go_enter Try.func73, Try.ntmps73
    go_wp2_with fail
    refine Calls.mono (by exact H1.out _) ?_
    rintro e w1 ⟨rfl, rfl⟩
    go_wp2_with fail
    refine Calls.mono (by exact H2.out _) ?_
    rintro e w1 ⟨rfl, rfl⟩
    go_wp2_with fail
    go_ret
    exact ⟨rfl, rfl⟩

set_option maxHeartbeats 1000000 in
set_option maxRecDepth 100000 in
theorem fetch_out (p : Addr) (n c : Nat) (i : Int) (w : World) (hn : n ≤ 200) (hi : -9223372036854775808 ≤ i ∧ i ≤ 9223372036854775807) (hk : ¬ (0 ≤ idxI n i ∧ idxI n i < n)) :
    Calls Try.prog 73 #[.iface 87 (.slice (some p) n c), .iface 3 (.int .i64 i)] w (DiesOut w) := by
  have H1 := Lib.hid (items_list p n c)
  have H2 := Lib.hid (toi_int i)
  unfold idxI at hk
  by_cases hneg : i < 0
  · rw [if_pos hneg] at hk
    have hd : decide (i < 0) = true := decide_eq_true hneg
    obtain ⟨z, hz⟩ : ∃ z, z = (n : Int) + i := ⟨_, rfl⟩
    have hzz : (n : Int) + i = z := hz.symm
    rw [← hz] at hk
    have hz1 : z < 0 := by omega
    have hz2 : decide (z < 0) = true := decide_eq_true hz1
    have hzw : IntKind.i64.wrap z = z := by simp [IntKind.wrap, IntKind.bits, IntKind.signed]; omega
    clear hk hz
    go_enter Try.func73, Try.ntmps73
    go_wp2_with fail
    refine Calls.mono (by exact H1.out _) ?_
    rintro e w1 ⟨rfl, rfl⟩
    go_wp2_with fail
    refine Calls.mono (by exact H2.out _) ?_
    rintro e w1 ⟨rfl, rfl⟩
    go_wp2_with fail
    exact ⟨rfl, rfl, rfl⟩
  · rw [if_neg hneg] at hk
    have hd : decide (i < 0) = false := decide_eq_false hneg
    have hd2 : decide ((n : Int) ≤ i) = true := decide_eq_true (by omega)
    clear hk
    go_enter Try.func73, Try.ntmps73
    go_wp2_with fail
    refine Calls.mono (by exact H1.out _) ?_
    rintro e w1 ⟨rfl, rfl⟩
    go_wp2_with fail
    refine Calls.mono (by exact H2.out _) ?_
    rintro e w1 ⟨rfl, rfl⟩
    go_wp2_with fail
    exact ⟨rfl, rfl, rfl⟩

set_option maxHeartbeats 1000000 in
set_option maxRecDepth 100000 in
theorem fetch_map {w : World} {b : Nat} {es : Array MapEntry} {clock : Nat} (hb : w.heap[b]? = some (.map es clock)) (ks : List ByteArray) (hk : es.toList.map (·.key) = ks.map Value.string) (s : ByteArray) :
    Calls Try.prog 73 #[.iface 103 (.map (some b)), .iface 9 (.string s)] w (Tells (((keyIdx ks s).bind fun m => (es.toList[m]?).map (·.val)).getD .nilIface) w) := by
  have H1 := Lib.hid (items_map b)
  have H2 := Lib.hid (zzAt_map hb ks hk s)
  generalize ((keyIdx ks s).bind fun m => (es.toList[m]?).map (·.val)).getD .nilIface = v at *
  generalize ((keyIdx ks s).bind fun m => es.toList[m]?).isSome = r at *
  clear hb hk
  go_enter Try.func73, Try.ntmps73
  go_wp2_with fail
  refine Calls.mono (by exact H1.out _) ?_
  rintro e w1 ⟨rfl, rfl⟩
  go_wp2_with fail
  refine Calls.mono (by exact H2.out) ?_
  rintro e w1 ⟨rfl, rfl⟩
  go_wp2_with fail
  go_ret
  exact ⟨rfl, rfl⟩
end Go.Proofs.Ythmogfjmngbamaa
