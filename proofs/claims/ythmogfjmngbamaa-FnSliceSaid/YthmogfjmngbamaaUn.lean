/-
  'impl.ToInt', 'ToFloat64', 'ToBool', 'IsNil' walked at plain values: the deferred closures too.
-/
import Derived.Test.YthmogfjmngbamaaCasts
import Derived.Defers
import Derived.Recover
namespace Go.Proofs.Ythmogfjmngbamaa
open Go.RowKit
set_option linter.unusedSimpArgs false

def toiO (x : SV) : Option Int := if x.kind = 1 then some x.int else if x.kind = 2 then floatToIntVal .f64 x.fl .i64 else none
def tofO (x : SV) : Option Nat := x.num
def tobO (x : SV) : Option Bool := if x.kind = 4 then some x.bool else if x.kind = 0 then some false else none
def isnO (x : SV) : Option Bool := some (if x.kind = 0 then true else false)

/-- It told a value, or it panicked. -/
def OutcomeV {α : Type} (mk : α → Value) : Option α → World → Ending → World → Prop
  | some r => Tells (mk r)
  | none => Dies
theorem outcomeV_some {α : Type} (mk : α → Value) (r : α) : OutcomeV mk (some r) = Tells (mk r) := rfl
theorem outcomeV_none {α : Type} (mk : α → Value) : OutcomeV mk none = Dies := rfl

/-- What a door tells: a value, and fault 0; or the zero value, and fault 2. -/
def doorRes {α : Type} (mk : α → Value) (z : Value) : Option α → Value
  | some r => .tuple #[mk r, .int .i64 0]
  | none => .tuple #[z, .int .i64 2]

theorem toi_run (x : SV) (hx : SV.Plain x) (hf : x.kind = 2 → ∃ n, floatToIntVal .f64 x.fl .i64 = some n) (w : World) : Calls Try.prog 82 #[x.any] w (OutcomeV (.int .i64) (toiO x) w) := by
  rcases kinds hx.kind with h | h | h | h | h
  case inr.inr.inl =>
    obtain ⟨n, hn⟩ := hf h
    simp only [SV.any, toiO, h, Int.reduceEq, ↓reduceIte, hn, outcomeV_some]
    with_reducible exact toi_flo _ _ hn w
  all_goals
    clear hf
    simp only [SV.any, toiO, outcomeV_some, outcomeV_none, h, Int.reduceEq, ↓reduceIte]
    with_reducible first | exact toi_int _ w | exact toi_txt _ w | exact toi_tru _ w | exact toi_nil w
theorem tof_run (x : SV) (hx : SV.Plain x) (w : World) : Calls Try.prog 84 #[x.any] w (OutcomeV (.float .f64) (tofO x) w) := by
  rcases kinds hx.kind with h | h | h | h | h <;>
    simp only [SV.any, tofO, SV.num, outcomeV_some, outcomeV_none, h, Int.reduceEq, ↓reduceIte] <;>
    with_reducible first | exact tof_int _ w | exact tof_flo _ w | exact tof_txt _ w | exact tof_tru _ w | exact tof_nil w
theorem tob_run (x : SV) (hx : SV.Plain x) (w : World) : Calls Try.prog 86 #[x.any] w (OutcomeV .bool (tobO x) w) := by
  rcases kinds hx.kind with h | h | h | h | h <;>
    simp only [SV.any, tobO, outcomeV_some, outcomeV_none, h, Int.reduceEq, ↓reduceIte] <;>
    with_reducible first | exact tob_int _ w | exact tob_flo _ w | exact tob_txt _ w | exact tob_tru _ w | exact tob_nil w
theorem isn_run (x : SV) (hx : SV.Plain x) (w : World) : Calls Try.prog 88 #[x.any] w (OutcomeV .bool (isnO x) w) := by
  rcases kinds hx.kind with h | h | h | h | h <;>
    simp only [SV.any, isnO, outcomeV_some, outcomeV_none, h, Int.reduceEq, ↓reduceIte] <;>
    with_reducible first | exact isn_int _ w | exact isn_flo _ w | exact isn_txt _ w | exact isn_tru _ w | exact isn_nil w

/-- Three new blocks, and what of them a later world holds. -/
theorem three_blocks {w w1 : World} {o0 o1 o2 : Obj} (hb : Below (((w.alloc o0).alloc o1).alloc o2).heap.size (((w.alloc o0).alloc o1).alloc o2) w1) :
    w1.heap[w.heap.size]? = some o0 ∧ w1.heap[w.heap.size + 1]? = some o1 ∧ w1.heap[w.heap.size + 1 + 1]? = some o2 ∧ w.heap.size + 3 ≤ w1.heap.size ∧ Below w.heap.size w w1 := by
  have h0 := heap_alloc_new w o0
  have h1 := heap_alloc_new (w.alloc o0) o1
  have h2 := heap_alloc_new ((w.alloc o0).alloc o1) o2
  simp only [World.size_alloc] at h1 h2 hb
  refine ⟨?_, ?_, ?_, ?_, ?_⟩
  · rw [hb.block _ (by omega), Below.heap_alloc _ _ _ (by simp only [World.size_alloc]; omega), Below.heap_alloc _ _ _ (by simp only [World.size_alloc]; omega)]; exact h0
  · rw [hb.block _ (by omega), Below.heap_alloc _ _ _ (by simp only [World.size_alloc]; omega)]; exact h1
  · rw [hb.block _ (by omega)]; exact h2
  · have := hb.size; simp only [World.size_alloc] at this; omega
  · exact (((Below.refl _ _).alloc (Nat.le_refl _) _).alloc (by simp) _).alloc (by simp; omega) _ |>.trans (hb.mono (by omega))


set_option maxRecDepth 100000 in
theorem toi_idle (p q : Addr) (w : World) :
    CallsD Try.prog 81 #[.pointer (some p), .pointer (some q)] .returning w fun e u' w' => e = .returned (.tuple #[]) ∧ u' = .returning ∧ w' = w := by
  refine callsD_of_wpS Try.func81 rfl fun c₀ cs hu => ?_
  apply wpS_seq
  apply wpS_region
  simp [wpOpsS, go_sem, recoverD, hu, Try.ntmps81, Exit.thenS]
  refine wpS_of_wp ?_
  go_wp2_with fail
  cases c₀
  simp_all [bodyPostS, results, Try.results81]

set_option maxRecDepth 100000 in
theorem toi_catch (b1 b2 : Nat) (v1 v2 : Value) (s : ByteArray) (older : List PanicEntry) (w : World) (h12 : b1 ≠ b2) (hc1 : w.cell? ⟨b1, 0, none⟩ = some v1) (hz1 : w.frozen? ⟨b1, 0, none⟩ = false)
   (hc2 : w.cell? ⟨b2, 0, none⟩ = some v2) (hz2 : w.frozen? ⟨b2, 0, none⟩ = false) :
    CallsD Try.prog 81 #[.pointer (some ⟨b1, 0, none⟩), .pointer (some ⟨b2, 0, none⟩)] (.panicking ({ v := .iface 9 (.string s), recovered := false } :: older)) w fun e u' w' =>
      e = .returned (.tuple #[]) ∧ u' = .panicking ({ v := .iface 9 (.string s), recovered := true } :: older) ∧ w' = ((w.setCell ⟨b1, 0, none⟩ (.int .i64 0)).setCell ⟨b2, 0, none⟩ (.int .i64 2)).alloc (.cells #[] 63) := by
  refine callsD_of_wpS Try.func81 rfl fun c₀ cs hu => ?_
  simp only [Try.ntmps81, List.size_toArray, List.length_cons, List.length_nil, Nat.reduceAdd, Nat.reduceSub, Array.replicate_succ,
     Array.replicate_zero, List.push_toArray, List.append_toArray, List.nil_append, List.cons_append]
  apply wpS_seq
  apply wpS_region
  simp [wpOpsS, go_sem, recoverD, hu, Exit.thenS]
  refine wpS_of_wp ?_
  go_wp2_with fail
  simp [bodyPostS, results, Try.results81]

set_option maxHeartbeats 1000000 in
set_option maxRecDepth 100000 in
theorem implToInt (x : SV) (hx : SV.Plain x) (hf : x.kind = 2 → ∃ n, floatToIntVal .f64 x.fl .i64 = some n) (w : World) : Calls Try.prog 37 #[x.door] w (Gives (doorRes (.int .i64) (.int .i64 0) (toiO x)) w) := by
  have HX := Lib.hid (given_plain x hx)
  have HR := Lib.hid (toi_run x hx hf)
  have hmf : ∀ (fn : Fn) (first cap : Array Value) (w : World), (Instr.makeFunc fn first cap).run Try.prog w = .ok (.func fn first cap) w := fun _ _ _ _ => rfl
  clear hx hf
  generalize toiO x = o at *
  unfold SV.door at *
  generalize x.any = xa at *
  go_enter_defers Try.func37, Try.ntmps37
  go_wp2_with fail
  refine Calls.mono (by exact HX.out _) ?_
  rintro e w1 ⟨rfl, hb⟩
  obtain ⟨-, hb2, hb3, hsz, hbw⟩ := three_blocks hb
  have HBW' := Lib.hid hbw
  have o1 := cell_of_one hb2
  have o2 := cell_of_one hb3
  have z1 := free_of_one hb2
  have z2 := free_of_one hb3
  clear hb hb2 hb3 hbw
  go_wp2_with fail
  refine Calls.mono (by exact HR.out _) ?_
  cases o with
  | some r =>
    rintro e w3 ⟨rfl, rfl⟩
    go_wp2_with fail
    refine leaves_cons (f := 81) (args := #[.pointer (some ⟨w.heap.size + 1, 0, none⟩), .pointer (some ⟨w.heap.size + 1 + 1, 0, none⟩)]) (by simp) (by simp [go_sem]) ?_
    refine (toi_idle ⟨w.heap.size + 1, 0, none⟩ ⟨w.heap.size + 1 + 1, 0, none⟩ _).mono ?_
    rintro e u' w'' ⟨rfl, rfl, rfl⟩
    have hB : Below w.heap.size w ((w1.setCell ⟨w.heap.size + 1, 0, none⟩ (.int .i64 r)).setCell ⟨w.heap.size + 1 + 1, 0, none⟩ (.int .i64 0)) := (HBW'.out.setCell (by simp) _).setCell (by simp; omega) _
    simp [Leaves, settle, results, Try.results37, go_sem, o1, o2, doorRes, Gives, hB]
  | none =>
    rintro e w3 ⟨rfl, rfl⟩
    go_wp2_with fail
    refine leaves_cons (f := 81) (args := #[.pointer (some ⟨w.heap.size + 1, 0, none⟩), .pointer (some ⟨w.heap.size + 1 + 1, 0, none⟩)]) (by simp) (by simp [go_sem]) ?_
    refine (toi_catch (w.heap.size + 1) (w.heap.size + 1 + 1) _ _ _ _ _ (by omega) o1 z1 o2 z2).mono ?_
    rintro e u' w'' ⟨rfl, rfl, rfl⟩
    have hB : Below w.heap.size w (((w1.setCell ⟨w.heap.size + 1, 0, none⟩ (.int .i64 0)).setCell ⟨w.heap.size + 1 + 1, 0, none⟩ (.int .i64 2)).alloc (.cells #[] 63)) := ((HBW'.out.setCell (by simp) _).setCell (by simp; omega) _).alloc (by simp; omega) _
    have r1 : (((w1.setCell ⟨w.heap.size + 1, 0, none⟩ (.int .i64 0)).setCell ⟨w.heap.size + 1 + 1, 0, none⟩ (.int .i64 2)).alloc (.cells #[] 63)).cell? ⟨w.heap.size + 1, 0, none⟩ = some (.int .i64 0) := by
      rw [World.cell?_alloc_past _ _ _ (by simp; omega)]; simp [go_sem, o1]
    have r2 : (((w1.setCell ⟨w.heap.size + 1, 0, none⟩ (.int .i64 0)).setCell ⟨w.heap.size + 1 + 1, 0, none⟩ (.int .i64 2)).alloc (.cells #[] 63)).cell? ⟨w.heap.size + 1 + 1, 0, none⟩ = some (.int .i64 2) := by
      rw [World.cell?_alloc_past _ _ _ (by simp; omega)]; simp [go_sem, o2]
    simp [Leaves, settle, results, Try.results37, go_sem, r1, r2, doorRes, Gives, hB]

set_option maxRecDepth 100000 in
theorem tof_idle (p q : Addr) (w : World) :
    CallsD Try.prog 83 #[.pointer (some p), .pointer (some q)] .returning w fun e u' w' => e = .returned (.tuple #[]) ∧ u' = .returning ∧ w' = w := by
  refine callsD_of_wpS Try.func83 rfl fun c₀ cs hu => ?_
  apply wpS_seq
  apply wpS_region
  simp [wpOpsS, go_sem, recoverD, hu, Try.ntmps83, Exit.thenS]
  refine wpS_of_wp ?_
  go_wp2_with fail
  cases c₀
  simp_all [bodyPostS, results, Try.results83]

set_option maxRecDepth 100000 in
theorem tof_catch (b1 b2 : Nat) (v1 v2 : Value) (s : ByteArray) (older : List PanicEntry) (w : World) (h12 : b1 ≠ b2) (hc1 : w.cell? ⟨b1, 0, none⟩ = some v1) (hz1 : w.frozen? ⟨b1, 0, none⟩ = false)
   (hc2 : w.cell? ⟨b2, 0, none⟩ = some v2) (hz2 : w.frozen? ⟨b2, 0, none⟩ = false) :
    CallsD Try.prog 83 #[.pointer (some ⟨b1, 0, none⟩), .pointer (some ⟨b2, 0, none⟩)] (.panicking ({ v := .iface 9 (.string s), recovered := false } :: older)) w fun e u' w' =>
      e = .returned (.tuple #[]) ∧ u' = .panicking ({ v := .iface 9 (.string s), recovered := true } :: older) ∧ w' = ((w.setCell ⟨b1, 0, none⟩ (.float .f64 0)).setCell ⟨b2, 0, none⟩ (.int .i64 2)).alloc (.cells #[] 63) := by
  refine callsD_of_wpS Try.func83 rfl fun c₀ cs hu => ?_
  simp only [Try.ntmps83, List.size_toArray, List.length_cons, List.length_nil, Nat.reduceAdd, Nat.reduceSub, Array.replicate_succ,
     Array.replicate_zero, List.push_toArray, List.append_toArray, List.nil_append, List.cons_append]
  apply wpS_seq
  apply wpS_region
  simp [wpOpsS, go_sem, recoverD, hu, Exit.thenS]
  refine wpS_of_wp ?_
  go_wp2_with fail
  simp [bodyPostS, results, Try.results83]

set_option maxHeartbeats 1000000 in
set_option maxRecDepth 100000 in
theorem implToFloat64 (x : SV) (hx : SV.Plain x) (w : World) : Calls Try.prog 38 #[x.door] w (Gives (doorRes (.float .f64) (.float .f64 0) (tofO x)) w) := by
  have HX := Lib.hid (given_plain x hx)
  have HR := Lib.hid (tof_run x hx)
  have hmf : ∀ (fn : Fn) (first cap : Array Value) (w : World), (Instr.makeFunc fn first cap).run Try.prog w = .ok (.func fn first cap) w := fun _ _ _ _ => rfl
  clear hx
  generalize tofO x = o at *
  unfold SV.door at *
  generalize x.any = xa at *
  go_enter_defers Try.func38, Try.ntmps38
  go_wp2_with fail
  refine Calls.mono (by exact HX.out _) ?_
  rintro e w1 ⟨rfl, hb⟩
  obtain ⟨-, hb2, hb3, hsz, hbw⟩ := three_blocks hb
  have HBW' := Lib.hid hbw
  have o1 := cell_of_one hb2
  have o2 := cell_of_one hb3
  have z1 := free_of_one hb2
  have z2 := free_of_one hb3
  clear hb hb2 hb3 hbw
  go_wp2_with fail
  refine Calls.mono (by exact HR.out _) ?_
  cases o with
  | some r =>
    rintro e w3 ⟨rfl, rfl⟩
    go_wp2_with fail
    refine leaves_cons (f := 83) (args := #[.pointer (some ⟨w.heap.size + 1, 0, none⟩), .pointer (some ⟨w.heap.size + 1 + 1, 0, none⟩)]) (by simp) (by simp [go_sem]) ?_
    refine (tof_idle ⟨w.heap.size + 1, 0, none⟩ ⟨w.heap.size + 1 + 1, 0, none⟩ _).mono ?_
    rintro e u' w'' ⟨rfl, rfl, rfl⟩
    have hB : Below w.heap.size w ((w1.setCell ⟨w.heap.size + 1, 0, none⟩ (.float .f64 r)).setCell ⟨w.heap.size + 1 + 1, 0, none⟩ (.int .i64 0)) := (HBW'.out.setCell (by simp) _).setCell (by simp; omega) _
    simp [Leaves, settle, results, Try.results38, go_sem, o1, o2, doorRes, Gives, hB]
  | none =>
    rintro e w3 ⟨rfl, rfl⟩
    go_wp2_with fail
    refine leaves_cons (f := 83) (args := #[.pointer (some ⟨w.heap.size + 1, 0, none⟩), .pointer (some ⟨w.heap.size + 1 + 1, 0, none⟩)]) (by simp) (by simp [go_sem]) ?_
    refine (tof_catch (w.heap.size + 1) (w.heap.size + 1 + 1) _ _ _ _ _ (by omega) o1 z1 o2 z2).mono ?_
    rintro e u' w'' ⟨rfl, rfl, rfl⟩
    have hB : Below w.heap.size w (((w1.setCell ⟨w.heap.size + 1, 0, none⟩ (.float .f64 0)).setCell ⟨w.heap.size + 1 + 1, 0, none⟩ (.int .i64 2)).alloc (.cells #[] 63)) := ((HBW'.out.setCell (by simp) _).setCell (by simp; omega) _).alloc (by simp; omega) _
    have r1 : (((w1.setCell ⟨w.heap.size + 1, 0, none⟩ (.float .f64 0)).setCell ⟨w.heap.size + 1 + 1, 0, none⟩ (.int .i64 2)).alloc (.cells #[] 63)).cell? ⟨w.heap.size + 1, 0, none⟩ = some (.float .f64 0) := by
      rw [World.cell?_alloc_past _ _ _ (by simp; omega)]; simp [go_sem, o1]
    have r2 : (((w1.setCell ⟨w.heap.size + 1, 0, none⟩ (.float .f64 0)).setCell ⟨w.heap.size + 1 + 1, 0, none⟩ (.int .i64 2)).alloc (.cells #[] 63)).cell? ⟨w.heap.size + 1 + 1, 0, none⟩ = some (.int .i64 2) := by
      rw [World.cell?_alloc_past _ _ _ (by simp; omega)]; simp [go_sem, o2]
    simp [Leaves, settle, results, Try.results38, go_sem, r1, r2, doorRes, Gives, hB]

set_option maxRecDepth 100000 in
theorem tob_idle (p q : Addr) (w : World) :
    CallsD Try.prog 85 #[.pointer (some p), .pointer (some q)] .returning w fun e u' w' => e = .returned (.tuple #[]) ∧ u' = .returning ∧ w' = w := by
  refine callsD_of_wpS Try.func85 rfl fun c₀ cs hu => ?_
  apply wpS_seq
  apply wpS_region
  simp [wpOpsS, go_sem, recoverD, hu, Try.ntmps85, Exit.thenS]
  refine wpS_of_wp ?_
  go_wp2_with fail
  cases c₀
  simp_all [bodyPostS, results, Try.results85]

set_option maxRecDepth 100000 in
theorem tob_catch (b1 b2 : Nat) (v1 v2 : Value) (s : ByteArray) (older : List PanicEntry) (w : World) (h12 : b1 ≠ b2) (hc1 : w.cell? ⟨b1, 0, none⟩ = some v1) (hz1 : w.frozen? ⟨b1, 0, none⟩ = false)
   (hc2 : w.cell? ⟨b2, 0, none⟩ = some v2) (hz2 : w.frozen? ⟨b2, 0, none⟩ = false) :
    CallsD Try.prog 85 #[.pointer (some ⟨b1, 0, none⟩), .pointer (some ⟨b2, 0, none⟩)] (.panicking ({ v := .iface 9 (.string s), recovered := false } :: older)) w fun e u' w' =>
      e = .returned (.tuple #[]) ∧ u' = .panicking ({ v := .iface 9 (.string s), recovered := true } :: older) ∧ w' = ((w.setCell ⟨b1, 0, none⟩ (.bool false)).setCell ⟨b2, 0, none⟩ (.int .i64 2)).alloc (.cells #[] 63) := by
  refine callsD_of_wpS Try.func85 rfl fun c₀ cs hu => ?_
  simp only [Try.ntmps85, List.size_toArray, List.length_cons, List.length_nil, Nat.reduceAdd, Nat.reduceSub, Array.replicate_succ,
     Array.replicate_zero, List.push_toArray, List.append_toArray, List.nil_append, List.cons_append]
  apply wpS_seq
  apply wpS_region
  simp [wpOpsS, go_sem, recoverD, hu, Exit.thenS]
  refine wpS_of_wp ?_
  go_wp2_with fail
  simp [bodyPostS, results, Try.results85]

set_option maxHeartbeats 1000000 in
set_option maxRecDepth 100000 in
theorem implToBool (x : SV) (hx : SV.Plain x) (w : World) : Calls Try.prog 39 #[x.door] w (Gives (doorRes (.bool) (.bool false) (tobO x)) w) := by
  have HX := Lib.hid (given_plain x hx)
  have HR := Lib.hid (tob_run x hx)
  have hmf : ∀ (fn : Fn) (first cap : Array Value) (w : World), (Instr.makeFunc fn first cap).run Try.prog w = .ok (.func fn first cap) w := fun _ _ _ _ => rfl
  clear hx
  generalize tobO x = o at *
  unfold SV.door at *
  generalize x.any = xa at *
  go_enter_defers Try.func39, Try.ntmps39
  go_wp2_with fail
  refine Calls.mono (by exact HX.out _) ?_
  rintro e w1 ⟨rfl, hb⟩
  obtain ⟨-, hb2, hb3, hsz, hbw⟩ := three_blocks hb
  have HBW' := Lib.hid hbw
  have o1 := cell_of_one hb2
  have o2 := cell_of_one hb3
  have z1 := free_of_one hb2
  have z2 := free_of_one hb3
  clear hb hb2 hb3 hbw
  go_wp2_with fail
  refine Calls.mono (by exact HR.out _) ?_
  cases o with
  | some r =>
    rintro e w3 ⟨rfl, rfl⟩
    go_wp2_with fail
    refine leaves_cons (f := 85) (args := #[.pointer (some ⟨w.heap.size + 1, 0, none⟩), .pointer (some ⟨w.heap.size + 1 + 1, 0, none⟩)]) (by simp) (by simp [go_sem]) ?_
    refine (tob_idle ⟨w.heap.size + 1, 0, none⟩ ⟨w.heap.size + 1 + 1, 0, none⟩ _).mono ?_
    rintro e u' w'' ⟨rfl, rfl, rfl⟩
    have hB : Below w.heap.size w ((w1.setCell ⟨w.heap.size + 1, 0, none⟩ (.bool r)).setCell ⟨w.heap.size + 1 + 1, 0, none⟩ (.int .i64 0)) := (HBW'.out.setCell (by simp) _).setCell (by simp; omega) _
    simp [Leaves, settle, results, Try.results39, go_sem, o1, o2, doorRes, Gives, hB]
  | none =>
    rintro e w3 ⟨rfl, rfl⟩
    go_wp2_with fail
    refine leaves_cons (f := 85) (args := #[.pointer (some ⟨w.heap.size + 1, 0, none⟩), .pointer (some ⟨w.heap.size + 1 + 1, 0, none⟩)]) (by simp) (by simp [go_sem]) ?_
    refine (tob_catch (w.heap.size + 1) (w.heap.size + 1 + 1) _ _ _ _ _ (by omega) o1 z1 o2 z2).mono ?_
    rintro e u' w'' ⟨rfl, rfl, rfl⟩
    have hB : Below w.heap.size w (((w1.setCell ⟨w.heap.size + 1, 0, none⟩ (.bool false)).setCell ⟨w.heap.size + 1 + 1, 0, none⟩ (.int .i64 2)).alloc (.cells #[] 63)) := ((HBW'.out.setCell (by simp) _).setCell (by simp; omega) _).alloc (by simp; omega) _
    have r1 : (((w1.setCell ⟨w.heap.size + 1, 0, none⟩ (.bool false)).setCell ⟨w.heap.size + 1 + 1, 0, none⟩ (.int .i64 2)).alloc (.cells #[] 63)).cell? ⟨w.heap.size + 1, 0, none⟩ = some (.bool false) := by
      rw [World.cell?_alloc_past _ _ _ (by simp; omega)]; simp [go_sem, o1]
    have r2 : (((w1.setCell ⟨w.heap.size + 1, 0, none⟩ (.bool false)).setCell ⟨w.heap.size + 1 + 1, 0, none⟩ (.int .i64 2)).alloc (.cells #[] 63)).cell? ⟨w.heap.size + 1 + 1, 0, none⟩ = some (.int .i64 2) := by
      rw [World.cell?_alloc_past _ _ _ (by simp; omega)]; simp [go_sem, o2]
    simp [Leaves, settle, results, Try.results39, go_sem, r1, r2, doorRes, Gives, hB]

set_option maxRecDepth 100000 in
theorem isn_idle (p q : Addr) (w : World) :
    CallsD Try.prog 87 #[.pointer (some p), .pointer (some q)] .returning w fun e u' w' => e = .returned (.tuple #[]) ∧ u' = .returning ∧ w' = w := by
  refine callsD_of_wpS Try.func87 rfl fun c₀ cs hu => ?_
  apply wpS_seq
  apply wpS_region
  simp [wpOpsS, go_sem, recoverD, hu, Try.ntmps87, Exit.thenS]
  refine wpS_of_wp ?_
  go_wp2_with fail
  cases c₀
  simp_all [bodyPostS, results, Try.results87]

set_option maxRecDepth 100000 in
theorem isn_catch (b1 b2 : Nat) (v1 v2 : Value) (s : ByteArray) (older : List PanicEntry) (w : World) (h12 : b1 ≠ b2) (hc1 : w.cell? ⟨b1, 0, none⟩ = some v1) (hz1 : w.frozen? ⟨b1, 0, none⟩ = false)
   (hc2 : w.cell? ⟨b2, 0, none⟩ = some v2) (hz2 : w.frozen? ⟨b2, 0, none⟩ = false) :
    CallsD Try.prog 87 #[.pointer (some ⟨b1, 0, none⟩), .pointer (some ⟨b2, 0, none⟩)] (.panicking ({ v := .iface 9 (.string s), recovered := false } :: older)) w fun e u' w' =>
      e = .returned (.tuple #[]) ∧ u' = .panicking ({ v := .iface 9 (.string s), recovered := true } :: older) ∧ w' = ((w.setCell ⟨b1, 0, none⟩ (.bool false)).setCell ⟨b2, 0, none⟩ (.int .i64 2)).alloc (.cells #[] 63) := by
  refine callsD_of_wpS Try.func87 rfl fun c₀ cs hu => ?_
  simp only [Try.ntmps87, List.size_toArray, List.length_cons, List.length_nil, Nat.reduceAdd, Nat.reduceSub, Array.replicate_succ,
     Array.replicate_zero, List.push_toArray, List.append_toArray, List.nil_append, List.cons_append]
  apply wpS_seq
  apply wpS_region
  simp [wpOpsS, go_sem, recoverD, hu, Exit.thenS]
  refine wpS_of_wp ?_
  go_wp2_with fail
  simp [bodyPostS, results, Try.results87]

set_option maxHeartbeats 1000000 in
set_option maxRecDepth 100000 in
theorem implIsNil (x : SV) (hx : SV.Plain x) (w : World) : Calls Try.prog 40 #[x.door] w (Gives (doorRes (.bool) (.bool false) (isnO x)) w) := by
  have HX := Lib.hid (given_plain x hx)
  have HR := Lib.hid (isn_run x hx)
  have hmf : ∀ (fn : Fn) (first cap : Array Value) (w : World), (Instr.makeFunc fn first cap).run Try.prog w = .ok (.func fn first cap) w := fun _ _ _ _ => rfl
  clear hx
  generalize isnO x = o at *
  unfold SV.door at *
  generalize x.any = xa at *
  go_enter_defers Try.func40, Try.ntmps40
  go_wp2_with fail
  refine Calls.mono (by exact HX.out _) ?_
  rintro e w1 ⟨rfl, hb⟩
  obtain ⟨-, hb2, hb3, hsz, hbw⟩ := three_blocks hb
  have HBW' := Lib.hid hbw
  have o1 := cell_of_one hb2
  have o2 := cell_of_one hb3
  have z1 := free_of_one hb2
  have z2 := free_of_one hb3
  clear hb hb2 hb3 hbw
  go_wp2_with fail
  refine Calls.mono (by exact HR.out _) ?_
  cases o with
  | some r =>
    rintro e w3 ⟨rfl, rfl⟩
    go_wp2_with fail
    refine leaves_cons (f := 87) (args := #[.pointer (some ⟨w.heap.size + 1, 0, none⟩), .pointer (some ⟨w.heap.size + 1 + 1, 0, none⟩)]) (by simp) (by simp [go_sem]) ?_
    refine (isn_idle ⟨w.heap.size + 1, 0, none⟩ ⟨w.heap.size + 1 + 1, 0, none⟩ _).mono ?_
    rintro e u' w'' ⟨rfl, rfl, rfl⟩
    have hB : Below w.heap.size w ((w1.setCell ⟨w.heap.size + 1, 0, none⟩ (.bool r)).setCell ⟨w.heap.size + 1 + 1, 0, none⟩ (.int .i64 0)) := (HBW'.out.setCell (by simp) _).setCell (by simp; omega) _
    simp [Leaves, settle, results, Try.results40, go_sem, o1, o2, doorRes, Gives, hB]
  | none =>
    rintro e w3 ⟨rfl, rfl⟩
    go_wp2_with fail
    refine leaves_cons (f := 87) (args := #[.pointer (some ⟨w.heap.size + 1, 0, none⟩), .pointer (some ⟨w.heap.size + 1 + 1, 0, none⟩)]) (by simp) (by simp [go_sem]) ?_
    refine (isn_catch (w.heap.size + 1) (w.heap.size + 1 + 1) _ _ _ _ _ (by omega) o1 z1 o2 z2).mono ?_
    rintro e u' w'' ⟨rfl, rfl, rfl⟩
    have hB : Below w.heap.size w (((w1.setCell ⟨w.heap.size + 1, 0, none⟩ (.bool false)).setCell ⟨w.heap.size + 1 + 1, 0, none⟩ (.int .i64 2)).alloc (.cells #[] 63)) := ((HBW'.out.setCell (by simp) _).setCell (by simp; omega) _).alloc (by simp; omega) _
    have r1 : (((w1.setCell ⟨w.heap.size + 1, 0, none⟩ (.bool false)).setCell ⟨w.heap.size + 1 + 1, 0, none⟩ (.int .i64 2)).alloc (.cells #[] 63)).cell? ⟨w.heap.size + 1, 0, none⟩ = some (.bool false) := by
      rw [World.cell?_alloc_past _ _ _ (by simp; omega)]; simp [go_sem, o1]
    have r2 : (((w1.setCell ⟨w.heap.size + 1, 0, none⟩ (.bool false)).setCell ⟨w.heap.size + 1 + 1, 0, none⟩ (.int .i64 2)).alloc (.cells #[] 63)).cell? ⟨w.heap.size + 1 + 1, 0, none⟩ = some (.int .i64 2) := by
      rw [World.cell?_alloc_past _ _ _ (by simp; omega)]; simp [go_sem, o2]
    simp [Leaves, settle, results, Try.results40, go_sem, r1, r2, doorRes, Gives, hB]
end Go.Proofs.Ythmogfjmngbamaa
