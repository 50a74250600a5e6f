/-
  'spec.CuLess', and 'impl.Less', 'More', 'LessOrEqual', 'MoreOrEqual' walked at plain values: the deferred closures too.
-/
import Derived.Test.YthmogfjmngbamaaOrder
import Derived.Defers
import Derived.Recover
namespace Go.Proofs.Ythmogfjmngbamaa
open Go.RowKit

set_option maxHeartbeats 400000 in
set_option maxRecDepth 100000 in
/-- 'spec.CuLess'. -/
theorem cuLess_any (x y : SV) (w : World) : Calls Try.prog 21 #[x.val, y.val] w (Gives (.tuple #[.bool ((lessO x y).getD false), .bool (lessO x y).isSome]) w) := by
  have HX := Lib.hid (sless_any x y)
  generalize (lessO x y).getD false = r1 at *
  generalize (lessO x y).isSome = r2 at *
  cases x with
  | mk k n f t b ip ic items kp kc keys =>
  cases y with
  | mk k2 n2 f2 t2 b2 ip2 ic2 items2 kp2 kc2 keys2 =>
  simp only [SV.val, SV.kind, SV.int, SV.fl, SV.text, SV.bool, SV.ip, SV.ic, SV.items, SV.kp, SV.kc, SV.keys] at *
  go_enter Try.func21, Try.ntmps21
  go_wp2_with fail
  refine Calls.mono (by exact HX.out _) ?_
  rintro e w1 ⟨rfl, hb⟩
  have hB := Lib.hid ((((Below.refl w.heap.size w).alloc (Nat.le_refl _) _).alloc (by simp) _).trans (hb.mono (by simp; omega)))
  clear hb
  go_wp2_with fail
  go_ret2
  exact ⟨rfl, hB.out⟩

/-- What a comparison at the door tells: the truth, and fault 0; or fault 2. -/
def cmpRes : Option Bool → Value
  | some r => .tuple #[.bool r, .int .i64 0]
  | none => .tuple #[.bool false, .int .i64 2]

/-- Four new blocks, and what of them a later world holds. -/
theorem four_blocks {w w1 : World} {o0 o1 o2 o3 : Obj} (hb : Below ((((w.alloc o0).alloc o1).alloc o2).alloc o3).heap.size ((((w.alloc o0).alloc o1).alloc o2).alloc o3) w1) :
    w1.heap[w.heap.size]? = some o0 ∧ w1.heap[w.heap.size + 1]? = some o1 ∧ w1.heap[w.heap.size + 1 + 1]? = some o2 ∧ w1.heap[w.heap.size + 1 + 1 + 1]? = some o3 ∧ w.heap.size + 4 ≤ w1.heap.size ∧ Below w.heap.size w w1 := by
  have h0 := heap_alloc_new w o0
  have h1 := heap_alloc_new (w.alloc o0) o1
  have h2 := heap_alloc_new ((w.alloc o0).alloc o1) o2
  have h3 := heap_alloc_new (((w.alloc o0).alloc o1).alloc o2) o3
  simp only [World.size_alloc] at h1 h2 h3 hb
  refine ⟨?_, ?_, ?_, ?_, ?_, ?_⟩
  · rw [hb.block _ (by omega), Below.heap_alloc _ _ _ (by simp only [World.size_alloc]; omega), Below.heap_alloc _ _ _ (by simp only [World.size_alloc]; omega), Below.heap_alloc _ _ _ (by simp only [World.size_alloc]; omega)]; exact h0
  · rw [hb.block _ (by omega), Below.heap_alloc _ _ _ (by simp only [World.size_alloc]; omega), Below.heap_alloc _ _ _ (by simp only [World.size_alloc]; omega)]; exact h1
  · rw [hb.block _ (by omega), Below.heap_alloc _ _ _ (by simp only [World.size_alloc]; omega)]; exact h2
  · rw [hb.block _ (by omega)]; exact h3
  · have := hb.size; simp only [World.size_alloc] at this; omega
  · exact ((((Below.refl _ _).alloc (Nat.le_refl _) _).alloc (by simp) _).alloc (by simp; omega) _).alloc (by simp; omega) _ |>.trans (hb.mono (by omega))

/-- A cell of a block that is known whole. -/
theorem cell_at_block {w : World} {b : Nat} {cs : Array Value} {t : TypeId} {m : Nat × Nat} (h : w.heap[b]? = some (.cells cs t m)) (j : Nat) (u : Value) (hu : cs[j]? = some u) : w.cell? ⟨b, j, none⟩ = some u := by
  simp [World.cell?, h, hu]

set_option maxRecDepth 100000 in
theorem less_idle (p q : Addr) (w : World) :
    CallsD Try.prog 48 #[.pointer (some p), .pointer (some q)] .returning w fun e u' w' => e = .returned (.tuple #[]) ∧ u' = .returning ∧ w' = w := by
  refine callsD_of_wpS Try.func48 rfl fun c₀ cs hu => ?_
  apply wpS_seq
  apply wpS_region
  simp [wpOpsS, go_sem, recoverD, hu, Try.ntmps48, Exit.thenS]
  refine wpS_of_wp ?_
  go_wp2_with fail
  cases c₀
  simp_all [bodyPostS, results, Try.results48]

set_option maxRecDepth 100000 in
theorem less_catch (b1 b2 : Nat) (v1 v2 : Value) (s : ByteArray) (older : List PanicEntry) (w : World) (h12 : b1 ≠ b2) (hc1 : w.cell? ⟨b1, 0, none⟩ = some v1) (hz1 : w.frozen? ⟨b1, 0, none⟩ = false)
   (hc2 : w.cell? ⟨b2, 0, none⟩ = some v2) (hz2 : w.frozen? ⟨b2, 0, none⟩ = false) :
    CallsD Try.prog 48 #[.pointer (some ⟨b1, 0, none⟩), .pointer (some ⟨b2, 0, none⟩)] (.panicking ({ v := .iface 9 (.string s), recovered := false } :: older)) w fun e u' w' =>
      e = .returned (.tuple #[]) ∧ u' = .panicking ({ v := .iface 9 (.string s), recovered := true } :: older) ∧ w' = ((w.setCell ⟨b1, 0, none⟩ (.bool false)).setCell ⟨b2, 0, none⟩ (.int .i64 2)).alloc (.cells #[] 63) := by
  refine callsD_of_wpS Try.func48 rfl fun c₀ cs hu => ?_
  simp only [Try.ntmps48, List.size_toArray, List.length_cons, List.length_nil, Nat.reduceAdd, Nat.reduceSub, Array.replicate_succ,
     Array.replicate_zero, List.push_toArray, List.append_toArray, List.nil_append, List.cons_append]
  apply wpS_seq
  apply wpS_region
  simp [wpOpsS, go_sem, recoverD, hu, Exit.thenS]
  refine wpS_of_wp ?_
  go_wp2_with fail
  simp [bodyPostS, results, Try.results48]

set_option maxHeartbeats 1000000 in
set_option maxRecDepth 100000 in
theorem implLess (x y : SV) (hx : SV.Plain x) (hy : SV.Plain y) (w : World) : Calls Try.prog 17 #[x.door, y.door] w (Gives (cmpRes (lessO x y)) w) := by
  have HX := Lib.hid (given_plain x hx)
  have HY := Lib.hid (given_plain y hy)
  have HR := Lib.hid (less_run x y hx hy)
  have hmf : ∀ (fn : Fn) (first cap : Array Value) (w : World), (Instr.makeFunc fn first cap).run Try.prog w = .ok (.func fn first cap) w := fun _ _ _ _ => rfl
  clear hx hy
  generalize lessO x y = o at *
  unfold SV.door at *
  generalize x.any = xa at *
  generalize y.any = ya at *
  go_enter_defers Try.func17, Try.ntmps17
  go_wp2_with fail
  refine Calls.mono (by exact HX.out _) ?_
  rintro e w1 ⟨rfl, hb⟩
  obtain ⟨-, hb1, hb2, hb3, hsz, hbw⟩ := four_blocks hb
  have HB2 := Lib.hid hb2
  have HB3 := Lib.hid hb3
  have HBW := Lib.hid hbw
  have c0 := cell_at_block hb1 0 _ rfl
  have c1 := cell_at_block hb1 1 _ rfl
  have c2 := cell_at_block hb1 2 _ rfl
  have c3 := cell_at_block hb1 3 _ rfl
  have c4 := cell_at_block hb1 4 _ rfl
  have c5 := cell_at_block hb1 5 _ rfl
  have c6 := cell_at_block hb1 6 _ rfl
  have c7 := cell_at_block hb1 7 _ rfl
  clear hb hb1 hb2 hb3 hbw
  go_wp2_with fail
  refine Calls.mono (by exact HY.out _) ?_
  rintro e w2 ⟨rfl, hb⟩
  have HB2' := Lib.hid ((hb.block _ (by omega)).trans HB2.out)
  have HB3' := Lib.hid ((hb.block _ (by omega)).trans HB3.out)
  have HBW' := Lib.hid (HBW.out.trans (hb.mono (by omega)))
  have hs2 : w.heap.size + 4 ≤ w2.heap.size := Nat.le_trans hsz hb.size
  clear hb HB2 HB3 HBW c0 c1 c2 c3 c4 c5 c6 c7 hsz
  have o1 := cell_of_one HB2'.out
  have o2 := cell_of_one HB3'.out
  have z1 := free_of_one HB2'.out
  have z2 := free_of_one HB3'.out
  go_wp2_with fail
  refine Calls.mono (by exact HR.out _) ?_
  cases o with
  | some r =>
    rintro e w3 ⟨rfl, rfl⟩
    go_wp2_with fail
    refine leaves_cons (f := 48) (args := #[.pointer (some ⟨w.heap.size + 1 + 1, 0, none⟩), .pointer (some ⟨w.heap.size + 1 + 1 + 1, 0, none⟩)]) (by simp) (by simp [go_sem]) ?_
    refine (less_idle ⟨w.heap.size + 1 + 1, 0, none⟩ ⟨w.heap.size + 1 + 1 + 1, 0, none⟩ _).mono ?_
    rintro e u' w'' ⟨rfl, rfl, rfl⟩
    have hB : Below w.heap.size w ((w2.setCell ⟨w.heap.size + 1 + 1, 0, none⟩ (.bool r)).setCell ⟨w.heap.size + 1 + 1 + 1, 0, none⟩ (.int .i64 0)) := (HBW'.out.setCell (by simp; omega) _).setCell (by simp; omega) _
    simp [Leaves, settle, results, Try.results17, go_sem, o1, o2, cmpRes, Gives, hB]
  | none =>
    rintro e w3 ⟨rfl, rfl⟩
    go_wp2_with fail
    refine leaves_cons (f := 48) (args := #[.pointer (some ⟨w.heap.size + 1 + 1, 0, none⟩), .pointer (some ⟨w.heap.size + 1 + 1 + 1, 0, none⟩)]) (by simp) (by simp [go_sem]) ?_
    refine (less_catch (w.heap.size + 1 + 1) (w.heap.size + 1 + 1 + 1) _ _ _ _ _ (by omega) o1 z1 o2 z2).mono ?_
    rintro e u' w'' ⟨rfl, rfl, rfl⟩
    have hB : Below w.heap.size w (((w2.setCell ⟨w.heap.size + 1 + 1, 0, none⟩ (.bool false)).setCell ⟨w.heap.size + 1 + 1 + 1, 0, none⟩ (.int .i64 2)).alloc (.cells #[] 63)) := ((HBW'.out.setCell (by simp; omega) _).setCell (by simp; omega) _).alloc (by simp; omega) _
    have r1 : (((w2.setCell ⟨w.heap.size + 1 + 1, 0, none⟩ (.bool false)).setCell ⟨w.heap.size + 1 + 1 + 1, 0, none⟩ (.int .i64 2)).alloc (.cells #[] 63)).cell? ⟨w.heap.size + 1 + 1, 0, none⟩ = some (.bool false) := by
      rw [World.cell?_alloc_past _ _ _ (by simp; omega)]; simp [go_sem, o1]
    have r2 : (((w2.setCell ⟨w.heap.size + 1 + 1, 0, none⟩ (.bool false)).setCell ⟨w.heap.size + 1 + 1 + 1, 0, none⟩ (.int .i64 2)).alloc (.cells #[] 63)).cell? ⟨w.heap.size + 1 + 1 + 1, 0, none⟩ = some (.int .i64 2) := by
      rw [World.cell?_alloc_past _ _ _ (by simp; omega)]; simp [go_sem, o2]
    simp [Leaves, settle, results, Try.results17, go_sem, r1, r2, cmpRes, Gives, hB]
set_option maxRecDepth 100000 in
theorem more_idle (p q : Addr) (w : World) :
    CallsD Try.prog 51 #[.pointer (some p), .pointer (some q)] .returning w fun e u' w' => e = .returned (.tuple #[]) ∧ u' = .returning ∧ w' = w := by
  refine callsD_of_wpS Try.func51 rfl fun c₀ cs hu => ?_
  apply wpS_seq
  apply wpS_region
  simp [wpOpsS, go_sem, recoverD, hu, Try.ntmps51, Exit.thenS]
  refine wpS_of_wp ?_
  go_wp2_with fail
  cases c₀
  simp_all [bodyPostS, results, Try.results51]

set_option maxRecDepth 100000 in
theorem more_catch (b1 b2 : Nat) (v1 v2 : Value) (s : ByteArray) (older : List PanicEntry) (w : World) (h12 : b1 ≠ b2) (hc1 : w.cell? ⟨b1, 0, none⟩ = some v1) (hz1 : w.frozen? ⟨b1, 0, none⟩ = false)
   (hc2 : w.cell? ⟨b2, 0, none⟩ = some v2) (hz2 : w.frozen? ⟨b2, 0, none⟩ = false) :
    CallsD Try.prog 51 #[.pointer (some ⟨b1, 0, none⟩), .pointer (some ⟨b2, 0, none⟩)] (.panicking ({ v := .iface 9 (.string s), recovered := false } :: older)) w fun e u' w' =>
      e = .returned (.tuple #[]) ∧ u' = .panicking ({ v := .iface 9 (.string s), recovered := true } :: older) ∧ w' = ((w.setCell ⟨b1, 0, none⟩ (.bool false)).setCell ⟨b2, 0, none⟩ (.int .i64 2)).alloc (.cells #[] 63) := by
  refine callsD_of_wpS Try.func51 rfl fun c₀ cs hu => ?_
  simp only [Try.ntmps51, List.size_toArray, List.length_cons, List.length_nil, Nat.reduceAdd, Nat.reduceSub, Array.replicate_succ,
     Array.replicate_zero, List.push_toArray, List.append_toArray, List.nil_append, List.cons_append]
  apply wpS_seq
  apply wpS_region
  simp [wpOpsS, go_sem, recoverD, hu, Exit.thenS]
  refine wpS_of_wp ?_
  go_wp2_with fail
  simp [bodyPostS, results, Try.results51]

set_option maxHeartbeats 1000000 in
set_option maxRecDepth 100000 in
theorem implMore (x y : SV) (hx : SV.Plain x) (hy : SV.Plain y) (w : World) : Calls Try.prog 18 #[x.door, y.door] w (Gives (cmpRes (moreO x y)) w) := by
  have HX := Lib.hid (given_plain x hx)
  have HY := Lib.hid (given_plain y hy)
  have HR := Lib.hid (more_run x y hx hy)
  have hmf : ∀ (fn : Fn) (first cap : Array Value) (w : World), (Instr.makeFunc fn first cap).run Try.prog w = .ok (.func fn first cap) w := fun _ _ _ _ => rfl
  clear hx hy
  generalize moreO x y = o at *
  unfold SV.door at *
  generalize x.any = xa at *
  generalize y.any = ya at *
  go_enter_defers Try.func18, Try.ntmps18
  go_wp2_with fail
  refine Calls.mono (by exact HX.out _) ?_
  rintro e w1 ⟨rfl, hb⟩
  obtain ⟨-, hb1, hb2, hb3, hsz, hbw⟩ := four_blocks hb
  have HB2 := Lib.hid hb2
  have HB3 := Lib.hid hb3
  have HBW := Lib.hid hbw
  have c0 := cell_at_block hb1 0 _ rfl
  have c1 := cell_at_block hb1 1 _ rfl
  have c2 := cell_at_block hb1 2 _ rfl
  have c3 := cell_at_block hb1 3 _ rfl
  have c4 := cell_at_block hb1 4 _ rfl
  have c5 := cell_at_block hb1 5 _ rfl
  have c6 := cell_at_block hb1 6 _ rfl
  have c7 := cell_at_block hb1 7 _ rfl
  clear hb hb1 hb2 hb3 hbw
  go_wp2_with fail
  refine Calls.mono (by exact HY.out _) ?_
  rintro e w2 ⟨rfl, hb⟩
  have HB2' := Lib.hid ((hb.block _ (by omega)).trans HB2.out)
  have HB3' := Lib.hid ((hb.block _ (by omega)).trans HB3.out)
  have HBW' := Lib.hid (HBW.out.trans (hb.mono (by omega)))
  have hs2 : w.heap.size + 4 ≤ w2.heap.size := Nat.le_trans hsz hb.size
  clear hb HB2 HB3 HBW c0 c1 c2 c3 c4 c5 c6 c7 hsz
  have o1 := cell_of_one HB2'.out
  have o2 := cell_of_one HB3'.out
  have z1 := free_of_one HB2'.out
  have z2 := free_of_one HB3'.out
  go_wp2_with fail
  refine Calls.mono (by exact HR.out _) ?_
  cases o with
  | some r =>
    rintro e w3 ⟨rfl, rfl⟩
    go_wp2_with fail
    refine leaves_cons (f := 51) (args := #[.pointer (some ⟨w.heap.size + 1 + 1, 0, none⟩), .pointer (some ⟨w.heap.size + 1 + 1 + 1, 0, none⟩)]) (by simp) (by simp [go_sem]) ?_
    refine (more_idle ⟨w.heap.size + 1 + 1, 0, none⟩ ⟨w.heap.size + 1 + 1 + 1, 0, none⟩ _).mono ?_
    rintro e u' w'' ⟨rfl, rfl, rfl⟩
    have hB : Below w.heap.size w ((w2.setCell ⟨w.heap.size + 1 + 1, 0, none⟩ (.bool r)).setCell ⟨w.heap.size + 1 + 1 + 1, 0, none⟩ (.int .i64 0)) := (HBW'.out.setCell (by simp; omega) _).setCell (by simp; omega) _
    simp [Leaves, settle, results, Try.results18, go_sem, o1, o2, cmpRes, Gives, hB]
  | none =>
    rintro e w3 ⟨rfl, rfl⟩
    go_wp2_with fail
    refine leaves_cons (f := 51) (args := #[.pointer (some ⟨w.heap.size + 1 + 1, 0, none⟩), .pointer (some ⟨w.heap.size + 1 + 1 + 1, 0, none⟩)]) (by simp) (by simp [go_sem]) ?_
    refine (more_catch (w.heap.size + 1 + 1) (w.heap.size + 1 + 1 + 1) _ _ _ _ _ (by omega) o1 z1 o2 z2).mono ?_
    rintro e u' w'' ⟨rfl, rfl, rfl⟩
    have hB : Below w.heap.size w (((w2.setCell ⟨w.heap.size + 1 + 1, 0, none⟩ (.bool false)).setCell ⟨w.heap.size + 1 + 1 + 1, 0, none⟩ (.int .i64 2)).alloc (.cells #[] 63)) := ((HBW'.out.setCell (by simp; omega) _).setCell (by simp; omega) _).alloc (by simp; omega) _
    have r1 : (((w2.setCell ⟨w.heap.size + 1 + 1, 0, none⟩ (.bool false)).setCell ⟨w.heap.size + 1 + 1 + 1, 0, none⟩ (.int .i64 2)).alloc (.cells #[] 63)).cell? ⟨w.heap.size + 1 + 1, 0, none⟩ = some (.bool false) := by
      rw [World.cell?_alloc_past _ _ _ (by simp; omega)]; simp [go_sem, o1]
    have r2 : (((w2.setCell ⟨w.heap.size + 1 + 1, 0, none⟩ (.bool false)).setCell ⟨w.heap.size + 1 + 1 + 1, 0, none⟩ (.int .i64 2)).alloc (.cells #[] 63)).cell? ⟨w.heap.size + 1 + 1 + 1, 0, none⟩ = some (.int .i64 2) := by
      rw [World.cell?_alloc_past _ _ _ (by simp; omega)]; simp [go_sem, o2]
    simp [Leaves, settle, results, Try.results18, go_sem, r1, r2, cmpRes, Gives, hB]
set_option maxRecDepth 100000 in
theorem leq_idle (p q : Addr) (w : World) :
    CallsD Try.prog 53 #[.pointer (some p), .pointer (some q)] .returning w fun e u' w' => e = .returned (.tuple #[]) ∧ u' = .returning ∧ w' = w := by
  refine callsD_of_wpS Try.func53 rfl fun c₀ cs hu => ?_
  apply wpS_seq
  apply wpS_region
  simp [wpOpsS, go_sem, recoverD, hu, Try.ntmps53, Exit.thenS]
  refine wpS_of_wp ?_
  go_wp2_with fail
  cases c₀
  simp_all [bodyPostS, results, Try.results53]

set_option maxRecDepth 100000 in
theorem leq_catch (b1 b2 : Nat) (v1 v2 : Value) (s : ByteArray) (older : List PanicEntry) (w : World) (h12 : b1 ≠ b2) (hc1 : w.cell? ⟨b1, 0, none⟩ = some v1) (hz1 : w.frozen? ⟨b1, 0, none⟩ = false)
   (hc2 : w.cell? ⟨b2, 0, none⟩ = some v2) (hz2 : w.frozen? ⟨b2, 0, none⟩ = false) :
    CallsD Try.prog 53 #[.pointer (some ⟨b1, 0, none⟩), .pointer (some ⟨b2, 0, none⟩)] (.panicking ({ v := .iface 9 (.string s), recovered := false } :: older)) w fun e u' w' =>
      e = .returned (.tuple #[]) ∧ u' = .panicking ({ v := .iface 9 (.string s), recovered := true } :: older) ∧ w' = ((w.setCell ⟨b1, 0, none⟩ (.bool false)).setCell ⟨b2, 0, none⟩ (.int .i64 2)).alloc (.cells #[] 63) := by
  refine callsD_of_wpS Try.func53 rfl fun c₀ cs hu => ?_
  simp only [Try.ntmps53, List.size_toArray, List.length_cons, List.length_nil, Nat.reduceAdd, Nat.reduceSub, Array.replicate_succ,
     Array.replicate_zero, List.push_toArray, List.append_toArray, List.nil_append, List.cons_append]
  apply wpS_seq
  apply wpS_region
  simp [wpOpsS, go_sem, recoverD, hu, Exit.thenS]
  refine wpS_of_wp ?_
  go_wp2_with fail
  simp [bodyPostS, results, Try.results53]

set_option maxHeartbeats 1000000 in
set_option maxRecDepth 100000 in
theorem implLeq (x y : SV) (hx : SV.Plain x) (hy : SV.Plain y) (w : World) : Calls Try.prog 19 #[x.door, y.door] w (Gives (cmpRes (leqO x y)) w) := by
  have HX := Lib.hid (given_plain x hx)
  have HY := Lib.hid (given_plain y hy)
  have HR := Lib.hid (leq_run x y hx hy)
  have hmf : ∀ (fn : Fn) (first cap : Array Value) (w : World), (Instr.makeFunc fn first cap).run Try.prog w = .ok (.func fn first cap) w := fun _ _ _ _ => rfl
  clear hx hy
  generalize leqO x y = o at *
  unfold SV.door at *
  generalize x.any = xa at *
  generalize y.any = ya at *
  go_enter_defers Try.func19, Try.ntmps19
  go_wp2_with fail
  refine Calls.mono (by exact HX.out _) ?_
  rintro e w1 ⟨rfl, hb⟩
  obtain ⟨-, hb1, hb2, hb3, hsz, hbw⟩ := four_blocks hb
  have HB2 := Lib.hid hb2
  have HB3 := Lib.hid hb3
  have HBW := Lib.hid hbw
  have c0 := cell_at_block hb1 0 _ rfl
  have c1 := cell_at_block hb1 1 _ rfl
  have c2 := cell_at_block hb1 2 _ rfl
  have c3 := cell_at_block hb1 3 _ rfl
  have c4 := cell_at_block hb1 4 _ rfl
  have c5 := cell_at_block hb1 5 _ rfl
  have c6 := cell_at_block hb1 6 _ rfl
  have c7 := cell_at_block hb1 7 _ rfl
  clear hb hb1 hb2 hb3 hbw
  go_wp2_with fail
  refine Calls.mono (by exact HY.out _) ?_
  rintro e w2 ⟨rfl, hb⟩
  have HB2' := Lib.hid ((hb.block _ (by omega)).trans HB2.out)
  have HB3' := Lib.hid ((hb.block _ (by omega)).trans HB3.out)
  have HBW' := Lib.hid (HBW.out.trans (hb.mono (by omega)))
  have hs2 : w.heap.size + 4 ≤ w2.heap.size := Nat.le_trans hsz hb.size
  clear hb HB2 HB3 HBW c0 c1 c2 c3 c4 c5 c6 c7 hsz
  have o1 := cell_of_one HB2'.out
  have o2 := cell_of_one HB3'.out
  have z1 := free_of_one HB2'.out
  have z2 := free_of_one HB3'.out
  go_wp2_with fail
  refine Calls.mono (by exact HR.out _) ?_
  cases o with
  | some r =>
    rintro e w3 ⟨rfl, rfl⟩
    go_wp2_with fail
    refine leaves_cons (f := 53) (args := #[.pointer (some ⟨w.heap.size + 1 + 1, 0, none⟩), .pointer (some ⟨w.heap.size + 1 + 1 + 1, 0, none⟩)]) (by simp) (by simp [go_sem]) ?_
    refine (leq_idle ⟨w.heap.size + 1 + 1, 0, none⟩ ⟨w.heap.size + 1 + 1 + 1, 0, none⟩ _).mono ?_
    rintro e u' w'' ⟨rfl, rfl, rfl⟩
    have hB : Below w.heap.size w ((w2.setCell ⟨w.heap.size + 1 + 1, 0, none⟩ (.bool r)).setCell ⟨w.heap.size + 1 + 1 + 1, 0, none⟩ (.int .i64 0)) := (HBW'.out.setCell (by simp; omega) _).setCell (by simp; omega) _
    simp [Leaves, settle, results, Try.results19, go_sem, o1, o2, cmpRes, Gives, hB]
  | none =>
    rintro e w3 ⟨rfl, rfl⟩
    go_wp2_with fail
    refine leaves_cons (f := 53) (args := #[.pointer (some ⟨w.heap.size + 1 + 1, 0, none⟩), .pointer (some ⟨w.heap.size + 1 + 1 + 1, 0, none⟩)]) (by simp) (by simp [go_sem]) ?_
    refine (leq_catch (w.heap.size + 1 + 1) (w.heap.size + 1 + 1 + 1) _ _ _ _ _ (by omega) o1 z1 o2 z2).mono ?_
    rintro e u' w'' ⟨rfl, rfl, rfl⟩
    have hB : Below w.heap.size w (((w2.setCell ⟨w.heap.size + 1 + 1, 0, none⟩ (.bool false)).setCell ⟨w.heap.size + 1 + 1 + 1, 0, none⟩ (.int .i64 2)).alloc (.cells #[] 63)) := ((HBW'.out.setCell (by simp; omega) _).setCell (by simp; omega) _).alloc (by simp; omega) _
    have r1 : (((w2.setCell ⟨w.heap.size + 1 + 1, 0, none⟩ (.bool false)).setCell ⟨w.heap.size + 1 + 1 + 1, 0, none⟩ (.int .i64 2)).alloc (.cells #[] 63)).cell? ⟨w.heap.size + 1 + 1, 0, none⟩ = some (.bool false) := by
      rw [World.cell?_alloc_past _ _ _ (by simp; omega)]; simp [go_sem, o1]
    have r2 : (((w2.setCell ⟨w.heap.size + 1 + 1, 0, none⟩ (.bool false)).setCell ⟨w.heap.size + 1 + 1 + 1, 0, none⟩ (.int .i64 2)).alloc (.cells #[] 63)).cell? ⟨w.heap.size + 1 + 1 + 1, 0, none⟩ = some (.int .i64 2) := by
      rw [World.cell?_alloc_past _ _ _ (by simp; omega)]; simp [go_sem, o2]
    simp [Leaves, settle, results, Try.results19, go_sem, r1, r2, cmpRes, Gives, hB]
set_option maxRecDepth 100000 in
theorem geq_idle (p q : Addr) (w : World) :
    CallsD Try.prog 55 #[.pointer (some p), .pointer (some q)] .returning w fun e u' w' => e = .returned (.tuple #[]) ∧ u' = .returning ∧ w' = w := by
  refine callsD_of_wpS Try.func55 rfl fun c₀ cs hu => ?_
  apply wpS_seq
  apply wpS_region
  simp [wpOpsS, go_sem, recoverD, hu, Try.ntmps55, Exit.thenS]
  refine wpS_of_wp ?_
  go_wp2_with fail
  cases c₀
  simp_all [bodyPostS, results, Try.results55]

set_option maxRecDepth 100000 in
theorem geq_catch (b1 b2 : Nat) (v1 v2 : Value) (s : ByteArray) (older : List PanicEntry) (w : World) (h12 : b1 ≠ b2) (hc1 : w.cell? ⟨b1, 0, none⟩ = some v1) (hz1 : w.frozen? ⟨b1, 0, none⟩ = false)
   (hc2 : w.cell? ⟨b2, 0, none⟩ = some v2) (hz2 : w.frozen? ⟨b2, 0, none⟩ = false) :
    CallsD Try.prog 55 #[.pointer (some ⟨b1, 0, none⟩), .pointer (some ⟨b2, 0, none⟩)] (.panicking ({ v := .iface 9 (.string s), recovered := false } :: older)) w fun e u' w' =>
      e = .returned (.tuple #[]) ∧ u' = .panicking ({ v := .iface 9 (.string s), recovered := true } :: older) ∧ w' = ((w.setCell ⟨b1, 0, none⟩ (.bool false)).setCell ⟨b2, 0, none⟩ (.int .i64 2)).alloc (.cells #[] 63) := by
  refine callsD_of_wpS Try.func55 rfl fun c₀ cs hu => ?_
  simp only [Try.ntmps55, List.size_toArray, List.length_cons, List.length_nil, Nat.reduceAdd, Nat.reduceSub, Array.replicate_succ,
     Array.replicate_zero, List.push_toArray, List.append_toArray, List.nil_append, List.cons_append]
  apply wpS_seq
  apply wpS_region
  simp [wpOpsS, go_sem, recoverD, hu, Exit.thenS]
  refine wpS_of_wp ?_
  go_wp2_with fail
  simp [bodyPostS, results, Try.results55]

set_option maxHeartbeats 1000000 in
set_option maxRecDepth 100000 in
theorem implGeq (x y : SV) (hx : SV.Plain x) (hy : SV.Plain y) (w : World) : Calls Try.prog 20 #[x.door, y.door] w (Gives (cmpRes (geqO x y)) w) := by
  have HX := Lib.hid (given_plain x hx)
  have HY := Lib.hid (given_plain y hy)
  have HR := Lib.hid (geq_run x y hx hy)
  have hmf : ∀ (fn : Fn) (first cap : Array Value) (w : World), (Instr.makeFunc fn first cap).run Try.prog w = .ok (.func fn first cap) w := fun _ _ _ _ => rfl
  clear hx hy
  generalize geqO x y = o at *
  unfold SV.door at *
  generalize x.any = xa at *
  generalize y.any = ya at *
  go_enter_defers Try.func20, Try.ntmps20
  go_wp2_with fail
  refine Calls.mono (by exact HX.out _) ?_
  rintro e w1 ⟨rfl, hb⟩
  obtain ⟨-, hb1, hb2, hb3, hsz, hbw⟩ := four_blocks hb
  have HB2 := Lib.hid hb2
  have HB3 := Lib.hid hb3
  have HBW := Lib.hid hbw
  have c0 := cell_at_block hb1 0 _ rfl
  have c1 := cell_at_block hb1 1 _ rfl
  have c2 := cell_at_block hb1 2 _ rfl
  have c3 := cell_at_block hb1 3 _ rfl
  have c4 := cell_at_block hb1 4 _ rfl
  have c5 := cell_at_block hb1 5 _ rfl
  have c6 := cell_at_block hb1 6 _ rfl
  have c7 := cell_at_block hb1 7 _ rfl
  clear hb hb1 hb2 hb3 hbw
  go_wp2_with fail
  refine Calls.mono (by exact HY.out _) ?_
  rintro e w2 ⟨rfl, hb⟩
  have HB2' := Lib.hid ((hb.block _ (by omega)).trans HB2.out)
  have HB3' := Lib.hid ((hb.block _ (by omega)).trans HB3.out)
  have HBW' := Lib.hid (HBW.out.trans (hb.mono (by omega)))
  have hs2 : w.heap.size + 4 ≤ w2.heap.size := Nat.le_trans hsz hb.size
  clear hb HB2 HB3 HBW c0 c1 c2 c3 c4 c5 c6 c7 hsz
  have o1 := cell_of_one HB2'.out
  have o2 := cell_of_one HB3'.out
  have z1 := free_of_one HB2'.out
  have z2 := free_of_one HB3'.out
  go_wp2_with fail
  refine Calls.mono (by exact HR.out _) ?_
  cases o with
  | some r =>
    rintro e w3 ⟨rfl, rfl⟩
    go_wp2_with fail
    refine leaves_cons (f := 55) (args := #[.pointer (some ⟨w.heap.size + 1 + 1, 0, none⟩), .pointer (some ⟨w.heap.size + 1 + 1 + 1, 0, none⟩)]) (by simp) (by simp [go_sem]) ?_
    refine (geq_idle ⟨w.heap.size + 1 + 1, 0, none⟩ ⟨w.heap.size + 1 + 1 + 1, 0, none⟩ _).mono ?_
    rintro e u' w'' ⟨rfl, rfl, rfl⟩
    have hB : Below w.heap.size w ((w2.setCell ⟨w.heap.size + 1 + 1, 0, none⟩ (.bool r)).setCell ⟨w.heap.size + 1 + 1 + 1, 0, none⟩ (.int .i64 0)) := (HBW'.out.setCell (by simp; omega) _).setCell (by simp; omega) _
    simp [Leaves, settle, results, Try.results20, go_sem, o1, o2, cmpRes, Gives, hB]
  | none =>
    rintro e w3 ⟨rfl, rfl⟩
    go_wp2_with fail
    refine leaves_cons (f := 55) (args := #[.pointer (some ⟨w.heap.size + 1 + 1, 0, none⟩), .pointer (some ⟨w.heap.size + 1 + 1 + 1, 0, none⟩)]) (by simp) (by simp [go_sem]) ?_
    refine (geq_catch (w.heap.size + 1 + 1) (w.heap.size + 1 + 1 + 1) _ _ _ _ _ (by omega) o1 z1 o2 z2).mono ?_
    rintro e u' w'' ⟨rfl, rfl, rfl⟩
    have hB : Below w.heap.size w (((w2.setCell ⟨w.heap.size + 1 + 1, 0, none⟩ (.bool false)).setCell ⟨w.heap.size + 1 + 1 + 1, 0, none⟩ (.int .i64 2)).alloc (.cells #[] 63)) := ((HBW'.out.setCell (by simp; omega) _).setCell (by simp; omega) _).alloc (by simp; omega) _
    have r1 : (((w2.setCell ⟨w.heap.size + 1 + 1, 0, none⟩ (.bool false)).setCell ⟨w.heap.size + 1 + 1 + 1, 0, none⟩ (.int .i64 2)).alloc (.cells #[] 63)).cell? ⟨w.heap.size + 1 + 1, 0, none⟩ = some (.bool false) := by
      rw [World.cell?_alloc_past _ _ _ (by simp; omega)]; simp [go_sem, o1]
    have r2 : (((w2.setCell ⟨w.heap.size + 1 + 1, 0, none⟩ (.bool false)).setCell ⟨w.heap.size + 1 + 1 + 1, 0, none⟩ (.int .i64 2)).alloc (.cells #[] 63)).cell? ⟨w.heap.size + 1 + 1 + 1, 0, none⟩ = some (.int .i64 2) := by
      rw [World.cell?_alloc_past _ _ _ (by simp; omega)]; simp [go_sem, o2]
    simp [Leaves, settle, results, Try.results20, go_sem, r1, r2, cmpRes, Gives, hB]
end Go.Proofs.Ythmogfjmngbamaa
