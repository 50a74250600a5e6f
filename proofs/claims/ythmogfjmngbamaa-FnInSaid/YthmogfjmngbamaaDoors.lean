/-
  'impl.Add', 'Subtract', 'Multiply', 'Divide', 'Modulo' walked at plain values: the deferred closures too.
-/
import Derived.Test.YthmogfjmngbamaaOps
namespace Go.Proofs.Ythmogfjmngbamaa
open Go.RowKit
set_option linter.unusedSimpArgs false
set_option linter.unusedVariables false

/-- What a door tells, as one of the outcomes allows. -/
def Tolds (f : Option SV → Value) (r : Res) (w : World) (e : Ending) (w' : World) : Prop := ∃ o, r.Good o ∧ Gives (f o) w e w'


set_option maxHeartbeats 4000000 in
set_option maxRecDepth 100000 in
theorem add_idle (p q : Addr) (w : World) :
    CallsD Try.prog 89 #[.pointer (some p), .pointer (some q)] .returning w fun e u' w' => e = .returned (.tuple #[]) ∧ u' = .returning ∧ w' = w := by
  refine callsD_of_wpS Try.func89 rfl fun c₀ cs hu => ?_
  apply wpS_seq
  apply wpS_region
  simp [wpOpsS, go_sem, recoverD, hu, Try.ntmps89, Exit.thenS]
  refine wpS_of_wp ?_
  go_wp2_with fail
  cases c₀
  simp_all [bodyPostS, results, Try.results89]


set_option maxHeartbeats 4000000 in
set_option maxRecDepth 100000 in
theorem add_caught (b1 b2 : Nat) (v2 : Value) (t : TypeId) (ht : (t = 63) = False) (s : ByteArray) (older : List PanicEntry) (w : World) (h12 : b1 ≠ b2)
   (hb1 : w.heap[b1]? = some (.cells #[Value.int .i64 0, .int .i64 0, .int .u64 0, .float .f64 0, .string ⟨#[]⟩, .bool false, .slice none 0 0, .slice none 0 0] 35 (0, 0)))
   (hc2 : w.cell? ⟨b2, 0, none⟩ = some v2) (hz2 : w.frozen? ⟨b2, 0, none⟩ = false) :
    CallsD Try.prog 89 #[.pointer (some ⟨b1, 0, none⟩), .pointer (some ⟨b2, 0, none⟩)] (.panicking ({ v := .iface t (.string s), recovered := false } :: older)) w fun e u' w' =>
      e = .returned (.tuple #[]) ∧ u' = .panicking ({ v := .iface t (.string s), recovered := true } :: older) ∧ w' = ((store8 w b1 (.int .i64 0) (.int .i64 0) (.int .u64 0) (.float .f64 0) (.string ⟨#[]⟩) (.bool false) (.slice none 0 0) (.slice none 0 0)).setCell ⟨b2, 0, none⟩ (.int .i64 2)).alloc (.cells #[] 63) := by
  obtain ⟨a0, a1, a2, a3, a4, a5, a6, a7⟩ := eight hb1
  have z0 := free_block hb1
  clear hb1
  have h21 : ¬ b2 = b1 := fun h => h12 h.symm
  unfold store8
  refine callsD_of_wpS Try.func89 rfl fun c₀ cs hu => ?_
  simp only [Try.ntmps89, List.size_toArray, List.length_cons, List.length_nil, Nat.reduceAdd, Nat.reduceSub, Array.replicate_succ,
     Array.replicate_zero, List.push_toArray, List.append_toArray, List.nil_append, List.cons_append]
  apply wpS_seq
  apply wpS_region
  simp [wpOpsS, go_sem, recoverD, hu, Exit.thenS]
  refine wpS_of_wp ?_
  go_wp2_with fail
  simp [bodyPostS, results, Try.results89]
theorem add_catch (b1 b2 : Nat) (v2 : Value) (t : TypeId) (ht : (t = 63) = False) (s : ByteArray) (older : List PanicEntry) (w : World) (h12 : b1 ≠ b2)
   (hb1 : w.heap[b1]? = some (.cells #[Value.int .i64 0, .int .i64 0, .int .u64 0, .float .f64 0, .string ⟨#[]⟩, .bool false, .slice none 0 0, .slice none 0 0] 35 (0, 0)))
   (hb2 : w.heap[b2]? = some (.cells #[v2] 3 (0, 0))) :
    CallsD Try.prog 89 #[.pointer (some ⟨b1, 0, none⟩), .pointer (some ⟨b2, 0, none⟩)] (.panicking ({ v := .iface t (.string s), recovered := false } :: older)) w fun e u' w' =>
      e = .returned (.tuple #[]) ∧ u' = .panicking ({ v := .iface t (.string s), recovered := true } :: older) ∧ Caught b1 b2 w w' := by
  refine (add_caught b1 b2 v2 t ht s older w h12 hb1 (cell_of_one hb2) (free_of_one hb2)).mono ?_
  rintro e u' w' ⟨rfl, rfl, rfl⟩
  exact ⟨rfl, rfl, Caught.of h12 hb1 hb2⟩


set_option maxHeartbeats 4000000 in
set_option maxRecDepth 100000 in
theorem implAdd (x y : SV) (hx : SV.Plain x) (hy : SV.Plain y) (w : World) : Calls Try.prog 41 #[x.door, y.door] w (Tolds valRes (addR x y) w) := by
  have HX := Lib.hid (given_plain x hx)
  have HY := Lib.hid (given_plain y hy)
  have HR := Lib.hid (add_run x y hx hy)
  have hmf : ∀ (fn : Fn) (first cap : Array Value) (w : World), (Instr.makeFunc fn first cap).run Try.prog w = .ok (.func fn first cap) w := fun _ _ _ _ => rfl
  clear hx hy
  generalize addR x y = res at *
  unfold SV.door at HX HY ⊢
  generalize x.any = xa at *
  generalize y.any = ya at *
  go_enter_defers Try.func41, Try.ntmps41
  go_wp2_with fail
  refine Calls.mono (by exact HX.out _) ?_
  rintro e w1 ⟨rfl, hb⟩
  obtain ⟨-, hb1, hb2, hb3, hsz, hbw⟩ := four_blocks hb
  have HB2 := Lib.hid hb2
  have HB3 := Lib.hid hb3
  have HBW := Lib.hid hbw
  obtain ⟨c0, c1, c2, c3, c4, c5, c6, c7⟩ := eight hb1
  clear hb hb1 hb2 hb3 hbw
  go_wp2_with fail
  refine Calls.mono (by exact HY.out _) ?_
  rintro e w2 ⟨rfl, hb⟩
  have HB2' := Lib.hid ((hb.block _ (by omega)).trans HB2.out)
  have HB3' := Lib.hid ((hb.block _ (by omega)).trans HB3.out)
  have HBW' := Lib.hid (HBW.out.trans (hb.mono (by omega)))
  have hs2 : w.heap.size + 4 ≤ w2.heap.size := Nat.le_trans hsz hb.size
  clear hb HB2 HB3 HBW c0 c1 c2 c3 c4 c5 c6 c7 hsz
  go_wp2_with fail
  refine Calls.mono (by exact HR.out _) ?_
  rintro e w3 ⟨o, ho, hr⟩
  have HO := Lib.hid ho
  clear ho
  cases o with
  | some z =>
    obtain ⟨rfl, hb⟩ := hr
    have HB2'' := Lib.hid ((hb.block _ (by omega)).trans HB2'.out)
    have HB3'' := Lib.hid ((hb.block _ (by omega)).trans HB3'.out)
    have HBW'' := Lib.hid (HBW'.out.trans (hb.mono (by omega)))
    have hs3 : w.heap.size + 4 ≤ w3.heap.size := Nat.le_trans hs2 hb.size
    clear hb HB2' HB3' HBW' hs2
    have HT := Lib.hid (told_plain z (Res.kind HO.out))
    generalize hya : z.any = za at *
    go_wp2_with fail
    refine Calls.mono (by exact HT.out _) ?_
    rintro e w4 ⟨rfl, hb⟩
    have b2' := (hb.block _ (by omega)).trans HB2''.out
    have b3' := (hb.block _ (by omega)).trans HB3''.out
    have hB' : Hid (Below w.heap.size w w4) := Lib.hid (HBW''.out.trans (hb.mono (by omega)))
    obtain ⟨a0, a1, a2, a3, a4, a5, a6, a7⟩ := eight b2'
    have z0 := free_block b2'
    have o1 := cell_of_one b3'
    have z1 := free_of_one b3'
    clear hb b2' b3' HB2'' HB3'' HBW''
    unfold SV.door
    go_wp2_with fail
    refine leaves_cons (f := 89) (args := #[.pointer (some ⟨w.heap.size + 1 + 1, 0, none⟩), .pointer (some ⟨w.heap.size + 1 + 1 + 1, 0, none⟩)]) (by simp) (by simp [go_sem]) ?_
    refine (add_idle ⟨w.heap.size + 1 + 1, 0, none⟩ ⟨w.heap.size + 1 + 1 + 1, 0, none⟩ _).mono ?_
    rintro e u' w'' ⟨rfl, rfl, rfl⟩
    have hB : Below w.heap.size w ((store8 w4 (w.heap.size + 1 + 1) (.int .i64 z.dk) (.int .i64 z.dn) (.int .u64 0) (.float .f64 z.df) (.string z.dt) (.bool z.db) (.slice none 0 0) (.slice none 0 0)).setCell ⟨w.heap.size + 1 + 1 + 1, 0, none⟩ (.int .i64 0)) :=
      (store8_below _ _ _ _ _ _ _ _ hB'.out (by omega)).setCell (by simp; omega) _
    unfold store8 at hB
    have hG : Tolds valRes res w (.returned (.tuple #[.agg #[.int .i64 z.dk, .int .i64 z.dn, .int .u64 0, .float .f64 z.df, .string z.dt, .bool z.db, .slice none 0 0, .slice none 0 0], .int .i64 0])) _ := ⟨some z, HO.out, rfl, hB⟩
    simp [Leaves, settle, results, Try.results41, go_sem, a0, a1, a2, a3, a4, a5, a6, a7, o1, hG]
  | none =>
    obtain ⟨t, s, ht, rfl, rfl⟩ := hr
    go_wp2_with fail
    refine leaves_cons (f := 89) (args := #[.pointer (some ⟨w.heap.size + 1 + 1, 0, none⟩), .pointer (some ⟨w.heap.size + 1 + 1 + 1, 0, none⟩)]) (by simp) (by simp [go_sem]) ?_
    refine (add_catch (w.heap.size + 1 + 1) (w.heap.size + 1 + 1 + 1) _ t ht _ _ _ (by omega) HB2'.out HB3'.out).mono ?_
    rintro e u' w'' ⟨rfl, rfl, hC⟩
    have hB : Below w.heap.size w w'' := HBW'.out.trans (hC.below _ (by omega) (by omega) (by omega))
    have q8 := cell_of_one hC.two
    obtain ⟨q0, q1, q2, q3, q4, q5, q6, q7⟩ := eight hC.one
    have hG : Tolds valRes res w (.returned (.tuple #[.agg #[Value.int .i64 0, .int .i64 0, .int .u64 0, .float .f64 0, .string ⟨#[]⟩, .bool false, .slice none 0 0, .slice none 0 0], .int .i64 2])) w'' := ⟨none, HO.out, rfl, hB⟩
    clear hC HB2' HB3' HBW' HX HY HR hmf hs2
    simp [Leaves, settle, results, Try.results41, go_sem, q0, q1, q2, q3, q4, q5, q6, q7, q8, hG]

set_option maxHeartbeats 4000000 in
set_option maxRecDepth 100000 in
theorem subtract_idle (p q : Addr) (w : World) :
    CallsD Try.prog 91 #[.pointer (some p), .pointer (some q)] .returning w fun e u' w' => e = .returned (.tuple #[]) ∧ u' = .returning ∧ w' = w := by
  refine callsD_of_wpS Try.func91 rfl fun c₀ cs hu => ?_
  apply wpS_seq
  apply wpS_region
  simp [wpOpsS, go_sem, recoverD, hu, Try.ntmps91, Exit.thenS]
  refine wpS_of_wp ?_
  go_wp2_with fail
  cases c₀
  simp_all [bodyPostS, results, Try.results91]


set_option maxHeartbeats 4000000 in
set_option maxRecDepth 100000 in
theorem subtract_caught (b1 b2 : Nat) (v2 : Value) (t : TypeId) (ht : (t = 63) = False) (s : ByteArray) (older : List PanicEntry) (w : World) (h12 : b1 ≠ b2)
   (hb1 : w.heap[b1]? = some (.cells #[Value.int .i64 0, .int .i64 0, .int .u64 0, .float .f64 0, .string ⟨#[]⟩, .bool false, .slice none 0 0, .slice none 0 0] 35 (0, 0)))
   (hc2 : w.cell? ⟨b2, 0, none⟩ = some v2) (hz2 : w.frozen? ⟨b2, 0, none⟩ = false) :
    CallsD Try.prog 91 #[.pointer (some ⟨b1, 0, none⟩), .pointer (some ⟨b2, 0, none⟩)] (.panicking ({ v := .iface t (.string s), recovered := false } :: older)) w fun e u' w' =>
      e = .returned (.tuple #[]) ∧ u' = .panicking ({ v := .iface t (.string s), recovered := true } :: older) ∧ w' = ((store8 w b1 (.int .i64 0) (.int .i64 0) (.int .u64 0) (.float .f64 0) (.string ⟨#[]⟩) (.bool false) (.slice none 0 0) (.slice none 0 0)).setCell ⟨b2, 0, none⟩ (.int .i64 2)).alloc (.cells #[] 63) := by
  obtain ⟨a0, a1, a2, a3, a4, a5, a6, a7⟩ := eight hb1
  have z0 := free_block hb1
  clear hb1
  have h21 : ¬ b2 = b1 := fun h => h12 h.symm
  unfold store8
  refine callsD_of_wpS Try.func91 rfl fun c₀ cs hu => ?_
  simp only [Try.ntmps91, List.size_toArray, List.length_cons, List.length_nil, Nat.reduceAdd, Nat.reduceSub, Array.replicate_succ,
     Array.replicate_zero, List.push_toArray, List.append_toArray, List.nil_append, List.cons_append]
  apply wpS_seq
  apply wpS_region
  simp [wpOpsS, go_sem, recoverD, hu, Exit.thenS]
  refine wpS_of_wp ?_
  go_wp2_with fail
  simp [bodyPostS, results, Try.results91]
theorem subtract_catch (b1 b2 : Nat) (v2 : Value) (t : TypeId) (ht : (t = 63) = False) (s : ByteArray) (older : List PanicEntry) (w : World) (h12 : b1 ≠ b2)
   (hb1 : w.heap[b1]? = some (.cells #[Value.int .i64 0, .int .i64 0, .int .u64 0, .float .f64 0, .string ⟨#[]⟩, .bool false, .slice none 0 0, .slice none 0 0] 35 (0, 0)))
   (hb2 : w.heap[b2]? = some (.cells #[v2] 3 (0, 0))) :
    CallsD Try.prog 91 #[.pointer (some ⟨b1, 0, none⟩), .pointer (some ⟨b2, 0, none⟩)] (.panicking ({ v := .iface t (.string s), recovered := false } :: older)) w fun e u' w' =>
      e = .returned (.tuple #[]) ∧ u' = .panicking ({ v := .iface t (.string s), recovered := true } :: older) ∧ Caught b1 b2 w w' := by
  refine (subtract_caught b1 b2 v2 t ht s older w h12 hb1 (cell_of_one hb2) (free_of_one hb2)).mono ?_
  rintro e u' w' ⟨rfl, rfl, rfl⟩
  exact ⟨rfl, rfl, Caught.of h12 hb1 hb2⟩


set_option maxHeartbeats 4000000 in
set_option maxRecDepth 100000 in
theorem implSubtract (x y : SV) (hx : SV.Plain x) (hy : SV.Plain y) (w : World) : Calls Try.prog 42 #[x.door, y.door] w (Tolds valRes (subR x y) w) := by
  have HX := Lib.hid (given_plain x hx)
  have HY := Lib.hid (given_plain y hy)
  have HR := Lib.hid (subt_run x y hx hy)
  have hmf : ∀ (fn : Fn) (first cap : Array Value) (w : World), (Instr.makeFunc fn first cap).run Try.prog w = .ok (.func fn first cap) w := fun _ _ _ _ => rfl
  clear hx hy
  generalize subR x y = res at *
  unfold SV.door at HX HY ⊢
  generalize x.any = xa at *
  generalize y.any = ya at *
  go_enter_defers Try.func42, Try.ntmps42
  go_wp2_with fail
  refine Calls.mono (by exact HX.out _) ?_
  rintro e w1 ⟨rfl, hb⟩
  obtain ⟨-, hb1, hb2, hb3, hsz, hbw⟩ := four_blocks hb
  have HB2 := Lib.hid hb2
  have HB3 := Lib.hid hb3
  have HBW := Lib.hid hbw
  obtain ⟨c0, c1, c2, c3, c4, c5, c6, c7⟩ := eight hb1
  clear hb hb1 hb2 hb3 hbw
  go_wp2_with fail
  refine Calls.mono (by exact HY.out _) ?_
  rintro e w2 ⟨rfl, hb⟩
  have HB2' := Lib.hid ((hb.block _ (by omega)).trans HB2.out)
  have HB3' := Lib.hid ((hb.block _ (by omega)).trans HB3.out)
  have HBW' := Lib.hid (HBW.out.trans (hb.mono (by omega)))
  have hs2 : w.heap.size + 4 ≤ w2.heap.size := Nat.le_trans hsz hb.size
  clear hb HB2 HB3 HBW c0 c1 c2 c3 c4 c5 c6 c7 hsz
  go_wp2_with fail
  refine Calls.mono (by exact HR.out _) ?_
  rintro e w3 ⟨o, ho, hr⟩
  have HO := Lib.hid ho
  clear ho
  cases o with
  | some z =>
    obtain ⟨rfl, hb⟩ := hr
    have HB2'' := Lib.hid ((hb.block _ (by omega)).trans HB2'.out)
    have HB3'' := Lib.hid ((hb.block _ (by omega)).trans HB3'.out)
    have HBW'' := Lib.hid (HBW'.out.trans (hb.mono (by omega)))
    have hs3 : w.heap.size + 4 ≤ w3.heap.size := Nat.le_trans hs2 hb.size
    clear hb HB2' HB3' HBW' hs2
    have HT := Lib.hid (told_plain z (Res.kind HO.out))
    generalize hya : z.any = za at *
    go_wp2_with fail
    refine Calls.mono (by exact HT.out _) ?_
    rintro e w4 ⟨rfl, hb⟩
    have b2' := (hb.block _ (by omega)).trans HB2''.out
    have b3' := (hb.block _ (by omega)).trans HB3''.out
    have hB' : Hid (Below w.heap.size w w4) := Lib.hid (HBW''.out.trans (hb.mono (by omega)))
    obtain ⟨a0, a1, a2, a3, a4, a5, a6, a7⟩ := eight b2'
    have z0 := free_block b2'
    have o1 := cell_of_one b3'
    have z1 := free_of_one b3'
    clear hb b2' b3' HB2'' HB3'' HBW''
    unfold SV.door
    go_wp2_with fail
    refine leaves_cons (f := 91) (args := #[.pointer (some ⟨w.heap.size + 1 + 1, 0, none⟩), .pointer (some ⟨w.heap.size + 1 + 1 + 1, 0, none⟩)]) (by simp) (by simp [go_sem]) ?_
    refine (subtract_idle ⟨w.heap.size + 1 + 1, 0, none⟩ ⟨w.heap.size + 1 + 1 + 1, 0, none⟩ _).mono ?_
    rintro e u' w'' ⟨rfl, rfl, rfl⟩
    have hB : Below w.heap.size w ((store8 w4 (w.heap.size + 1 + 1) (.int .i64 z.dk) (.int .i64 z.dn) (.int .u64 0) (.float .f64 z.df) (.string z.dt) (.bool z.db) (.slice none 0 0) (.slice none 0 0)).setCell ⟨w.heap.size + 1 + 1 + 1, 0, none⟩ (.int .i64 0)) :=
      (store8_below _ _ _ _ _ _ _ _ hB'.out (by omega)).setCell (by simp; omega) _
    unfold store8 at hB
    have hG : Tolds valRes res w (.returned (.tuple #[.agg #[.int .i64 z.dk, .int .i64 z.dn, .int .u64 0, .float .f64 z.df, .string z.dt, .bool z.db, .slice none 0 0, .slice none 0 0], .int .i64 0])) _ := ⟨some z, HO.out, rfl, hB⟩
    simp [Leaves, settle, results, Try.results42, go_sem, a0, a1, a2, a3, a4, a5, a6, a7, o1, hG]
  | none =>
    obtain ⟨t, s, ht, rfl, rfl⟩ := hr
    go_wp2_with fail
    refine leaves_cons (f := 91) (args := #[.pointer (some ⟨w.heap.size + 1 + 1, 0, none⟩), .pointer (some ⟨w.heap.size + 1 + 1 + 1, 0, none⟩)]) (by simp) (by simp [go_sem]) ?_
    refine (subtract_catch (w.heap.size + 1 + 1) (w.heap.size + 1 + 1 + 1) _ t ht _ _ _ (by omega) HB2'.out HB3'.out).mono ?_
    rintro e u' w'' ⟨rfl, rfl, hC⟩
    have hB : Below w.heap.size w w'' := HBW'.out.trans (hC.below _ (by omega) (by omega) (by omega))
    have q8 := cell_of_one hC.two
    obtain ⟨q0, q1, q2, q3, q4, q5, q6, q7⟩ := eight hC.one
    have hG : Tolds valRes res w (.returned (.tuple #[.agg #[Value.int .i64 0, .int .i64 0, .int .u64 0, .float .f64 0, .string ⟨#[]⟩, .bool false, .slice none 0 0, .slice none 0 0], .int .i64 2])) w'' := ⟨none, HO.out, rfl, hB⟩
    clear hC HB2' HB3' HBW' HX HY HR hmf hs2
    simp [Leaves, settle, results, Try.results42, go_sem, q0, q1, q2, q3, q4, q5, q6, q7, q8, hG]

set_option maxHeartbeats 4000000 in
set_option maxRecDepth 100000 in
theorem multiply_idle (p q : Addr) (w : World) :
    CallsD Try.prog 93 #[.pointer (some p), .pointer (some q)] .returning w fun e u' w' => e = .returned (.tuple #[]) ∧ u' = .returning ∧ w' = w := by
  refine callsD_of_wpS Try.func93 rfl fun c₀ cs hu => ?_
  apply wpS_seq
  apply wpS_region
  simp [wpOpsS, go_sem, recoverD, hu, Try.ntmps93, Exit.thenS]
  refine wpS_of_wp ?_
  go_wp2_with fail
  cases c₀
  simp_all [bodyPostS, results, Try.results93]


set_option maxHeartbeats 4000000 in
set_option maxRecDepth 100000 in
theorem multiply_caught (b1 b2 : Nat) (v2 : Value) (t : TypeId) (ht : (t = 63) = False) (s : ByteArray) (older : List PanicEntry) (w : World) (h12 : b1 ≠ b2)
   (hb1 : w.heap[b1]? = some (.cells #[Value.int .i64 0, .int .i64 0, .int .u64 0, .float .f64 0, .string ⟨#[]⟩, .bool false, .slice none 0 0, .slice none 0 0] 35 (0, 0)))
   (hc2 : w.cell? ⟨b2, 0, none⟩ = some v2) (hz2 : w.frozen? ⟨b2, 0, none⟩ = false) :
    CallsD Try.prog 93 #[.pointer (some ⟨b1, 0, none⟩), .pointer (some ⟨b2, 0, none⟩)] (.panicking ({ v := .iface t (.string s), recovered := false } :: older)) w fun e u' w' =>
      e = .returned (.tuple #[]) ∧ u' = .panicking ({ v := .iface t (.string s), recovered := true } :: older) ∧ w' = ((store8 w b1 (.int .i64 0) (.int .i64 0) (.int .u64 0) (.float .f64 0) (.string ⟨#[]⟩) (.bool false) (.slice none 0 0) (.slice none 0 0)).setCell ⟨b2, 0, none⟩ (.int .i64 2)).alloc (.cells #[] 63) := by
  obtain ⟨a0, a1, a2, a3, a4, a5, a6, a7⟩ := eight hb1
  have z0 := free_block hb1
  clear hb1
  have h21 : ¬ b2 = b1 := fun h => h12 h.symm
  unfold store8
  refine callsD_of_wpS Try.func93 rfl fun c₀ cs hu => ?_
  simp only [Try.ntmps93, List.size_toArray, List.length_cons, List.length_nil, Nat.reduceAdd, Nat.reduceSub, Array.replicate_succ,
     Array.replicate_zero, List.push_toArray, List.append_toArray, List.nil_append, List.cons_append]
  apply wpS_seq
  apply wpS_region
  simp [wpOpsS, go_sem, recoverD, hu, Exit.thenS]
  refine wpS_of_wp ?_
  go_wp2_with fail
  simp [bodyPostS, results, Try.results93]
theorem multiply_catch (b1 b2 : Nat) (v2 : Value) (t : TypeId) (ht : (t = 63) = False) (s : ByteArray) (older : List PanicEntry) (w : World) (h12 : b1 ≠ b2)
   (hb1 : w.heap[b1]? = some (.cells #[Value.int .i64 0, .int .i64 0, .int .u64 0, .float .f64 0, .string ⟨#[]⟩, .bool false, .slice none 0 0, .slice none 0 0] 35 (0, 0)))
   (hb2 : w.heap[b2]? = some (.cells #[v2] 3 (0, 0))) :
    CallsD Try.prog 93 #[.pointer (some ⟨b1, 0, none⟩), .pointer (some ⟨b2, 0, none⟩)] (.panicking ({ v := .iface t (.string s), recovered := false } :: older)) w fun e u' w' =>
      e = .returned (.tuple #[]) ∧ u' = .panicking ({ v := .iface t (.string s), recovered := true } :: older) ∧ Caught b1 b2 w w' := by
  refine (multiply_caught b1 b2 v2 t ht s older w h12 hb1 (cell_of_one hb2) (free_of_one hb2)).mono ?_
  rintro e u' w' ⟨rfl, rfl, rfl⟩
  exact ⟨rfl, rfl, Caught.of h12 hb1 hb2⟩


set_option maxHeartbeats 4000000 in
set_option maxRecDepth 100000 in
theorem implMultiply (x y : SV) (hx : SV.Plain x) (hy : SV.Plain y) (w : World) : Calls Try.prog 43 #[x.door, y.door] w (Tolds valRes (mulR x y) w) := by
  have HX := Lib.hid (given_plain x hx)
  have HY := Lib.hid (given_plain y hy)
  have HR := Lib.hid (mul_run x y hx hy)
  have hmf : ∀ (fn : Fn) (first cap : Array Value) (w : World), (Instr.makeFunc fn first cap).run Try.prog w = .ok (.func fn first cap) w := fun _ _ _ _ => rfl
  clear hx hy
  generalize mulR x y = res at *
  unfold SV.door at HX HY ⊢
  generalize x.any = xa at *
  generalize y.any = ya at *
  go_enter_defers Try.func43, Try.ntmps43
  go_wp2_with fail
  refine Calls.mono (by exact HX.out _) ?_
  rintro e w1 ⟨rfl, hb⟩
  obtain ⟨-, hb1, hb2, hb3, hsz, hbw⟩ := four_blocks hb
  have HB2 := Lib.hid hb2
  have HB3 := Lib.hid hb3
  have HBW := Lib.hid hbw
  obtain ⟨c0, c1, c2, c3, c4, c5, c6, c7⟩ := eight hb1
  clear hb hb1 hb2 hb3 hbw
  go_wp2_with fail
  refine Calls.mono (by exact HY.out _) ?_
  rintro e w2 ⟨rfl, hb⟩
  have HB2' := Lib.hid ((hb.block _ (by omega)).trans HB2.out)
  have HB3' := Lib.hid ((hb.block _ (by omega)).trans HB3.out)
  have HBW' := Lib.hid (HBW.out.trans (hb.mono (by omega)))
  have hs2 : w.heap.size + 4 ≤ w2.heap.size := Nat.le_trans hsz hb.size
  clear hb HB2 HB3 HBW c0 c1 c2 c3 c4 c5 c6 c7 hsz
  go_wp2_with fail
  refine Calls.mono (by exact HR.out _) ?_
  rintro e w3 ⟨o, ho, hr⟩
  have HO := Lib.hid ho
  clear ho
  cases o with
  | some z =>
    obtain ⟨rfl, hb⟩ := hr
    have HB2'' := Lib.hid ((hb.block _ (by omega)).trans HB2'.out)
    have HB3'' := Lib.hid ((hb.block _ (by omega)).trans HB3'.out)
    have HBW'' := Lib.hid (HBW'.out.trans (hb.mono (by omega)))
    have hs3 : w.heap.size + 4 ≤ w3.heap.size := Nat.le_trans hs2 hb.size
    clear hb HB2' HB3' HBW' hs2
    have HT := Lib.hid (told_plain z (Res.kind HO.out))
    generalize hya : z.any = za at *
    go_wp2_with fail
    refine Calls.mono (by exact HT.out _) ?_
    rintro e w4 ⟨rfl, hb⟩
    have b2' := (hb.block _ (by omega)).trans HB2''.out
    have b3' := (hb.block _ (by omega)).trans HB3''.out
    have hB' : Hid (Below w.heap.size w w4) := Lib.hid (HBW''.out.trans (hb.mono (by omega)))
    obtain ⟨a0, a1, a2, a3, a4, a5, a6, a7⟩ := eight b2'
    have z0 := free_block b2'
    have o1 := cell_of_one b3'
    have z1 := free_of_one b3'
    clear hb b2' b3' HB2'' HB3'' HBW''
    unfold SV.door
    go_wp2_with fail
    refine leaves_cons (f := 93) (args := #[.pointer (some ⟨w.heap.size + 1 + 1, 0, none⟩), .pointer (some ⟨w.heap.size + 1 + 1 + 1, 0, none⟩)]) (by simp) (by simp [go_sem]) ?_
    refine (multiply_idle ⟨w.heap.size + 1 + 1, 0, none⟩ ⟨w.heap.size + 1 + 1 + 1, 0, none⟩ _).mono ?_
    rintro e u' w'' ⟨rfl, rfl, rfl⟩
    have hB : Below w.heap.size w ((store8 w4 (w.heap.size + 1 + 1) (.int .i64 z.dk) (.int .i64 z.dn) (.int .u64 0) (.float .f64 z.df) (.string z.dt) (.bool z.db) (.slice none 0 0) (.slice none 0 0)).setCell ⟨w.heap.size + 1 + 1 + 1, 0, none⟩ (.int .i64 0)) :=
      (store8_below _ _ _ _ _ _ _ _ hB'.out (by omega)).setCell (by simp; omega) _
    unfold store8 at hB
    have hG : Tolds valRes res w (.returned (.tuple #[.agg #[.int .i64 z.dk, .int .i64 z.dn, .int .u64 0, .float .f64 z.df, .string z.dt, .bool z.db, .slice none 0 0, .slice none 0 0], .int .i64 0])) _ := ⟨some z, HO.out, rfl, hB⟩
    simp [Leaves, settle, results, Try.results43, go_sem, a0, a1, a2, a3, a4, a5, a6, a7, o1, hG]
  | none =>
    obtain ⟨t, s, ht, rfl, rfl⟩ := hr
    go_wp2_with fail
    refine leaves_cons (f := 93) (args := #[.pointer (some ⟨w.heap.size + 1 + 1, 0, none⟩), .pointer (some ⟨w.heap.size + 1 + 1 + 1, 0, none⟩)]) (by simp) (by simp [go_sem]) ?_
    refine (multiply_catch (w.heap.size + 1 + 1) (w.heap.size + 1 + 1 + 1) _ t ht _ _ _ (by omega) HB2'.out HB3'.out).mono ?_
    rintro e u' w'' ⟨rfl, rfl, hC⟩
    have hB : Below w.heap.size w w'' := HBW'.out.trans (hC.below _ (by omega) (by omega) (by omega))
    have q8 := cell_of_one hC.two
    obtain ⟨q0, q1, q2, q3, q4, q5, q6, q7⟩ := eight hC.one
    have hG : Tolds valRes res w (.returned (.tuple #[.agg #[Value.int .i64 0, .int .i64 0, .int .u64 0, .float .f64 0, .string ⟨#[]⟩, .bool false, .slice none 0 0, .slice none 0 0], .int .i64 2])) w'' := ⟨none, HO.out, rfl, hB⟩
    clear hC HB2' HB3' HBW' HX HY HR hmf hs2
    simp [Leaves, settle, results, Try.results43, go_sem, q0, q1, q2, q3, q4, q5, q6, q7, q8, hG]

set_option maxHeartbeats 4000000 in
set_option maxRecDepth 100000 in
theorem divide_idle (p q : Addr) (w : World) :
    CallsD Try.prog 111 #[.pointer (some p), .pointer (some q)] .returning w fun e u' w' => e = .returned (.tuple #[]) ∧ u' = .returning ∧ w' = w := by
  refine callsD_of_wpS Try.func111 rfl fun c₀ cs hu => ?_
  apply wpS_seq
  apply wpS_region
  simp [wpOpsS, go_sem, recoverD, hu, Try.ntmps111, Exit.thenS]
  refine wpS_of_wp ?_
  go_wp2_with fail
  cases c₀
  simp_all [bodyPostS, results, Try.results111]


set_option maxHeartbeats 4000000 in
set_option maxRecDepth 100000 in
theorem divide_catch (b1 b2 : Nat) (v1 v2 : Value) (t : TypeId) (ht : (t = 63) = False) (s : ByteArray) (older : List PanicEntry) (w : World) (h12 : b1 ≠ b2) (hc1 : w.cell? ⟨b1, 0, none⟩ = some v1) (hz1 : w.frozen? ⟨b1, 0, none⟩ = false)
   (hc2 : w.cell? ⟨b2, 0, none⟩ = some v2) (hz2 : w.frozen? ⟨b2, 0, none⟩ = false) :
    CallsD Try.prog 111 #[.pointer (some ⟨b1, 0, none⟩), .pointer (some ⟨b2, 0, none⟩)] (.panicking ({ v := .iface t (.string s), recovered := false } :: older)) w fun e u' w' =>
      e = .returned (.tuple #[]) ∧ u' = .panicking ({ v := .iface t (.string s), recovered := true } :: older) ∧ w' = ((w.setCell ⟨b1, 0, none⟩ (.float .f64 0)).setCell ⟨b2, 0, none⟩ (.int .i64 2)).alloc (.cells #[] 63) := by
  refine callsD_of_wpS Try.func111 rfl fun c₀ cs hu => ?_
  simp only [Try.ntmps111, List.size_toArray, List.length_cons, List.length_nil, Nat.reduceAdd, Nat.reduceSub, Array.replicate_succ,
     Array.replicate_zero, List.push_toArray, List.append_toArray, List.nil_append, List.cons_append]
  apply wpS_seq
  apply wpS_region
  simp [wpOpsS, go_sem, recoverD, hu, Exit.thenS]
  refine wpS_of_wp ?_
  go_wp2_with fail
  simp [bodyPostS, results, Try.results111]


set_option maxHeartbeats 4000000 in
set_option maxRecDepth 100000 in
theorem implDivide (x y : SV) (hx : SV.Plain x) (hy : SV.Plain y) (w : World) : Calls Try.prog 96 #[x.door, y.door] w (Tolds (doorRes (fun y => .float .f64 y.fl) (.float .f64 0)) (quoR x y) w) := by
  have HX := Lib.hid (given_plain x hx)
  have HY := Lib.hid (given_plain y hy)
  have HR := Lib.hid (quo_run x y hx hy)
  have hmf : ∀ (fn : Fn) (first cap : Array Value) (w : World), (Instr.makeFunc fn first cap).run Try.prog w = .ok (.func fn first cap) w := fun _ _ _ _ => rfl
  clear hx hy
  generalize quoR x y = res at *
  unfold SV.door at HX HY ⊢
  generalize x.any = xa at *
  generalize y.any = ya at *
  go_enter_defers Try.func96, Try.ntmps96
  go_wp2_with fail
  refine Calls.mono (by exact HX.out _) ?_
  rintro e w1 ⟨rfl, hb⟩
  obtain ⟨-, hb1, hb2, hb3, hsz, hbw⟩ := four_blocks hb
  have HB2 := Lib.hid hb2
  have HB3 := Lib.hid hb3
  have HBW := Lib.hid hbw
  obtain ⟨c0, c1, c2, c3, c4, c5, c6, c7⟩ := eight hb1
  clear hb hb1 hb2 hb3 hbw
  go_wp2_with fail
  refine Calls.mono (by exact HY.out _) ?_
  rintro e w2 ⟨rfl, hb⟩
  have HB2' := Lib.hid ((hb.block _ (by omega)).trans HB2.out)
  have HB3' := Lib.hid ((hb.block _ (by omega)).trans HB3.out)
  have HBW' := Lib.hid (HBW.out.trans (hb.mono (by omega)))
  have hs2 : w.heap.size + 4 ≤ w2.heap.size := Nat.le_trans hsz hb.size
  clear hb HB2 HB3 HBW c0 c1 c2 c3 c4 c5 c6 c7 hsz
  go_wp2_with fail
  refine Calls.mono (by exact HR.out _) ?_
  rintro e w3 ⟨o, ho, hr⟩
  have HO := Lib.hid ho
  clear ho
  cases o with
  | some z =>
    obtain ⟨rfl, hb⟩ := hr
    have HB2'' := Lib.hid ((hb.block _ (by omega)).trans HB2'.out)
    have HB3'' := Lib.hid ((hb.block _ (by omega)).trans HB3'.out)
    have HBW'' := Lib.hid (HBW'.out.trans (hb.mono (by omega)))
    have hs3 : w.heap.size + 4 ≤ w3.heap.size := Nat.le_trans hs2 hb.size
    clear hb HB2' HB3' HBW' hs2
    have o1 := cell_of_one HB2''.out
    have o2 := cell_of_one HB3''.out
    have z1 := free_of_one HB2''.out
    have z2 := free_of_one HB3''.out
    go_wp2_with fail
    refine leaves_cons (f := 111) (args := #[.pointer (some ⟨w.heap.size + 1 + 1, 0, none⟩), .pointer (some ⟨w.heap.size + 1 + 1 + 1, 0, none⟩)]) (by simp) (by simp [go_sem]) ?_
    refine (divide_idle ⟨w.heap.size + 1 + 1, 0, none⟩ ⟨w.heap.size + 1 + 1 + 1, 0, none⟩ _).mono ?_
    rintro e u' w'' ⟨rfl, rfl, rfl⟩
    have hB : Below w.heap.size w ((w3.setCell ⟨w.heap.size + 1 + 1, 0, none⟩ (.float .f64 z.fl)).setCell ⟨w.heap.size + 1 + 1 + 1, 0, none⟩ (.int .i64 0)) := (HBW''.out.setCell (by simp; omega) _).setCell (by simp; omega) _
    have hG : Tolds (doorRes (fun y => .float .f64 y.fl) (.float .f64 0)) res w (.returned (.tuple #[.float .f64 z.fl, .int .i64 0])) _ := ⟨some z, HO.out, rfl, hB⟩
    simp [Leaves, settle, results, Try.results96, go_sem, o1, o2, hG]
  | none =>
    obtain ⟨t, s, ht, rfl, rfl⟩ := hr
    have o1 := cell_of_one HB2'.out
    have o2 := cell_of_one HB3'.out
    have z1 := free_of_one HB2'.out
    have z2 := free_of_one HB3'.out
    go_wp2_with fail
    refine leaves_cons (f := 111) (args := #[.pointer (some ⟨w.heap.size + 1 + 1, 0, none⟩), .pointer (some ⟨w.heap.size + 1 + 1 + 1, 0, none⟩)]) (by simp) (by simp [go_sem]) ?_
    refine (divide_catch (w.heap.size + 1 + 1) (w.heap.size + 1 + 1 + 1) _ _ t ht _ _ _ (by omega) o1 z1 o2 z2).mono ?_
    rintro e u' w'' ⟨rfl, rfl, rfl⟩
    have hB : Below w.heap.size w (((w2.setCell ⟨w.heap.size + 1 + 1, 0, none⟩ (.float .f64 0)).setCell ⟨w.heap.size + 1 + 1 + 1, 0, none⟩ (.int .i64 2)).alloc (.cells #[] 63)) := ((HBW'.out.setCell (by simp; omega) _).setCell (by simp; omega) _).alloc (by simp; omega) _
    have r1 : (((w2.setCell ⟨w.heap.size + 1 + 1, 0, none⟩ (.float .f64 0)).setCell ⟨w.heap.size + 1 + 1 + 1, 0, none⟩ (.int .i64 2)).alloc (.cells #[] 63)).cell? ⟨w.heap.size + 1 + 1, 0, none⟩ = some (.float .f64 0) := by
      rw [World.cell?_alloc_past _ _ _ (by simp; omega)]; simp [go_sem, o1]
    have r2 : (((w2.setCell ⟨w.heap.size + 1 + 1, 0, none⟩ (.float .f64 0)).setCell ⟨w.heap.size + 1 + 1 + 1, 0, none⟩ (.int .i64 2)).alloc (.cells #[] 63)).cell? ⟨w.heap.size + 1 + 1 + 1, 0, none⟩ = some (.int .i64 2) := by
      rw [World.cell?_alloc_past _ _ _ (by simp; omega)]; simp [go_sem, o2]
    have hG : Tolds (doorRes (fun y => .float .f64 y.fl) (.float .f64 0)) res w (.returned (.tuple #[.float .f64 0, .int .i64 2])) _ := ⟨none, HO.out, rfl, hB⟩
    simp [Leaves, settle, results, Try.results96, go_sem, r1, r2, hG]

set_option maxHeartbeats 4000000 in
set_option maxRecDepth 100000 in
theorem modulo_idle (p q : Addr) (w : World) :
    CallsD Try.prog 113 #[.pointer (some p), .pointer (some q)] .returning w fun e u' w' => e = .returned (.tuple #[]) ∧ u' = .returning ∧ w' = w := by
  refine callsD_of_wpS Try.func113 rfl fun c₀ cs hu => ?_
  apply wpS_seq
  apply wpS_region
  simp [wpOpsS, go_sem, recoverD, hu, Try.ntmps113, Exit.thenS]
  refine wpS_of_wp ?_
  go_wp2_with fail
  cases c₀
  simp_all [bodyPostS, results, Try.results113]


set_option maxHeartbeats 4000000 in
set_option maxRecDepth 100000 in
theorem modulo_catch (b1 b2 : Nat) (v1 v2 : Value) (t : TypeId) (ht : (t = 63) = False) (s : ByteArray) (older : List PanicEntry) (w : World) (h12 : b1 ≠ b2) (hc1 : w.cell? ⟨b1, 0, none⟩ = some v1) (hz1 : w.frozen? ⟨b1, 0, none⟩ = false)
   (hc2 : w.cell? ⟨b2, 0, none⟩ = some v2) (hz2 : w.frozen? ⟨b2, 0, none⟩ = false) :
    CallsD Try.prog 113 #[.pointer (some ⟨b1, 0, none⟩), .pointer (some ⟨b2, 0, none⟩)] (.panicking ({ v := .iface t (.string s), recovered := false } :: older)) w fun e u' w' =>
      e = .returned (.tuple #[]) ∧ u' = .panicking ({ v := .iface t (.string s), recovered := true } :: older) ∧ w' = ((w.setCell ⟨b1, 0, none⟩ (.int .i64 0)).setCell ⟨b2, 0, none⟩ (.int .i64 2)).alloc (.cells #[] 63) := by
  refine callsD_of_wpS Try.func113 rfl fun c₀ cs hu => ?_
  simp only [Try.ntmps113, List.size_toArray, List.length_cons, List.length_nil, Nat.reduceAdd, Nat.reduceSub, Array.replicate_succ,
     Array.replicate_zero, List.push_toArray, List.append_toArray, List.nil_append, List.cons_append]
  apply wpS_seq
  apply wpS_region
  simp [wpOpsS, go_sem, recoverD, hu, Exit.thenS]
  refine wpS_of_wp ?_
  go_wp2_with fail
  simp [bodyPostS, results, Try.results113]


set_option maxHeartbeats 4000000 in
set_option maxRecDepth 100000 in
theorem implModulo (x y : SV) (hx : SV.Plain x) (hy : SV.Plain y) (w : World) : Calls Try.prog 97 #[x.door, y.door] w (Tolds (doorRes (fun y => .int .i64 y.int) (.int .i64 0)) (remR x y) w) := by
  have HX := Lib.hid (given_plain x hx)
  have HY := Lib.hid (given_plain y hy)
  have HR := Lib.hid (rem_run x y hx hy)
  have hmf : ∀ (fn : Fn) (first cap : Array Value) (w : World), (Instr.makeFunc fn first cap).run Try.prog w = .ok (.func fn first cap) w := fun _ _ _ _ => rfl
  clear hx hy
  generalize remR x y = res at *
  unfold SV.door at HX HY ⊢
  generalize x.any = xa at *
  generalize y.any = ya at *
  go_enter_defers Try.func97, Try.ntmps97
  go_wp2_with fail
  refine Calls.mono (by exact HX.out _) ?_
  rintro e w1 ⟨rfl, hb⟩
  obtain ⟨-, hb1, hb2, hb3, hsz, hbw⟩ := four_blocks hb
  have HB2 := Lib.hid hb2
  have HB3 := Lib.hid hb3
  have HBW := Lib.hid hbw
  obtain ⟨c0, c1, c2, c3, c4, c5, c6, c7⟩ := eight hb1
  clear hb hb1 hb2 hb3 hbw
  go_wp2_with fail
  refine Calls.mono (by exact HY.out _) ?_
  rintro e w2 ⟨rfl, hb⟩
  have HB2' := Lib.hid ((hb.block _ (by omega)).trans HB2.out)
  have HB3' := Lib.hid ((hb.block _ (by omega)).trans HB3.out)
  have HBW' := Lib.hid (HBW.out.trans (hb.mono (by omega)))
  have hs2 : w.heap.size + 4 ≤ w2.heap.size := Nat.le_trans hsz hb.size
  clear hb HB2 HB3 HBW c0 c1 c2 c3 c4 c5 c6 c7 hsz
  go_wp2_with fail
  refine Calls.mono (by exact HR.out _) ?_
  rintro e w3 ⟨o, ho, hr⟩
  have HO := Lib.hid ho
  clear ho
  cases o with
  | some z =>
    obtain ⟨rfl, hb⟩ := hr
    have HB2'' := Lib.hid ((hb.block _ (by omega)).trans HB2'.out)
    have HB3'' := Lib.hid ((hb.block _ (by omega)).trans HB3'.out)
    have HBW'' := Lib.hid (HBW'.out.trans (hb.mono (by omega)))
    have hs3 : w.heap.size + 4 ≤ w3.heap.size := Nat.le_trans hs2 hb.size
    clear hb HB2' HB3' HBW' hs2
    have o1 := cell_of_one HB2''.out
    have o2 := cell_of_one HB3''.out
    have z1 := free_of_one HB2''.out
    have z2 := free_of_one HB3''.out
    go_wp2_with fail
    refine leaves_cons (f := 113) (args := #[.pointer (some ⟨w.heap.size + 1 + 1, 0, none⟩), .pointer (some ⟨w.heap.size + 1 + 1 + 1, 0, none⟩)]) (by simp) (by simp [go_sem]) ?_
    refine (modulo_idle ⟨w.heap.size + 1 + 1, 0, none⟩ ⟨w.heap.size + 1 + 1 + 1, 0, none⟩ _).mono ?_
    rintro e u' w'' ⟨rfl, rfl, rfl⟩
    have hB : Below w.heap.size w ((w3.setCell ⟨w.heap.size + 1 + 1, 0, none⟩ (.int .i64 z.int)).setCell ⟨w.heap.size + 1 + 1 + 1, 0, none⟩ (.int .i64 0)) := (HBW''.out.setCell (by simp; omega) _).setCell (by simp; omega) _
    have hG : Tolds (doorRes (fun y => .int .i64 y.int) (.int .i64 0)) res w (.returned (.tuple #[.int .i64 z.int, .int .i64 0])) _ := ⟨some z, HO.out, rfl, hB⟩
    simp [Leaves, settle, results, Try.results97, go_sem, o1, o2, hG]
  | none =>
    obtain ⟨t, s, ht, rfl, rfl⟩ := hr
    have o1 := cell_of_one HB2'.out
    have o2 := cell_of_one HB3'.out
    have z1 := free_of_one HB2'.out
    have z2 := free_of_one HB3'.out
    go_wp2_with fail
    refine leaves_cons (f := 113) (args := #[.pointer (some ⟨w.heap.size + 1 + 1, 0, none⟩), .pointer (some ⟨w.heap.size + 1 + 1 + 1, 0, none⟩)]) (by simp) (by simp [go_sem]) ?_
    refine (modulo_catch (w.heap.size + 1 + 1) (w.heap.size + 1 + 1 + 1) _ _ t ht _ _ _ (by omega) o1 z1 o2 z2).mono ?_
    rintro e u' w'' ⟨rfl, rfl, rfl⟩
    have hB : Below w.heap.size w (((w2.setCell ⟨w.heap.size + 1 + 1, 0, none⟩ (.int .i64 0)).setCell ⟨w.heap.size + 1 + 1 + 1, 0, none⟩ (.int .i64 2)).alloc (.cells #[] 63)) := ((HBW'.out.setCell (by simp; omega) _).setCell (by simp; omega) _).alloc (by simp; omega) _
    have r1 : (((w2.setCell ⟨w.heap.size + 1 + 1, 0, none⟩ (.int .i64 0)).setCell ⟨w.heap.size + 1 + 1 + 1, 0, none⟩ (.int .i64 2)).alloc (.cells #[] 63)).cell? ⟨w.heap.size + 1 + 1, 0, none⟩ = some (.int .i64 0) := by
      rw [World.cell?_alloc_past _ _ _ (by simp; omega)]; simp [go_sem, o1]
    have r2 : (((w2.setCell ⟨w.heap.size + 1 + 1, 0, none⟩ (.int .i64 0)).setCell ⟨w.heap.size + 1 + 1 + 1, 0, none⟩ (.int .i64 2)).alloc (.cells #[] 63)).cell? ⟨w.heap.size + 1 + 1 + 1, 0, none⟩ = some (.int .i64 2) := by
      rw [World.cell?_alloc_past _ _ _ (by simp; omega)]; simp [go_sem, o2]
    have hG : Tolds (doorRes (fun y => .int .i64 y.int) (.int .i64 0)) res w (.returned (.tuple #[.int .i64 0, .int .i64 2])) _ := ⟨none, HO.out, rfl, hB⟩
    simp [Leaves, settle, results, Try.results97, go_sem, r1, r2, hG]
end Go.Proofs.Ythmogfjmngbamaa
