/-
  'impl.Length' and 'impl.Size' walked at every value that is in order.
-/
import Derived.Test.YthmogfjmngbamaaLen
import Derived.Test.YthmogfjmngbamaaTyp
namespace Go.Proofs.Ythmogfjmngbamaa
open Go.RowKit
set_option linter.unusedSimpArgs false
set_option linter.unusedVariables false

set_option maxHeartbeats 4000000 in
set_option maxRecDepth 100000 in
theorem length_idle (p q : Addr) (w : World) :
    CallsD Try.prog 68 #[.pointer (some p), .pointer (some q)] .returning w fun e u' w' => e = .returned (.tuple #[]) ∧ u' = .returning ∧ w' = w := by
  refine callsD_of_wpS Try.func68 rfl fun c₀ cs hu => ?_
  apply wpS_seq
  apply wpS_region
  simp [wpOpsS, go_sem, recoverD, hu, Try.ntmps68, Exit.thenS]
  refine wpS_of_wp ?_
  go_wp2_with fail
  cases c₀
  simp_all [bodyPostS, results, Try.results68]

set_option maxHeartbeats 4000000 in
set_option maxRecDepth 100000 in
theorem length_caught (b1 b2 : Nat) (v2 : Value) (t : TypeId) (ht : (t = 63) = False) (s : ByteArray) (older : List PanicEntry) (w : World) (h12 : b1 ≠ b2)
   (hb1 : w.heap[b1]? = some (.cells #[Value.int .i64 0, .int .i64 0, .int .u64 0, .float .f64 0, .string ⟨#[]⟩, .bool false, .slice none 0 0, .slice none 0 0] 35 (0, 0)))
   (hc2 : w.cell? ⟨b2, 0, none⟩ = some v2) (hz2 : w.frozen? ⟨b2, 0, none⟩ = false) :
    CallsD Try.prog 68 #[.pointer (some ⟨b1, 0, none⟩), .pointer (some ⟨b2, 0, none⟩)] (.panicking ({ v := .iface t (.string s), recovered := false } :: older)) w fun e u' w' =>
      e = .returned (.tuple #[]) ∧ u' = .panicking ({ v := .iface t (.string s), recovered := true } :: older) ∧ w' = ((store8 w b1 (.int .i64 0) (.int .i64 0) (.int .u64 0) (.float .f64 0) (.string ⟨#[]⟩) (.bool false) (.slice none 0 0) (.slice none 0 0)).setCell ⟨b2, 0, none⟩ (.int .i64 2)).alloc (.cells #[] 63) := by
  obtain ⟨a0, a1, a2, a3, a4, a5, a6, a7⟩ := eight hb1
  have z0 := free_block hb1
  clear hb1
  have h21 : ¬ b2 = b1 := fun h => h12 h.symm
  unfold store8
  refine callsD_of_wpS Try.func68 rfl fun c₀ cs hu => ?_
  simp only [Try.ntmps68, List.size_toArray, List.length_cons, List.length_nil, Nat.reduceAdd, Nat.reduceSub, Array.replicate_succ,
     Array.replicate_zero, List.push_toArray, List.append_toArray, List.nil_append, List.cons_append]
  apply wpS_seq
  apply wpS_region
  simp [wpOpsS, go_sem, recoverD, hu, Exit.thenS]
  refine wpS_of_wp ?_
  go_wp2_with fail
  simp [bodyPostS, results, Try.results68]
theorem length_catch (b1 b2 : Nat) (v2 : Value) (t : TypeId) (ht : (t = 63) = False) (s : ByteArray) (older : List PanicEntry) (w : World) (h12 : b1 ≠ b2)
   (hb1 : w.heap[b1]? = some (.cells #[Value.int .i64 0, .int .i64 0, .int .u64 0, .float .f64 0, .string ⟨#[]⟩, .bool false, .slice none 0 0, .slice none 0 0] 35 (0, 0)))
   (hb2 : w.heap[b2]? = some (.cells #[v2] 3 (0, 0))) :
    CallsD Try.prog 68 #[.pointer (some ⟨b1, 0, none⟩), .pointer (some ⟨b2, 0, none⟩)] (.panicking ({ v := .iface t (.string s), recovered := false } :: older)) w fun e u' w' =>
      e = .returned (.tuple #[]) ∧ u' = .panicking ({ v := .iface t (.string s), recovered := true } :: older) ∧ Caught b1 b2 w w' := by
  refine (length_caught b1 b2 v2 t ht s older w h12 hb1 (cell_of_one hb2) (free_of_one hb2)).mono ?_
  rintro e u' w' ⟨rfl, rfl, rfl⟩
  exact ⟨rfl, rfl, Caught.of h12 hb1 hb2⟩

set_option maxHeartbeats 4000000 in
set_option maxRecDepth 100000 in
theorem implLength (x : SV) (w : World) (B : Nat → Prop) (d : Dv) (hB : ∀ b, B b → b < w.heap.size) (hd : DoorOf w B x d) (hok : SV.Ok x) (hp : x.parts ≤ 200) (hs : SV.Small 10 x) :
    Calls Try.prog 29 #[d.val] w (Tolds valRes (lenR x) w) := by
  have W3 := ((((Below.refl w.heap.size w).alloc (Nat.le_refl _) (.cells d.cells.toArray 35)).alloc (by simp) (.cells #[.int .i64 0, .int .i64 0, .int .u64 0, .float .f64 0, .string ⟨#[]⟩, .bool false, .slice none 0 0, .slice none 0 0] 35))).alloc (by simp; omega) (.cells #[Value.int .i64 0] 3)
  have HSM := Lib.hid hs
  have HG := Lib.hid (given_any x _ B d (fun b h => by have := hB b h; have := W3.size; omega) (hd.later hB W3) hok hp hs)
  have hmf : ∀ (fn : Fn) (first cap : Array Value) (w : World), (Instr.makeFunc fn first cap).run Try.prog w = .ok (.func fn first cap) w := fun _ _ _ _ => rfl
  clear W3 hB hd hok hp hs
  unfold Dv.val Dv.cells at HG
  unfold Dv.val
  go_enter_defers Try.func29, Try.ntmps29
  go_wp2_with fail
  refine Calls.mono (by exact HG.out) ?_
  rintro e w1 ⟨a, rfl, hb, ha⟩
  obtain ⟨-, hb2, hb3, hsz, hbw⟩ := three_blocks hb
  have HBW := Lib.hid hbw
  have HB2 := Lib.hid hb2
  have HB3 := Lib.hid hb3
  have HR := Lib.hid (builtinLen_any ha HSM.out)
  clear hb hb2 hb3 hbw ha HG HSM
  generalize lenR x = res at *
  go_wp2_with fail
  refine Calls.mono (by exact HR.out) ?_
  rintro e w3 ⟨o, ho, hr⟩
  have HO := Lib.hid ho
  clear ho
  cases o with
  | some z =>
    obtain ⟨rfl, hb⟩ := hr
    have HB2'' := Lib.hid ((hb.block _ (by omega)).trans HB2.out)
    have HB3'' := Lib.hid ((hb.block _ (by omega)).trans HB3.out)
    have HBW'' := Lib.hid (HBW.out.trans (hb.mono (by omega)))
    have hs3 : w.heap.size + 3 ≤ w3.heap.size := Nat.le_trans hsz hb.size
    clear hb HB2 HB3 HBW hsz
    have HT := Lib.hid (told_plain z (Res.kind HO.out))
    generalize hya : z.any = za at *
    go_wp2_with fail
    refine Calls.mono (by exact HT.out _) ?_
    rintro e w4 ⟨rfl, hb⟩
    have b2' := (hb.block _ (by omega)).trans HB2''.out
    have b3' := (hb.block _ (by omega)).trans HB3''.out
    have hB' : Hid (Below w.heap.size w w4) := Lib.hid (HBW''.out.trans (hb.mono (by omega)))
    obtain ⟨a0, a1, a2, a3, a4, a5, a6, a7⟩ := eight b2'
    have z0 := free_block b2'
    have o1 := cell_of_one b3'
    have z1 := free_of_one b3'
    clear hb b2' b3' HB2'' HB3'' HBW''
    unfold SV.door
    go_wp2_with fail
    refine leaves_cons (f := 68) (args := #[.pointer (some ⟨w.heap.size + 1, 0, none⟩), .pointer (some ⟨w.heap.size + 1 + 1, 0, none⟩)]) (by simp) (by simp [go_sem]) ?_
    refine (length_idle ⟨w.heap.size + 1, 0, none⟩ ⟨w.heap.size + 1 + 1, 0, none⟩ _).mono ?_
    rintro e u' w'' ⟨rfl, rfl, rfl⟩
    have hB : Below w.heap.size w ((store8 w4 (w.heap.size + 1) (.int .i64 z.dk) (.int .i64 z.dn) (.int .u64 0) (.float .f64 z.df) (.string z.dt) (.bool z.db) (.slice none 0 0) (.slice none 0 0)).setCell ⟨w.heap.size + 1 + 1, 0, none⟩ (.int .i64 0)) :=
      (store8_below _ _ _ _ _ _ _ _ hB'.out (by omega)).setCell (by simp; omega) _
    unfold store8 at hB
    have hG : Tolds valRes res w (.returned (.tuple #[.agg #[.int .i64 z.dk, .int .i64 z.dn, .int .u64 0, .float .f64 z.df, .string z.dt, .bool z.db, .slice none 0 0, .slice none 0 0], .int .i64 0])) _ := ⟨some z, HO.out, rfl, hB⟩
    simp [Leaves, settle, results, Try.results29, go_sem, a0, a1, a2, a3, a4, a5, a6, a7, o1, hG]
  | none =>
    obtain ⟨t, s, ht, rfl, rfl⟩ := hr
    go_wp2_with fail
    refine leaves_cons (f := 68) (args := #[.pointer (some ⟨w.heap.size + 1, 0, none⟩), .pointer (some ⟨w.heap.size + 1 + 1, 0, none⟩)]) (by simp) (by simp [go_sem]) ?_
    refine (length_catch (w.heap.size + 1) (w.heap.size + 1 + 1) _ t ht _ _ _ (by omega) HB2.out HB3.out).mono ?_
    rintro e u' w'' ⟨rfl, rfl, hC⟩
    have hB : Below w.heap.size w w'' := HBW.out.trans (hC.below _ (by omega) (by omega) (by omega))
    have q8 := cell_of_one hC.two
    obtain ⟨q0, q1, q2, q3, q4, q5, q6, q7⟩ := eight hC.one
    have hG : Tolds valRes res w (.returned (.tuple #[.agg #[Value.int .i64 0, .int .i64 0, .int .u64 0, .float .f64 0, .string ⟨#[]⟩, .bool false, .slice none 0 0, .slice none 0 0], .int .i64 2])) w'' := ⟨none, HO.out, rfl, hB⟩
    clear hC HB2 HB3 HBW HR hmf hsz
    simp [Leaves, settle, results, Try.results29, go_sem, q0, q1, q2, q3, q4, q5, q6, q7, q8, hG]

set_option maxHeartbeats 4000000 in
set_option maxRecDepth 100000 in
theorem size_idle (p q : Addr) (w : World) :
    CallsD Try.prog 70 #[.pointer (some p), .pointer (some q)] .returning w fun e u' w' => e = .returned (.tuple #[]) ∧ u' = .returning ∧ w' = w := by
  refine callsD_of_wpS Try.func70 rfl fun c₀ cs hu => ?_
  apply wpS_seq
  apply wpS_region
  simp [wpOpsS, go_sem, recoverD, hu, Try.ntmps70, Exit.thenS]
  refine wpS_of_wp ?_
  go_wp2_with fail
  cases c₀
  simp_all [bodyPostS, results, Try.results70]

set_option maxHeartbeats 4000000 in
set_option maxRecDepth 100000 in
theorem size_catch (b1 b2 : Nat) (v1 v2 : Value) (t : TypeId) (ht : (t = 63) = False) (s : ByteArray) (older : List PanicEntry) (w : World) (h12 : b1 ≠ b2) (hc1 : w.cell? ⟨b1, 0, none⟩ = some v1) (hz1 : w.frozen? ⟨b1, 0, none⟩ = false)
   (hc2 : w.cell? ⟨b2, 0, none⟩ = some v2) (hz2 : w.frozen? ⟨b2, 0, none⟩ = false) :
    CallsD Try.prog 70 #[.pointer (some ⟨b1, 0, none⟩), .pointer (some ⟨b2, 0, none⟩)] (.panicking ({ v := .iface t (.string s), recovered := false } :: older)) w fun e u' w' =>
      e = .returned (.tuple #[]) ∧ u' = .panicking ({ v := .iface t (.string s), recovered := true } :: older) ∧ w' = ((w.setCell ⟨b1, 0, none⟩ (.int .i64 0)).setCell ⟨b2, 0, none⟩ (.int .i64 2)).alloc (.cells #[] 63) := by
  refine callsD_of_wpS Try.func70 rfl fun c₀ cs hu => ?_
  simp only [Try.ntmps70, List.size_toArray, List.length_cons, List.length_nil, Nat.reduceAdd, Nat.reduceSub, Array.replicate_succ,
     Array.replicate_zero, List.push_toArray, List.append_toArray, List.nil_append, List.cons_append]
  apply wpS_seq
  apply wpS_region
  simp [wpOpsS, go_sem, recoverD, hu, Exit.thenS]
  refine wpS_of_wp ?_
  go_wp2_with fail
  simp [bodyPostS, results, Try.results70]

set_option maxHeartbeats 4000000 in
set_option maxRecDepth 100000 in
theorem implSize (x : SV) (w : World) (B : Nat → Prop) (d : Dv) (hB : ∀ b, B b → b < w.heap.size) (hd : DoorOf w B x d) (hok : SV.Ok x) (hp : x.parts ≤ 200) (hs : SV.Small 10 x) :
    Calls Try.prog 30 #[d.val] w (Tolds (doorRes (fun y => .int .i64 y.int) (.int .i64 0)) (sizeR x) w) := by
  have W3 := ((((Below.refl w.heap.size w).alloc (Nat.le_refl _) (.cells d.cells.toArray 35)).alloc (by simp) (.cells #[Value.int .i64 0] 3))).alloc (by simp <;> omega) (.cells #[Value.int .i64 0] 3)
  obtain ⟨res, hres⟩ : ∃ r, r = sizeR x := ⟨_, rfl⟩
  rw [← hres]
  have HG := Lib.hid (given_any x _ B d (fun b h => by have := hB b h; have := W3.size; omega) (hd.later hB W3) hok hp hs)
  have hmf : ∀ (fn : Fn) (first cap : Array Value) (w : World), (Instr.makeFunc fn first cap).run Try.prog w = .ok (.func fn first cap) w := fun _ _ _ _ => rfl
  clear W3 hB hd hok hp hs
  unfold Dv.val Dv.cells at HG
  unfold Dv.val
  go_enter_defers Try.func30, Try.ntmps30
  go_wp2_with fail
  refine Calls.mono (by exact HG.out) ?_
  rintro e w1 ⟨a, rfl, hb, ha⟩
  obtain ⟨-, hb2, hb3, hsz, hbw⟩ := three_blocks hb
  have HBW := Lib.hid hbw
  have HB2 := Lib.hid hb2
  have HB3 := Lib.hid hb3
  have HR := Lib.hid (runtimeLen_any ha)
  rw [← hres] at HR
  clear hb hb2 hb3 hbw ha HG
  go_wp2_with fail
  refine Calls.mono (by exact HR.out) ?_
  rintro e w3 ⟨o, ho, hr⟩
  have HO := Lib.hid ho
  clear ho
  cases o with
  | some z =>
    obtain ⟨rfl, hb⟩ := hr
    have HB2'' := Lib.hid ((hb.block _ (by omega)).trans HB2.out)
    have HB3'' := Lib.hid ((hb.block _ (by omega)).trans HB3.out)
    have HBW'' := Lib.hid (HBW.out.trans (hb.mono (by omega)))
    have hs3 : w.heap.size + 3 ≤ w3.heap.size := Nat.le_trans hsz hb.size
    clear hb HB2 HB3 HBW hsz
    have o1 := cell_of_one HB2''.out
    have o2 := cell_of_one HB3''.out
    have z1 := free_of_one HB2''.out
    have z2 := free_of_one HB3''.out
    go_wp2_with fail
    refine leaves_cons (f := 70) (args := #[.pointer (some ⟨w.heap.size + 1, 0, none⟩), .pointer (some ⟨w.heap.size + 1 + 1, 0, none⟩)]) (by simp) (by simp [go_sem]) ?_
    refine (size_idle ⟨w.heap.size + 1, 0, none⟩ ⟨w.heap.size + 1 + 1, 0, none⟩ _).mono ?_
    rintro e u' w'' ⟨rfl, rfl, rfl⟩
    have hB : Below w.heap.size w ((w3.setCell ⟨w.heap.size + 1, 0, none⟩ (.int .i64 z.int)).setCell ⟨w.heap.size + 1 + 1, 0, none⟩ (.int .i64 0)) := (HBW''.out.setCell (by simp <;> omega) _).setCell (by simp <;> omega) _
    have hG : Tolds (doorRes (fun y => .int .i64 y.int) (.int .i64 0)) res w (.returned (.tuple #[.int .i64 z.int, .int .i64 0])) _ := ⟨some z, HO.out, rfl, hB⟩
    simp [Leaves, settle, results, Try.results30, go_sem, o1, o2, hG]
  | none =>
    obtain ⟨t, s, ht, rfl, rfl⟩ := hr
    have o1 := cell_of_one HB2.out
    have o2 := cell_of_one HB3.out
    have z1 := free_of_one HB2.out
    have z2 := free_of_one HB3.out
    go_wp2_with fail
    refine leaves_cons (f := 70) (args := #[.pointer (some ⟨w.heap.size + 1, 0, none⟩), .pointer (some ⟨w.heap.size + 1 + 1, 0, none⟩)]) (by simp) (by simp [go_sem]) ?_
    refine (size_catch (w.heap.size + 1) (w.heap.size + 1 + 1) _ _ t ht _ _ _ (by omega) o1 z1 o2 z2).mono ?_
    rintro e u' w'' ⟨rfl, rfl, rfl⟩
    have hB : Below w.heap.size w (((w1.setCell ⟨w.heap.size + 1, 0, none⟩ (.int .i64 0)).setCell ⟨w.heap.size + 1 + 1, 0, none⟩ (.int .i64 2)).alloc (.cells #[] 63)) := ((HBW.out.setCell (by simp <;> omega) _).setCell (by simp <;> omega) _).alloc (by simp <;> omega) _
    have r1 : (((w1.setCell ⟨w.heap.size + 1, 0, none⟩ (.int .i64 0)).setCell ⟨w.heap.size + 1 + 1, 0, none⟩ (.int .i64 2)).alloc (.cells #[] 63)).cell? ⟨w.heap.size + 1, 0, none⟩ = some (.int .i64 0) := by
      rw [World.cell?_alloc_past _ _ _ (by simp <;> omega)]; simp [go_sem, o1]
    have r2 : (((w1.setCell ⟨w.heap.size + 1, 0, none⟩ (.int .i64 0)).setCell ⟨w.heap.size + 1 + 1, 0, none⟩ (.int .i64 2)).alloc (.cells #[] 63)).cell? ⟨w.heap.size + 1 + 1, 0, none⟩ = some (.int .i64 2) := by
      rw [World.cell?_alloc_past _ _ _ (by simp <;> omega)]; simp [go_sem, o2]
    have hG : Tolds (doorRes (fun y => .int .i64 y.int) (.int .i64 0)) res w (.returned (.tuple #[.int .i64 0, .int .i64 2])) _ := ⟨none, HO.out, rfl, hB⟩
    simp [Leaves, settle, results, Try.results30, go_sem, r1, r2, hG]
end Go.Proofs.Ythmogfjmngbamaa
