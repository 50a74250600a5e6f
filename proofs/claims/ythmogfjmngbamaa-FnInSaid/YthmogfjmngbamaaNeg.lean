/-
  'impl.Negate' walked at plain values: the deferred closure too.
-/
import Derived.Test.YthmogfjmngbamaaTolb
namespace Go.Proofs.Ythmogfjmngbamaa
open Go.RowKit
set_option linter.unusedSimpArgs false

namespace SV
def ofInt (n : Int) : SV := .mk 1 n 0 ⟨#[]⟩ false none 0 [] none 0 []
def ofFloat (f : Nat) : SV := .mk 2 0 f ⟨#[]⟩ false none 0 [] none 0 []
def ofText (t : ByteArray) : SV := .mk 3 0 0 t false none 0 [] none 0 []
theorem ofInt_kind (n : Int) : (ofInt n).kind = 1 := rfl
theorem ofInt_int (n : Int) : (ofInt n).int = n := rfl
theorem ofFloat_kind (f : Nat) : (ofFloat f).kind = 2 := rfl
theorem ofFloat_fl (f : Nat) : (ofFloat f).fl = f := rfl
theorem ofText_kind (t : ByteArray) : (ofText t).kind = 3 := rfl
theorem ofText_text (t : ByteArray) : (ofText t).text = t := rfl
end SV

def negO (x : SV) : Option SV := if x.kind = 1 then some (.ofInt (wrap64 (-x.int))) else if x.kind = 2 then some (.ofFloat (Op.negFloat .f64 x.fl)) else none

theorem neg_run (x : SV) (hx : SV.Plain x) (w : World) : Calls Try.prog 80 #[x.any] w (OutcomeV SV.any (negO x) w) := by
  rcases kinds hx.kind with h | h | h | h | h <;>
    simp only [SV.any, negO, outcomeV_some, outcomeV_none, h, Int.reduceEq, ↓reduceIte, SV.ofInt_kind, SV.ofInt_int, SV.ofFloat_kind, SV.ofFloat_fl] <;>
    with_reducible first | exact neg_int _ w | exact neg_flo _ w | exact neg_txt _ w | exact neg_tru _ w | exact neg_nil w
theorem negO_kind (x y : SV) (h : negO x = some y) : 0 ≤ y.kind ∧ y.kind < 5 := by
  unfold negO at h
  split at h
  · cases h; rw [SV.ofInt_kind]; omega
  · split at h
    · cases h; rw [SV.ofFloat_kind]; omega
    · cases h

set_option maxHeartbeats 4000000 in
set_option maxRecDepth 100000 in
theorem neg_idle (p q : Addr) (w : World) :
    CallsD Try.prog 79 #[.pointer (some p), .pointer (some q)] .returning w fun e u' w' => e = .returned (.tuple #[]) ∧ u' = .returning ∧ w' = w := by
  refine callsD_of_wpS Try.func79 rfl fun c₀ cs hu => ?_
  apply wpS_seq
  apply wpS_region
  simp [wpOpsS, go_sem, recoverD, hu, Try.ntmps79, Exit.thenS]
  refine wpS_of_wp ?_
  go_wp2_with fail
  cases c₀
  simp_all [bodyPostS, results, Try.results79]


/-- What the closure leaves: the zero value, and fault 2. -/
structure Caught (b1 b2 : Nat) (w w' : World) : Prop where
  one : w'.heap[b1]? = some (.cells #[Value.int .i64 0, .int .i64 0, .int .u64 0, .float .f64 0, .string ⟨#[]⟩, .bool false, .slice none 0 0, .slice none 0 0] 35 (0, 0))
  two : w'.heap[b2]? = some (.cells #[Value.int .i64 2] 3 (0, 0))
  below : ∀ B, B ≤ b1 → B ≤ b2 → B ≤ w.heap.size → Below B w w'
theorem Caught.of {b1 b2 : Nat} {v2 : Value} {w : World} (h12 : b1 ≠ b2)
    (hb1 : w.heap[b1]? = some (.cells #[Value.int .i64 0, .int .i64 0, .int .u64 0, .float .f64 0, .string ⟨#[]⟩, .bool false, .slice none 0 0, .slice none 0 0] 35 (0, 0)))
    (hb2 : w.heap[b2]? = some (.cells #[v2] 3 (0, 0))) :
    Caught b1 b2 w (((store8 w b1 (.int .i64 0) (.int .i64 0) (.int .u64 0) (.float .f64 0) (.string ⟨#[]⟩) (.bool false) (.slice none 0 0) (.slice none 0 0)).setCell ⟨b2, 0, none⟩ (.int .i64 2)).alloc (.cells #[] 63)) := by
  have l1 := lt_of_block hb1
  have l2 := lt_of_block hb2
  refine ⟨?_, ?_, fun B h1 h2 h3 => ((store8_below _ _ _ _ _ _ _ _ (Below.refl B w) h1).setCell h2 _).alloc (by simp only [World.size_setCell, store8_size]; exact h3) _⟩
  · rw [Below.heap_alloc _ _ _ (by simp only [World.size_setCell, store8_size]; exact l1), Below.heap_setCell _ _ _ _ h12]
    exact store8_at _ _ _ _ _ _ _ _ hb1
  · rw [Below.heap_alloc _ _ _ (by simp only [World.size_setCell, store8_size]; exact l2)]
    exact one_setCell (v := v2) (by rw [store8_other _ _ _ _ _ _ _ _ (fun h => h12 h.symm)]; exact hb2)

set_option maxHeartbeats 4000000 in
set_option maxRecDepth 100000 in
theorem neg_caught (b1 b2 : Nat) (v2 : Value) (s : ByteArray) (older : List PanicEntry) (w : World) (h12 : b1 ≠ b2)
   (hb1 : w.heap[b1]? = some (.cells #[Value.int .i64 0, .int .i64 0, .int .u64 0, .float .f64 0, .string ⟨#[]⟩, .bool false, .slice none 0 0, .slice none 0 0] 35 (0, 0)))
   (hc2 : w.cell? ⟨b2, 0, none⟩ = some v2) (hz2 : w.frozen? ⟨b2, 0, none⟩ = false) :
    CallsD Try.prog 79 #[.pointer (some ⟨b1, 0, none⟩), .pointer (some ⟨b2, 0, none⟩)] (.panicking ({ v := .iface 9 (.string s), recovered := false } :: older)) w fun e u' w' =>
      e = .returned (.tuple #[]) ∧ u' = .panicking ({ v := .iface 9 (.string s), recovered := true } :: older) ∧ w' = ((store8 w b1 (.int .i64 0) (.int .i64 0) (.int .u64 0) (.float .f64 0) (.string ⟨#[]⟩) (.bool false) (.slice none 0 0) (.slice none 0 0)).setCell ⟨b2, 0, none⟩ (.int .i64 2)).alloc (.cells #[] 63) := by
  obtain ⟨a0, a1, a2, a3, a4, a5, a6, a7⟩ := eight hb1
  have z0 := free_block hb1
  clear hb1
  have h21 : ¬ b2 = b1 := fun h => h12 h.symm
  unfold store8
  refine callsD_of_wpS Try.func79 rfl fun c₀ cs hu => ?_
  simp only [Try.ntmps79, List.size_toArray, List.length_cons, List.length_nil, Nat.reduceAdd, Nat.reduceSub, Array.replicate_succ,
     Array.replicate_zero, List.push_toArray, List.append_toArray, List.nil_append, List.cons_append]
  apply wpS_seq
  apply wpS_region
  simp [wpOpsS, go_sem, recoverD, hu, Exit.thenS]
  refine wpS_of_wp ?_
  go_wp2_with fail
  simp [bodyPostS, results, Try.results79]

theorem neg_catch (b1 b2 : Nat) (v2 : Value) (s : ByteArray) (older : List PanicEntry) (w : World) (h12 : b1 ≠ b2)
   (hb1 : w.heap[b1]? = some (.cells #[Value.int .i64 0, .int .i64 0, .int .u64 0, .float .f64 0, .string ⟨#[]⟩, .bool false, .slice none 0 0, .slice none 0 0] 35 (0, 0)))
   (hb2 : w.heap[b2]? = some (.cells #[v2] 3 (0, 0))) :
    CallsD Try.prog 79 #[.pointer (some ⟨b1, 0, none⟩), .pointer (some ⟨b2, 0, none⟩)] (.panicking ({ v := .iface 9 (.string s), recovered := false } :: older)) w fun e u' w' =>
      e = .returned (.tuple #[]) ∧ u' = .panicking ({ v := .iface 9 (.string s), recovered := true } :: older) ∧ Caught b1 b2 w w' := by
  refine (neg_caught b1 b2 v2 s older w h12 hb1 (cell_of_one hb2) (free_of_one hb2)).mono ?_
  rintro e u' w' ⟨rfl, rfl, rfl⟩
  exact ⟨rfl, rfl, Caught.of h12 hb1 hb2⟩

/-- What a door tells that gives a value: it, and fault 0; or the zero value, and fault 2. -/
def valRes : Option SV → Value
  | some y => .tuple #[y.door, .int .i64 0]
  | none => .tuple #[.agg #[.int .i64 0, .int .i64 0, .int .u64 0, .float .f64 0, .string ⟨#[]⟩, .bool false, .slice none 0 0, .slice none 0 0], .int .i64 2]

set_option maxHeartbeats 4000000 in
set_option maxRecDepth 100000 in
theorem implNegate (x : SV) (hx : SV.Plain x) (w : World) : Calls Try.prog 36 #[x.door] w (Gives (valRes (negO x)) w) := by
  have HX := Lib.hid (given_plain x hx)
  have HR := Lib.hid (neg_run x hx)
  have HN := Lib.hid (negO_kind x)
  have hmf : ∀ (fn : Fn) (first cap : Array Value) (w : World), (Instr.makeFunc fn first cap).run Try.prog w = .ok (.func fn first cap) w := fun _ _ _ _ => rfl
  clear hx
  generalize negO x = o at *
  unfold SV.door at HX ⊢
  generalize x.any = xa at *
  go_enter_defers Try.func36, Try.ntmps36
  go_wp2_with fail
  refine Calls.mono (by exact HX.out _) ?_
  rintro e w1 ⟨rfl, hb⟩
  obtain ⟨-, hb2, hb3, hsz, hbw⟩ := three_blocks hb
  have HBW := Lib.hid hbw
  have HB2 := Lib.hid hb2
  have HB3 := Lib.hid hb3
  clear hb hb2 hb3 hbw
  go_wp2_with fail
  refine Calls.mono (by exact HR.out _) ?_
  cases o with
  | some y =>
    rintro e w3 ⟨rfl, rfl⟩
    have HT := Lib.hid (told_plain y (HN.out y rfl))
    generalize hya : y.any = ya at *
    go_wp2_with fail
    refine Calls.mono (by exact HT.out _) ?_
    rintro e w3 ⟨rfl, hb⟩
    have b2' := (hb.block _ (by omega)).trans HB2.out
    have b3' := (hb.block _ (by omega)).trans HB3.out
    have hB' : Hid (Below w.heap.size w w3) := HBW.out.trans (hb.mono (by omega))
    obtain ⟨a0, a1, a2, a3, a4, a5, a6, a7⟩ := eight b2'
    have z0 := free_block b2'
    have o1 := cell_of_one b3'
    have z1 := free_of_one b3'
    clear hb b2' b3' HB2 HB3 HBW
    unfold SV.door
    go_wp2_with fail
    refine leaves_cons (f := 79) (args := #[.pointer (some ⟨w.heap.size + 1, 0, none⟩), .pointer (some ⟨w.heap.size + 1 + 1, 0, none⟩)]) (by simp) (by simp [go_sem]) ?_
    refine (neg_idle ⟨w.heap.size + 1, 0, none⟩ ⟨w.heap.size + 1 + 1, 0, none⟩ _).mono ?_
    rintro e u' w'' ⟨rfl, rfl, rfl⟩
    have hB : Below w.heap.size w ((store8 w3 (w.heap.size + 1) (.int .i64 y.dk) (.int .i64 y.dn) (.int .u64 0) (.float .f64 y.df) (.string y.dt) (.bool y.db) (.slice none 0 0) (.slice none 0 0)).setCell ⟨w.heap.size + 1 + 1, 0, none⟩ (.int .i64 0)) :=
      (store8_below _ _ _ _ _ _ _ _ hB'.out (by omega)).setCell (by simp; omega) _
    unfold store8 at hB
    simp [Leaves, settle, results, Try.results36, go_sem, a0, a1, a2, a3, a4, a5, a6, a7, o1, Gives, valRes, SV.door, hB]
  | none =>
    rintro e w3 ⟨rfl, rfl⟩
    obtain ⟨a0, a1, a2, a3, a4, a5, a6, a7⟩ := eight HB2.out
    have z0 := free_block HB2.out
    have o1 := cell_of_one HB3.out
    have z1 := free_of_one HB3.out
    go_wp2_with fail
    refine leaves_cons (f := 79) (args := #[.pointer (some ⟨w.heap.size + 1, 0, none⟩), .pointer (some ⟨w.heap.size + 1 + 1, 0, none⟩)]) (by simp) (by simp [go_sem]) ?_
    refine (neg_catch (w.heap.size + 1) (w.heap.size + 1 + 1) _ _ _ _ (by omega) HB2.out HB3.out).mono ?_
    rintro e u' w'' ⟨rfl, rfl, hC⟩
    have hB : Below w.heap.size w w'' := HBW.out.trans (hC.below _ (by omega) (by omega) (by omega))
    have q8 := cell_of_one hC.two
    obtain ⟨q0, q1, q2, q3, q4, q5, q6, q7⟩ := eight hC.one
    clear a0 a1 a2 a3 a4 a5 a6 a7 z0 o1 z1 hC HB2 HB3 HBW HX HR HN hmf hsz
    simp [Leaves, settle, results, Try.results36, go_sem, q0, q1, q2, q3, q4, q5, q6, q7, q8, Gives, valRes, hB]
end Go.Proofs.Ythmogfjmngbamaa
