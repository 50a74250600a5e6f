/-
  'builtin.Type' and 'impl.TypeName' walked at every value; the map of the kinds' names.
-/
import Derived.Test.YthmogfjmngbamaaGiven
namespace Go.Proofs.Ythmogfjmngbamaa
open Go.RowKit Go.ChangeMaps
set_option linter.unusedSimpArgs false
set_option linter.unusedVariables false

/-- The name of a kind. -/
def kindName (k : Int) : ByteArray :=
  if k = 0 then ⟨#[110, 105, 108]⟩ else if k = 1 then ⟨#[105, 110, 116]⟩ else if k = 2 then ⟨#[102, 108, 111, 97, 116]⟩ else if k = 3 then ⟨#[115, 116, 114, 105, 110, 103]⟩
  else if k = 4 then ⟨#[98, 111, 111, 108]⟩ else if k = 5 then ⟨#[97, 114, 114, 97, 121]⟩ else ⟨#[109, 97, 112]⟩

set_option maxHeartbeats 1000000 in
set_option maxRecDepth 100000 in
/-- 'builtin.Type'. -/
theorem type_any {x : SV} {a : Value} {w0 : World} {B : Nat → Prop} (h : AnyOf w0 B x a) (w : World) : Calls Try.prog 67 #[a] w (Tells (.iface 9 (.string (kindName x.kind))) w) := by
  cases h with
  | plain _ hk =>
    rcases kinds hk with h | h | h | h | h
    · rw [SV.any_0 h, h]
      simp only [kindName, Int.reduceEq, ↓reduceIte]
      go_enter Try.func67, Try.ntmps67
      go_wp2_with fail
      go_ret
      exact ⟨rfl, rfl⟩
    · rw [SV.any_1 h, h]
      simp only [kindName, Int.reduceEq, ↓reduceIte]
      go_enter Try.func67, Try.ntmps67
      go_wp2_with fail
      go_ret
      exact ⟨rfl, rfl⟩
    · rw [SV.any_2 h, h]
      simp only [kindName, Int.reduceEq, ↓reduceIte]
      go_enter Try.func67, Try.ntmps67
      go_wp2_with fail
      go_ret
      exact ⟨rfl, rfl⟩
    · rw [SV.any_3 h, h]
      simp only [kindName, Int.reduceEq, ↓reduceIte]
      go_enter Try.func67, Try.ntmps67
      go_wp2_with fail
      go_ret
      exact ⟨rfl, rfl⟩
    · rw [SV.any_4 h, h]
      simp only [kindName, Int.reduceEq, ↓reduceIte]
      go_enter Try.func67, Try.ntmps67
      go_wp2_with fail
      go_ret
      exact ⟨rfl, rfl⟩
  | list _ p c A hk hc hcell hsub =>
    rw [hk]
    simp only [kindName, Int.reduceEq, ↓reduceIte]
    clear hk hc hcell hsub
    generalize x.items.length = n
    go_enter Try.func67, Try.ntmps67
    go_wp2_with fail
    go_ret
    exact ⟨rfl, rfl⟩
  | map _ b es clock A hk hl hb hm hs hent hsub =>
    rw [hk]
    simp only [kindName, Int.reduceEq, ↓reduceIte]
    clear hk hl hb hm hs hent hsub
    go_enter Try.func67, Try.ntmps67
    go_wp2_with fail
    go_ret
    exact ⟨rfl, rfl⟩

set_option maxHeartbeats 4000000 in
set_option maxRecDepth 100000 in
theorem typename_idle (p q : Addr) (w : World) :
    CallsD Try.prog 65 #[.pointer (some p), .pointer (some q)] .returning w fun e u' w' => e = .returned (.tuple #[]) ∧ u' = .returning ∧ w' = w := by
  refine callsD_of_wpS Try.func65 rfl fun c₀ cs hu => ?_
  apply wpS_seq
  apply wpS_region
  simp [wpOpsS, go_sem, recoverD, hu, Try.ntmps65, Exit.thenS]
  refine wpS_of_wp ?_
  go_wp2_with fail
  cases c₀
  simp_all [bodyPostS, results, Try.results65]

/-- What is handed to a door at one world is there in a later one. -/
theorem DoorOf.later {w w' : World} {B : Nat → Prop} {x : SV} {d : Dv} (h : DoorOf w B x d) (hB : ∀ b, B b → b < w.heap.size) (hb : Below w.heap.size w w') : DoorOf w' B x d :=
  h.keep (fun b h => hb.block b (hB b h)) (fun _ h => h)

set_option maxHeartbeats 1000000 in
set_option maxRecDepth 100000 in
/-- 'impl.TypeName'. -/
theorem implTypeName (x : SV) (w : World) (B : Nat → Prop) (d : Dv) (hB : ∀ b, B b → b < w.heap.size) (hd : DoorOf w B x d) (hok : SV.Ok x) (hp : x.parts ≤ 200) (hs : SV.Small 10 x) :
    Calls Try.prog 28 #[d.val] w (Gives (.tuple #[.agg #[.int .i64 13, .int .i64 0, .int .u64 0, .float .f64 0, .string (kindName x.kind), .bool false, .slice none 0 0, .slice none 0 0], .int .i64 0]) w) := by
  have W3 := ((((Below.refl w.heap.size w).alloc (Nat.le_refl _) (.cells d.cells.toArray 35)).alloc (by simp) (.cells #[.int .i64 0, .int .i64 0, .int .u64 0, .float .f64 0, .string ⟨#[]⟩, .bool false, .slice none 0 0, .slice none 0 0] 35))).alloc (by simp; omega) (.cells #[Value.int .i64 0] 3)
  have HG := Lib.hid (given_any x _ B d (fun b h => by have := hB b h; have := W3.size; omega) (hd.later hB W3) hok hp hs)
  have hmf : ∀ (fn : Fn) (first cap : Array Value) (w : World), (Instr.makeFunc fn first cap).run Try.prog w = .ok (.func fn first cap) w := fun _ _ _ _ => rfl
  clear W3 hB hd hok hp hs
  unfold Dv.val Dv.cells at HG
  unfold Dv.val
  go_enter_defers Try.func28, Try.ntmps28
  go_wp2_with fail
  refine Calls.mono (by exact HG.out) ?_
  rintro e w1 ⟨a, rfl, hb, ha⟩
  obtain ⟨-, hb2, hb3, hsz, hbw⟩ := three_blocks hb
  have HBW := Lib.hid hbw
  have HB2 := Lib.hid hb2
  have HB3 := Lib.hid hb3
  have HR := Lib.hid (type_any ha)
  clear hb hb2 hb3 hbw ha HG
  go_wp2_with fail
  refine Calls.mono (by exact HR.out _) ?_
  rintro e w2 ⟨rfl, rfl⟩
  have HT0 := told_plain (SV.ofText (kindName x.kind)) (by rw [SV.ofText_kind]; omega)
  have et : (SV.ofText (kindName x.kind)).any = .iface 9 (.string (kindName x.kind)) := rfl
  have ed : (SV.ofText (kindName x.kind)).door = .agg #[.int .i64 13, .int .i64 0, .int .u64 0, .float .f64 0, .string (kindName x.kind), .bool false, .slice none 0 0, .slice none 0 0] := rfl
  rw [et, ed] at HT0
  have HT := Lib.hid HT0
  clear HT0 et ed HR
  generalize kindName x.kind = t at *
  go_wp2_with fail
  refine Calls.mono (by exact HT.out _) ?_
  rintro e w3 ⟨rfl, hb⟩
  have b2' := (hb.block _ (by omega)).trans HB2.out
  have b3' := (hb.block _ (by omega)).trans HB3.out
  have hB' : Hid (Below w.heap.size w w3) := HBW.out.trans (hb.mono (by omega))
  obtain ⟨a0, a1, a2, a3, a4, a5, a6, a7⟩ := eight b2'
  have z0 := free_block b2'
  have o1 := cell_of_one b3'
  have z1 := free_of_one b3'
  clear hb b2' b3' HB2 HB3 HBW HT
  go_wp2_with fail
  refine leaves_cons (f := 65) (args := #[.pointer (some ⟨w.heap.size + 1, 0, none⟩), .pointer (some ⟨w.heap.size + 1 + 1, 0, none⟩)]) (by simp) (by simp [go_sem]) ?_
  refine (typename_idle ⟨w.heap.size + 1, 0, none⟩ ⟨w.heap.size + 1 + 1, 0, none⟩ _).mono ?_
  rintro e u' w'' ⟨rfl, rfl, rfl⟩
  have hB : Below w.heap.size w ((store8 w3 (w.heap.size + 1) (.int .i64 13) (.int .i64 0) (.int .u64 0) (.float .f64 0) (.string t) (.bool false) (.slice none 0 0) (.slice none 0 0)).setCell ⟨w.heap.size + 1 + 1, 0, none⟩ (.int .i64 0)) :=
    (store8_below _ _ _ _ _ _ _ _ hB'.out (by omega)).setCell (by simp; omega) _
  unfold store8 at hB
  simp [Leaves, settle, results, Try.results28, go_sem, a0, a1, a2, a3, a4, a5, a6, a7, o1, Gives, hB]

/-- No key of the entries is this number. -/
def other (k : Int) : MapEntry → Bool
  | ⟨.int .i64 n, _, _⟩ => !(k == n)
  | _ => false
theorem findNow_int (k : Int) : ∀ (es : List MapEntry) (i : Nat), es.all (other k) = true → Instr.findNow (.int .i64) (.int .i64 k) es i = some none := by
  intro es
  induction es with
  | nil => intro i _; rfl
  | cons x r ih =>
    intro i h
    rw [List.all_cons, Bool.and_eq_true] at h
    obtain ⟨h1, h2⟩ := h
    obtain ⟨key, val, born⟩ := x
    unfold other at h1
    split at h1
    · rename_i n v b he
      cases he
      have hk : (k == n) = false := by simpa using h1
      unfold Instr.findNow
      simp [Instr.sameNow, hk, ih (i + 1) h2]
    · cases h1
theorem run_checkKeyIn_int (n : Nat) (e : Bool) (k : Int) (w : World) : (Instr.checkKey e (n + 1) 3 (.int .i64 k)).run Try.prog w = .ok () w := by
  simp [Instr.checkKey, run_underlying Try.underlying3]
theorem run_checkKey_int (e : Bool) (k : Int) (w : World) : (Instr.checkKey e 10000 3 (.int .i64 k)).run Try.prog w = .ok () w := run_checkKeyIn_int 9999 e k w
theorem run_update_int {w : World} {b : Nat} {es : Array MapEntry} {clock : Nat} (k : Int) (v : Value) (hb : w.heap[b]? = some (.map es clock)) (h : es.toList.all (other k) = true) :
    (Instr.mapUpdate 44 (.map (some b)) (.int .i64 k) v).run Try.prog w = .ok () (setBlock w b (.map (es.push ⟨.int .i64 k, v, clock⟩) (clock + 1))) := by
  unfold Instr.mapUpdate
  simp [run_underlying Try.underlying44, run_getObj_map hb, run_checkKey_int, Instr.findKey, run_underlying Try.underlying3, findNow_int k _ 0 h, run_setObj_map hb]

def kindMap : Array MapEntry := #[⟨.int .i64 0, .string ⟨#[110, 105, 108]⟩, 0⟩, ⟨.int .i64 1, .string ⟨#[105, 110, 116]⟩, 1⟩, ⟨.int .i64 2, .string ⟨#[102, 108, 111, 97, 116]⟩, 2⟩, ⟨.int .i64 3, .string ⟨#[115, 116, 114, 105, 110, 103]⟩, 3⟩, ⟨.int .i64 4, .string ⟨#[98, 111, 111, 108]⟩, 4⟩, ⟨.int .i64 5, .string ⟨#[97, 114, 114, 97, 121]⟩, 5⟩, ⟨.int .i64 6, .string ⟨#[109, 97, 112]⟩, 6⟩]

set_option maxRecDepth 10000 in
theorem run_kind (w : World) (b : Nat) (hb : w.heap[b]? = some (.map kindMap 7)) (k : Int) (hk : 0 ≤ k ∧ k ≤ 6) : (Instr.lookup 44 (.map (some b)) (.int .i64 k) false).run Try.prog w = .ok (.string (kindName k)) w := by
  have hk7 : k = 0 ∨ k = 1 ∨ k = 2 ∨ k = 3 ∨ k = 4 ∨ k = 5 ∨ k = 6 := by omega
  unfold Instr.lookup
  rcases hk7 with rfl | rfl | rfl | rfl | rfl | rfl | rfl
  all_goals simp [run_underlying Try.underlying44, run_getObj_map hb, run_checkKey_int, Instr.findKey, run_underlying Try.underlying3, kindMap, Instr.findNow, Instr.sameNow, kindName]

/-- The map of the kinds' names is made: seven stores and a look-up. -/
theorem kinds_made (w : World) : ∃ w1 w2 w3 w4 w5 w6 w7 : World,
    (Instr.mapUpdate 44 (.map (some w.heap.size)) (.int .i64 0) (.string ⟨#[110, 105, 108]⟩)).run Try.prog (w.alloc (.map #[] 0)) = .ok () w1 ∧
    (Instr.mapUpdate 44 (.map (some w.heap.size)) (.int .i64 1) (.string ⟨#[105, 110, 116]⟩)).run Try.prog w1 = .ok () w2 ∧
    (Instr.mapUpdate 44 (.map (some w.heap.size)) (.int .i64 2) (.string ⟨#[102, 108, 111, 97, 116]⟩)).run Try.prog w2 = .ok () w3 ∧
    (Instr.mapUpdate 44 (.map (some w.heap.size)) (.int .i64 3) (.string ⟨#[115, 116, 114, 105, 110, 103]⟩)).run Try.prog w3 = .ok () w4 ∧
    (Instr.mapUpdate 44 (.map (some w.heap.size)) (.int .i64 4) (.string ⟨#[98, 111, 111, 108]⟩)).run Try.prog w4 = .ok () w5 ∧
    (Instr.mapUpdate 44 (.map (some w.heap.size)) (.int .i64 5) (.string ⟨#[97, 114, 114, 97, 121]⟩)).run Try.prog w5 = .ok () w6 ∧
    (Instr.mapUpdate 44 (.map (some w.heap.size)) (.int .i64 6) (.string ⟨#[109, 97, 112]⟩)).run Try.prog w6 = .ok () w7 ∧
    (∀ k, 0 ≤ k ∧ k ≤ 6 → (Instr.lookup 44 (.map (some w.heap.size)) (.int .i64 k) false).run Try.prog w7 = .ok (.string (kindName k)) w7) ∧ Below w.heap.size w w7 := by
  have b0 : (w.alloc (.map #[] 0)).heap[w.heap.size]? = some (.map #[] 0) := heap_alloc_new _ _
  have t0 : Below w.heap.size w (w.alloc (.map #[] 0)) := (Below.refl _ _).alloc (Nat.le_refl _) _
  have r0 := run_update_int 0 (.string ⟨#[110, 105, 108]⟩) b0 (by rfl)
  have b1 := heap_setBlock_same b0 (.map ((#[] : Array MapEntry).push ⟨.int .i64 0, .string ⟨#[110, 105, 108]⟩, 0⟩) (0 + 1))
  have t1 := (setBlock_turned (es' := (#[] : Array MapEntry).push ⟨.int .i64 0, .string ⟨#[110, 105, 108]⟩, 0⟩) (clock' := 0 + 1) b0).below t0 (Nat.le_refl _)
  simp only [List.push_toArray, List.nil_append, List.cons_append, Nat.reduceAdd] at r0 b1 t1
  have r1 := run_update_int 1 (.string ⟨#[105, 110, 116]⟩) b1 (by rfl)
  have b2 := heap_setBlock_same b1 (.map ((#[⟨.int .i64 0, .string ⟨#[110, 105, 108]⟩, 0⟩] : Array MapEntry).push ⟨.int .i64 1, .string ⟨#[105, 110, 116]⟩, 1⟩) (1 + 1))
  have t2 := (setBlock_turned (es' := (#[⟨.int .i64 0, .string ⟨#[110, 105, 108]⟩, 0⟩] : Array MapEntry).push ⟨.int .i64 1, .string ⟨#[105, 110, 116]⟩, 1⟩) (clock' := 1 + 1) b1).below t1 (Nat.le_refl _)
  simp only [List.push_toArray, List.nil_append, List.cons_append, Nat.reduceAdd] at r1 b2 t2
  have r2 := run_update_int 2 (.string ⟨#[102, 108, 111, 97, 116]⟩) b2 (by rfl)
  have b3 := heap_setBlock_same b2 (.map ((#[⟨.int .i64 0, .string ⟨#[110, 105, 108]⟩, 0⟩, ⟨.int .i64 1, .string ⟨#[105, 110, 116]⟩, 1⟩] : Array MapEntry).push ⟨.int .i64 2, .string ⟨#[102, 108, 111, 97, 116]⟩, 2⟩) (2 + 1))
  have t3 := (setBlock_turned (es' := (#[⟨.int .i64 0, .string ⟨#[110, 105, 108]⟩, 0⟩, ⟨.int .i64 1, .string ⟨#[105, 110, 116]⟩, 1⟩] : Array MapEntry).push ⟨.int .i64 2, .string ⟨#[102, 108, 111, 97, 116]⟩, 2⟩) (clock' := 2 + 1) b2).below t2 (Nat.le_refl _)
  simp only [List.push_toArray, List.nil_append, List.cons_append, Nat.reduceAdd] at r2 b3 t3
  have r3 := run_update_int 3 (.string ⟨#[115, 116, 114, 105, 110, 103]⟩) b3 (by rfl)
  have b4 := heap_setBlock_same b3 (.map ((#[⟨.int .i64 0, .string ⟨#[110, 105, 108]⟩, 0⟩, ⟨.int .i64 1, .string ⟨#[105, 110, 116]⟩, 1⟩, ⟨.int .i64 2, .string ⟨#[102, 108, 111, 97, 116]⟩, 2⟩] : Array MapEntry).push ⟨.int .i64 3, .string ⟨#[115, 116, 114, 105, 110, 103]⟩, 3⟩) (3 + 1))
  have t4 := (setBlock_turned (es' := (#[⟨.int .i64 0, .string ⟨#[110, 105, 108]⟩, 0⟩, ⟨.int .i64 1, .string ⟨#[105, 110, 116]⟩, 1⟩, ⟨.int .i64 2, .string ⟨#[102, 108, 111, 97, 116]⟩, 2⟩] : Array MapEntry).push ⟨.int .i64 3, .string ⟨#[115, 116, 114, 105, 110, 103]⟩, 3⟩) (clock' := 3 + 1) b3).below t3 (Nat.le_refl _)
  simp only [List.push_toArray, List.nil_append, List.cons_append, Nat.reduceAdd] at r3 b4 t4
  have r4 := run_update_int 4 (.string ⟨#[98, 111, 111, 108]⟩) b4 (by rfl)
  have b5 := heap_setBlock_same b4 (.map ((#[⟨.int .i64 0, .string ⟨#[110, 105, 108]⟩, 0⟩, ⟨.int .i64 1, .string ⟨#[105, 110, 116]⟩, 1⟩, ⟨.int .i64 2, .string ⟨#[102, 108, 111, 97, 116]⟩, 2⟩, ⟨.int .i64 3, .string ⟨#[115, 116, 114, 105, 110, 103]⟩, 3⟩] : Array MapEntry).push ⟨.int .i64 4, .string ⟨#[98, 111, 111, 108]⟩, 4⟩) (4 + 1))
  have t5 := (setBlock_turned (es' := (#[⟨.int .i64 0, .string ⟨#[110, 105, 108]⟩, 0⟩, ⟨.int .i64 1, .string ⟨#[105, 110, 116]⟩, 1⟩, ⟨.int .i64 2, .string ⟨#[102, 108, 111, 97, 116]⟩, 2⟩, ⟨.int .i64 3, .string ⟨#[115, 116, 114, 105, 110, 103]⟩, 3⟩] : Array MapEntry).push ⟨.int .i64 4, .string ⟨#[98, 111, 111, 108]⟩, 4⟩) (clock' := 4 + 1) b4).below t4 (Nat.le_refl _)
  simp only [List.push_toArray, List.nil_append, List.cons_append, Nat.reduceAdd] at r4 b5 t5
  have r5 := run_update_int 5 (.string ⟨#[97, 114, 114, 97, 121]⟩) b5 (by rfl)
  have b6 := heap_setBlock_same b5 (.map ((#[⟨.int .i64 0, .string ⟨#[110, 105, 108]⟩, 0⟩, ⟨.int .i64 1, .string ⟨#[105, 110, 116]⟩, 1⟩, ⟨.int .i64 2, .string ⟨#[102, 108, 111, 97, 116]⟩, 2⟩, ⟨.int .i64 3, .string ⟨#[115, 116, 114, 105, 110, 103]⟩, 3⟩, ⟨.int .i64 4, .string ⟨#[98, 111, 111, 108]⟩, 4⟩] : Array MapEntry).push ⟨.int .i64 5, .string ⟨#[97, 114, 114, 97, 121]⟩, 5⟩) (5 + 1))
  have t6 := (setBlock_turned (es' := (#[⟨.int .i64 0, .string ⟨#[110, 105, 108]⟩, 0⟩, ⟨.int .i64 1, .string ⟨#[105, 110, 116]⟩, 1⟩, ⟨.int .i64 2, .string ⟨#[102, 108, 111, 97, 116]⟩, 2⟩, ⟨.int .i64 3, .string ⟨#[115, 116, 114, 105, 110, 103]⟩, 3⟩, ⟨.int .i64 4, .string ⟨#[98, 111, 111, 108]⟩, 4⟩] : Array MapEntry).push ⟨.int .i64 5, .string ⟨#[97, 114, 114, 97, 121]⟩, 5⟩) (clock' := 5 + 1) b5).below t5 (Nat.le_refl _)
  simp only [List.push_toArray, List.nil_append, List.cons_append, Nat.reduceAdd] at r5 b6 t6
  have r6 := run_update_int 6 (.string ⟨#[109, 97, 112]⟩) b6 (by rfl)
  have b7 := heap_setBlock_same b6 (.map ((#[⟨.int .i64 0, .string ⟨#[110, 105, 108]⟩, 0⟩, ⟨.int .i64 1, .string ⟨#[105, 110, 116]⟩, 1⟩, ⟨.int .i64 2, .string ⟨#[102, 108, 111, 97, 116]⟩, 2⟩, ⟨.int .i64 3, .string ⟨#[115, 116, 114, 105, 110, 103]⟩, 3⟩, ⟨.int .i64 4, .string ⟨#[98, 111, 111, 108]⟩, 4⟩, ⟨.int .i64 5, .string ⟨#[97, 114, 114, 97, 121]⟩, 5⟩] : Array MapEntry).push ⟨.int .i64 6, .string ⟨#[109, 97, 112]⟩, 6⟩) (6 + 1))
  have t7 := (setBlock_turned (es' := (#[⟨.int .i64 0, .string ⟨#[110, 105, 108]⟩, 0⟩, ⟨.int .i64 1, .string ⟨#[105, 110, 116]⟩, 1⟩, ⟨.int .i64 2, .string ⟨#[102, 108, 111, 97, 116]⟩, 2⟩, ⟨.int .i64 3, .string ⟨#[115, 116, 114, 105, 110, 103]⟩, 3⟩, ⟨.int .i64 4, .string ⟨#[98, 111, 111, 108]⟩, 4⟩, ⟨.int .i64 5, .string ⟨#[97, 114, 114, 97, 121]⟩, 5⟩] : Array MapEntry).push ⟨.int .i64 6, .string ⟨#[109, 97, 112]⟩, 6⟩) (clock' := 6 + 1) b6).below t6 (Nat.le_refl _)
  simp only [List.push_toArray, List.nil_append, List.cons_append, Nat.reduceAdd] at r6 b7 t7
  exact ⟨_, _, _, _, _, _, _, r0, r1, r2, r3, r4, r5, r6, fun k hk => run_kind _ _ b7 k hk, t7⟩
end Go.Proofs.Ythmogfjmngbamaa
