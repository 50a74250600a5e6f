/-
  Maps with texts for keys, as such and as Go's any: what a look-up and a store of a new key do.
-/
import Derived.Test.YthmogfjmngbamaaGivl
import Derived.Maps.OwnSet
namespace Go.Proofs.Ythmogfjmngbamaa
open Go.RowKit Go.ChangeMaps
set_option linter.unusedSimpArgs false
set_option linter.unusedVariables false

theorem comp9 : (Try.prog.info? 9).map (·.comparable) = some true := by kernel_rfl

theorem str_ne {s k : ByteArray} (h : ¬ s = k) : (s == k) = false := by rw [beq_toListBytes]; exact ba_false h
theorem str_eq {s k : ByteArray} (h : s = k) : (s == k) = true := by rw [beq_toListBytes]; exact ba_true h

theorem run_equalIn_any (n : Nat) (s t : ByteArray) (w : World) : (Op.equalIn (n + 1 + 1) 20 (.iface 9 (.string s)) (.iface 9 (.string t))).run Try.prog w = .ok (s == t) w := by
  obtain ⟨i, hi, hc⟩ := Option.map_eq_some_iff.1 comp9
  simp [Op.equalIn, run_underlying Try.underlying20, run_underlying Try.underlying9, typeInfo, hi, hc]
theorem run_equal_any (s t : ByteArray) (w : World) : (Op.equal 20 (.iface 9 (.string s)) (.iface 9 (.string t))).run Try.prog w = .ok (s == t) w :=
  run_equalIn_any 9998 s t w

theorem run_checkKeyIn_any (n : Nat) (e : Bool) (s : ByteArray) (w : World) : (Instr.checkKey e (n + 1 + 1) 20 (.iface 9 (.string s))).run Try.prog w = .ok () w := by
  obtain ⟨i, hi, hc⟩ := Option.map_eq_some_iff.1 comp9
  simp [Instr.checkKey, run_underlying Try.underlying20, run_underlying Try.underlying9, typeInfo, hi, hc]
theorem run_checkKey_any (e : Bool) (s : ByteArray) (w : World) : (Instr.checkKey e 10000 20 (.iface 9 (.string s))).run Try.prog w = .ok () w := run_checkKeyIn_any 9998 e s w
theorem run_checkKeyIn_str (n : Nat) (e : Bool) (s : ByteArray) (w : World) : (Instr.checkKey e (n + 1) 9 (.string s)).run Try.prog w = .ok () w := by
  simp [Instr.checkKey, run_underlying Try.underlying9]
theorem run_checkKey_str (e : Bool) (s : ByteArray) (w : World) : (Instr.checkKey e 10000 9 (.string s)).run Try.prog w = .ok () w := run_checkKeyIn_str 9999 e s w

/-- No key of the entries is this text. -/
def Without (mk : ByteArray → Value) (es : List MapEntry) (s : ByteArray) : Prop := ∀ x ∈ es, ∃ k, x.key = mk k ∧ ¬ s = k

theorem run_findAsking_any (s : ByteArray) (w : World) : ∀ (es : List MapEntry) (i : Nat), Without (fun k => .iface 9 (.string k)) es s → (Instr.findAsking 20 (.iface 9 (.string s)) es i).run Try.prog w = .ok none w := by
  intro es
  induction es with
  | nil => intro i _; simp [Instr.findAsking]
  | cons x r ih =>
    intro i h
    obtain ⟨k, hk, hne⟩ := h x (List.mem_cons_self ..)
    have he : (s == k) = false := str_ne hne
    unfold Instr.findAsking
    simp [hk, run_equal_any, he, ih (i + 1) (fun y hy => h y (List.mem_cons_of_mem _ hy))]

theorem run_findKey_any (s : ByteArray) (w : World) (es : List MapEntry) (h : Without (fun k => .iface 9 (.string k)) es s) : (Instr.findKey 20 (.iface 9 (.string s)) es).run Try.prog w = .ok none w := by
  unfold Instr.findKey
  cases es with
  | nil => simp [run_underlying Try.underlying20, Instr.findNow]
  | cons x r =>
    obtain ⟨k, hk, hne⟩ := h x (List.mem_cons_self ..)
    simp [run_underlying Try.underlying20, Instr.findNow, hk, Instr.sameNow, run_findAsking_any s w (x :: r) 0 h]

theorem findNow_str (s : ByteArray) : ∀ (es : List MapEntry) (i : Nat), Without (fun k => .string k) es s → Instr.findNow .string (.string s) es i = some none := by
  intro es
  induction es with
  | nil => intro i _; rfl
  | cons x r ih =>
    intro i h
    obtain ⟨k, hk, hne⟩ := h x (List.mem_cons_self ..)
    have he : (s == k) = false := str_ne hne
    unfold Instr.findNow
    simp [hk, Instr.sameNow, he, ih (i + 1) (fun y hy => h y (List.mem_cons_of_mem _ hy))]

theorem run_setObj_map {w : World} {b : Nat} {es : Array MapEntry} {clock : Nat} (hb : w.heap[b]? = some (.map es clock)) (es' : Array MapEntry) (clock' : Nat) : (setObj b (.map es' clock')).run Try.prog w = .ok () (setBlock w b (.map es' clock')) := by
  simp [setObj, Sem.run, setBlock, hb]

theorem run_getObj_map {w : World} {b : Nat} {es : Array MapEntry} {clock : Nat} (hb : w.heap[b]? = some (.map es clock)) : (getObj b).run Try.prog w = .ok (.map es clock) w := by simp [getObj, Sem.run, hb]

/-- A look-up of a text as any that is no key. -/
theorem run_lookup_any (t : TypeId) (el : TypeId) (ht : Try.prog.underlying t = some (.map 20 el)) (z : Value) (hz : ∀ w, (zeroValue el).run Try.prog w = .ok z w) {w : World} {b : Nat} {es : Array MapEntry} {clock : Nat} (hb : w.heap[b]? = some (.map es clock)) (s : ByteArray)
    (h : Without (fun k => .iface 9 (.string k)) es.toList s) : (Instr.lookup t (.map (some b)) (.iface 9 (.string s)) true).run Try.prog w = .ok (.tuple #[z, .bool false]) w := by
  unfold Instr.lookup
  simp [run_underlying ht, getObj, Sem.run, hb, run_checkKey_any, run_findKey_any s w _ h, hz]

theorem run_update_any (t : TypeId) (el : TypeId) (ht : Try.prog.underlying t = some (.map 20 el)) {w : World} {b : Nat} {es : Array MapEntry} {clock : Nat} (hb : w.heap[b]? = some (.map es clock)) (s : ByteArray) (v : Value)
    (h : Without (fun k => .iface 9 (.string k)) es.toList s) : (Instr.mapUpdate t (.map (some b)) (.iface 9 (.string s)) v).run Try.prog w = .ok () (setBlock w b (.map (es.push ⟨.iface 9 (.string s), v, clock⟩) (clock + 1))) := by
  unfold Instr.mapUpdate
  simp [run_underlying ht, run_getObj_map hb, run_checkKey_any, run_findKey_any s w _ h, run_setObj_map hb]

theorem run_update_str (t : TypeId) (el : TypeId) (ht : Try.prog.underlying t = some (.map 9 el)) {w : World} {b : Nat} {es : Array MapEntry} {clock : Nat} (hb : w.heap[b]? = some (.map es clock)) (s : ByteArray) (v : Value)
    (h : Without (fun k => .string k) es.toList s) : (Instr.mapUpdate t (.map (some b)) (.string s) v).run Try.prog w = .ok () (setBlock w b (.map (es.push ⟨.string s, v, clock⟩) (clock + 1))) := by
  unfold Instr.mapUpdate
  simp [run_underlying ht, run_getObj_map hb, run_checkKey_str, Instr.findKey, run_underlying Try.underlying9, findNow_str s _ 0 h, run_setObj_map hb]
end Go.Proofs.Ythmogfjmngbamaa
