/-
  A look-up of a text in a map keyed by texts; 'runtime.ZzAt' at a map of the reference.
-/
import Derived.Test.YthmogfjmngbamaaMapl
import Derived.Test.YthmogfjmngbamaaDeep
namespace Go.Proofs.Ythmogfjmngbamaa
open Go.RowKit Go.ChangeMaps
set_option linter.unusedSimpArgs false
set_option linter.unusedVariables false

/-- Where a text stands among keys. -/
def keyIdx : List ByteArray → ByteArray → Option Nat
  | [], _ => none
  | k :: r, s => if s = k then some 0 else (keyIdx r s).map (· + 1)

theorem keyIdx_some {ks : List ByteArray} {s : ByteArray} {m : Nat} (h : keyIdx ks s = some m) : ks[m]? = some s := by
  induction ks generalizing m with
  | nil => simp [keyIdx] at h
  | cons k r ih =>
    unfold keyIdx at h
    by_cases hs : s = k
    · rw [if_pos hs] at h; cases h; simp [hs]
    · rw [if_neg hs] at h
      cases hr : keyIdx r s with
      | none => rw [hr] at h; cases h
      | some q => rw [hr] at h; cases h; simpa using ih hr
theorem keyIdx_none {ks : List ByteArray} {s : ByteArray} (h : keyIdx ks s = none) : ∀ i : Nat, ks[i]? ≠ some s := by
  induction ks with
  | nil => intro i hi; simp at hi
  | cons k r ih =>
    unfold keyIdx at h
    by_cases hs : s = k
    · rw [if_pos hs] at h; cases h
    · rw [if_neg hs] at h
      intro i hi
      cases i with
      | zero => simp at hi; exact hs hi.symm
      | succ i => exact ih (by simpa using h) i (by simpa using hi)

theorem findNow_at (s : ByteArray) : ∀ (es : List MapEntry) (ks : List ByteArray) (i : Nat), es.map (·.key) = ks.map Value.string →
    Instr.findNow .string (.string s) es i = some ((keyIdx ks s).bind fun m => (es[m]?).map fun e => (i + m, e.val)) := by
  intro es
  induction es with
  | nil =>
    intro ks i h
    cases ks with
    | nil => rfl
    | cons k r => simp at h
  | cons x r ih =>
    intro ks i h
    cases ks with
    | nil => simp at h
    | cons k q =>
      simp only [List.map_cons, List.cons.injEq] at h
      obtain ⟨hk, hr⟩ := h
      unfold Instr.findNow keyIdx
      by_cases hs : s = k
      · simp [hk, Instr.sameNow, str_eq hs, hs]
        rw [str_eq rfl]
      · rw [if_neg hs]
        simp only [hk, Instr.sameNow, str_ne hs, ih q (i + 1) hr]
        cases keyIdx q s with
        | none => rfl
        | some m => simp [Nat.add_comm, Nat.add_left_comm, Nat.add_assoc]

/-- What stands under a text. -/
theorem run_lookup_str {w : World} {b : Nat} {es : Array MapEntry} {clock : Nat} (hb : w.heap[b]? = some (.map es clock)) (ks : List ByteArray) (hk : es.toList.map (·.key) = ks.map Value.string) (s : ByteArray) :
    (Instr.lookup 103 (.map (some b)) (.string s) true).run Try.prog w = .ok (.tuple #[((keyIdx ks s).bind fun m => (es.toList[m]?).map (·.val)).getD .nilIface, .bool ((keyIdx ks s).bind fun m => es.toList[m]?).isSome]) w := by
  unfold Instr.lookup
  have hf := findNow_at s es.toList ks 0 hk
  have hz : ∀ w, (zeroValue 20).run Try.prog w = .ok .nilIface w := by intro w; kernel_rfl
  simp [run_underlying Try.underlying103, getObj, Sem.run, hb, run_checkKey_str, Instr.findKey, run_underlying Try.underlying9, hf]
  cases hx : keyIdx ks s with
  | none => simp [hz]
  | some m =>
    cases he : es.toList[m]? with
    | none => simp [hz]; simp_all
    | some e => simp_all
end Go.Proofs.Ythmogfjmngbamaa
