/-
  Lengths: 'utf8.RuneCountInString', 'runtime.ZzLen', 'builtin.Len', 'runtime.Len' walked; a text as runes and back.
-/
import Derived.Test.YthmogfjmngbamaaGiven
import Derived.Lib.RuneCount
import Derived.Lib.Walk
import Derived.Laws.RangeString
import Derived.Laws.RangeAny
import Derived.Laws.IdiomStrings
import Derived.Laws.Cover4
namespace Go.Proofs.Ythmogfjmngbamaa
open Go.RowKit
set_option linter.unusedSimpArgs false
set_option linter.unusedVariables false

set_option maxHeartbeats 1000000 in
set_option maxRecDepth 100000 in
/-- 'utf8.RuneCountInString'. -/
theorem runeCount_any (s : ByteArray) (w : World) (hs : s.size < 9223372036854775807) :
    Calls Try.prog 107 #[.string s] w fun e w' => e = .returned (.int .i64 (Lib.runeCount s)) ∧ ∃ pos, w' = w.iter s pos := by
  go_enter Try.func107, Try.ntmps107
  go_wp2
  go_loopw [2] (fun n w' => ∃ (pos b acc : Nat), w' = w.iter s pos ∧ n = .int .i64 acc ∧ acc + Lib.runeCountFrom s b pos = Lib.runeCount s ∧ s.size ≤ pos + b ∧ acc ≤ pos) (fun _ w' => s.size - w'.iterPos w.heap.size)
  case atStart => exact ⟨0, s.size, 0, rfl, rfl, by simp [Lib.runeCount], by omega, Nat.le_refl _⟩
  case round =>
    obtain ⟨pos, b, acc, rfl, rfl, hc, hb, ha⟩ := hrel
    by_cases hp : pos < s.size
    · have hnx : ∀ ty, (Instr.next (.pointer (some ⟨w.heap.size, 0, none⟩)) true ty).run Try.prog (w.iter s pos) = _ := fun ty => run_next_any w s pos ty hp
      have hwd := Lib.decode_width_pos s pos hp
      go_wp2
      go_roundw
      case rel =>
        cases b with
        | zero => omega
        | succ b =>
          refine ⟨pos + (Utf8.decode s pos).2, b, acc + 1, rfl, by go_num, ?_, by omega, by omega⟩
          rw [← hc]
          simp [Lib.runeCountFrom, hp]
          omega
      case measure =>
        simp
        omega
    · have hnx : ∀ ty, (Instr.next (.pointer (some ⟨w.heap.size, 0, none⟩)) true ty).run Try.prog (w.iter s pos) = _ := fun ty => run_next_end w s pos ty hp
      go_wp2
      go_ret
      rw [Lib.runeCountFrom_end s b pos hp, Nat.add_zero] at hc
      rw [hc]
      exact ⟨rfl, _, rfl⟩

theorem iter_below (w : World) (s : ByteArray) (pos : Nat) : Below w.heap.size w (w.iter s pos) := by
  unfold World.iter
  exact (Below.refl _ _).alloc (Nat.le_refl _) _

/-- The runes of a text. -/
theorem runesFrom_spec (s : ByteArray) : ∀ (b i : Nat) (acc : Array Value) (zs : List Int), acc.toList = zs.map (Value.int .i32) →
    ∃ us : List Int, (Conv.runesFrom s b i acc).toList = us.map (Value.int .i32) ∧ us.length = zs.length + Lib.runeCountFrom s b i := by
  intro b
  induction b with
  | zero => intro i acc zs h; exact ⟨zs, by simpa [Conv.runesFrom] using h, by simp [Lib.runeCountFrom]⟩
  | succ b ih =>
    intro i acc zs h
    unfold Conv.runesFrom Lib.runeCountFrom
    by_cases hi : i < s.size
    · rw [if_pos hi, if_pos hi]
      obtain ⟨us, h1, h2⟩ := ih (i + (Utf8.decode s i).2) (acc.push (.int .i32 (Int.ofNat (Utf8.decode s i).1))) (zs ++ [Int.ofNat (Utf8.decode s i).1]) (by simp [h])
      exact ⟨us, h1, by rw [h2]; simp; omega⟩
    · rw [if_neg hi, if_neg hi]
      exact ⟨zs, h, by simp⟩

theorem runes_there (s : ByteArray) (hs : s.size ≤ 500) (w : World) : ∃ (cap : Nat) (W : World), (convert 9 45 (.string s)).run Try.prog w = .ok (.slice (some ⟨w.heap.size, 0, none⟩) (Lib.runeCount s) cap) W ∧ Below w.heap.size w W ∧
    ∃ X, (convert 45 9 (.slice (some ⟨w.heap.size, 0, none⟩) (Lib.runeCount s) cap)).run Try.prog W = .ok (.string X) W := by
  obtain ⟨us, h1, h2⟩ := runesFrom_spec s s.size 0 #[] [] rfl
  have hsz : (Conv.runesFrom s s.size 0 #[]).size = Lib.runeCount s := by
    have : (Conv.runesFrom s s.size 0 #[]).toList.length = us.length := by rw [h1, List.length_map]
    rw [Array.length_toList] at this
    rw [this, h2]
    simp [Lib.runeCount]
  have hle := Lib.runeCount_le s
  have hr := run_runes_of_string (P := Try.prog) w 9 45 21 s Try.underlying9 Try.underlying45 Try.underlying21 (by rw [hsz]; omega)
  rw [hsz] at hr
  refine ⟨_, _, hr, ((Below.refl _ _).drew).alloc (Nat.le_refl _) _, ?_⟩
  refine ⟨_, run_convert_runes _ 45 9 21 ⟨w.heap.size, 0, none⟩ _ _ us (by rw [h2]; simp [Lib.runeCount]) Try.underlying45 Try.underlying21 Try.underlying9 fun j hj => ?_⟩
  rw [add_none]
  refine cell_at_block (heap_alloc_new w.drew _) j _ ?_
  have hx : (Conv.runesFrom s s.size 0 #[])[j]? = some (.int .i32 (us.getD j 0)) := by
    rw [← Array.getElem?_toList, h1, List.getElem?_map, List.getElem?_eq_getElem hj]
    simp [List.getD_eq_getElem?_getD, List.getElem?_eq_getElem hj]
  rw [Array.getElem?_append_left (Array.getElem?_eq_some_iff.1 hx).1]
  exact hx

/-- How many elements something has: a list, a map, or the bytes of a text. -/
def lenO (x : SV) : Option Nat := if x.kind = 3 then some x.text.size else if 5 ≤ x.kind then some x.items.length else none

theorem run_len_map {w : World} {b : Nat} {es : Array MapEntry} {clock : Nat} (hb : w.heap[b]? = some (.map es clock)) (ty : TypeId) : (Builtin.len_ #[103] ty #[.map (some b)]).run Try.prog w = .ok (.int .i64 es.size) w := by
  simp [Builtin.len_, run_underlying Try.underlying103, getObj, Sem.run, hb, goInt]
set_option maxHeartbeats 1000000 in
set_option maxRecDepth 100000 in
/-- 'runtime.ZzLen'. -/
theorem zzLen_any {x : SV} {a : Value} {w : World} {B : Nat → Prop} (h : AnyOf w B x a) :
    Calls Try.prog 108 #[a] w (Tells (.tuple #[.int .i64 ((lenO x).getD 0), .bool (lenO x).isSome]) w) := by
  cases h with
  | plain _ hk =>
    rcases kinds hk with h | h | h | h | h
    · rw [SV.any_0 h]
      simp only [lenO, h, Int.reduceEq, Int.reduceLE, ↓reduceIte, Option.getD_none, Option.isSome_none]
      go_enter Try.func108, Try.ntmps108
      go_wp2_with fail
      go_ret2
      exact ⟨rfl, rfl⟩
    · rw [SV.any_1 h]
      simp only [lenO, h, Int.reduceEq, Int.reduceLE, ↓reduceIte, Option.getD_none, Option.isSome_none]
      go_enter Try.func108, Try.ntmps108
      go_wp2_with fail
      go_ret2
      exact ⟨rfl, rfl⟩
    · rw [SV.any_2 h]
      simp only [lenO, h, Int.reduceEq, Int.reduceLE, ↓reduceIte, Option.getD_none, Option.isSome_none]
      go_enter Try.func108, Try.ntmps108
      go_wp2_with fail
      go_ret2
      exact ⟨rfl, rfl⟩
    · rw [SV.any_3 h]
      simp only [lenO, h, Int.reduceEq, Int.reduceLE, ↓reduceIte, Option.getD_some, Option.isSome_some]
      go_enter Try.func108, Try.ntmps108
      go_wp2_with fail
      go_ret2
      exact ⟨rfl, rfl⟩
    · rw [SV.any_4 h]
      simp only [lenO, h, Int.reduceEq, Int.reduceLE, ↓reduceIte, Option.getD_none, Option.isSome_none]
      go_enter Try.func108, Try.ntmps108
      go_wp2_with fail
      go_ret2
      exact ⟨rfl, rfl⟩
  | list _ p c A hk hc hcell hsub =>
    simp only [lenO, hk, Int.reduceEq, Int.reduceLE, ↓reduceIte, Option.getD_some, Option.isSome_some]
    clear hk hcell hsub
    obtain ⟨hc1, hc2⟩ := hc
    generalize x.items.length = n at *
    go_enter Try.func108, Try.ntmps108
    go_wp2_with fail
    go_ret2
    exact ⟨rfl, rfl⟩
  | map _ b es clock A hk hl hb hm hs hent hsub =>
    simp only [lenO, hk, Int.reduceEq, Int.reduceLE, ↓reduceIte, Option.getD_some, Option.isSome_some]
    have hlen := run_len_map hm 3
    rw [hs] at hlen
    clear hk hl hb hm hs hent hsub
    generalize x.items.length = n at *
    go_enter Try.func108, Try.ntmps108
    go_wp2_with fail
    go_ret2
    exact ⟨rfl, rfl⟩

/-- What the lengths come to. -/
def lenR (x : SV) : Res := if x.kind = 3 then .int (Lib.runeCount x.text) else match lenO x with | some n => .int n | none => .dies
def sizeR (x : SV) : Res := match lenO x with | some n => .int n | none => .dies

set_option maxHeartbeats 1000000 in
set_option maxRecDepth 100000 in
/-- 'runtime.Len'. -/
theorem runtimeLen_any {x : SV} {a : Value} {w : World} {B : Nat → Prop} (h : AnyOf w B x a) : Calls Try.prog 71 #[a] w (Runs (fun y => .int .i64 y.int) (sizeR x) w) := by
  have HL := Lib.hid (zzLen_any h)
  clear h
  unfold sizeR
  cases ho : lenO x with
  | some n =>
    rw [ho] at HL
    simp only [Option.getD_some, Option.isSome_some] at HL ⊢
    clear ho
    go_enter Try.func71, Try.ntmps71
    go_wp2_with fail
    refine Calls.mono (by exact HL.out) ?_
    rintro e w' ⟨rfl, rfl⟩
    go_wp2_with fail
    go_ret
    exact ⟨some (.ofInt n), rfl, rfl, Below.refl _ _⟩
  | none =>
    rw [ho] at HL
    simp only [Option.getD_none, Option.isSome_none] at HL ⊢
    clear ho
    go_enter Try.func71, Try.ntmps71
    go_wp2_with fail
    refine Calls.mono (by exact HL.out) ?_
    rintro e w' ⟨rfl, rfl⟩
    go_wp2_with fail
    exact ⟨rfl, none, rfl, 9, _, by simp, rfl, rfl⟩

set_option maxHeartbeats 1000000 in
set_option maxRecDepth 100000 in
/-- 'builtin.Len'. -/
theorem builtinLen_any {x : SV} {a : Value} {w : World} {B : Nat → Prop} (h : AnyOf w B x a) (hsm : SV.Small 10 x) : Calls Try.prog 69 #[a] w (Runs SV.any (lenR x) w) := by
  have HL := Lib.hid (zzLen_any h)
  have ht : x.text.size ≤ 500 := hsm.1
  clear hsm
  unfold lenR
  by_cases h3 : x.kind = 3
  · have ha : a = .iface 9 (.string x.text) := by
      cases h with
      | plain _ hk => exact SV.any_3 h3
      | list _ p c A hk _ _ _ => rw [hk] at h3; cases h3
      | map _ b es clock A hk _ _ _ _ _ _ => rw [hk] at h3; cases h3
    have HC := Lib.hid (runeCount_any x.text w (by omega))
    rw [ha, if_pos h3]
    clear h h3 ha HL
    generalize x.text = t at *
    go_enter Try.func69, Try.ntmps69
    go_wp2_with fail
    refine Calls.mono (by exact HC.out) ?_
    rintro e w' ⟨rfl, pos, rfl⟩
    have HB := Lib.hid (iter_below w t pos)
    generalize w.iter t pos = w1 at *
    go_wp2_with fail
    go_ret
    exact ⟨some (.ofInt _), rfl, rfl, HB.out⟩
  · rw [if_neg h3]
    have hna : a = .nilIface ∨ ∃ (t : TypeId) (v : Value), a = .iface t v ∧ (t = 9) = False := by
      cases h with
      | plain _ hk =>
        rcases kinds hk with h | h | h | h | h
        · exact .inl (SV.any_0 h)
        · exact .inr ⟨_, _, SV.any_1 h, by simp⟩
        · exact .inr ⟨_, _, SV.any_2 h, by simp⟩
        · exact (h3 h).elim
        · exact .inr ⟨_, _, SV.any_4 h, by simp⟩
      | list _ p c A hk _ _ _ => exact .inr ⟨_, _, rfl, by simp⟩
      | map _ b es clock A hk _ _ _ _ _ _ => exact .inr ⟨_, _, rfl, by simp⟩
    clear h h3
    cases ho : lenO x with
    | some n =>
      rw [ho] at HL
      simp only [Option.getD_some, Option.isSome_some] at HL ⊢
      clear ho
      rcases hna with rfl | ⟨t, v, rfl, htn⟩
      all_goals
        go_enter Try.func69, Try.ntmps69
        go_wp2_with fail
        refine Calls.mono (by exact HL.out) ?_
        rintro e w' ⟨rfl, rfl⟩
        go_wp2_with fail
        go_ret
        exact ⟨some (.ofInt n), rfl, rfl, Below.refl _ _⟩
    | none =>
      rw [ho] at HL
      simp only [Option.getD_none, Option.isSome_none] at HL ⊢
      clear ho
      rcases hna with rfl | ⟨t, v, rfl, htn⟩
      all_goals
        go_enter Try.func69, Try.ntmps69
        go_wp2_with fail
        refine Calls.mono (by exact HL.out) ?_
        rintro e w' ⟨rfl, rfl⟩
        go_wp2_with fail
        exact ⟨rfl, none, rfl, 9, _, by simp, rfl, rfl⟩
end Go.Proofs.Ythmogfjmngbamaa

