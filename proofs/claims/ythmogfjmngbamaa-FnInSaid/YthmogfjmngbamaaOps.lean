/-
  'impl.Add', 'Subtract', 'Multiply', 'Divide', 'Modulo' walked at plain values: the deferred closures too.
-/
import Derived.Test.YthmogfjmngbamaaArith
namespace Go.Proofs.Ythmogfjmngbamaa
open Go.RowKit
set_option linter.unusedSimpArgs false
set_option linter.unusedVariables false

theorem SV.any_0 {x : SV} (h : x.kind = 0) : x.any = .nilIface := by simp [SV.any, h]
theorem SV.any_1 {x : SV} (h : x.kind = 1) : x.any = .iface 3 (.int .i64 x.int) := by simp [SV.any, h]
theorem SV.any_2 {x : SV} (h : x.kind = 2) : x.any = .iface 26 (.float .f64 x.fl) := by simp [SV.any, h]
theorem SV.any_3 {x : SV} (h : x.kind = 3) : x.any = .iface 9 (.string x.text) := by simp [SV.any, h]
theorem SV.any_4 {x : SV} (h : x.kind = 4) : x.any = .iface 4 (.bool x.bool) := by simp [SV.any, h]

/-- What an operation on plain values comes to. -/
inductive Res where
  | dies
  | int (n : Int)
  | txt (t : ByteArray)
  | fl (op : BinOp) (a b : Nat)
def Res.Good : Res → Option SV → Prop
  | .dies, o => o = none
  | .int n, o => o = some (.ofInt n)
  | .txt t, o => o = some (.ofText t)
  | .fl op a b, o => ∃ v, FAns op a b v ∧ o = some (.ofFloat v)
theorem Res.kind {r : Res} {y : SV} (h : r.Good (some y)) : 0 ≤ y.kind ∧ y.kind < 5 := by
  cases r with
  | dies => cases h
  | int n => cases h; rw [SV.ofInt_kind]; omega
  | txt t => cases h; rw [SV.ofText_kind]; omega
  | fl op a b => obtain ⟨v, -, h⟩ := h; cases h; rw [SV.ofFloat_kind]; omega

/-- It returned the value, or it panicked. -/
def RunsTo (mk : SV → Value) (o : Option SV) (w : World) (e : Ending) (w' : World) : Prop :=
  match o with
  | some y => e = .returned (mk y) ∧ Below w.heap.size w w'
  | none => ∃ t s, (t = 63) = False ∧ e = .panicked [{ v := .iface t (.string s), recovered := false }] ∧ w = w'
def Runs (mk : SV → Value) (r : Res) (w : World) (e : Ending) (w' : World) : Prop := ∃ o, r.Good o ∧ RunsTo mk o w e w'

theorem runs_dies {mk : SV → Value} {f : FuncId} {args : Array Value} {w : World} (h : Calls Try.prog f args w (Dies w)) : Calls Try.prog f args w (Runs mk .dies w) :=
  h.mono fun e w' hd => ⟨none, rfl, 9, invalidOp, by simp, hd.1, hd.2⟩
theorem runs_int {mk : SV → Value} {f : FuncId} {args : Array Value} {w : World} {n : Int} (h : Calls Try.prog f args w (Tells (mk (.ofInt n)) w)) : Calls Try.prog f args w (Runs mk (.int n) w) :=
  h.mono fun e w' hd => ⟨_, rfl, hd.1, hd.2 ▸ Below.refl _ _⟩
theorem runs_txt {mk : SV → Value} {f : FuncId} {args : Array Value} {w : World} {t : ByteArray} (h : Calls Try.prog f args w (Tells (mk (.ofText t)) w)) : Calls Try.prog f args w (Runs mk (.txt t) w) :=
  h.mono fun e w' hd => ⟨_, rfl, hd.1, hd.2 ▸ Below.refl _ _⟩
theorem runs_fl {mk : SV → Value} {f : FuncId} {args : Array Value} {w : World} {op : BinOp} {a b : Nat}
    (h : Calls Try.prog f args w (fun e w' => ∃ v, FAns op a b v ∧ e = .returned (mk (.ofFloat v)) ∧ Below w.heap.size w w')) : Calls Try.prog f args w (Runs mk (.fl op a b) w) :=
  h.mono fun e w' hd => by
    obtain ⟨v, h1, h2, h3⟩ := hd
    exact ⟨_, ⟨v, h1, rfl⟩, h2, h3⟩

def nums (op : BinOp) (x y : SV) : Res :=
  match x.num, y.num with
  | some a, some b => .fl op a b
  | _, _ => .dies
def addR (x y : SV) : Res := if x.kind = 3 ∧ y.kind = 3 then .txt (x.text ++ y.text) else if x.kind = 1 ∧ y.kind = 1 then .int (wrap64 (x.int + y.int)) else nums .add x y
def subR (x y : SV) : Res := if x.kind = 1 ∧ y.kind = 1 then .int (wrap64 (x.int - y.int)) else nums .sub x y
def mulR (x y : SV) : Res := if x.kind = 1 ∧ y.kind = 1 then .int (wrap64 (x.int * y.int)) else nums .mul x y
def quoR (x y : SV) : Res := nums .quo x y
def remR (x y : SV) : Res := if x.kind = 1 ∧ y.kind = 1 ∧ y.int ≠ 0 then .int (x.int.tmod y.int) else .dies


theorem add_run (x y : SV) (hx : SV.Plain x) (hy : SV.Plain y) (w : World) : Calls Try.prog 90 #[x.any, y.any] w (Runs SV.any (addR x y) w) := by
  rcases kinds hx.kind with h | h | h | h | h
  · have e : addR x y = .dies := by simp [addR, nums, SV.num, h]
    rw [e, SV.any_0 h]
    exact runs_dies (add_nil _ w)
  · rcases kinds hy.kind with h' | h' | h' | h' | h'
    · have e : addR x y = .dies := by simp [addR, nums, SV.num, h, h']
      rw [e, SV.any_1 h, SV.any_0 h']
      exact runs_dies (add_int_nil _ w)
    · have e : addR x y = .int (wrap64 (x.int + y.int)) := by simp [addR, nums, SV.num, h, h']
      rw [e, SV.any_1 h, SV.any_1 h']
      exact runs_int (add_int_int _ _ w)
    · have e : addR x y = .fl .add (floatOfInt .f64 x.int) (y.fl) := by simp [addR, nums, SV.num, h, h']
      rw [e, SV.any_1 h, SV.any_2 h']
      exact runs_fl (add_int_flo _ _ w)
    · have e : addR x y = .dies := by simp [addR, nums, SV.num, h, h']
      rw [e, SV.any_1 h, SV.any_3 h']
      exact runs_dies (add_int_txt _ _ w)
    · have e : addR x y = .dies := by simp [addR, nums, SV.num, h, h']
      rw [e, SV.any_1 h, SV.any_4 h']
      exact runs_dies (add_int_tru _ _ w)
  · rcases kinds hy.kind with h' | h' | h' | h' | h'
    · have e : addR x y = .dies := by simp [addR, nums, SV.num, h, h']
      rw [e, SV.any_2 h, SV.any_0 h']
      exact runs_dies (add_flo_nil _ w)
    · have e : addR x y = .fl .add (x.fl) (floatOfInt .f64 y.int) := by simp [addR, nums, SV.num, h, h']
      rw [e, SV.any_2 h, SV.any_1 h']
      exact runs_fl (add_flo_int _ _ w)
    · have e : addR x y = .fl .add (x.fl) (y.fl) := by simp [addR, nums, SV.num, h, h']
      rw [e, SV.any_2 h, SV.any_2 h']
      exact runs_fl (add_flo_flo _ _ w)
    · have e : addR x y = .dies := by simp [addR, nums, SV.num, h, h']
      rw [e, SV.any_2 h, SV.any_3 h']
      exact runs_dies (add_flo_txt _ _ w)
    · have e : addR x y = .dies := by simp [addR, nums, SV.num, h, h']
      rw [e, SV.any_2 h, SV.any_4 h']
      exact runs_dies (add_flo_tru _ _ w)
  · rcases kinds hy.kind with h' | h' | h' | h' | h'
    · have e : addR x y = .dies := by simp [addR, nums, SV.num, h, h']
      rw [e, SV.any_3 h, SV.any_0 h']
      exact runs_dies (add_txt_nil _ w)
    · have e : addR x y = .dies := by simp [addR, nums, SV.num, h, h']
      rw [e, SV.any_3 h, SV.any_1 h']
      exact runs_dies (add_txt_int _ _ w)
    · have e : addR x y = .dies := by simp [addR, nums, SV.num, h, h']
      rw [e, SV.any_3 h, SV.any_2 h']
      exact runs_dies (add_txt_flo _ _ w)
    · have e : addR x y = .txt (x.text ++ y.text) := by simp [addR, nums, SV.num, h, h']
      rw [e, SV.any_3 h, SV.any_3 h']
      exact runs_txt (add_txt_txt _ _ hx.text hy.text w)
    · have e : addR x y = .dies := by simp [addR, nums, SV.num, h, h']
      rw [e, SV.any_3 h, SV.any_4 h']
      exact runs_dies (add_txt_tru _ _ w)
  · have e : addR x y = .dies := by simp [addR, nums, SV.num, h]
    rw [e, SV.any_4 h]
    exact runs_dies (add_tru _ _ w)

theorem subt_run (x y : SV) (hx : SV.Plain x) (hy : SV.Plain y) (w : World) : Calls Try.prog 92 #[x.any, y.any] w (Runs SV.any (subR x y) w) := by
  rcases kinds hx.kind with h | h | h | h | h
  · have e : subR x y = .dies := by simp [subR, nums, SV.num, h]
    rw [e, SV.any_0 h]
    exact runs_dies (subt_nil _ w)
  · rcases kinds hy.kind with h' | h' | h' | h' | h'
    · have e : subR x y = .dies := by simp [subR, nums, SV.num, h, h']
      rw [e, SV.any_1 h, SV.any_0 h']
      exact runs_dies (subt_int_nil _ w)
    · have e : subR x y = .int (wrap64 (x.int - y.int)) := by simp [subR, nums, SV.num, h, h']
      rw [e, SV.any_1 h, SV.any_1 h']
      exact runs_int (subt_int_int _ _ w)
    · have e : subR x y = .fl .sub (floatOfInt .f64 x.int) (y.fl) := by simp [subR, nums, SV.num, h, h']
      rw [e, SV.any_1 h, SV.any_2 h']
      exact runs_fl (subt_int_flo _ _ w)
    · have e : subR x y = .dies := by simp [subR, nums, SV.num, h, h']
      rw [e, SV.any_1 h, SV.any_3 h']
      exact runs_dies (subt_int_txt _ _ w)
    · have e : subR x y = .dies := by simp [subR, nums, SV.num, h, h']
      rw [e, SV.any_1 h, SV.any_4 h']
      exact runs_dies (subt_int_tru _ _ w)
  · rcases kinds hy.kind with h' | h' | h' | h' | h'
    · have e : subR x y = .dies := by simp [subR, nums, SV.num, h, h']
      rw [e, SV.any_2 h, SV.any_0 h']
      exact runs_dies (subt_flo_nil _ w)
    · have e : subR x y = .fl .sub (x.fl) (floatOfInt .f64 y.int) := by simp [subR, nums, SV.num, h, h']
      rw [e, SV.any_2 h, SV.any_1 h']
      exact runs_fl (subt_flo_int _ _ w)
    · have e : subR x y = .fl .sub (x.fl) (y.fl) := by simp [subR, nums, SV.num, h, h']
      rw [e, SV.any_2 h, SV.any_2 h']
      exact runs_fl (subt_flo_flo _ _ w)
    · have e : subR x y = .dies := by simp [subR, nums, SV.num, h, h']
      rw [e, SV.any_2 h, SV.any_3 h']
      exact runs_dies (subt_flo_txt _ _ w)
    · have e : subR x y = .dies := by simp [subR, nums, SV.num, h, h']
      rw [e, SV.any_2 h, SV.any_4 h']
      exact runs_dies (subt_flo_tru _ _ w)
  · have e : subR x y = .dies := by simp [subR, nums, SV.num, h]
    rw [e, SV.any_3 h]
    exact runs_dies (subt_txt _ _ w)
  · have e : subR x y = .dies := by simp [subR, nums, SV.num, h]
    rw [e, SV.any_4 h]
    exact runs_dies (subt_tru _ _ w)

theorem mul_run (x y : SV) (hx : SV.Plain x) (hy : SV.Plain y) (w : World) : Calls Try.prog 94 #[x.any, y.any] w (Runs SV.any (mulR x y) w) := by
  rcases kinds hx.kind with h | h | h | h | h
  · have e : mulR x y = .dies := by simp [mulR, nums, SV.num, h]
    rw [e, SV.any_0 h]
    exact runs_dies (mul_nil _ w)
  · rcases kinds hy.kind with h' | h' | h' | h' | h'
    · have e : mulR x y = .dies := by simp [mulR, nums, SV.num, h, h']
      rw [e, SV.any_1 h, SV.any_0 h']
      exact runs_dies (mul_int_nil _ w)
    · have e : mulR x y = .int (wrap64 (x.int * y.int)) := by simp [mulR, nums, SV.num, h, h']
      rw [e, SV.any_1 h, SV.any_1 h']
      exact runs_int (mul_int_int _ _ w)
    · have e : mulR x y = .fl .mul (floatOfInt .f64 x.int) (y.fl) := by simp [mulR, nums, SV.num, h, h']
      rw [e, SV.any_1 h, SV.any_2 h']
      exact runs_fl (mul_int_flo _ _ w)
    · have e : mulR x y = .dies := by simp [mulR, nums, SV.num, h, h']
      rw [e, SV.any_1 h, SV.any_3 h']
      exact runs_dies (mul_int_txt _ _ w)
    · have e : mulR x y = .dies := by simp [mulR, nums, SV.num, h, h']
      rw [e, SV.any_1 h, SV.any_4 h']
      exact runs_dies (mul_int_tru _ _ w)
  · rcases kinds hy.kind with h' | h' | h' | h' | h'
    · have e : mulR x y = .dies := by simp [mulR, nums, SV.num, h, h']
      rw [e, SV.any_2 h, SV.any_0 h']
      exact runs_dies (mul_flo_nil _ w)
    · have e : mulR x y = .fl .mul (x.fl) (floatOfInt .f64 y.int) := by simp [mulR, nums, SV.num, h, h']
      rw [e, SV.any_2 h, SV.any_1 h']
      exact runs_fl (mul_flo_int _ _ w)
    · have e : mulR x y = .fl .mul (x.fl) (y.fl) := by simp [mulR, nums, SV.num, h, h']
      rw [e, SV.any_2 h, SV.any_2 h']
      exact runs_fl (mul_flo_flo _ _ w)
    · have e : mulR x y = .dies := by simp [mulR, nums, SV.num, h, h']
      rw [e, SV.any_2 h, SV.any_3 h']
      exact runs_dies (mul_flo_txt _ _ w)
    · have e : mulR x y = .dies := by simp [mulR, nums, SV.num, h, h']
      rw [e, SV.any_2 h, SV.any_4 h']
      exact runs_dies (mul_flo_tru _ _ w)
  · have e : mulR x y = .dies := by simp [mulR, nums, SV.num, h]
    rw [e, SV.any_3 h]
    exact runs_dies (mul_txt _ _ w)
  · have e : mulR x y = .dies := by simp [mulR, nums, SV.num, h]
    rw [e, SV.any_4 h]
    exact runs_dies (mul_tru _ _ w)

theorem quo_run (x y : SV) (hx : SV.Plain x) (hy : SV.Plain y) (w : World) : Calls Try.prog 112 #[x.any, y.any] w (Runs (fun y => .float .f64 y.fl) (quoR x y) w) := by
  rcases kinds hx.kind with h | h | h | h | h
  · have e : quoR x y = .dies := by simp [quoR, nums, SV.num, h]
    rw [e, SV.any_0 h]
    exact runs_dies (quo_nil _ w)
  · rcases kinds hy.kind with h' | h' | h' | h' | h'
    · have e : quoR x y = .dies := by simp [quoR, nums, SV.num, h, h']
      rw [e, SV.any_1 h, SV.any_0 h']
      exact runs_dies (quo_int_nil _ w)
    · have e : quoR x y = .fl .quo (floatOfInt .f64 x.int) (floatOfInt .f64 y.int) := by simp [quoR, nums, SV.num, h, h']
      rw [e, SV.any_1 h, SV.any_1 h']
      exact runs_fl (quo_int_int _ _ w)
    · have e : quoR x y = .fl .quo (floatOfInt .f64 x.int) (y.fl) := by simp [quoR, nums, SV.num, h, h']
      rw [e, SV.any_1 h, SV.any_2 h']
      exact runs_fl (quo_int_flo _ _ w)
    · have e : quoR x y = .dies := by simp [quoR, nums, SV.num, h, h']
      rw [e, SV.any_1 h, SV.any_3 h']
      exact runs_dies (quo_int_txt _ _ w)
    · have e : quoR x y = .dies := by simp [quoR, nums, SV.num, h, h']
      rw [e, SV.any_1 h, SV.any_4 h']
      exact runs_dies (quo_int_tru _ _ w)
  · rcases kinds hy.kind with h' | h' | h' | h' | h'
    · have e : quoR x y = .dies := by simp [quoR, nums, SV.num, h, h']
      rw [e, SV.any_2 h, SV.any_0 h']
      exact runs_dies (quo_flo_nil _ w)
    · have e : quoR x y = .fl .quo (x.fl) (floatOfInt .f64 y.int) := by simp [quoR, nums, SV.num, h, h']
      rw [e, SV.any_2 h, SV.any_1 h']
      exact runs_fl (quo_flo_int _ _ w)
    · have e : quoR x y = .fl .quo (x.fl) (y.fl) := by simp [quoR, nums, SV.num, h, h']
      rw [e, SV.any_2 h, SV.any_2 h']
      exact runs_fl (quo_flo_flo _ _ w)
    · have e : quoR x y = .dies := by simp [quoR, nums, SV.num, h, h']
      rw [e, SV.any_2 h, SV.any_3 h']
      exact runs_dies (quo_flo_txt _ _ w)
    · have e : quoR x y = .dies := by simp [quoR, nums, SV.num, h, h']
      rw [e, SV.any_2 h, SV.any_4 h']
      exact runs_dies (quo_flo_tru _ _ w)
  · have e : quoR x y = .dies := by simp [quoR, nums, SV.num, h]
    rw [e, SV.any_3 h]
    exact runs_dies (quo_txt _ _ w)
  · have e : quoR x y = .dies := by simp [quoR, nums, SV.num, h]
    rw [e, SV.any_4 h]
    exact runs_dies (quo_tru _ _ w)

theorem rem_run (x y : SV) (hx : SV.Plain x) (hy : SV.Plain y) (w : World) : Calls Try.prog 114 #[x.any, y.any] w (Runs (fun y => .int .i64 y.int) (remR x y) w) := by
  rcases kinds hx.kind with h | h | h | h | h
  · simp only [SV.any_0, remR, h, Int.reduceEq, ↓reduceIte, false_and]
    exact runs_dies (rem_nil _ w)
  · rcases kinds hy.kind with h' | h' | h' | h' | h'
    · simp only [SV.any_0, SV.any_1, remR, h, h', Int.reduceEq, ↓reduceIte, false_and, and_false]
      exact runs_dies (rem_int_nil _ w)
    · simp only [SV.any_1, remR, h, h', true_and]
      by_cases hz : y.int = 0
      · rw [if_neg (fun hn => hn hz), hz]
        exact (rem_int_zero _ w).mono fun e w' hd => ⟨none, rfl, 10, _, by simp, hd.1, hd.2⟩
      · rw [if_pos hz]
        exact runs_int (rem_int_int _ _ hz w)
    · simp only [SV.any_1, SV.any_2, remR, h, h', Int.reduceEq, ↓reduceIte, false_and, and_false]
      exact runs_dies (rem_int_flo _ _ w)
    · simp only [SV.any_1, SV.any_3, remR, h, h', Int.reduceEq, ↓reduceIte, false_and, and_false]
      exact runs_dies (rem_int_txt _ _ w)
    · simp only [SV.any_1, SV.any_4, remR, h, h', Int.reduceEq, ↓reduceIte, false_and, and_false]
      exact runs_dies (rem_int_tru _ _ w)
  · simp only [SV.any_2, remR, h, Int.reduceEq, ↓reduceIte, false_and]
    exact runs_dies (rem_flo _ _ w)
  · simp only [SV.any_3, remR, h, Int.reduceEq, ↓reduceIte, false_and]
    exact runs_dies (rem_txt _ _ w)
  · simp only [SV.any_4, remR, h, Int.reduceEq, ↓reduceIte, false_and]
    exact runs_dies (rem_tru _ _ w)

end Go.Proofs.Ythmogfjmngbamaa
