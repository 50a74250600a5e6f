/-
  'spec.arithmetic' and 'spec.CuArithmetic' at every two values: what they tell is what the operation comes to.
-/
import Derived.Test.YthmogfjmngbamaaSdir
import Derived.Test.YthmogfjmngbamaaSadd
import Derived.Test.YthmogfjmngbamaaSsub
import Derived.Test.YthmogfjmngbamaaSmul
import Derived.Test.YthmogfjmngbamaaSquo
import Derived.Test.YthmogfjmngbamaaSrem
namespace Go.Proofs.Ythmogfjmngbamaa
open Go.RowKit
set_option linter.unusedSimpArgs false
set_option linter.unusedVariables false

theorem tolds_dies {f : FuncId} {args : Array Value} {w : World} (h : Calls Try.prog f args w (Gives (arRes none) w)) : Calls Try.prog f args w (Tolds arRes .dies w) :=
  h.mono fun e w' hd => ⟨none, rfl, hd⟩
theorem tolds_int {f : FuncId} {args : Array Value} {w : World} {n : Int} (h : Calls Try.prog f args w (Gives (arRes (some (.ofInt n))) w)) : Calls Try.prog f args w (Tolds arRes (.int n) w) :=
  h.mono fun e w' hd => ⟨_, rfl, hd⟩
theorem tolds_txt {f : FuncId} {args : Array Value} {w : World} {t : ByteArray} (h : Calls Try.prog f args w (Gives (arRes (some (.ofText t))) w)) : Calls Try.prog f args w (Tolds arRes (.txt t) w) :=
  h.mono fun e w' hd => ⟨_, rfl, hd⟩
theorem tolds_some {f : FuncId} {args : Array Value} {w : World} {op : BinOp} {a b r : Nat} (h0 : floatBits op .f64 a b = some r) (h : Calls Try.prog f args w (Gives (arRes (some (.ofFloat r))) w)) :
    Calls Try.prog f args w (Tolds arRes (.fl op a b) w) :=
  h.mono fun e w' hd => ⟨_, ⟨r, fans_some h0, rfl⟩, hd⟩
theorem tolds_none {f : FuncId} {args : Array Value} {w : World} {op : BinOp} {a b : Nat} (h0 : floatBits op .f64 a b = none) (h : Calls Try.prog f args w (fun e w' => ∃ wt, Gives (arRes (some (.ofFloat (tapeNaN a b wt)))) w e w')) :
    Calls Try.prog f args w (Tolds arRes (.fl op a b) w) :=
  h.mono fun e w' hd => by
    obtain ⟨wt, hd⟩ := hd
    exact ⟨_, ⟨_, fans_none wt h0, rfl⟩, hd⟩
theorem num_some {x : SV} (h : x.isn = true) : x.num = some x.nf := by
  unfold SV.isn at h
  unfold SV.nf
  cases hx : x.num with
  | none => rw [hx] at h; cases h
  | some a => rfl
theorem num_none {x : SV} (h : x.isn = false) : x.num = none := by
  unfold SV.isn at h
  cases hx : x.num with
  | none => rfl
  | some a => rw [hx] at h; cases h
theorem nums_yes {op : BinOp} {x y : SV} (hx : x.isn = true) (hy : y.isn = true) : nums op x y = .fl op x.nf y.nf := by simp [nums, num_some hx, num_some hy]
theorem nums_no {op : BinOp} {x y : SV} (h : x.isn = false ∨ y.isn = false) : nums op x y = .dies := by
  rcases h with h | h
  · simp [nums, num_none h]
  · cases hx : x.num <;> simp [nums, num_none h, hx]
theorem beq_no {a b : Int} (h : ¬ a = b) : (a == b) = false := by simpa using h


set_option maxHeartbeats 1000000 in
theorem ar_add (x y : SV) (hx : x.text.size ≤ 500) (hy : y.text.size ≤ 500) (w : World) : Calls Try.prog 95 #[.string ⟨#[43]⟩, x.val, y.val] w (Tolds arRes (addR x y) w) := by
  have HX := number_any x
  have HY := number_any y
  by_cases h3 : x.kind = 3 ∧ y.kind = 3
  · have e : addR x y = .txt (x.text ++ y.text) := by simp [addR, h3]
    rw [e]
    cases x with
    | mk k n f t b ip ic items kp kc keys =>
    cases y with
    | mk k2 n2 f2 t2 b2 ip2 ic2 items2 kp2 kc2 keys2 =>
    obtain ⟨h, h'⟩ := h3
    simp only [SV.kind] at h h'
    subst h h'
    exact tolds_txt (sadd_tt _ _ _ _ _ _ _ _ _ _ _ _ _ _ _ _ _ _ _ _ hx hy w)
  by_cases h1 : x.kind = 1 ∧ y.kind = 1
  · have e : addR x y = .int (wrap64 (x.int + y.int)) := by simp [addR, h1]
    rw [e]
    cases x with
    | mk k n f t b ip ic items kp kc keys =>
    cases y with
    | mk k2 n2 f2 t2 b2 ip2 ic2 items2 kp2 kc2 keys2 =>
    obtain ⟨h, h'⟩ := h1
    simp only [SV.kind] at h h'
    subst h h'
    exact tolds_int (sadd_ii _ _ _ _ _ _ _ _ _ _ _ _ _ _ _ _ _ _ _ _ w)
  have e : addR x y = nums .add x y := by
    unfold addR
    rw [if_neg h3, if_neg h1]
  rw [e]
  have hk : (x.kind = 3 ∧ (y.kind == 3) = false) ∨ (x.kind = 1 ∧ (y.kind == 1) = false) ∨ ((x.kind == 3) = false ∧ (x.kind == 1) = false) := by
    by_cases k3 : x.kind = 3
    · exact .inl ⟨k3, beq_no fun h => h3 ⟨k3, h⟩⟩
    by_cases k1 : x.kind = 1
    · exact .inr (.inl ⟨k1, beq_no fun h => h1 ⟨k1, h⟩⟩)
    · exact .inr (.inr ⟨beq_no k3, beq_no k1⟩)
  have V : ∀ z : SV, z.val = .agg #[.int .i64 z.kind, .int .i64 z.int, .float .f64 z.fl, .string z.text, .bool z.bool, .slice z.ip z.items.length z.ic, .slice z.kp z.keys.length z.kc] := fun _ => rfl
  rw [V] at HX HY ⊢
  rw [V y]
  cases hxn : x.isn <;> cases hyn : y.isn <;> rw [hxn] at HX <;> rw [hyn] at HY
  · rw [nums_no (by simp [hxn, hyn])]; exact tolds_dies (sadd_ff x.kind y.kind hk _ _ _ _ _ _ _ _ _ _ _ _ _ _ _ _ _ _ _ _ _ _ w HX HY)
  · rw [nums_no (by simp [hxn, hyn])]; exact tolds_dies (sadd_ft x.kind y.kind hk _ _ _ _ _ _ _ _ _ _ _ _ _ _ _ _ _ _ _ _ _ _ w HX HY)
  · rw [nums_no (by simp [hxn, hyn])]; exact tolds_dies (sadd_tf x.kind y.kind hk _ _ _ _ _ _ _ _ _ _ _ _ _ _ _ _ _ _ _ _ _ _ w HX HY)
  · rw [nums_yes hxn hyn]
    cases hr : floatBits .add .f64 x.nf y.nf with
    | some r => exact tolds_some hr (sadd_some x.kind y.kind hk _ _ r hr _ _ _ _ _ _ _ _ _ _ _ _ _ _ _ _ _ _ _ _ w HX HY)
    | none => exact tolds_none hr (sadd_none x.kind y.kind hk _ _ hr _ _ _ _ _ _ _ _ _ _ _ _ _ _ _ _ _ _ _ _ w HX HY)

set_option maxHeartbeats 1000000 in
theorem ar_sub (x y : SV) (hx : x.text.size ≤ 500) (hy : y.text.size ≤ 500) (w : World) : Calls Try.prog 95 #[.string ⟨#[45]⟩, x.val, y.val] w (Tolds arRes (subR x y) w) := by
  have HX := number_any x
  have HY := number_any y
  by_cases h1 : x.kind = 1 ∧ y.kind = 1
  · have e : subR x y = .int (wrap64 (x.int - y.int)) := by simp [subR, h1]
    rw [e]
    cases x with
    | mk k n f t b ip ic items kp kc keys =>
    cases y with
    | mk k2 n2 f2 t2 b2 ip2 ic2 items2 kp2 kc2 keys2 =>
    obtain ⟨h, h'⟩ := h1
    simp only [SV.kind] at h h'
    subst h h'
    exact tolds_int (ssub_ii _ _ _ _ _ _ _ _ _ _ _ _ _ _ _ _ _ _ _ _ w)
  have e : subR x y = nums .sub x y := by
    unfold subR
    rw [if_neg h1]
  rw [e]
  have hk : (x.kind = 1 ∧ (y.kind == 1) = false) ∨ (x.kind == 1) = false := by
    by_cases k1 : x.kind = 1
    · exact .inl ⟨k1, beq_no fun h => h1 ⟨k1, h⟩⟩
    · exact .inr (beq_no k1)
  have V : ∀ z : SV, z.val = .agg #[.int .i64 z.kind, .int .i64 z.int, .float .f64 z.fl, .string z.text, .bool z.bool, .slice z.ip z.items.length z.ic, .slice z.kp z.keys.length z.kc] := fun _ => rfl
  rw [V] at HX HY ⊢
  rw [V y]
  cases hxn : x.isn <;> cases hyn : y.isn <;> rw [hxn] at HX <;> rw [hyn] at HY
  · rw [nums_no (by simp [hxn, hyn])]; exact tolds_dies (ssub_ff x.kind y.kind hk _ _ _ _ _ _ _ _ _ _ _ _ _ _ _ _ _ _ _ _ _ _ w HX HY)
  · rw [nums_no (by simp [hxn, hyn])]; exact tolds_dies (ssub_ft x.kind y.kind hk _ _ _ _ _ _ _ _ _ _ _ _ _ _ _ _ _ _ _ _ _ _ w HX HY)
  · rw [nums_no (by simp [hxn, hyn])]; exact tolds_dies (ssub_tf x.kind y.kind hk _ _ _ _ _ _ _ _ _ _ _ _ _ _ _ _ _ _ _ _ _ _ w HX HY)
  · rw [nums_yes hxn hyn]
    cases hr : floatBits .sub .f64 x.nf y.nf with
    | some r => exact tolds_some hr (ssub_some x.kind y.kind hk _ _ r hr _ _ _ _ _ _ _ _ _ _ _ _ _ _ _ _ _ _ _ _ w HX HY)
    | none => exact tolds_none hr (ssub_none x.kind y.kind hk _ _ hr _ _ _ _ _ _ _ _ _ _ _ _ _ _ _ _ _ _ _ _ w HX HY)

set_option maxHeartbeats 1000000 in
theorem ar_mul (x y : SV) (hx : x.text.size ≤ 500) (hy : y.text.size ≤ 500) (w : World) : Calls Try.prog 95 #[.string ⟨#[42]⟩, x.val, y.val] w (Tolds arRes (mulR x y) w) := by
  have HX := number_any x
  have HY := number_any y
  by_cases h1 : x.kind = 1 ∧ y.kind = 1
  · have e : mulR x y = .int (wrap64 (x.int * y.int)) := by simp [mulR, h1]
    rw [e]
    cases x with
    | mk k n f t b ip ic items kp kc keys =>
    cases y with
    | mk k2 n2 f2 t2 b2 ip2 ic2 items2 kp2 kc2 keys2 =>
    obtain ⟨h, h'⟩ := h1
    simp only [SV.kind] at h h'
    subst h h'
    exact tolds_int (smul_ii _ _ _ _ _ _ _ _ _ _ _ _ _ _ _ _ _ _ _ _ w)
  have e : mulR x y = nums .mul x y := by
    unfold mulR
    rw [if_neg h1]
  rw [e]
  have hk : (x.kind = 1 ∧ (y.kind == 1) = false) ∨ (x.kind == 1) = false := by
    by_cases k1 : x.kind = 1
    · exact .inl ⟨k1, beq_no fun h => h1 ⟨k1, h⟩⟩
    · exact .inr (beq_no k1)
  have V : ∀ z : SV, z.val = .agg #[.int .i64 z.kind, .int .i64 z.int, .float .f64 z.fl, .string z.text, .bool z.bool, .slice z.ip z.items.length z.ic, .slice z.kp z.keys.length z.kc] := fun _ => rfl
  rw [V] at HX HY ⊢
  rw [V y]
  cases hxn : x.isn <;> cases hyn : y.isn <;> rw [hxn] at HX <;> rw [hyn] at HY
  · rw [nums_no (by simp [hxn, hyn])]; exact tolds_dies (smul_ff x.kind y.kind hk _ _ _ _ _ _ _ _ _ _ _ _ _ _ _ _ _ _ _ _ _ _ w HX HY)
  · rw [nums_no (by simp [hxn, hyn])]; exact tolds_dies (smul_ft x.kind y.kind hk _ _ _ _ _ _ _ _ _ _ _ _ _ _ _ _ _ _ _ _ _ _ w HX HY)
  · rw [nums_no (by simp [hxn, hyn])]; exact tolds_dies (smul_tf x.kind y.kind hk _ _ _ _ _ _ _ _ _ _ _ _ _ _ _ _ _ _ _ _ _ _ w HX HY)
  · rw [nums_yes hxn hyn]
    cases hr : floatBits .mul .f64 x.nf y.nf with
    | some r => exact tolds_some hr (smul_some x.kind y.kind hk _ _ r hr _ _ _ _ _ _ _ _ _ _ _ _ _ _ _ _ _ _ _ _ w HX HY)
    | none => exact tolds_none hr (smul_none x.kind y.kind hk _ _ hr _ _ _ _ _ _ _ _ _ _ _ _ _ _ _ _ _ _ _ _ w HX HY)

set_option maxHeartbeats 1000000 in
theorem ar_quo (x y : SV) (hx : x.text.size ≤ 500) (hy : y.text.size ≤ 500) (w : World) : Calls Try.prog 95 #[.string ⟨#[47]⟩, x.val, y.val] w (Tolds arRes (quoR x y) w) := by
  have HX := number_any x
  have HY := number_any y
  have e : quoR x y = nums .quo x y := rfl
  rw [e]
  have hk : (x.kind = 1 ∧ y.kind = 1) ∨ (x.kind = 1 ∧ (y.kind == 1) = false) ∨ (x.kind == 1) = false := by
    by_cases k1 : x.kind = 1
    · by_cases k2 : y.kind = 1
      · exact .inl ⟨k1, k2⟩
      · exact .inr (.inl ⟨k1, beq_no k2⟩)
    · exact .inr (.inr (beq_no k1))
  have V : ∀ z : SV, z.val = .agg #[.int .i64 z.kind, .int .i64 z.int, .float .f64 z.fl, .string z.text, .bool z.bool, .slice z.ip z.items.length z.ic, .slice z.kp z.keys.length z.kc] := fun _ => rfl
  rw [V] at HX HY ⊢
  rw [V y]
  cases hxn : x.isn <;> cases hyn : y.isn <;> rw [hxn] at HX <;> rw [hyn] at HY
  · rw [nums_no (by simp [hxn, hyn])]; exact tolds_dies (squo_ff x.kind y.kind hk _ _ _ _ _ _ _ _ _ _ _ _ _ _ _ _ _ _ _ _ _ _ w HX HY)
  · rw [nums_no (by simp [hxn, hyn])]; exact tolds_dies (squo_ft x.kind y.kind hk _ _ _ _ _ _ _ _ _ _ _ _ _ _ _ _ _ _ _ _ _ _ w HX HY)
  · rw [nums_no (by simp [hxn, hyn])]; exact tolds_dies (squo_tf x.kind y.kind hk _ _ _ _ _ _ _ _ _ _ _ _ _ _ _ _ _ _ _ _ _ _ w HX HY)
  · rw [nums_yes hxn hyn]
    cases hr : floatBits .quo .f64 x.nf y.nf with
    | some r => exact tolds_some hr (squo_some x.kind y.kind hk _ _ r hr _ _ _ _ _ _ _ _ _ _ _ _ _ _ _ _ _ _ _ _ w HX HY)
    | none => exact tolds_none hr (squo_none x.kind y.kind hk _ _ hr _ _ _ _ _ _ _ _ _ _ _ _ _ _ _ _ _ _ _ _ w HX HY)

set_option maxHeartbeats 1000000 in
theorem ar_rem (x y : SV) (hx : x.text.size ≤ 500) (hy : y.text.size ≤ 500) (w : World) : Calls Try.prog 95 #[.string ⟨#[37]⟩, x.val, y.val] w (Tolds arRes (remR x y) w) := by
  have HX := number_any x
  have HY := number_any y
  by_cases h1 : x.kind = 1 ∧ y.kind = 1
  · by_cases hz : y.int = 0
    · have e : remR x y = .dies := by simp [remR, hz]
      rw [e]
      cases x with
      | mk k n f t b ip ic items kp kc keys =>
      cases y with
      | mk k2 n2 f2 t2 b2 ip2 ic2 items2 kp2 kc2 keys2 =>
      obtain ⟨h, h'⟩ := h1
      simp only [SV.kind, SV.int] at h h' hz
      subst h h' hz
      exact tolds_dies (srem_iz _ _ _ _ _ _ _ _ _ _ 0 _ _ _ _ _ _ _ _ _ w)
    · have e : remR x y = .int (x.int.tmod y.int) := by
        unfold remR
        rw [if_pos ⟨h1.1, h1.2, hz⟩]
      rw [e]
      cases x with
      | mk k n f t b ip ic items kp kc keys =>
      cases y with
      | mk k2 n2 f2 t2 b2 ip2 ic2 items2 kp2 kc2 keys2 =>
      obtain ⟨h, h'⟩ := h1
      simp only [SV.kind, SV.int] at h h' hz
      subst h h'
      exact tolds_int (srem_ii _ _ _ _ _ _ _ _ _ _ _ _ _ _ _ _ _ _ _ _ hz w)
  have e : remR x y = .dies := by
    unfold remR
    rw [if_neg (fun h => h1 ⟨h.1, h.2.1⟩)]
  rw [e]
  have hk : (x.kind = 1 ∧ (y.kind == 1) = false) ∨ (x.kind == 1) = false := by
    by_cases k1 : x.kind = 1
    · exact .inl ⟨k1, beq_no fun h => h1 ⟨k1, h⟩⟩
    · exact .inr (beq_no k1)
  have V : ∀ z : SV, z.val = .agg #[.int .i64 z.kind, .int .i64 z.int, .float .f64 z.fl, .string z.text, .bool z.bool, .slice z.ip z.items.length z.ic, .slice z.kp z.keys.length z.kc] := fun _ => rfl
  rw [V] at HX HY ⊢
  rw [V y]
  cases hxn : x.isn <;> cases hyn : y.isn <;> rw [hxn] at HX <;> rw [hyn] at HY
  · exact tolds_dies (srem_ff x.kind y.kind hk _ _ _ _ _ _ _ _ _ _ _ _ _ _ _ _ _ _ _ _ _ _ w HX HY)
  · exact tolds_dies (srem_ft x.kind y.kind hk _ _ _ _ _ _ _ _ _ _ _ _ _ _ _ _ _ _ _ _ _ _ w HX HY)
  · exact tolds_dies (srem_tf x.kind y.kind hk _ _ _ _ _ _ _ _ _ _ _ _ _ _ _ _ _ _ _ _ _ _ w HX HY)
  · exact tolds_dies (srem_tt x.kind y.kind hk _ _ _ _ _ _ _ _ _ _ _ _ _ _ _ _ _ _ _ _ _ _ w HX HY)

/-- What the operation of a sign comes to. -/
def arOf (c : Nat) (x y : SV) : Res := if c = 43 then addR x y else if c = 45 then subR x y else if c = 42 then mulR x y else if c = 47 then quoR x y else remR x y

def isSign (c : UInt8) : Prop := c = 43 ∨ c = 45 ∨ c = 42 ∨ c = 47 ∨ c = 37

theorem ar_any (c : UInt8) (hc : isSign c) (x y : SV) (hx : x.text.size ≤ 500) (hy : y.text.size ≤ 500) (w : World) : Calls Try.prog 95 #[.string ⟨#[c]⟩, x.val, y.val] w (Tolds arRes (arOf c.toNat x y) w) := by
  rcases hc with rfl | rfl | rfl | rfl | rfl
  · exact ar_add x y hx hy w
  · exact ar_sub x y hx hy w
  · exact ar_mul x y hx hy w
  · exact ar_quo x y hx hy w
  · exact ar_rem x y hx hy w

set_option maxHeartbeats 1000000 in
set_option maxRecDepth 100000 in
/-- 'spec.CuArithmetic'. -/
theorem cuArithmetic_any (c : UInt8) (hc : isSign c) (x y : SV) (hx : x.text.size ≤ 500) (hy : y.text.size ≤ 500) (w : World) : Calls Try.prog 44 #[.string ⟨#[c]⟩, x.val, y.val] w (Tolds arRes (arOf c.toNat x y) w) := by
  have HA := Lib.hid (ar_any c hc x y hx hy)
  clear hc hx hy
  generalize arOf c.toNat x y = r at *
  have V : ∀ z : SV, z.val = .agg #[.int .i64 z.kind, .int .i64 z.int, .float .f64 z.fl, .string z.text, .bool z.bool, .slice z.ip z.items.length z.ic, .slice z.kp z.keys.length z.kc] := fun _ => rfl
  rw [V x, V y] at HA ⊢
  clear V
  go_enter Try.func44, Try.ntmps44
  go_wp2_with fail
  refine Calls.mono (by exact HA.out _) ?_
  rintro e w1 ⟨o, ho, rfl, hb⟩
  obtain ⟨-, -, hb2, hsz, hbw⟩ := three_blocks hb
  have HO := Lib.hid ho
  have HBW := Lib.hid hbw
  have HB2 := Lib.hid hb2
  clear hb hb2 hbw ho
  obtain ⟨c0, c1, c2, c3, c4, c5, c6⟩ := seven HB2.out
  have z2 := free_block HB2.out
  cases o with
  | none =>
    unfold arRes zeroV
    go_wp2_with fail
    refine bodyPost_ret (by simp [results, Try.results44, go_sem, c0, c1, c2, c3, c4, c5, c6, arRes, zeroV]) rfl ⟨none, HO.out, rfl, ?_⟩
    repeat (refine Below.setCell ?_ (by simp; omega) _)
    exact HBW.out
  | some v =>
    unfold arRes SV.val
    go_wp2_with fail
    refine bodyPost_ret (by simp [results, Try.results44, go_sem, c0, c1, c2, c3, c4, c5, c6, arRes, SV.val]) rfl ⟨some v, HO.out, rfl, ?_⟩
    repeat (refine Below.setCell ?_ (by simp; omega) _)
    exact HBW.out
end Go.Proofs.Ythmogfjmngbamaa
