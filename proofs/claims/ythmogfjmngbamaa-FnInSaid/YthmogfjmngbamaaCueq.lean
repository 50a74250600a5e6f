/-
  'laws.cuTwo' and 'spec.CuEqual' walked.
-/
import Derived.Test.YthmogfjmngbamaaWeqb
namespace Go.Proofs.Ythmogfjmngbamaa
open Go.RowKit
set_option linter.unusedSimpArgs false
set_option linter.unusedVariables false

/-- A value such as FnEqual's: in order, small, no map, no list in a list. -/
structure SV.Eqd (x : SV) : Prop where
  ok : SV.Ok x
  parts : x.parts ≤ 200
  small : SV.Small 10 x
  level : SV.Level x

theorem SV.Eqd.kind {x : SV} (h : SV.Eqd x) : 0 ≤ x.kind ∧ x.kind < 6 := by
  obtain ⟨a, b, _⟩ := SV.ok_shape h.ok
  have := h.level.1
  omega
theorem SV.Eqd.items {x : SV} (h : SV.Eqd x) : ∀ z ∈ x.items, SV.Plain z := fun z hz => by
  obtain ⟨i, hi⟩ := List.mem_iff_getElem?.1 hz
  obtain ⟨a, _, b, c, _⟩ := SV.ok_shape (SV.ok_item h.ok hi)
  have hl := h.level.2 i z hi
  have hs : SV.Small 9 z := SV.small_item h.small hi
  exact ⟨⟨a, hl⟩, b hl, c (by omega), hs.1, hs.2.1⟩
theorem SV.Eqd.keys {x : SV} (h : SV.Eqd x) : x.keys = [] := (SV.ok_shape h.ok).2.2.2.1 h.level.1
theorem SV.Eqd.length {x : SV} (h : SV.Eqd x) : x.items.length ≤ 200 := by
  have h1 := SV.partsAll_length x.items
  have h2 := SV.parts_eq x
  have := h.parts
  omega

set_option maxHeartbeats 2000000 in
set_option maxRecDepth 100000 in
theorem cuTwo_any (x y : SV) (w : World) (hx : SV.In w x) (hy : SV.In w y) : Calls Try.prog 22 #[x.val, y.val] w (AnswersB (fun r => r = true → SV.Eqd x ∧ SV.Eqd y) w) := by
  have HX := Lib.hid hx
  have HY := Lib.hid hy
  clear hx hy
  have P1 := Lib.hid (CuFits_any x)
  have P2 := Lib.hid (CuFits_any y)
  have M1 := Lib.hid (cuHasMap_any x)
  have M2 := Lib.hid (cuHasMap_any y)
  generalize hxx : x = X at *
  generalize hyy : y = Y at *
  cases x with
  | mk k n f t b ip ic items kp kc keys =>
  cases y with
  | mk k2 n2 f2 t2 b2 ip2 ic2 items2 kp2 kc2 keys2 =>
  have vx : X.val = .agg #[.int .i64 k, .int .i64 n, .float .f64 f, .string t, .bool b, .slice ip items.length ic, .slice kp keys.length kc] := by rw [← hxx]; rfl
  have vy : Y.val = .agg #[.int .i64 k2, .int .i64 n2, .float .f64 f2, .string t2, .bool b2, .slice ip2 items2.length ic2, .slice kp2 keys2.length kc2] := by rw [← hyy]; rfl
  rw [vx] at P1 M1 ⊢
  rw [vy] at P2 M2 ⊢
  clear vx vy hxx hyy
  go_enter Try.func22, Try.ntmps22
  go_wp2_with fail
  refine Calls.mono (by exact P1.out _ (SV.in_later (((Below.refl _ _).alloc (Nat.le_refl _) _).alloc (by simp) _) _ HX.out)) ?_
  rintro e w1 ⟨r, hr, rfl, hb⟩
  have T1 := Lib.hid (Two.mk' hb)
  clear hb
  obtain ⟨a0, a1, a2, a3, a4, a5, a6⟩ := seven T1.out.fst
  obtain ⟨d0, d1, d2, d3, d4, d5, d6⟩ := seven T1.out.snd
  cases r
  · clear hr
    go_wp2_with fail
    go_ret
    exact AnswersB.mk (fun h => by cases h) T1.out.below
  have HRX := Lib.hid (hr rfl)
  clear hr
  go_wp2_with fail
  refine Calls.mono (by exact P2.out _ (SV.in_later T1.out.below _ HY.out)) ?_
  rintro e w2 ⟨r, hr, rfl, hb⟩
  have T2 := Lib.hid (T1.out.later hb)
  clear T1 a0 a1 a2 a3 a4 a5 a6 d0 d1 d2 d3 d4 d5 d6
  clear hb
  obtain ⟨a0, a1, a2, a3, a4, a5, a6⟩ := seven T2.out.fst
  obtain ⟨d0, d1, d2, d3, d4, d5, d6⟩ := seven T2.out.snd
  cases r
  · clear hr
    go_wp2_with fail
    go_ret
    exact AnswersB.mk (fun h => by cases h) T2.out.below
  have HRY := Lib.hid (hr rfl)
  clear hr
  go_wp2_with fail
  refine Calls.mono (by exact M1.out _ (SV.in_later T2.out.below _ HX.out) HRX.out.1) ?_
  rintro e w3 ⟨r, hr, rfl, hb⟩
  have T3 := Lib.hid (T2.out.later hb)
  clear T2 a0 a1 a2 a3 a4 a5 a6 d0 d1 d2 d3 d4 d5 d6
  clear hb
  obtain ⟨a0, a1, a2, a3, a4, a5, a6⟩ := seven T3.out.fst
  obtain ⟨d0, d1, d2, d3, d4, d5, d6⟩ := seven T3.out.snd
  cases r
  case true =>
    clear hr
    go_wp2_with fail
    go_ret
    exact AnswersB.mk (fun h => by cases h) T3.out.below
  have HLX := Lib.hid (hr rfl)
  clear hr
  go_wp2_with fail
  refine Calls.mono (by exact M2.out _ (SV.in_later T3.out.below _ HY.out) HRY.out.1) ?_
  rintro e w4 ⟨r, hr, rfl, hb⟩
  have T4 := Lib.hid (T3.out.later hb)
  clear T3 a0 a1 a2 a3 a4 a5 a6 d0 d1 d2 d3 d4 d5 d6
  clear hb
  cases r
  case true =>
    clear hr
    go_wp2_with fail
    go_ret
    exact AnswersB.mk (fun h => by cases h) T4.out.below
  have HLY := Lib.hid (hr rfl)
  clear hr
  go_wp2_with fail
  go_ret
  exact AnswersB.mk (fun _ => ⟨⟨HRX.out.1, HRX.out.2.1, HRX.out.2.2, HLX.out⟩, ⟨HRY.out.1, HRY.out.2.1, HRY.out.2.2, HLY.out⟩⟩) T4.out.below

set_option maxHeartbeats 2000000 in
set_option maxRecDepth 100000 in
theorem cuEqual_any (x y : SV) (w : World) (hx : SV.In w x) (hy : SV.In w y) (ex : SV.Eqd x) (ey : SV.Eqd y) : Calls Try.prog 24 #[x.val, y.val] w (Gives (.bool (eqV x y)) w) := by
  have HC : Hid (∀ (w' : World) (g : Nat), Below w.heap.size w w' → w.heap.size ≤ g → WorkAt w' g 1048576 → Calls Try.prog 60 #[.pointer (some ⟨g, 0, none⟩), x.val, y.val] w' (fun e w'' => e = .returned (.bool (eqV x y)) ∧ ButAt g w' w'')) := fun w' g hb hg hw => by
    unfold eqV
    by_cases h5 : x.kind = 5 ∧ y.kind = 5
    · rw [if_pos h5]
      have := ex.length
      exact wequal_lists g 1048576 x y h5.1 h5.2 ex.small.1 ex.keys ey.keys w' w hb hg hx hy ex.items ey.items hw ex.length ey.length (by omega) (by omega)
    · rw [if_neg h5]
      have hP : (if x.kind = 5 ∨ y.kind = 5 then false else eqP x y) = eqP x y := by
        by_cases h : x.kind = 5 ∨ y.kind = 5
        · rw [if_pos h]
          rcases h with h | h
          · have : ¬ y.kind = 5 := fun h' => h5 ⟨h, h'⟩
            simp [eqP, SV.isn, SV.num, h, Ne.symm this]
          · have : ¬ x.kind = 5 := fun h' => h5 ⟨h', h⟩
            simp [eqP, SV.isn, SV.num, h, this]
        · rw [if_neg h]
      rw [hP]
      refine (wequal_plain g 1048576 x y ex.kind ey.kind h5 ex.small.1 (SV.ok_shape ex.ok).2.2.1 (SV.ok_shape ey.ok).2.2.1 ex.keys ey.keys w' hw (by omega) (by omega)).mono ?_
      rintro e w'' ⟨h1, h2, _⟩
      exact ⟨h1, h2⟩
  generalize eqV x y = r at *
  clear hx hy ex ey
  generalize hxx : x = X at *
  generalize hyy : y = Y at *
  cases x with
  | mk k n f t b ip ic items kp kc keys =>
  cases y with
  | mk k2 n2 f2 t2 b2 ip2 ic2 items2 kp2 kc2 keys2 =>
  have vx : X.val = .agg #[.int .i64 k, .int .i64 n, .float .f64 f, .string t, .bool b, .slice ip items.length ic, .slice kp keys.length kc] := by rw [← hxx]; rfl
  have vy : Y.val = .agg #[.int .i64 k2, .int .i64 n2, .float .f64 f2, .string t2, .bool b2, .slice ip2 items2.length ic2, .slice kp2 keys2.length kc2] := by rw [← hyy]; rfl
  rw [vx, vy] at HC ⊢
  clear vx vy hxx hyy
  have B3 := Lib.hid ((((Below.refl w.heap.size w).alloc (Nat.le_refl _) (.cells #[.int .i64 k, .int .i64 n, .float .f64 f, .string t, .bool b, .slice ip items.length ic, .slice kp keys.length kc] 30)).alloc (by simp) (.cells #[.int .i64 k2, .int .i64 n2, .float .f64 f2, .string t2, .bool b2, .slice ip2 items2.length ic2, .slice kp2 keys2.length kc2] 30)).alloc (by simp; omega) (.cells #[.int .i64 1048576, .bool false, .bool true] 70))
  have WB : Hid (WorkAt (((w.alloc (.cells #[.int .i64 k, .int .i64 n, .float .f64 f, .string t, .bool b, .slice ip items.length ic, .slice kp keys.length kc] 30)).alloc (.cells #[.int .i64 k2, .int .i64 n2, .float .f64 f2, .string t2, .bool b2, .slice ip2 items2.length ic2, .slice kp2 keys2.length kc2] 30)).alloc (.cells #[.int .i64 1048576, .bool false, .bool true] 70)) (w.heap.size + 1 + 1) 1048576) := by
    have h := heap_alloc_new ((w.alloc (.cells #[.int .i64 k, .int .i64 n, .float .f64 f, .string t, .bool b, .slice ip items.length ic, .slice kp keys.length kc] 30)).alloc (.cells #[.int .i64 k2, .int .i64 n2, .float .f64 f2, .string t2, .bool b2, .slice ip2 items2.length ic2, .slice kp2 keys2.length kc2] 30)) (.cells #[.int .i64 1048576, .bool false, .bool true] 70)
    rw [World.size_alloc, World.size_alloc] at h
    exact h
  have HS : Hid (w.heap.size ≤ (((w.alloc (.cells #[.int .i64 k, .int .i64 n, .float .f64 f, .string t, .bool b, .slice ip items.length ic, .slice kp keys.length kc] 30)).alloc (.cells #[.int .i64 k2, .int .i64 n2, .float .f64 f2, .string t2, .bool b2, .slice ip2 items2.length ic2, .slice kp2 keys2.length kc2] 30)).alloc (.cells #[.int .i64 1048576, .bool false, .bool true] 70)).heap.size) := B3.out.size
  have HC' := Lib.hid (HC.out _ _ B3.out (by omega) WB.out)
  clear HC WB
  go_enter Try.func24, Try.ntmps24
  go_wp2_with fail
  refine Calls.mono (by exact HC'.out) ?_
  rintro e w1 ⟨rfl, hb⟩
  have BF := Lib.hid (B3.out.trans (hb.below (by omega) HS.out))
  clear hb B3 HS HC'
  go_wp2_with fail
  go_ret
  exact ⟨rfl, BF.out⟩
end Go.Proofs.Ythmogfjmngbamaa
