/-
  What is proved: 'laws.FnOrder' returns true for every two values of the reference that can be read as data, and leaves all memory that was there as it was. No condition.
-/
import Derived.Test.YthmogfjmngbamaaKit
import Derived.Test.YthmogfjmngbamaaDraw
import Derived.Deep.Cut
namespace Go.Proofs.Ythmogfjmngbamaa
open Go.RowKit

set_option linter.unusedVariables false

set_option maxHeartbeats 4000000 in
set_option maxRecDepth 100000 in
theorem fnOrder_any (x y : SV) (w : World) (hx : SV.In w x) (hy : SV.In w y) : Calls Try.prog 4 #[x.val, y.val] w (Holds w) := by
  have HX := Lib.hid hx
  have HY := Lib.hid hy
  clear hx hy
  have F1 := Lib.hid (zzFits3_any x)
  have F2 := Lib.hid (zzFits3_any y)
  have P1 := Lib.hid (cuPlain_any x)
  have P2 := Lib.hid (cuPlain_any y)
  have C1 := Lib.hid (cuOf_plain x)
  have C2 := Lib.hid (cuOf_plain y)
  have L1 := Lib.hid (cuLess_any x y)
  have L2 := Lib.hid (cuLess_any y x)
  generalize hxx : x = X at *
  generalize hyy : y = Y at *
  cases x with
  | mk k n f t b ip ic items kp kc keys =>
  cases y with
  | mk k2 n2 f2 t2 b2 ip2 ic2 items2 kp2 kc2 keys2 =>
  have vx : X.val = .agg #[.int .i64 k, .int .i64 n, .float .f64 f, .string t, .bool b, .slice ip items.length ic, .slice kp keys.length kc] := by rw [← hxx]; rfl
  have vy : Y.val = .agg #[.int .i64 k2, .int .i64 n2, .float .f64 f2, .string t2, .bool b2, .slice ip2 items2.length ic2, .slice kp2 keys2.length kc2] := by rw [← hyy]; rfl
  rw [vx] at F1 P1 C1 L1 L2 ⊢
  rw [vy] at F2 P2 C2 L1 L2 ⊢
  clear vx vy hxx hyy
  go_enter Try.func4, Try.ntmps4
  go_wp2_with fail
  -- zzFits3(a)
  refine Calls.mono (by exact F1.out _ (SV.in_later (((Below.refl _ _).alloc (Nat.le_refl _) _).alloc (by simp) _) _ HX.out)) ?_
  rintro e w1 ⟨r, -, rfl, hb⟩
  have T1 := Lib.hid (Two.mk' hb)
  clear hb
  obtain ⟨a0, a1, a2, a3, a4, a5, a6⟩ := seven T1.out.fst
  obtain ⟨d0, d1, d2, d3, d4, d5, d6⟩ := seven T1.out.snd
  cases r
  · go_wp2_with fail
    go_ret
    exact ⟨rfl, T1.out.below⟩
  go_wp2_with fail
  -- zzFits3(b)
  refine Calls.mono (by exact F2.out _ (SV.in_later T1.out.below _ HY.out)) ?_
  rintro e w2 ⟨r, -, rfl, hb⟩
  have T2 := Lib.hid (T1.out.later hb)
  clear T1 a0 a1 a2 a3 a4 a5 a6 d0 d1 d2 d3 d4 d5 d6
  clear hb
  obtain ⟨a0, a1, a2, a3, a4, a5, a6⟩ := seven T2.out.fst
  obtain ⟨d0, d1, d2, d3, d4, d5, d6⟩ := seven T2.out.snd
  cases r
  · go_wp2_with fail
    go_ret
    exact ⟨rfl, T2.out.below⟩
  go_wp2_with fail
  -- cuPlain(a)
  refine Calls.mono (by exact P1.out _ (SV.in_later T2.out.below _ HX.out)) ?_
  rintro e w3 ⟨r, hr, rfl, hb⟩
  have T3 := Lib.hid (T2.out.later hb)
  clear T2 a0 a1 a2 a3 a4 a5 a6 d0 d1 d2 d3 d4 d5 d6
  clear hb
  obtain ⟨a0, a1, a2, a3, a4, a5, a6⟩ := seven T3.out.fst
  obtain ⟨d0, d1, d2, d3, d4, d5, d6⟩ := seven T3.out.snd
  cases r
  · clear hr
    go_wp2_with fail
    go_ret
    exact ⟨rfl, T3.out.below⟩
  have PX := Lib.hid (hr rfl)
  clear hr
  go_wp2_with fail
  -- cuPlain(b)
  refine Calls.mono (by exact P2.out _ (SV.in_later T3.out.below _ HY.out)) ?_
  rintro e w4 ⟨r, hr, rfl, hb⟩
  have T4 := Lib.hid (T3.out.later hb)
  clear T3 a0 a1 a2 a3 a4 a5 a6 d0 d1 d2 d3 d4 d5 d6
  clear hb
  obtain ⟨a0, a1, a2, a3, a4, a5, a6⟩ := seven T4.out.fst
  obtain ⟨d0, d1, d2, d3, d4, d5, d6⟩ := seven T4.out.snd
  cases r
  · clear hr
    go_wp2_with fail
    go_ret
    exact ⟨rfl, T4.out.below⟩
  have PY := Lib.hid (hr rfl)
  clear hr
  go_upto_region 5 with fail
  have CX := Lib.hid (C1.out PX.out)
  have CY := Lib.hid (C2.out PY.out)
  clear C1 C2 F1 F2 P1 P2
  unfold SV.door at CX CY
  refine wp_region_apart (n := 6) (ds := [some 35, some 36, some 37, some 38, some 5, some 6]) (fun i v w' => match i with
    | 0 => v = .agg #[.int .i64 k, .int .i64 n, .float .f64 f, .string t, .bool b, .slice ip items.length ic, .slice kp keys.length kc]
    | 1 => v = X.door
    | 2 => v = .agg #[.int .i64 k2, .int .i64 n2, .float .f64 f2, .string t2, .bool b2, .slice ip2 items2.length ic2, .slice kp2 keys2.length kc2]
    | 3 => v = Y.door
    | _ => ∃ g, v = .pointer (some ⟨g, 0, none⟩) ∧ w4.heap.size ≤ g ∧ w'.heap[g]? = some (.cells #[.int .i64 0, .int .i64 0, .int .u64 0, .float .f64 0, .string ⟨#[]⟩, .bool false, .slice none 0 0, .slice none 0 0] 35 (0, 0)))
    (fun i j v v' => (i = 4 ∧ j = 5) ∨ (i = 5 ∧ j = 4) → v ≠ v') (by kernel_rfl) (by kernel_rfl) rfl ?mono ?step ?tail
  case mono =>
    intro i v w' w'' hi hF hb
    match i, hF with
    | 0, hF => exact hF
    | 1, hF => exact hF
    | 2, hF => exact hF
    | 3, hF => exact hF
    | i + 4, ⟨g, h1, h2, h3⟩ => exact ⟨g, h1, h2, (hb.block g (lt_of_block h3)).trans h3⟩
  case step =>
    intro i o hi ho u w5 hb hF K hK
    have T5 := T4.out.later hb
    obtain ⟨a0, a1, a2, a3, a4, a5, a6⟩ := seven T5.fst
    obtain ⟨d0, d1, d2, d3, d4, d5, d6⟩ := seven T5.snd
    have hi6 : i = 0 ∨ i = 1 ∨ i = 2 ∨ i = 3 ∨ i = 4 ∨ i = 5 := by omega
    rcases hi6 with rfl | rfl | rfl | rfl | rfl | rfl
    all_goals
      simp only [List.getElem?_toArray, List.getElem?_cons_zero, List.getElem?_cons_succ, Option.some.injEq] at ho
      subst ho
      have HF := Lib.hid hF
      clear hF
      simp only [putAll, Act.put, List.setIfInBounds_toArray, List.set_cons_succ, List.set_cons_zero, Nat.zero_add, Nat.reduceAdd] at hK ⊢
    · have HK := Lib.hid hK
      clear hK
      go_simp
      exact HK.out _ _ _ rfl rfl (Below.refl _ _) (fun j x _ _ _ h5 => by omega)
    · have f0 : u 0 = _ := HF.out 0 (by omega) (by kernel_rfl)
      rw [f0] at hK ⊢
      have HK := Lib.hid hK
      clear hK f0
      go_simp
      refine Calls.mono (by exact CX.out _) ?_
      rintro e w6 ⟨rfl, hb6⟩
      exact HK.out _ _ _ rfl rfl hb6 (fun j x _ _ _ h5 => by omega)
    · have HK := Lib.hid hK
      clear hK
      go_simp
      exact HK.out _ _ _ rfl rfl (Below.refl _ _) (fun j x _ _ _ h5 => by omega)
    · have f0 : u 2 = _ := HF.out 2 (by omega) (by kernel_rfl)
      rw [f0] at hK ⊢
      have HK := Lib.hid hK
      clear hK f0
      go_simp
      refine Calls.mono (by exact CY.out _) ?_
      rintro e w6 ⟨rfl, hb6⟩
      exact HK.out _ _ _ rfl rfl hb6 (fun j x _ _ _ h5 => by omega)
    · have HK := Lib.hid hK
      clear hK
      go_simp
      refine HK.out _ _ _ rfl ⟨_, rfl, hb.size, heap_alloc_new _ _⟩ ((Below.refl _ _).alloc (Nat.le_refl _) _) (fun j x _ _ hx h4 => ?_)
      obtain rfl : j = 5 := by omega
      obtain ⟨g, rfl, _, hg⟩ := hx
      have := lt_of_block hg
      simp
      try omega
    · have HK := Lib.hid hK
      clear hK
      go_simp
      refine HK.out _ _ _ rfl ⟨_, rfl, hb.size, heap_alloc_new _ _⟩ ((Below.refl _ _).alloc (Nat.le_refl _) _) (fun j x _ _ hx h4 => ?_)
      obtain rfl : j = 4 := by omega
      obtain ⟨g, rfl, _, hg⟩ := hx
      have := lt_of_block hg
      simp
      try omega
  case tail =>
    intro u w5 hb hF hD
    have f0 : u 0 = _ := hF 0 (by omega)
    have f1 : u 1 = _ := hF 1 (by omega)
    have f2 : u 2 = _ := hF 2 (by omega)
    have f3 : u 3 = _ := hF 3 (by omega)
    obtain ⟨g1, f4, hg1, hb1⟩ := hF 4 (by omega)
    obtain ⟨g2, f5, hg2, hb2⟩ := hF 5 (by omega)
    have hne : g1 ≠ g2 := by
      rcases hD 4 5 (by omega) (by omega) (by omega) with h | h
      · have := h (.inl ⟨rfl, rfl⟩)
        rw [f4, f5] at this
        simpa using this
      · have := h (.inr ⟨rfl, rfl⟩)
        rw [f4, f5] at this
        exact fun e => this (by rw [e])
    have T5 := Lib.hid (T4.out.later hb)
    have hs4 := T4.out.size
    clear hF hD T4 a0 a1 a2 a3 a4 a5 a6 d0 d1 d2 d3 d4 d5 d6 hb
    simp only [putAll, Act.put, List.setIfInBounds_toArray, List.set_cons_succ, List.set_cons_zero, Nat.zero_add, Nat.reduceAdd, List.drop_succ_cons, List.drop_zero, f0, f1, f2, f3, f4, f5]
    clear f0 f1 f2 f3 f4 f5
    obtain ⟨a0, a1, a2, a3, a4, a5, a6⟩ := seven T5.out.fst
    obtain ⟨d0, d1, d2, d3, d4, d5, d6⟩ := seven T5.out.snd
    obtain ⟨e0, e1, e2, e3, e4, e5, e6, e7⟩ := eight hb1
    obtain ⟨k0, k1, k2', k3, k4, k5, k6, k7⟩ := eight hb2
    have z1 := free_block hb1
    have z2 := free_block hb2
    have HG1 := Lib.hid hb1
    have HG2 := Lib.hid hb2
    have hne' : g2 ≠ g1 := fun e => hne e.symm
    clear hb1 hb2
    unfold SV.door
    go_wp2_with fail
    have L3 := Lib.hid (implLess X Y PX.out PY.out)
    have L4 := Lib.hid (implMore X Y PX.out PY.out)
    have L5 := Lib.hid (implLeq X Y PX.out PY.out)
    have L6 := Lib.hid (implGeq X Y PX.out PY.out)
    have HO := Lib.hid (order_all X Y PX.out PY.out)
    unfold SV.door at L3 L4 L5 L6
    generalize lessO X Y = o1 at *
    generalize lessO Y X = o2 at *
    generalize moreO X Y = o3 at *
    generalize leqO X Y = o4 at *
    generalize geqO X Y = o5 at *
    have HW : Hid (Four w (store8 (store8 w5 g1 (.int .i64 X.dk) (.int .i64 X.dn) (.int .u64 0) (.float .f64 X.df) (.string X.dt) (.bool X.db) (.slice none 0 0) (.slice none 0 0)) g2 (.int .i64 Y.dk) (.int .i64 Y.dn) (.int .u64 0) (.float .f64 Y.df) (.string Y.dt) (.bool Y.db) (.slice none 0 0) (.slice none 0 0)) _ _ g1 g2 _ _) := ⟨⟨by rw [store8_other _ _ _ _ _ _ _ _ (by omega), store8_other _ _ _ _ _ _ _ _ (by omega)]; exact T5.out.fst, by rw [store8_other _ _ _ _ _ _ _ _ (by omega), store8_other _ _ _ _ _ _ _ _ (by omega)]; exact T5.out.snd, by rw [store8_size, store8_size]; exact T5.out.size, store8_below _ _ _ _ _ _ _ _ (store8_below _ _ _ _ _ _ _ _ T5.out.below (by omega)) (by omega)⟩, by rw [store8_other _ _ _ _ _ _ _ _ hne]; exact store8_at _ _ _ _ _ _ _ _ HG1.out, store8_at _ _ _ _ _ _ _ _ (by rw [store8_other _ _ _ _ _ _ _ _ hne']; exact HG2.out)⟩
    have Q := HW
    clear HW HG1 HG2 T5 hs4 e0 e1 e2 e3 e4 e5 e6 e7 k0 k1 k2' k3 k4 k5 k6 k7 z1 z2 a0 a1 a2 a3 a4 a5 a6 d0 d1 d2 d3 d4 d5 d6 hne hne' hg1 hg2
    rcases HO.out with ⟨l, m, rfl, rfl, rfl, rfl, rfl⟩ | ⟨rfl, rfl, rfl, rfl, rfl⟩
    · clear HO
      unfold cmpRes at L3 L4 L5 L6
      refine Calls.mono (by exact L3.out _) ?_
      rintro e w6 ⟨rfl, hb⟩
      have Q2 := Lib.hid (Q.out.later hb)
      clear Q hb
      have Q := Lib.hid Q2.out
      clear Q2
      obtain ⟨e0, e1, e2, e3, e4, e5, e6, e7⟩ := eight Q.out.one
      obtain ⟨k0, k1, k2', k3, k4, k5, k6, k7⟩ := eight Q.out.other
      obtain ⟨a0, a1, a2, a3, a4, a5, a6⟩ := seven Q.out.two.fst
      obtain ⟨d0, d1, d2, d3, d4, d5, d6⟩ := seven Q.out.two.snd
      go_wp2_with fail
      clear e0 e1 e2 e3 e4 e5 e6 e7 k0 k1 k2' k3 k4 k5 k6 k7 a0 a1 a2 a3 a4 a5 a6 d0 d1 d2 d3 d4 d5 d6
      refine Calls.mono (by exact L4.out _) ?_
      rintro e w7 ⟨rfl, hb⟩
      have Q2 := Lib.hid (Q.out.later hb)
      clear Q hb
      have Q := Lib.hid Q2.out
      clear Q2
      obtain ⟨e0, e1, e2, e3, e4, e5, e6, e7⟩ := eight Q.out.one
      obtain ⟨k0, k1, k2', k3, k4, k5, k6, k7⟩ := eight Q.out.other
      obtain ⟨a0, a1, a2, a3, a4, a5, a6⟩ := seven Q.out.two.fst
      obtain ⟨d0, d1, d2, d3, d4, d5, d6⟩ := seven Q.out.two.snd
      go_wp2_with fail
      clear e0 e1 e2 e3 e4 e5 e6 e7 k0 k1 k2' k3 k4 k5 k6 k7 a0 a1 a2 a3 a4 a5 a6 d0 d1 d2 d3 d4 d5 d6
      refine Calls.mono (by exact L5.out _) ?_
      rintro e w8 ⟨rfl, hb⟩
      have Q2 := Lib.hid (Q.out.later hb)
      clear Q hb
      have Q := Lib.hid Q2.out
      clear Q2
      obtain ⟨e0, e1, e2, e3, e4, e5, e6, e7⟩ := eight Q.out.one
      obtain ⟨k0, k1, k2', k3, k4, k5, k6, k7⟩ := eight Q.out.other
      obtain ⟨a0, a1, a2, a3, a4, a5, a6⟩ := seven Q.out.two.fst
      obtain ⟨d0, d1, d2, d3, d4, d5, d6⟩ := seven Q.out.two.snd
      go_wp2_with fail
      clear e0 e1 e2 e3 e4 e5 e6 e7 k0 k1 k2' k3 k4 k5 k6 k7 a0 a1 a2 a3 a4 a5 a6 d0 d1 d2 d3 d4 d5 d6
      refine Calls.mono (by exact L6.out _) ?_
      rintro e w9 ⟨rfl, hb⟩
      have Q2 := Lib.hid (Q.out.later hb)
      clear Q hb
      have Q := Lib.hid Q2.out
      clear Q2
      obtain ⟨e0, e1, e2, e3, e4, e5, e6, e7⟩ := eight Q.out.one
      obtain ⟨k0, k1, k2', k3, k4, k5, k6, k7⟩ := eight Q.out.other
      obtain ⟨a0, a1, a2, a3, a4, a5, a6⟩ := seven Q.out.two.fst
      obtain ⟨d0, d1, d2, d3, d4, d5, d6⟩ := seven Q.out.two.snd
      go_wp2_with fail
      clear e0 e1 e2 e3 e4 e5 e6 e7 k0 k1 k2' k3 k4 k5 k6 k7 a0 a1 a2 a3 a4 a5 a6 d0 d1 d2 d3 d4 d5 d6
      refine Calls.mono (by exact L1.out _) ?_
      rintro e w10 ⟨rfl, hb⟩
      have Q2 := Lib.hid (Q.out.later hb)
      clear Q hb
      have Q := Lib.hid Q2.out
      clear Q2
      obtain ⟨e0, e1, e2, e3, e4, e5, e6, e7⟩ := eight Q.out.one
      obtain ⟨k0, k1, k2', k3, k4, k5, k6, k7⟩ := eight Q.out.other
      obtain ⟨a0, a1, a2, a3, a4, a5, a6⟩ := seven Q.out.two.fst
      obtain ⟨d0, d1, d2, d3, d4, d5, d6⟩ := seven Q.out.two.snd
      go_wp2_with fail
      refine Calls.mono (by exact L2.out _) ?_
      rintro e w11 ⟨rfl, hb⟩
      have Q2 := Lib.hid (Q.out.later hb).two.below
      clear hb
      cases l <;> cases m
      all_goals
        go_wp2_with fail
        go_ret
        exact ⟨rfl, Q2.out⟩
    · clear HO
      unfold cmpRes at L3 L4 L5 L6
      refine Calls.mono (by exact L3.out _) ?_
      rintro e w6 ⟨rfl, hb⟩
      have Q2 := Lib.hid (Q.out.later hb)
      clear Q hb
      have Q := Lib.hid Q2.out
      clear Q2
      obtain ⟨e0, e1, e2, e3, e4, e5, e6, e7⟩ := eight Q.out.one
      obtain ⟨k0, k1, k2', k3, k4, k5, k6, k7⟩ := eight Q.out.other
      obtain ⟨a0, a1, a2, a3, a4, a5, a6⟩ := seven Q.out.two.fst
      obtain ⟨d0, d1, d2, d3, d4, d5, d6⟩ := seven Q.out.two.snd
      go_wp2_with fail
      clear e0 e1 e2 e3 e4 e5 e6 e7 k0 k1 k2' k3 k4 k5 k6 k7 a0 a1 a2 a3 a4 a5 a6 d0 d1 d2 d3 d4 d5 d6
      refine Calls.mono (by exact L4.out _) ?_
      rintro e w7 ⟨rfl, hb⟩
      have Q2 := Lib.hid (Q.out.later hb)
      clear Q hb
      have Q := Lib.hid Q2.out
      clear Q2
      obtain ⟨e0, e1, e2, e3, e4, e5, e6, e7⟩ := eight Q.out.one
      obtain ⟨k0, k1, k2', k3, k4, k5, k6, k7⟩ := eight Q.out.other
      obtain ⟨a0, a1, a2, a3, a4, a5, a6⟩ := seven Q.out.two.fst
      obtain ⟨d0, d1, d2, d3, d4, d5, d6⟩ := seven Q.out.two.snd
      go_wp2_with fail
      clear e0 e1 e2 e3 e4 e5 e6 e7 k0 k1 k2' k3 k4 k5 k6 k7 a0 a1 a2 a3 a4 a5 a6 d0 d1 d2 d3 d4 d5 d6
      refine Calls.mono (by exact L5.out _) ?_
      rintro e w8 ⟨rfl, hb⟩
      have Q2 := Lib.hid (Q.out.later hb)
      clear Q hb
      have Q := Lib.hid Q2.out
      clear Q2
      obtain ⟨e0, e1, e2, e3, e4, e5, e6, e7⟩ := eight Q.out.one
      obtain ⟨k0, k1, k2', k3, k4, k5, k6, k7⟩ := eight Q.out.other
      obtain ⟨a0, a1, a2, a3, a4, a5, a6⟩ := seven Q.out.two.fst
      obtain ⟨d0, d1, d2, d3, d4, d5, d6⟩ := seven Q.out.two.snd
      go_wp2_with fail
      clear e0 e1 e2 e3 e4 e5 e6 e7 k0 k1 k2' k3 k4 k5 k6 k7 a0 a1 a2 a3 a4 a5 a6 d0 d1 d2 d3 d4 d5 d6
      refine Calls.mono (by exact L6.out _) ?_
      rintro e w9 ⟨rfl, hb⟩
      have Q2 := Lib.hid (Q.out.later hb)
      clear Q hb
      have Q := Lib.hid Q2.out
      clear Q2
      obtain ⟨e0, e1, e2, e3, e4, e5, e6, e7⟩ := eight Q.out.one
      obtain ⟨k0, k1, k2', k3, k4, k5, k6, k7⟩ := eight Q.out.other
      obtain ⟨a0, a1, a2, a3, a4, a5, a6⟩ := seven Q.out.two.fst
      obtain ⟨d0, d1, d2, d3, d4, d5, d6⟩ := seven Q.out.two.snd
      go_wp2_with fail
      clear e0 e1 e2 e3 e4 e5 e6 e7 k0 k1 k2' k3 k4 k5 k6 k7 a0 a1 a2 a3 a4 a5 a6 d0 d1 d2 d3 d4 d5 d6
      refine Calls.mono (by exact L1.out _) ?_
      rintro e w10 ⟨rfl, hb⟩
      have Q2 := Lib.hid (Q.out.later hb)
      clear Q hb
      have Q := Lib.hid Q2.out
      clear Q2
      obtain ⟨e0, e1, e2, e3, e4, e5, e6, e7⟩ := eight Q.out.one
      obtain ⟨k0, k1, k2', k3, k4, k5, k6, k7⟩ := eight Q.out.other
      obtain ⟨a0, a1, a2, a3, a4, a5, a6⟩ := seven Q.out.two.fst
      obtain ⟨d0, d1, d2, d3, d4, d5, d6⟩ := seven Q.out.two.snd
      go_wp2_with fail
      go_ret
      exact ⟨rfl, Q.out.two.below⟩

namespace fnOrder
open Go.ChangeShapes Go.WideShapes Go.ChangeAt

set_option maxRecDepth 100000 in
theorem lifted (os : Os) (started : os.Started) (H : Type) (enc : TypeId × Value → H) :
    ReturnsInHanded {} Try.checked os 4 .any (Rows.fnOrderSpec.pre6 enc Try.prog Try.f4 Rows.fnOrderRow.domain false) (Rows.fnOrderSpec.post enc Try.prog Try.f4 false true false false) := by
  refine returnsInHanded_of_change (C := Try.checked) own started (by kernel_rfl) Try.func4
    (ChangeSpec.witness6 (enc := enc) (C := Try.checked) false ⟨#[], #[zeroV, zeroV], []⟩ 8 (by kernel_rfl) (by kernel_rfl) (by kernel_rfl) (by kernel_rfl)) ?_
  intro W base args ds gs before hval0 hW _ _
  have hval : ∀ (j : Nat) t v, Try.f4.params[j]? = some t → args[j]? = some v → Value.okWide Try.prog W .any base t v := hval0
  have hW' := hW
  obtain ⟨p, q, hA0, hV, rfl, hfz, hnd⟩ := hW
  have hA : DataW.TrodAll enc Try.prog W 0 (fun _ => true) true Try.f4.params.toList args.toList ds p := hA0
  rw [Try.params4] at hA hval
  obtain ⟨v0, vs0, d0, ds0, p0, q0, hargs, rfl, rfl, h0, r0⟩ := trodAll_cons hA
  obtain ⟨v1, vs1, d1, ds1, p1, q1, rfl, rfl, rfl, h1, r1⟩ := trodAll_cons r0
  obtain ⟨rfl, rfl, rfl⟩ := trodAll_nil r1
  obtain rfl : args = #[v0, v1] := by cases args; simp_all
  obtain ⟨rfl, rfl⟩ := trodVars_none hV
  obtain ⟨x, rfl, hx⟩ := open_V (hval 0 30 v0 rfl rfl) h0
  obtain ⟨y, rfl, hy⟩ := open_V (hval 1 30 v1 rfl rfl) h1
  clear hA0 hval0
  refine (fnOrder_any x y W hx hy).mono fun e W' ⟨he, hb⟩ => ?_
  subst he
  exact ⟨_, rfl, law_post hW' rfl rfl (by intro t ht; rw [Try.params4] at ht; simp at ht; subst ht; exact ⟨by kernel_rfl, of_decide_eq_true (by kernel_rfl)⟩) rfl rfl rfl hb⟩

theorem proved : Rows.FnOrderSaid :=
  OpenClaim.holds_of_wide 4 Try.f4 rfl rfl rfl rfl rfl rfl rfl ⟨rfl, rfl, rfl, rfl, rfl⟩ rfl rfl rfl rfl rfl (by kernel_rfl) Try.func4 (by kernel_rfl)
    (of_decide_eq_true (by kernel_rfl)) (by unfold Func.isWrapper; first | (rw [if_pos (by decide +kernel)]; kernel_rfl) | (rw [if_neg (by decide +kernel)]; exact ⟨rfl, rfl⟩))
    (fun os started H enc _ => lifted os started H enc)
end fnOrder

/-- THE STATEMENT. -/
theorem fnOrder_holds : Rows.FnOrderSaid := fnOrder.proved
#print axioms fnOrder_holds
end Go.Proofs.Ythmogfjmngbamaa
