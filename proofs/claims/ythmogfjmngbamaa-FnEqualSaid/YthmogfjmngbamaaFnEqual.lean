/-
  What is proved: 'laws.FnEqual' returns true for every two values of the reference that can be read as data, and leaves all memory that was there as it was. No condition.
-/
import Derived.Test.YthmogfjmngbamaaEqlaw
import Derived.Test.YthmogfjmngbamaaFnArithmetic
namespace Go.Proofs.Ythmogfjmngbamaa
open Go.RowKit
set_option linter.unusedSimpArgs false
set_option linter.unusedVariables false

set_option maxHeartbeats 2000000 in
set_option maxRecDepth 100000 in
theorem fnEqual_any (x y : SV) (w : World) (hx : SV.In w x) (hy : SV.In w y) : Calls Try.prog 5 #[x.val, y.val] w (Holds w) := by
  have HX := Lib.hid hx
  have HY := Lib.hid hy
  clear hx hy
  have F1 := Lib.hid (zzFits3_any x)
  have F2 := Lib.hid (zzFits3_any y)
  have P1 := Lib.hid (cuTwo_any x y)
  have C1 := Lib.hid (cuOf_any w x 10)
  have C2 := Lib.hid (cuOf_any w y 10)
  have CE := Lib.hid (cuEqual_any x y)
  generalize hxx : x = X at *
  generalize hyy : y = Y at *
  cases x with
  | mk k n f t b ip ic items kp kc keys =>
  cases y with
  | mk k2 n2 f2 t2 b2 ip2 ic2 items2 kp2 kc2 keys2 =>
  have vx : X.val = .agg #[.int .i64 k, .int .i64 n, .float .f64 f, .string t, .bool b, .slice ip items.length ic, .slice kp keys.length kc] := by rw [← hxx]; rfl
  have vy : Y.val = .agg #[.int .i64 k2, .int .i64 n2, .float .f64 f2, .string t2, .bool b2, .slice ip2 items2.length ic2, .slice kp2 keys2.length kc2] := by rw [← hyy]; rfl
  rw [vx] at F1 P1 C1 CE ⊢
  rw [vy] at F2 P1 C2 CE ⊢
  clear vx vy hxx hyy
  go_enter Try.func5, Try.ntmps5
  go_wp2_with fail
  refine Calls.mono (by exact F1.out _ (SV.in_later (((Below.refl _ _).alloc (Nat.le_refl _) _).alloc (by simp) _) _ HX.out)) ?_
  rintro e w1 ⟨r, -, rfl, hb⟩
  have T1 := Lib.hid (Two.mk' hb)
  clear hb
  obtain ⟨a0, a1, a2, a3, a4, a5, a6⟩ := seven T1.out.fst
  obtain ⟨d0, d1, d2, d3, d4, d5, d6⟩ := seven T1.out.snd
  cases r
  · go_wp2_with fail
    go_ret
    exact ⟨rfl, T1.out.below⟩
  go_wp2_with fail
  refine Calls.mono (by exact F2.out _ (SV.in_later T1.out.below _ HY.out)) ?_
  rintro e w2 ⟨r, -, rfl, hb⟩
  have T2 := Lib.hid (T1.out.later hb)
  clear T1 a0 a1 a2 a3 a4 a5 a6 d0 d1 d2 d3 d4 d5 d6
  clear hb
  obtain ⟨a0, a1, a2, a3, a4, a5, a6⟩ := seven T2.out.fst
  obtain ⟨d0, d1, d2, d3, d4, d5, d6⟩ := seven T2.out.snd
  cases r
  · go_wp2_with fail
    go_ret
    exact ⟨rfl, T2.out.below⟩
  go_wp2_with fail
  refine Calls.mono (by exact P1.out _ (SV.in_later T2.out.below _ HX.out) (SV.in_later T2.out.below _ HY.out)) ?_
  rintro e w3 ⟨r, hr, rfl, hb⟩
  have T3 := Lib.hid (T2.out.later hb)
  clear T2 a0 a1 a2 a3 a4 a5 a6 d0 d1 d2 d3 d4 d5 d6
  clear hb
  obtain ⟨a0, a1, a2, a3, a4, a5, a6⟩ := seven T3.out.fst
  obtain ⟨d0, d1, d2, d3, d4, d5, d6⟩ := seven T3.out.snd
  cases r
  · clear hr
    go_wp2_with fail
    go_ret
    exact ⟨rfl, T3.out.below⟩
  obtain ⟨EX, EY⟩ := hr rfl
  clear hr
  have COX := Lib.hid (fun w' hb => C1.out w' HX.out hb EX.ok EX.parts EX.small)
  have COY := Lib.hid (fun w' hb => C2.out w' HY.out hb EY.ok EY.parts EY.small)
  have DEXY := Lib.hid (fun w B B2 d d2 hB hB2 hd hd2 => implEqual X Y w B B2 d d2 hB hB2 hd hd2 EX EY)
  have DEXX := Lib.hid (fun w B B2 d d2 hB hB2 hd hd2 => implEqual X X w B B2 d d2 hB hB2 hd hd2 EX EX)
  have DEYX := Lib.hid (fun w B B2 d d2 hB hB2 hd hd2 => implEqual Y X w B B2 d d2 hB hB2 hd hd2 EY EX)
  have CEXY := Lib.hid (fun w hx hy => CE.out w hx hy EX EY)
  rw [eqV_self EX] at DEXX
  rw [eqV_symm Y X] at DEYX
  generalize eqV X Y = res at *
  clear C1 C2 CE F1 F2 P1 EX EY
  go_wp2_with fail
  clear a0 a1 a2 a3 a4 a5 a6 d0 d1 d2 d3 d4 d5 d6
  have TA := T3
  refine wp_region_chain [0, 1, 2, 3, 4, 5, 6, 7] [5, 6, 7] [8, 9] [some 24, some 25, some 26, some 27, some 28, some 23, some 29, some 30] _
    (fun p => [p])
    (fun p u w' => match p with
      | 0 => u 0 = .agg #[.int .i64 k, .int .i64 n, .float .f64 f, .string t, .bool b, .slice ip items.length ic, .slice kp keys.length kc]
      | 1 => ∃ d : Dv, u 1 = d.val ∧ DoorOf w' (betw 0 w'.heap.size) X d
      | 2 => u 2 = .agg #[.int .i64 k2, .int .i64 n2, .float .f64 f2, .string t2, .bool b2, .slice ip2 items2.length ic2, .slice kp2 keys2.length kc2]
      | 3 => ∃ d : Dv, u 3 = d.val ∧ DoorOf w' (betw 0 w'.heap.size) Y d
      | 4 => u 4 = .tuple #[.bool res, .int .i64 0]
      | 5 => u 5 = .tuple #[.bool res, .int .i64 0]
      | 6 => u 6 = .bool res
      | 7 => u 7 = .int .i64 0
      | _ => True)
    (by kernel_rfl) (by kernel_rfl) rfl rfl ?mono ?same ?take ?step ?tail
  case mono =>
    intro p u w' w'' hp hF hb
    match p, hF with
    | 0, hF => exact hF
    | 1, ⟨d, h1, h2⟩ => exact ⟨d, h1, h2.keep (fun b h => hb.block b h.2) (fun b h => ⟨h.1, Nat.lt_of_lt_of_le h.2 hb.size⟩)⟩
    | 2, hF => exact hF
    | 3, ⟨d, h1, h2⟩ => exact ⟨d, h1, h2.keep (fun b h => hb.block b h.2) (fun b h => ⟨h.1, Nat.lt_of_lt_of_le h.2 hb.size⟩)⟩
    | 4, hF => exact hF
    | 5, hF => exact hF
    | 6, hF => exact hF
    | 7, hF => exact hF
    | p + 8, _ => exact trivial
  case same =>
    intro p u u' w' hp hd hF
    match p, hd, hF with
    | 0, hd, hF => rw [← hd 0 (by simp)]; exact hF
    | 1, hd, hF => rw [← hd 1 (by simp)]; exact hF
    | 2, hd, hF => rw [← hd 2 (by simp)]; exact hF
    | 3, hd, hF => rw [← hd 3 (by simp)]; exact hF
    | 4, hd, hF => rw [← hd 4 (by simp)]; exact hF
    | 5, hd, hF => rw [← hd 5 (by simp)]; exact hF
    | 6, hd, hF => rw [← hd 6 (by simp)]; exact hF
    | 7, hd, hF => rw [← hd 7 (by simp)]; exact hF
    | p + 8, _, _ => exact trivial
  case take =>
    intro p i o hp ht ho u w5 hb hF
    have hpc : p = 0 ∨ p = 1 ∨ p = 2 ∨ p = 3 ∨ p = 4 ∨ p = 5 ∨ p = 6 ∨ p = 7 := by
      have : p < 8 := (List.getElem?_eq_some_iff.1 hp).1
      omega
    rcases hpc with rfl | rfl | rfl | rfl | rfl | rfl | rfl | rfl
    all_goals
      simp only [List.getElem?_cons_zero, List.getElem?_cons_succ, Option.some.injEq] at hp
      subst hp
    iterate 5 (simp at ht)
    · simp only [List.getElem?_toArray, List.getElem?_cons_zero, List.getElem?_cons_succ, Option.some.injEq] at ho
      subst ho
      have h4 : u 4 = _ := hF 4 4 rfl (by kernel_rfl)
      refine ⟨.tuple #[.bool res, .int .i64 0], .inl ⟨by rfl, fun w => ?_⟩, by simp [upd]⟩
      simp only [putAll, Act.put, List.setIfInBounds_toArray, List.set_cons_succ, List.set_cons_zero, Nat.zero_add, Nat.reduceAdd, h4]
      clear h4 hF
      go_simp
    · simp only [List.getElem?_toArray, List.getElem?_cons_zero, List.getElem?_cons_succ, Option.some.injEq] at ho
      subst ho
      have h5 : u 5 = _ := hF 5 5 rfl (by kernel_rfl)
      refine ⟨.bool res, .inl ⟨by rfl, fun w => ?_⟩, by simp [upd]⟩
      simp only [putAll, Act.put, List.setIfInBounds_toArray, List.set_cons_succ, List.set_cons_zero, Nat.zero_add, Nat.reduceAdd, h5]
      clear h5 hF
      go_simp
    · simp only [List.getElem?_toArray, List.getElem?_cons_zero, List.getElem?_cons_succ, Option.some.injEq] at ho
      subst ho
      have h5 : u 5 = _ := hF 5 5 rfl (by kernel_rfl)
      refine ⟨.int .i64 0, .inl ⟨by rfl, fun w => ?_⟩, by simp [upd]⟩
      simp only [putAll, Act.put, List.setIfInBounds_toArray, List.set_cons_succ, List.set_cons_zero, Nat.zero_add, Nat.reduceAdd, h5]
      clear h5 hF
      go_simp
  case step =>
    intro p i o hp ht ho u w5 hb hF K hK Q'
    have T5 := TA.out.later hb
    obtain ⟨a0, a1, a2, a3, a4, a5, a6⟩ := seven T5.fst
    obtain ⟨d0, d1, d2, d3, d4, d5, d6⟩ := seven T5.snd
    have HB5 := Lib.hid T5.below
    have hpc : p = 0 ∨ p = 1 ∨ p = 2 ∨ p = 3 ∨ p = 4 ∨ p = 5 ∨ p = 6 ∨ p = 7 := by
      have : p < 8 := (List.getElem?_eq_some_iff.1 hp).1
      omega
    rcases hpc with rfl | rfl | rfl | rfl | rfl | rfl | rfl | rfl
    all_goals
      simp only [List.getElem?_cons_zero, List.getElem?_cons_succ, Option.some.injEq] at hp
      subst hp
      simp only [List.getElem?_toArray, List.getElem?_cons_zero, List.getElem?_cons_succ, Option.some.injEq] at ho
      subst ho
      have HF := Lib.hid hF
      clear hF
      simp only [putAll, Act.put, List.setIfInBounds_toArray, List.set_cons_succ, List.set_cons_zero, Nat.zero_add, Nat.reduceAdd] at hK ⊢
    · have HK := Lib.hid hK
      clear hK
      go_simp
      exact HK.out _ _ _ rfl (upd_at _ _ _) (Below.refl _ _)
    · have f0 : u 0 = _ := HF.out 0 0 rfl (by kernel_rfl)
      rw [f0] at hK ⊢
      have HK := Lib.hid hK
      clear hK f0
      go_simp
      refine Calls.mono (by exact COX.out _ HB5.out) ?_
      rintro e w6' ⟨d, rfl, hb6, hd⟩
      exact HK.out _ _ _ rfl ⟨d, upd_at _ _ _, hd.keep (fun b h => rfl) (fun b h => ⟨Nat.zero_le _, h.2⟩)⟩ hb6
    · have HK := Lib.hid hK
      clear hK
      go_simp
      exact HK.out _ _ _ rfl (upd_at _ _ _) (Below.refl _ _)
    · have f0 : u 2 = _ := HF.out 2 2 rfl (by kernel_rfl)
      rw [f0] at hK ⊢
      have HK := Lib.hid hK
      clear hK f0
      go_simp
      refine Calls.mono (by exact COY.out _ HB5.out) ?_
      rintro e w6' ⟨d, rfl, hb6, hd⟩
      exact HK.out _ _ _ rfl ⟨d, upd_at _ _ _, hd.keep (fun b h => rfl) (fun b h => ⟨Nat.zero_le _, h.2⟩)⟩ hb6
    · obtain ⟨d, f1, hd⟩ := HF.out 1 1 rfl (by kernel_rfl)
      obtain ⟨d', f3, hd'⟩ := HF.out 3 3 rfl (by kernel_rfl)
      rw [f1, f3] at hK ⊢
      have HK := Lib.hid hK
      have HC := Lib.hid (DEXY.out w5 _ _ d d' (fun b h => h.2) (fun b h => h.2) hd hd')
      clear hK f1 f3 hd hd'
      go_simp
      refine Calls.mono (by exact HC.out) ?_
      rintro e w6' ⟨rfl, hb6⟩
      exact HK.out _ _ _ rfl (upd_at _ _ _) hb6
    · simp at ht
    · simp at ht
    · simp at ht
  case tail =>
    intro u w5 hb hF K HKK
    have f4 : u 4 = _ := hF 4 (by decide)
    have f5 : u 5 = _ := hF 5 (by decide)
    have f6 : u 6 = _ := hF 6 (by decide)
    have f7 : u 7 = _ := hF 7 (by decide)
    have TW := Lib.hid (TA.out.later hb)
    clear hF hb TA
    simp only [putAll, Act.put, List.setIfInBounds_toArray, List.set_cons_succ, List.set_cons_zero, Nat.zero_add, Nat.reduceAdd, List.filterMap_cons, List.filterMap_nil, List.getElem?_toArray, List.getElem?_cons_zero, List.getElem?_cons_succ, f4, f5, f6, f7]
    clear f4 f5 f6 f7
    go_wp2_with fail
    refine HKK.out _ _ ?_
    clear HKK
    go_wp2_with fail
    have TA := TW
    refine wp_region_chain [0, 1, 2, 3, 4, 5, 6, 7] [5, 6, 7] [8, 9] [some 32, some 33, some 34, some 35, some 36, some 31, some 37, some 38] _
      (fun p => [p])
      (fun p u w' => match p with
        | 0 => u 0 = .agg #[.int .i64 k, .int .i64 n, .float .f64 f, .string t, .bool b, .slice ip items.length ic, .slice kp keys.length kc]
        | 1 => ∃ d : Dv, u 1 = d.val ∧ DoorOf w' (betw 0 w'.heap.size) X d
        | 2 => u 2 = .agg #[.int .i64 k, .int .i64 n, .float .f64 f, .string t, .bool b, .slice ip items.length ic, .slice kp keys.length kc]
        | 3 => ∃ d : Dv, u 3 = d.val ∧ DoorOf w' (betw 0 w'.heap.size) X d
        | 4 => u 4 = .tuple #[.bool true, .int .i64 0]
        | 5 => u 5 = .tuple #[.bool true, .int .i64 0]
        | 6 => u 6 = .bool true
        | 7 => u 7 = .int .i64 0
        | _ => True)
      (by kernel_rfl) (by kernel_rfl) rfl rfl ?mono ?same ?take ?step ?tail
    case mono =>
      intro p u w' w'' hp hF hb
      match p, hF with
      | 0, hF => exact hF
      | 1, ⟨d, h1, h2⟩ => exact ⟨d, h1, h2.keep (fun b h => hb.block b h.2) (fun b h => ⟨h.1, Nat.lt_of_lt_of_le h.2 hb.size⟩)⟩
      | 2, hF => exact hF
      | 3, ⟨d, h1, h2⟩ => exact ⟨d, h1, h2.keep (fun b h => hb.block b h.2) (fun b h => ⟨h.1, Nat.lt_of_lt_of_le h.2 hb.size⟩)⟩
      | 4, hF => exact hF
      | 5, hF => exact hF
      | 6, hF => exact hF
      | 7, hF => exact hF
      | p + 8, _ => exact trivial
    case same =>
      intro p u u' w' hp hd hF
      match p, hd, hF with
      | 0, hd, hF => rw [← hd 0 (by simp)]; exact hF
      | 1, hd, hF => rw [← hd 1 (by simp)]; exact hF
      | 2, hd, hF => rw [← hd 2 (by simp)]; exact hF
      | 3, hd, hF => rw [← hd 3 (by simp)]; exact hF
      | 4, hd, hF => rw [← hd 4 (by simp)]; exact hF
      | 5, hd, hF => rw [← hd 5 (by simp)]; exact hF
      | 6, hd, hF => rw [← hd 6 (by simp)]; exact hF
      | 7, hd, hF => rw [← hd 7 (by simp)]; exact hF
      | p + 8, _, _ => exact trivial
    case take =>
      intro p i o hp ht ho u w5 hb hF
      have hpc : p = 0 ∨ p = 1 ∨ p = 2 ∨ p = 3 ∨ p = 4 ∨ p = 5 ∨ p = 6 ∨ p = 7 := by
        have : p < 8 := (List.getElem?_eq_some_iff.1 hp).1
        omega
      rcases hpc with rfl | rfl | rfl | rfl | rfl | rfl | rfl | rfl
      all_goals
        simp only [List.getElem?_cons_zero, List.getElem?_cons_succ, Option.some.injEq] at hp
        subst hp
      iterate 5 (simp at ht)
      · simp only [List.getElem?_toArray, List.getElem?_cons_zero, List.getElem?_cons_succ, Option.some.injEq] at ho
        subst ho
        have h4 : u 4 = _ := hF 4 4 rfl (by kernel_rfl)
        refine ⟨.tuple #[.bool true, .int .i64 0], .inl ⟨by rfl, fun w => ?_⟩, by simp [upd]⟩
        simp only [putAll, Act.put, List.setIfInBounds_toArray, List.set_cons_succ, List.set_cons_zero, Nat.zero_add, Nat.reduceAdd, h4]
        clear h4 hF
        go_simp
      · simp only [List.getElem?_toArray, List.getElem?_cons_zero, List.getElem?_cons_succ, Option.some.injEq] at ho
        subst ho
        have h5 : u 5 = _ := hF 5 5 rfl (by kernel_rfl)
        refine ⟨.bool true, .inl ⟨by rfl, fun w => ?_⟩, by simp [upd]⟩
        simp only [putAll, Act.put, List.setIfInBounds_toArray, List.set_cons_succ, List.set_cons_zero, Nat.zero_add, Nat.reduceAdd, h5]
        clear h5 hF
        go_simp
      · simp only [List.getElem?_toArray, List.getElem?_cons_zero, List.getElem?_cons_succ, Option.some.injEq] at ho
        subst ho
        have h5 : u 5 = _ := hF 5 5 rfl (by kernel_rfl)
        refine ⟨.int .i64 0, .inl ⟨by rfl, fun w => ?_⟩, by simp [upd]⟩
        simp only [putAll, Act.put, List.setIfInBounds_toArray, List.set_cons_succ, List.set_cons_zero, Nat.zero_add, Nat.reduceAdd, h5]
        clear h5 hF
        go_simp
    case step =>
      intro p i o hp ht ho u w5 hb hF K hK Q'
      have T5 := TA.out.later hb
      obtain ⟨a0, a1, a2, a3, a4, a5, a6⟩ := seven T5.fst
      obtain ⟨d0, d1, d2, d3, d4, d5, d6⟩ := seven T5.snd
      have HB5 := Lib.hid T5.below
      have hpc : p = 0 ∨ p = 1 ∨ p = 2 ∨ p = 3 ∨ p = 4 ∨ p = 5 ∨ p = 6 ∨ p = 7 := by
        have : p < 8 := (List.getElem?_eq_some_iff.1 hp).1
        omega
      rcases hpc with rfl | rfl | rfl | rfl | rfl | rfl | rfl | rfl
      all_goals
        simp only [List.getElem?_cons_zero, List.getElem?_cons_succ, Option.some.injEq] at hp
        subst hp
        simp only [List.getElem?_toArray, List.getElem?_cons_zero, List.getElem?_cons_succ, Option.some.injEq] at ho
        subst ho
        have HF := Lib.hid hF
        clear hF
        simp only [putAll, Act.put, List.setIfInBounds_toArray, List.set_cons_succ, List.set_cons_zero, Nat.zero_add, Nat.reduceAdd] at hK ⊢
      · have HK := Lib.hid hK
        clear hK
        go_simp
        exact HK.out _ _ _ rfl (upd_at _ _ _) (Below.refl _ _)
      · have f0 : u 0 = _ := HF.out 0 0 rfl (by kernel_rfl)
        rw [f0] at hK ⊢
        have HK := Lib.hid hK
        clear hK f0
        go_simp
        refine Calls.mono (by exact COX.out _ HB5.out) ?_
        rintro e w6' ⟨d, rfl, hb6, hd⟩
        exact HK.out _ _ _ rfl ⟨d, upd_at _ _ _, hd.keep (fun b h => rfl) (fun b h => ⟨Nat.zero_le _, h.2⟩)⟩ hb6
      · have HK := Lib.hid hK
        clear hK
        go_simp
        exact HK.out _ _ _ rfl (upd_at _ _ _) (Below.refl _ _)
      · have f0 : u 2 = _ := HF.out 2 2 rfl (by kernel_rfl)
        rw [f0] at hK ⊢
        have HK := Lib.hid hK
        clear hK f0
        go_simp
        refine Calls.mono (by exact COX.out _ HB5.out) ?_
        rintro e w6' ⟨d, rfl, hb6, hd⟩
        exact HK.out _ _ _ rfl ⟨d, upd_at _ _ _, hd.keep (fun b h => rfl) (fun b h => ⟨Nat.zero_le _, h.2⟩)⟩ hb6
      · obtain ⟨d, f1, hd⟩ := HF.out 1 1 rfl (by kernel_rfl)
        obtain ⟨d', f3, hd'⟩ := HF.out 3 3 rfl (by kernel_rfl)
        rw [f1, f3] at hK ⊢
        have HK := Lib.hid hK
        have HC := Lib.hid (DEXX.out w5 _ _ d d' (fun b h => h.2) (fun b h => h.2) hd hd')
        clear hK f1 f3 hd hd'
        go_simp
        refine Calls.mono (by exact HC.out) ?_
        rintro e w6' ⟨rfl, hb6⟩
        exact HK.out _ _ _ rfl (upd_at _ _ _) hb6
      · simp at ht
      · simp at ht
      · simp at ht
    case tail =>
      intro u w5 hb hF K HKK
      have f4 : u 4 = _ := hF 4 (by decide)
      have f5 : u 5 = _ := hF 5 (by decide)
      have f6 : u 6 = _ := hF 6 (by decide)
      have f7 : u 7 = _ := hF 7 (by decide)
      have TW := Lib.hid (TA.out.later hb)
      clear hF hb TA
      simp only [putAll, Act.put, List.setIfInBounds_toArray, List.set_cons_succ, List.set_cons_zero, Nat.zero_add, Nat.reduceAdd, List.filterMap_cons, List.filterMap_nil, List.getElem?_toArray, List.getElem?_cons_zero, List.getElem?_cons_succ, f4, f5, f6, f7]
      clear f4 f5 f6 f7
      go_wp2_with fail
      refine HKK.out _ _ ?_
      clear HKK
      go_wp2_with fail
      have TA := TW
      refine wp_region_chain [0, 1, 2, 3, 4, 5, 6, 7] [5, 6, 7] [8, 9] [some 40, some 41, some 42, some 43, some 44, some 39, some 45, some 46] _
        (fun p => [p])
        (fun p u w' => match p with
          | 0 => u 0 = .agg #[.int .i64 k2, .int .i64 n2, .float .f64 f2, .string t2, .bool b2, .slice ip2 items2.length ic2, .slice kp2 keys2.length kc2]
          | 1 => ∃ d : Dv, u 1 = d.val ∧ DoorOf w' (betw 0 w'.heap.size) Y d
          | 2 => u 2 = .agg #[.int .i64 k, .int .i64 n, .float .f64 f, .string t, .bool b, .slice ip items.length ic, .slice kp keys.length kc]
          | 3 => ∃ d : Dv, u 3 = d.val ∧ DoorOf w' (betw 0 w'.heap.size) X d
          | 4 => u 4 = .tuple #[.bool res, .int .i64 0]
          | 5 => u 5 = .tuple #[.bool res, .int .i64 0]
          | 6 => u 6 = .bool res
          | 7 => u 7 = .int .i64 0
          | _ => True)
        (by kernel_rfl) (by kernel_rfl) rfl rfl ?mono ?same ?take ?step ?tail
      case mono =>
        intro p u w' w'' hp hF hb
        match p, hF with
        | 0, hF => exact hF
        | 1, ⟨d, h1, h2⟩ => exact ⟨d, h1, h2.keep (fun b h => hb.block b h.2) (fun b h => ⟨h.1, Nat.lt_of_lt_of_le h.2 hb.size⟩)⟩
        | 2, hF => exact hF
        | 3, ⟨d, h1, h2⟩ => exact ⟨d, h1, h2.keep (fun b h => hb.block b h.2) (fun b h => ⟨h.1, Nat.lt_of_lt_of_le h.2 hb.size⟩)⟩
        | 4, hF => exact hF
        | 5, hF => exact hF
        | 6, hF => exact hF
        | 7, hF => exact hF
        | p + 8, _ => exact trivial
      case same =>
        intro p u u' w' hp hd hF
        match p, hd, hF with
        | 0, hd, hF => rw [← hd 0 (by simp)]; exact hF
        | 1, hd, hF => rw [← hd 1 (by simp)]; exact hF
        | 2, hd, hF => rw [← hd 2 (by simp)]; exact hF
        | 3, hd, hF => rw [← hd 3 (by simp)]; exact hF
        | 4, hd, hF => rw [← hd 4 (by simp)]; exact hF
        | 5, hd, hF => rw [← hd 5 (by simp)]; exact hF
        | 6, hd, hF => rw [← hd 6 (by simp)]; exact hF
        | 7, hd, hF => rw [← hd 7 (by simp)]; exact hF
        | p + 8, _, _ => exact trivial
      case take =>
        intro p i o hp ht ho u w5 hb hF
        have hpc : p = 0 ∨ p = 1 ∨ p = 2 ∨ p = 3 ∨ p = 4 ∨ p = 5 ∨ p = 6 ∨ p = 7 := by
          have : p < 8 := (List.getElem?_eq_some_iff.1 hp).1
          omega
        rcases hpc with rfl | rfl | rfl | rfl | rfl | rfl | rfl | rfl
        all_goals
          simp only [List.getElem?_cons_zero, List.getElem?_cons_succ, Option.some.injEq] at hp
          subst hp
        iterate 5 (simp at ht)
        · simp only [List.getElem?_toArray, List.getElem?_cons_zero, List.getElem?_cons_succ, Option.some.injEq] at ho
          subst ho
          have h4 : u 4 = _ := hF 4 4 rfl (by kernel_rfl)
          refine ⟨.tuple #[.bool res, .int .i64 0], .inl ⟨by rfl, fun w => ?_⟩, by simp [upd]⟩
          simp only [putAll, Act.put, List.setIfInBounds_toArray, List.set_cons_succ, List.set_cons_zero, Nat.zero_add, Nat.reduceAdd, h4]
          clear h4 hF
          go_simp
        · simp only [List.getElem?_toArray, List.getElem?_cons_zero, List.getElem?_cons_succ, Option.some.injEq] at ho
          subst ho
          have h5 : u 5 = _ := hF 5 5 rfl (by kernel_rfl)
          refine ⟨.bool res, .inl ⟨by rfl, fun w => ?_⟩, by simp [upd]⟩
          simp only [putAll, Act.put, List.setIfInBounds_toArray, List.set_cons_succ, List.set_cons_zero, Nat.zero_add, Nat.reduceAdd, h5]
          clear h5 hF
          go_simp
        · simp only [List.getElem?_toArray, List.getElem?_cons_zero, List.getElem?_cons_succ, Option.some.injEq] at ho
          subst ho
          have h5 : u 5 = _ := hF 5 5 rfl (by kernel_rfl)
          refine ⟨.int .i64 0, .inl ⟨by rfl, fun w => ?_⟩, by simp [upd]⟩
          simp only [putAll, Act.put, List.setIfInBounds_toArray, List.set_cons_succ, List.set_cons_zero, Nat.zero_add, Nat.reduceAdd, h5]
          clear h5 hF
          go_simp
      case step =>
        intro p i o hp ht ho u w5 hb hF K hK Q'
        have T5 := TA.out.later hb
        obtain ⟨a0, a1, a2, a3, a4, a5, a6⟩ := seven T5.fst
        obtain ⟨d0, d1, d2, d3, d4, d5, d6⟩ := seven T5.snd
        have HB5 := Lib.hid T5.below
        have hpc : p = 0 ∨ p = 1 ∨ p = 2 ∨ p = 3 ∨ p = 4 ∨ p = 5 ∨ p = 6 ∨ p = 7 := by
          have : p < 8 := (List.getElem?_eq_some_iff.1 hp).1
          omega
        rcases hpc with rfl | rfl | rfl | rfl | rfl | rfl | rfl | rfl
        all_goals
          simp only [List.getElem?_cons_zero, List.getElem?_cons_succ, Option.some.injEq] at hp
          subst hp
          simp only [List.getElem?_toArray, List.getElem?_cons_zero, List.getElem?_cons_succ, Option.some.injEq] at ho
          subst ho
          have HF := Lib.hid hF
          clear hF
          simp only [putAll, Act.put, List.setIfInBounds_toArray, List.set_cons_succ, List.set_cons_zero, Nat.zero_add, Nat.reduceAdd] at hK ⊢
        · have HK := Lib.hid hK
          clear hK
          go_simp
          exact HK.out _ _ _ rfl (upd_at _ _ _) (Below.refl _ _)
        · have f0 : u 0 = _ := HF.out 0 0 rfl (by kernel_rfl)
          rw [f0] at hK ⊢
          have HK := Lib.hid hK
          clear hK f0
          go_simp
          refine Calls.mono (by exact COY.out _ HB5.out) ?_
          rintro e w6' ⟨d, rfl, hb6, hd⟩
          exact HK.out _ _ _ rfl ⟨d, upd_at _ _ _, hd.keep (fun b h => rfl) (fun b h => ⟨Nat.zero_le _, h.2⟩)⟩ hb6
        · have HK := Lib.hid hK
          clear hK
          go_simp
          exact HK.out _ _ _ rfl (upd_at _ _ _) (Below.refl _ _)
        · have f0 : u 2 = _ := HF.out 2 2 rfl (by kernel_rfl)
          rw [f0] at hK ⊢
          have HK := Lib.hid hK
          clear hK f0
          go_simp
          refine Calls.mono (by exact COX.out _ HB5.out) ?_
          rintro e w6' ⟨d, rfl, hb6, hd⟩
          exact HK.out _ _ _ rfl ⟨d, upd_at _ _ _, hd.keep (fun b h => rfl) (fun b h => ⟨Nat.zero_le _, h.2⟩)⟩ hb6
        · obtain ⟨d, f1, hd⟩ := HF.out 1 1 rfl (by kernel_rfl)
          obtain ⟨d', f3, hd'⟩ := HF.out 3 3 rfl (by kernel_rfl)
          rw [f1, f3] at hK ⊢
          have HK := Lib.hid hK
          have HC := Lib.hid (DEYX.out w5 _ _ d d' (fun b h => h.2) (fun b h => h.2) hd hd')
          clear hK f1 f3 hd hd'
          go_simp
          refine Calls.mono (by exact HC.out) ?_
          rintro e w6' ⟨rfl, hb6⟩
          exact HK.out _ _ _ rfl (upd_at _ _ _) hb6
        · simp at ht
        · simp at ht
        · simp at ht
      case tail =>
        intro u w5 hb hF K HKK
        have f4 : u 4 = _ := hF 4 (by decide)
        have f5 : u 5 = _ := hF 5 (by decide)
        have f6 : u 6 = _ := hF 6 (by decide)
        have f7 : u 7 = _ := hF 7 (by decide)
        have TW := Lib.hid (TA.out.later hb)
        clear hF hb TA
        simp only [putAll, Act.put, List.setIfInBounds_toArray, List.set_cons_succ, List.set_cons_zero, Nat.zero_add, Nat.reduceAdd, List.filterMap_cons, List.filterMap_nil, List.getElem?_toArray, List.getElem?_cons_zero, List.getElem?_cons_succ, f4, f5, f6, f7]
        clear f4 f5 f6 f7
        go_wp2_with fail
        refine HKK.out _ _ ?_
        clear HKK
        obtain ⟨a0, a1, a2, a3, a4, a5, a6⟩ := seven TW.out.fst
        obtain ⟨d0, d1, d2, d3, d4, d5, d6⟩ := seven TW.out.snd
        cases res
        all_goals
          go_wp2_with fail
          refine Calls.mono (by exact CEXY.out _ (SV.in_later TW.out.below _ HX.out) (SV.in_later TW.out.below _ HY.out)) ?_
          rintro e w9 ⟨rfl, hb⟩
          have TZ := Lib.hid (TW.out.later hb)
          clear hb a0 a1 a2 a3 a4 a5 a6 d0 d1 d2 d3 d4 d5 d6
          go_wp2_with fail
          go_ret
          exact ⟨rfl, TZ.out.below⟩

namespace fnEqual
open Go.ChangeShapes Go.WideShapes Go.ChangeAt

set_option maxRecDepth 100000 in
theorem lifted (os : Os) (started : os.Started) (H : Type) (enc : TypeId × Value → H) :
    ReturnsInHanded {} Try.checked os 5 .any (Rows.fnEqualSpec.pre6 enc Try.prog Try.f5 Rows.fnEqualRow.domain false) (Rows.fnEqualSpec.post enc Try.prog Try.f5 false true false false) := by
  refine returnsInHanded_of_change (C := Try.checked) own started (by kernel_rfl) Try.func5
    (ChangeSpec.witness6 (enc := enc) (C := Try.checked) false ⟨#[], #[zeroV, zeroV], []⟩ 8 (by kernel_rfl) (by kernel_rfl) (by kernel_rfl) (by kernel_rfl)) ?_
  intro W base args ds gs before hval0 hW _ _
  have hval : ∀ (j : Nat) t v, Try.f5.params[j]? = some t → args[j]? = some v → Value.okWide Try.prog W .any base t v := hval0
  have hW' := hW
  obtain ⟨p, q, hA0, hV, rfl, hfz, hnd⟩ := hW
  have hA : DataW.TrodAll enc Try.prog W 0 (fun _ => true) true Try.f5.params.toList args.toList ds p := hA0
  rw [Try.params5] at hA hval
  obtain ⟨v0, vs0, d0, ds0, p0, q0, hargs, rfl, rfl, h0, r0⟩ := trodAll_cons hA
  obtain ⟨v1, vs1, d1, ds1, p1, q1, rfl, rfl, rfl, h1, r1⟩ := trodAll_cons r0
  obtain ⟨rfl, rfl, rfl⟩ := trodAll_nil r1
  obtain rfl : args = #[v0, v1] := by cases args; simp_all
  obtain ⟨rfl, rfl⟩ := trodVars_none hV
  obtain ⟨x, rfl, hx⟩ := open_V (hval 0 30 v0 rfl rfl) h0
  obtain ⟨y, rfl, hy⟩ := open_V (hval 1 30 v1 rfl rfl) h1
  clear hA0 hval0
  refine (fnEqual_any x y W hx hy).mono fun e W' ⟨he, hb⟩ => ?_
  subst he
  exact ⟨_, rfl, law_post hW' rfl rfl (by intro t ht; rw [Try.params5] at ht; simp at ht; subst ht; exact ⟨by kernel_rfl, of_decide_eq_true (by kernel_rfl)⟩) rfl rfl rfl hb⟩

theorem proved : Rows.FnEqualSaid :=
  OpenClaim.holds_of_wide 5 Try.f5 rfl rfl rfl rfl rfl rfl rfl ⟨rfl, rfl, rfl, rfl, rfl⟩ rfl rfl rfl rfl rfl (by kernel_rfl) Try.func5 (by kernel_rfl)
    (of_decide_eq_true (by kernel_rfl)) (by unfold Func.isWrapper; first | (rw [if_pos (by decide +kernel)]; kernel_rfl) | (rw [if_neg (by decide +kernel)]; exact ⟨rfl, rfl⟩))
    (fun os started H enc _ => lifted os started H enc)
end fnEqual

/-- THE STATEMENT. -/
theorem fnEqual_holds : Rows.FnEqualSaid := fnEqual.proved
#print axioms fnEqual_holds
end Go.Proofs.Ythmogfjmngbamaa

