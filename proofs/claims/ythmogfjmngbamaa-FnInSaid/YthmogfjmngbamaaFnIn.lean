/-
  What is proved: 'laws.FnIn' returns true for every two values of the reference that can be read as data, and leaves all memory that was there as it was. No condition.
-/
import Derived.Test.YthmogfjmngbamaaInn
namespace Go.Proofs.Ythmogfjmngbamaa
open Go.RowKit
set_option linter.unusedSimpArgs false
set_option linter.unusedVariables false

set_option maxHeartbeats 4000000 in
set_option maxRecDepth 100000 in
theorem fnIn_any (x y : SV) (w : World) (hx : SV.In w x) (hy : SV.In w y) : Calls Try.prog 6 #[x.val, y.val] w (Holds w) := by
  have HX := Lib.hid hx
  have HY := Lib.hid hy
  clear hx hy
  have F1 := Lib.hid (zzFits3_any x)
  have F2 := Lib.hid (zzFits3_any y)
  have P1 := Lib.hid (cuPlain_any x)
  have P2 := Lib.hid (CuFits_any y)
  have MM := Lib.hid (cuHasMap_any y)
  have C1 := Lib.hid (cuOf_any w x 10)
  have C2 := Lib.hid (cuOf_any w y 10)
  have C3 := Lib.hid (fun z => cuEqual_any x z)
  generalize hxx : x = X at *
  generalize hyy : y = Y at *
  cases x with
  | mk k n f t b ip ic items kp kc keys =>
  cases y with
  | mk k2 n2 f2 t2 b2 ip2 ic2 items2 kp2 kc2 keys2 =>
  have vx : X.val = .agg #[.int .i64 k, .int .i64 n, .float .f64 f, .string t, .bool b, .slice ip items.length ic, .slice kp keys.length kc] := by rw [← hxx]; rfl
  have vy : Y.val = .agg #[.int .i64 k2, .int .i64 n2, .float .f64 f2, .string t2, .bool b2, .slice ip2 items2.length ic2, .slice kp2 keys2.length kc2] := by rw [← hyy]; rfl
  have e1 : Y.kind = k2 := by rw [← hyy]; rfl
  have e2 : Y.keys = keys2 := by rw [← hyy]; rfl
  have e3 : Y.items = items2 := by rw [← hyy]; rfl
  have e4 : Y.ip = ip2 := by rw [← hyy]; rfl
  have e5 : Y.kp = kp2 := by rw [← hyy]; rfl
  have e6 : X.text = t := by rw [← hxx]; rfl
  have e7 : X.kind = k := by rw [← hxx]; rfl
  have hic : items2.length ≤ ic2 ∧ ic2 ≤ 9223372036854775807 := by have := (SV.in_flat HY.out).items; rw [← hyy] at this; exact this
  have hkcap : keys2.length ≤ kc2 ∧ kc2 ≤ 9223372036854775807 := by have := (SV.in_flat HY.out).keys; rw [← hyy] at this; exact this
  rw [vx] at F1 P1 C1 C3 ⊢
  rw [vy] at F2 P2 MM C2 ⊢
  clear vx vy hxx hyy
  go_enter Try.func6, Try.ntmps6
  go_wp2_with fail
  refine Calls.mono (by exact F1.out _ (SV.in_later (((Below.refl _ _).alloc (Nat.le_refl _) _).alloc (by simp) _) _ HX.out)) ?_
  rintro e w1 ⟨r, -, rfl, hb⟩
  have T1 := Lib.hid (Two.mk' hb)
  clear hb
  obtain ⟨a0, a1, a2, a3, a4, a5, a6⟩ := seven T1.out.fst
  obtain ⟨d0, d1, d2, d3, d4, d5, d6⟩ := seven T1.out.snd
  cases r
  · go_wp2_with fail
    go_ret
    exact ⟨rfl, T1.out.below⟩
  go_wp2_with fail
  refine Calls.mono (by exact F2.out _ (SV.in_later T1.out.below _ HY.out)) ?_
  rintro e w2 ⟨r, -, rfl, hb⟩
  have T2 := Lib.hid (T1.out.later hb)
  clear T1 a0 a1 a2 a3 a4 a5 a6 d0 d1 d2 d3 d4 d5 d6
  clear hb
  obtain ⟨a0, a1, a2, a3, a4, a5, a6⟩ := seven T2.out.fst
  obtain ⟨d0, d1, d2, d3, d4, d5, d6⟩ := seven T2.out.snd
  cases r
  · go_wp2_with fail
    go_ret
    exact ⟨rfl, T2.out.below⟩
  go_wp2_with fail
  refine Calls.mono (by exact P1.out _ (SV.in_later T2.out.below _ HX.out)) ?_
  rintro e w3 ⟨r, hr, rfl, hb⟩
  have T3 := Lib.hid (T2.out.later hb)
  clear T2 a0 a1 a2 a3 a4 a5 a6 d0 d1 d2 d3 d4 d5 d6
  clear hb
  obtain ⟨a0, a1, a2, a3, a4, a5, a6⟩ := seven T3.out.fst
  obtain ⟨d0, d1, d2, d3, d4, d5, d6⟩ := seven T3.out.snd
  cases r
  · clear hr
    go_wp2_with fail
    go_ret
    exact ⟨rfl, T3.out.below⟩
  have HPX := Lib.hid (hr rfl)
  clear hr
  go_wp2_with fail
  refine Calls.mono (by exact P2.out _ (SV.in_later T3.out.below _ HY.out)) ?_
  rintro e w4 ⟨r, hr, rfl, hb⟩
  have T4 := Lib.hid (T3.out.later hb)
  clear T3 a0 a1 a2 a3 a4 a5 a6 d0 d1 d2 d3 d4 d5 d6
  clear hb
  have T3 := Lib.hid T4.out
  clear T4
  obtain ⟨a0, a1, a2, a3, a4, a5, a6⟩ := seven T3.out.fst
  obtain ⟨d0, d1, d2, d3, d4, d5, d6⟩ := seven T3.out.snd
  cases r
  · clear hr
    go_wp2_with fail
    go_ret
    exact ⟨rfl, T3.out.below⟩
  have HRY := Lib.hid (hr rfl)
  clear hr
  by_cases h5 : k2 = 5
  · subst h5
    go_wp2_with fail
    refine Calls.mono (by exact MM.out _ (SV.in_later T3.out.below _ HY.out) HRY.out.1) ?_
    rintro e w5 ⟨r, hr, rfl, hb⟩
    have T4 := Lib.hid (T3.out.later hb)
    clear T3 a0 a1 a2 a3 a4 a5 a6 d0 d1 d2 d3 d4 d5 d6
    clear hb
    have T3 := Lib.hid T4.out
    clear T4
    obtain ⟨a0, a1, a2, a3, a4, a5, a6⟩ := seven T3.out.fst
    obtain ⟨d0, d1, d2, d3, d4, d5, d6⟩ := seven T3.out.snd
    cases r
    case true =>
      clear hr
      go_wp2_with fail
      go_ret
      exact ⟨rfl, T3.out.below⟩
    have IPL0 : Hid (∀ z ∈ Y.items, SV.Plain z) := SV.Eqd.items ⟨HRY.out.1, HRY.out.2.1, HRY.out.2.2, hr rfl⟩
    have IPL : Hid (∀ z ∈ items2, SV.Plain z) := by have h := IPL0.out; rw [e3] at h; exact h
    have IND : SV.Ind X Y := ⟨HPX.out, HPX.out.ok, HPX.out.parts_le, HPX.out.small, HRY.out.1, HRY.out.2.1, HRY.out.2.2, .inr (.inl ⟨e1, IPL0.out⟩)⟩
    clear hr
    go_wp2_with fail
    clear a0 a1 a2 a3 a4 a5 a6 d0 d1 d2 d3 d4 d5 d6
    have T4 := Lib.hid T3.out
    clear T3
    have IX := Lib.hid IND
    have IXY := Lib.hid (fun w B B2 d d2 hB hB2 hd hd2 => implIn X Y w B B2 d d2 hB hB2 hd hd2 IX.out)
    have NI := Lib.hid (fun w B B2 d d2 hB hB2 hd hd2 => implIn X nilV w B B2 d d2 hB hB2 hd hd2 (ind_nil HPX.out))
    have OI := Lib.hid (fun w B B2 d d2 hB hB2 hd hd2 => implIn oneV onesV w B B2 d d2 hB hB2 hd hd2 ind_ones)
    rw [inV_nil] at NI
    rw [inV_ones] at OI
    have CE := Lib.hid (fun z (hz : SV.Plain z) w h1 h2 => C3.out z w h1 h2 HPX.out.eqd hz.eqd)
    have CE := Lib.hid (fun z (hz : SV.Plain z) => by have h := CE.out z hz; rw [eqV_plain HPX.out hz] at h; exact h)
    have PL : Hid (∀ (j : Nat) (z : SV), items2[j]? = some z → SV.Plain z) := fun j z hz => IPL.out z (List.mem_iff_getElem?.2 ⟨j, hz⟩)
    have WA : Hid (wantL X items2 items2.length = inV X Y) := by
      show _ = _
      rw [wantL_all]
      unfold inV
      rw [if_pos e1, e3]
    have COX := Lib.hid (fun w' hb => C1.out w' HX.out hb HPX.out.ok HPX.out.parts_le HPX.out.small)
    have COY := Lib.hid (fun w' hb => C2.out w' HY.out hb HRY.out.1 HRY.out.2.1 HRY.out.2.2)
    generalize inV X Y = res at *
    clear C1 C2 C3 F1 F2 P1 P2 MM
    have TA := T4
    refine wp_region_chain [0, 1, 2, 3, 4, 5, 6, 7] [5, 6, 7] [8, 9] [some 58, some 59, some 60, some 61, some 62, some 57, some 63, some 64] _
      (fun p => [p])
      (fun p u w' => match p with
        | 0 => u 0 = .agg #[.int .i64 k, .int .i64 n, .float .f64 f, .string t, .bool b, .slice ip items.length ic, .slice kp keys.length kc]
        | 1 => ∃ d : Dv, u 1 = d.val ∧ DoorOf w' (betw 0 w'.heap.size) X d
        | 2 => u 2 = .agg #[.int .i64 5, .int .i64 n2, .float .f64 f2, .string t2, .bool b2, .slice ip2 items2.length ic2, .slice kp2 keys2.length kc2]
        | 3 => ∃ d : Dv, u 3 = d.val ∧ DoorOf w' (betw 0 w'.heap.size) Y d
        | 4 => u 4 = .tuple #[.bool res, .int .i64 0]
        | 5 => u 5 = .tuple #[.bool res, .int .i64 0]
        | 6 => u 6 = .bool res
        | 7 => u 7 = .int .i64 0
        | _ => True)
      (by kernel_rfl) (by kernel_rfl) rfl rfl ?mono ?same ?take ?step ?tail
    case mono =>
      intro p u w' w'' hp hF hb
      match p, hF with
      | 0, hF => exact hF
      | 1, ⟨d, h1, h2⟩ => exact ⟨d, h1, h2.keep (fun b h => hb.block b h.2) (fun b h => ⟨h.1, Nat.lt_of_lt_of_le h.2 hb.size⟩)⟩
      | 2, hF => exact hF
      | 3, ⟨d, h1, h2⟩ => exact ⟨d, h1, h2.keep (fun b h => hb.block b h.2) (fun b h => ⟨h.1, Nat.lt_of_lt_of_le h.2 hb.size⟩)⟩
      | 4, hF => exact hF
      | 5, hF => exact hF
      | 6, hF => exact hF
      | 7, hF => exact hF
      | p + 8, _ => exact trivial
    case same =>
      intro p u u' w' hp hd hF
      match p, hd, hF with
      | 0, hd, hF => rw [← hd 0 (by simp)]; exact hF
      | 1, hd, hF => rw [← hd 1 (by simp)]; exact hF
      | 2, hd, hF => rw [← hd 2 (by simp)]; exact hF
      | 3, hd, hF => rw [← hd 3 (by simp)]; exact hF
      | 4, hd, hF => rw [← hd 4 (by simp)]; exact hF
      | 5, hd, hF => rw [← hd 5 (by simp)]; exact hF
      | 6, hd, hF => rw [← hd 6 (by simp)]; exact hF
      | 7, hd, hF => rw [← hd 7 (by simp)]; exact hF
      | p + 8, _, _ => exact trivial
    case take =>
      intro p i o hp ht ho u w5 hb hF
      have hpc : p = 0 ∨ p = 1 ∨ p = 2 ∨ p = 3 ∨ p = 4 ∨ p = 5 ∨ p = 6 ∨ p = 7 := by
        have : p < 8 := (List.getElem?_eq_some_iff.1 hp).1
        omega
      rcases hpc with rfl | rfl | rfl | rfl | rfl | rfl | rfl | rfl
      all_goals
        simp only [List.getElem?_cons_zero, List.getElem?_cons_succ, Option.some.injEq] at hp
        subst hp
      iterate 5 (simp at ht)
      · simp only [List.getElem?_toArray, List.getElem?_cons_zero, List.getElem?_cons_succ, Option.some.injEq] at ho
        subst ho
        have h4 : u 4 = _ := hF 4 4 rfl (by kernel_rfl)
        refine ⟨.tuple #[.bool res, .int .i64 0], .inl ⟨by rfl, fun w => ?_⟩, by simp [upd]⟩
        simp only [putAll, Act.put, List.setIfInBounds_toArray, List.set_cons_succ, List.set_cons_zero, Nat.zero_add, Nat.reduceAdd, h4]
        clear h4 hF
        go_simp
      · simp only [List.getElem?_toArray, List.getElem?_cons_zero, List.getElem?_cons_succ, Option.some.injEq] at ho
        subst ho
        have h5 : u 5 = _ := hF 5 5 rfl (by kernel_rfl)
        refine ⟨.bool res, .inl ⟨by rfl, fun w => ?_⟩, by simp [upd]⟩
        simp only [putAll, Act.put, List.setIfInBounds_toArray, List.set_cons_succ, List.set_cons_zero, Nat.zero_add, Nat.reduceAdd, h5]
        clear h5 hF
        go_simp
      · simp only [List.getElem?_toArray, List.getElem?_cons_zero, List.getElem?_cons_succ, Option.some.injEq] at ho
        subst ho
        have h5 : u 5 = _ := hF 5 5 rfl (by kernel_rfl)
        refine ⟨.int .i64 0, .inl ⟨by rfl, fun w => ?_⟩, by simp [upd]⟩
        simp only [putAll, Act.put, List.setIfInBounds_toArray, List.set_cons_succ, List.set_cons_zero, Nat.zero_add, Nat.reduceAdd, h5]
        clear h5 hF
        go_simp
    case step =>
      intro p i o hp ht ho u w5 hb hF K hK Q'
      have T5 := TA.out.later hb
      obtain ⟨a0, a1, a2, a3, a4, a5, a6⟩ := seven T5.fst
      obtain ⟨d0, d1, d2, d3, d4, d5, d6⟩ := seven T5.snd
      have HB5 := Lib.hid T5.below
      have hpc : p = 0 ∨ p = 1 ∨ p = 2 ∨ p = 3 ∨ p = 4 ∨ p = 5 ∨ p = 6 ∨ p = 7 := by
        have : p < 8 := (List.getElem?_eq_some_iff.1 hp).1
        omega
      rcases hpc with rfl | rfl | rfl | rfl | rfl | rfl | rfl | rfl
      all_goals
        simp only [List.getElem?_cons_zero, List.getElem?_cons_succ, Option.some.injEq] at hp
        subst hp
        simp only [List.getElem?_toArray, List.getElem?_cons_zero, List.getElem?_cons_succ, Option.some.injEq] at ho
        subst ho
        have HF := Lib.hid hF
        clear hF
        simp only [putAll, Act.put, List.setIfInBounds_toArray, List.set_cons_succ, List.set_cons_zero, Nat.zero_add, Nat.reduceAdd] at hK ⊢
      · have HK := Lib.hid hK
        clear hK
        go_simp
        exact HK.out _ _ _ rfl (upd_at _ _ _) (Below.refl _ _)
      · have f0 : u 0 = _ := HF.out 0 0 rfl (by kernel_rfl)
        rw [f0] at hK ⊢
        have HK := Lib.hid hK
        clear hK f0
        go_simp
        refine Calls.mono (by exact COX.out _ HB5.out) ?_
        rintro e w6' ⟨d, rfl, hb6, hd⟩
        exact HK.out _ _ _ rfl ⟨d, upd_at _ _ _, hd.keep (fun b h => rfl) (fun b h => ⟨Nat.zero_le _, h.2⟩)⟩ hb6
      · have HK := Lib.hid hK
        clear hK
        go_simp
        exact HK.out _ _ _ rfl (upd_at _ _ _) (Below.refl _ _)
      · have f0 : u 2 = _ := HF.out 2 2 rfl (by kernel_rfl)
        rw [f0] at hK ⊢
        have HK := Lib.hid hK
        clear hK f0
        go_simp
        refine Calls.mono (by exact COY.out _ HB5.out) ?_
        rintro e w6' ⟨d, rfl, hb6, hd⟩
        exact HK.out _ _ _ rfl ⟨d, upd_at _ _ _, hd.keep (fun b h => rfl) (fun b h => ⟨Nat.zero_le _, h.2⟩)⟩ hb6
      · obtain ⟨d, f1, hd⟩ := HF.out 1 1 rfl (by kernel_rfl)
        obtain ⟨d', f3, hd'⟩ := HF.out 3 3 rfl (by kernel_rfl)
        rw [f1, f3] at hK ⊢
        have HK := Lib.hid hK
        have HC := Lib.hid (IXY.out w5 _ _ d d' (fun b h => h.2) (fun b h => h.2) hd hd')
        clear hK f1 f3 hd hd'
        go_simp
        refine Calls.mono (by exact HC.out) ?_
        rintro e w6' ⟨rfl, hb6⟩
        exact HK.out _ _ _ rfl (upd_at _ _ _) hb6
      · simp at ht
      · simp at ht
      · simp at ht
    case tail =>
      intro u w5 hb hF K HKK
      have f4 : u 4 = _ := hF 4 (by decide)
      have f5 : u 5 = _ := hF 5 (by decide)
      have f6 : u 6 = _ := hF 6 (by decide)
      have f7 : u 7 = _ := hF 7 (by decide)
      have TW := Lib.hid (TA.out.later hb)
      clear hF hb TA
      simp only [putAll, Act.put, List.setIfInBounds_toArray, List.set_cons_succ, List.set_cons_zero, Nat.zero_add, Nat.reduceAdd, List.filterMap_cons, List.filterMap_nil, List.getElem?_toArray, List.getElem?_cons_zero, List.getElem?_cons_succ, f4, f5, f6, f7]
      clear f4 f5 f6 f7
      go_wp2_with fail
      refine HKK.out _ _ ?_
      clear HKK
      obtain ⟨a0, a1, a2, a3, a4, a5, a6⟩ := seven TW.out.fst
      obtain ⟨d0, d1, d2, d3, d4, d5, d6⟩ := seven TW.out.snd
      go_wp2_with fail
      clear a0 a1 a2 a3 a4 a5 a6 d0 d1 d2 d3 d4 d5 d6
      go_loopw [7, 68] (fun v i wr => ∃ j : Nat, j ≤ items2.length ∧ i = .int .i64 j ∧ v = .bool (wantL X items2 j) ∧ Hid (Two w wr (.cells #[.int .i64 k, .int .i64 n, .float .f64 f, .string t, .bool b, .slice ip items.length ic, .slice kp keys.length kc] 30) (.cells #[.int .i64 5, .int .i64 n2, .float .f64 f2, .string t2, .bool b2, .slice ip2 items2.length ic2, .slice kp2 keys2.length kc2] 30))) (fun _ i _ => items2.length - (intOf i).toNat)
      case atStart => exact ⟨0, Nat.zero_le _, rfl, by rw [wantL_zero], TW.out⟩
      case round =>
        obtain ⟨j, hj, rfl, rfl, TR⟩ := hrel
        by_cases hlt : j < items2.length
        · have hit := SV.in_item (SV.in_later TR.out.below _ HY.out) (show Y.items[j]? = some items2[j] by rw [e3]; exact List.getElem?_eq_getElem hlt)
          rw [e4] at hit
          obtain ⟨⟨bi, oi, hip, hcs⟩, hin⟩ := hit
          subst hip
          have HJ := Lib.hid (show items2[j]? = some items2[j] from List.getElem?_eq_getElem hlt)
          generalize items2[j] = Y' at *
          have BW : Hid (Below wr.heap.size wr (wr.alloc (.cells Y'.cells.toArray 30))) := (Below.refl _ _).alloc (Nat.le_refl _) _
          have HIN := Lib.hid (SV.in_later BW.out _ hin)
          have TA := Lib.hid (TR.out.later BW.out)
          clear hin BW
          obtain ⟨k3, n3, f3, t3, b3, ip3, ic3, items3, kp3, kc3, keys3, cy, vy⟩ : ∃ k2 n2 f2 t2 b2 ip2 ic2 items2 kp2 kc2 keys2, Y'.cells = [.int .i64 k2, .int .i64 n2, .float .f64 f2, .string t2, .bool b2, .slice ip2 (List.length (α := SV) items2) ic2, .slice kp2 (List.length (α := ByteArray) keys2) kc2] ∧
              Y'.val = .agg #[.int .i64 k2, .int .i64 n2, .float .f64 f2, .string t2, .bool b2, .slice ip2 (List.length (α := SV) items2) ic2, .slice kp2 (List.length (α := ByteArray) keys2) kc2] := ⟨_, _, _, _, _, _, _, _, _, _, _, rfl, rfl⟩
          rw [cy] at hcs TA HIN
          have c0 := hcs 0 _ rfl
          have c1 := hcs 1 _ rfl
          have c2 := hcs 2 _ rfl
          have c3 := hcs 3 _ rfl
          have c4 := hcs 4 _ rfl
          have c5 := hcs 5 _ rfl
          have c6 := hcs 6 _ rfl
          clear hcs
          simp only [Nat.add_zero] at c0
          generalize hw : wantL X items2 j = W
          have HW := Lib.hid hw
          clear hw
          obtain ⟨a0, a1, a2, a3, a4, a5, a6⟩ := seven TR.out.fst
          obtain ⟨d0, d1, d2, d3, d4, d5, d6⟩ := seven TR.out.snd
          obtain ⟨aa0, aa1, aa2, aa3, aa4, aa5, aa6⟩ := seven TA.out.fst
          obtain ⟨dd0, dd1, dd2, dd3, dd4, dd5, dd6⟩ := seven TA.out.snd
          cases W
          · have HQ := Lib.hid (CE.out Y' (PL.out j _ HJ.out))
            rw [vy] at HQ
            go_wp2_with fail
            refine Calls.mono (by exact HQ.out _ (SV.in_later TA.out.below _ HX.out) HIN.out) ?_
            rintro e w9 ⟨rfl, hb9⟩
            have TB := Lib.hid (TA.out.later hb9)
            clear hb9 c0 c1 c2 c3 c4 c5 c6
            go_wp2_with fail
            go_roundw
            case rel => exact ⟨j + 1, by omega, by go_num, by rw [wantL_succ X HJ.out, HW.out]; rfl, TB.out⟩
            case measure => simp [intOf]; omega
          · go_wp2_with fail
            go_roundw
            case rel => exact ⟨j + 1, by omega, by go_num, by rw [wantL_succ X HJ.out, HW.out]; rfl, TA.out⟩
            case measure => simp [intOf]; omega
        · have hjn : j = items2.length := by omega
          subst hjn
          rw [WA.out]
          have TW := Lib.hid TR.out
          clear TR
          obtain ⟨a0, a1, a2, a3, a4, a5, a6⟩ := seven TW.out.fst
          obtain ⟨d0, d1, d2, d3, d4, d5, d6⟩ := seven TW.out.snd
          go_wp2_with fail
          refine Calls.mono (by exact COX.out _ TW.out.below) ?_
          rintro e w6 ⟨d, rfl, hb6, hd6⟩
          have T6 := Lib.hid (TW.out.later hb6)
          have HC := Lib.hid (NI.out w6 _ (fun _ => False) d (Dv.plain nilV) (fun b h => h.2) (fun b h => h.elim) hd6 (.plain nilV ⟨by decide, by decide⟩))
          rw [nil_door] at HC
          clear hb6 hd6 a0 a1 a2 a3 a4 a5 a6 d0 d1 d2 d3 d4 d5 d6
          go_wp2_with fail
          refine Calls.mono (by exact HC.out) ?_
          rintro e w7 ⟨rfl, hb7⟩
          have T7 := Lib.hid (T6.out.later hb7)
          clear hb7 HC
          have BO := Lib.hid ((Below.refl w7.heap.size w7).alloc (Nat.le_refl _) (.cells #[Value.int .i64 1, .int .i64 1, .int .u64 0, .float .f64 0, .string ⟨#[]⟩, .bool false, .slice none 0 0, .slice none 0 0] 35))
          have T8 := Lib.hid (T7.out.later BO.out)
          have HO := Lib.hid (heap_alloc_new w7 (.cells #[Value.int .i64 1, .int .i64 1, .int .u64 0, .float .f64 0, .string ⟨#[]⟩, .bool false, .slice none 0 0, .slice none 0 0] 35))
          have HC := Lib.hid (OI.out _ (fun _ => False) _ (Dv.plain oneV) (Dv.list (some ⟨w7.heap.size, 0, none⟩) 1 1) (fun b h => h.elim) (fun b h => by rw [h]; exact lt_of_block HO.out) (.plain oneV ⟨by decide, by decide⟩) (ones_door HO.out))
          rw [one_door] at HC
          simp only [Dv.val, Dv.list] at HC
          go_wp2_with fail
          refine Calls.mono (by exact HC.out) ?_
          rintro e w9 ⟨rfl, hb9⟩
          have TZ := Lib.hid (T8.out.later hb9)
          clear hb9
          cases res
          all_goals
            go_wp2_with fail
            go_ret
            exact ⟨rfl, TZ.out.below⟩

  · by_cases h6 : k2 = 6
    · subst h6
      have HKL : Hid (keys2.length = items2.length) := by
        have h := ((SV.ok_shape HRY.out.1).2.2.2.2 e1).1
        rw [e2, e3] at h
        exact h
      by_cases h3 : k = 3
      · subst h3
        have IND : SV.Ind X Y := ⟨HPX.out, HPX.out.ok, HPX.out.parts_le, HPX.out.small, HRY.out.1, HRY.out.2.1, HRY.out.2.2, .inr (.inr ⟨e1, e7⟩)⟩
        go_wp2_with fail
        clear a0 a1 a2 a3 a4 a5 a6 d0 d1 d2 d3 d4 d5 d6
        have T4 := Lib.hid T3.out
        clear T3
        have IX := Lib.hid IND
        have IXY := Lib.hid (fun w B B2 d d2 hB hB2 hd hd2 => implIn X Y w B B2 d d2 hB hB2 hd hd2 IX.out)
        have NI := Lib.hid (fun w B B2 d d2 hB hB2 hd hd2 => implIn X nilV w B B2 d d2 hB hB2 hd hd2 (ind_nil HPX.out))
        have OI := Lib.hid (fun w B B2 d d2 hB hB2 hd hd2 => implIn oneV onesV w B B2 d d2 hB hB2 hd hd2 ind_ones)
        rw [inV_nil] at NI
        rw [inV_ones] at OI
        have HST : Hid (∀ w', Below w.heap.size w w' → strsAt w' kp2 keys2) := fun w' hb => by
          have h := (SV.in_flat (SV.in_later hb _ HY.out)).strs
          rwa [e2, e5] at h
        have WA : Hid (wantK t keys2 items2.length = inV X Y) := by
          show _ = _
          rw [← HKL.out, wantK_all]
          unfold inV
          rw [if_neg (by rw [e1]; decide), if_pos e1, e2, e6]
        have COX := Lib.hid (fun w' hb => C1.out w' HX.out hb HPX.out.ok HPX.out.parts_le HPX.out.small)
        have COY := Lib.hid (fun w' hb => C2.out w' HY.out hb HRY.out.1 HRY.out.2.1 HRY.out.2.2)
        generalize inV X Y = res at *
        clear C1 C2 C3 F1 F2 P1 P2 MM
        have TA := T4
        refine wp_region_chain [0, 1, 2, 3, 4, 5, 6, 7] [5, 6, 7] [8, 9] [some 58, some 59, some 60, some 61, some 62, some 57, some 63, some 64] _
          (fun p => [p])
          (fun p u w' => match p with
            | 0 => u 0 = .agg #[.int .i64 3, .int .i64 n, .float .f64 f, .string t, .bool b, .slice ip items.length ic, .slice kp keys.length kc]
            | 1 => ∃ d : Dv, u 1 = d.val ∧ DoorOf w' (betw 0 w'.heap.size) X d
            | 2 => u 2 = .agg #[.int .i64 6, .int .i64 n2, .float .f64 f2, .string t2, .bool b2, .slice ip2 items2.length ic2, .slice kp2 keys2.length kc2]
            | 3 => ∃ d : Dv, u 3 = d.val ∧ DoorOf w' (betw 0 w'.heap.size) Y d
            | 4 => u 4 = .tuple #[.bool res, .int .i64 0]
            | 5 => u 5 = .tuple #[.bool res, .int .i64 0]
            | 6 => u 6 = .bool res
            | 7 => u 7 = .int .i64 0
            | _ => True)
          (by kernel_rfl) (by kernel_rfl) rfl rfl ?mono ?same ?take ?step ?tail
        case mono =>
          intro p u w' w'' hp hF hb
          match p, hF with
          | 0, hF => exact hF
          | 1, ⟨d, h1, h2⟩ => exact ⟨d, h1, h2.keep (fun b h => hb.block b h.2) (fun b h => ⟨h.1, Nat.lt_of_lt_of_le h.2 hb.size⟩)⟩
          | 2, hF => exact hF
          | 3, ⟨d, h1, h2⟩ => exact ⟨d, h1, h2.keep (fun b h => hb.block b h.2) (fun b h => ⟨h.1, Nat.lt_of_lt_of_le h.2 hb.size⟩)⟩
          | 4, hF => exact hF
          | 5, hF => exact hF
          | 6, hF => exact hF
          | 7, hF => exact hF
          | p + 8, _ => exact trivial
        case same =>
          intro p u u' w' hp hd hF
          match p, hd, hF with
          | 0, hd, hF => rw [← hd 0 (by simp)]; exact hF
          | 1, hd, hF => rw [← hd 1 (by simp)]; exact hF
          | 2, hd, hF => rw [← hd 2 (by simp)]; exact hF
          | 3, hd, hF => rw [← hd 3 (by simp)]; exact hF
          | 4, hd, hF => rw [← hd 4 (by simp)]; exact hF
          | 5, hd, hF => rw [← hd 5 (by simp)]; exact hF
          | 6, hd, hF => rw [← hd 6 (by simp)]; exact hF
          | 7, hd, hF => rw [← hd 7 (by simp)]; exact hF
          | p + 8, _, _ => exact trivial
        case take =>
          intro p i o hp ht ho u w5 hb hF
          have hpc : p = 0 ∨ p = 1 ∨ p = 2 ∨ p = 3 ∨ p = 4 ∨ p = 5 ∨ p = 6 ∨ p = 7 := by
            have : p < 8 := (List.getElem?_eq_some_iff.1 hp).1
            omega
          rcases hpc with rfl | rfl | rfl | rfl | rfl | rfl | rfl | rfl
          all_goals
            simp only [List.getElem?_cons_zero, List.getElem?_cons_succ, Option.some.injEq] at hp
            subst hp
          iterate 5 (simp at ht)
          · simp only [List.getElem?_toArray, List.getElem?_cons_zero, List.getElem?_cons_succ, Option.some.injEq] at ho
            subst ho
            have h4 : u 4 = _ := hF 4 4 rfl (by kernel_rfl)
            refine ⟨.tuple #[.bool res, .int .i64 0], .inl ⟨by rfl, fun w => ?_⟩, by simp [upd]⟩
            simp only [putAll, Act.put, List.setIfInBounds_toArray, List.set_cons_succ, List.set_cons_zero, Nat.zero_add, Nat.reduceAdd, h4]
            clear h4 hF
            go_simp
          · simp only [List.getElem?_toArray, List.getElem?_cons_zero, List.getElem?_cons_succ, Option.some.injEq] at ho
            subst ho
            have h5 : u 5 = _ := hF 5 5 rfl (by kernel_rfl)
            refine ⟨.bool res, .inl ⟨by rfl, fun w => ?_⟩, by simp [upd]⟩
            simp only [putAll, Act.put, List.setIfInBounds_toArray, List.set_cons_succ, List.set_cons_zero, Nat.zero_add, Nat.reduceAdd, h5]
            clear h5 hF
            go_simp
          · simp only [List.getElem?_toArray, List.getElem?_cons_zero, List.getElem?_cons_succ, Option.some.injEq] at ho
            subst ho
            have h5 : u 5 = _ := hF 5 5 rfl (by kernel_rfl)
            refine ⟨.int .i64 0, .inl ⟨by rfl, fun w => ?_⟩, by simp [upd]⟩
            simp only [putAll, Act.put, List.setIfInBounds_toArray, List.set_cons_succ, List.set_cons_zero, Nat.zero_add, Nat.reduceAdd, h5]
            clear h5 hF
            go_simp
        case step =>
          intro p i o hp ht ho u w5 hb hF K hK Q'
          have T5 := TA.out.later hb
          obtain ⟨a0, a1, a2, a3, a4, a5, a6⟩ := seven T5.fst
          obtain ⟨d0, d1, d2, d3, d4, d5, d6⟩ := seven T5.snd
          have HB5 := Lib.hid T5.below
          have hpc : p = 0 ∨ p = 1 ∨ p = 2 ∨ p = 3 ∨ p = 4 ∨ p = 5 ∨ p = 6 ∨ p = 7 := by
            have : p < 8 := (List.getElem?_eq_some_iff.1 hp).1
            omega
          rcases hpc with rfl | rfl | rfl | rfl | rfl | rfl | rfl | rfl
          all_goals
            simp only [List.getElem?_cons_zero, List.getElem?_cons_succ, Option.some.injEq] at hp
            subst hp
            simp only [List.getElem?_toArray, List.getElem?_cons_zero, List.getElem?_cons_succ, Option.some.injEq] at ho
            subst ho
            have HF := Lib.hid hF
            clear hF
            simp only [putAll, Act.put, List.setIfInBounds_toArray, List.set_cons_succ, List.set_cons_zero, Nat.zero_add, Nat.reduceAdd] at hK ⊢
          · have HK := Lib.hid hK
            clear hK
            go_simp
            exact HK.out _ _ _ rfl (upd_at _ _ _) (Below.refl _ _)
          · have f0 : u 0 = _ := HF.out 0 0 rfl (by kernel_rfl)
            rw [f0] at hK ⊢
            have HK := Lib.hid hK
            clear hK f0
            go_simp
            refine Calls.mono (by exact COX.out _ HB5.out) ?_
            rintro e w6' ⟨d, rfl, hb6, hd⟩
            exact HK.out _ _ _ rfl ⟨d, upd_at _ _ _, hd.keep (fun b h => rfl) (fun b h => ⟨Nat.zero_le _, h.2⟩)⟩ hb6
          · have HK := Lib.hid hK
            clear hK
            go_simp
            exact HK.out _ _ _ rfl (upd_at _ _ _) (Below.refl _ _)
          · have f0 : u 2 = _ := HF.out 2 2 rfl (by kernel_rfl)
            rw [f0] at hK ⊢
            have HK := Lib.hid hK
            clear hK f0
            go_simp
            refine Calls.mono (by exact COY.out _ HB5.out) ?_
            rintro e w6' ⟨d, rfl, hb6, hd⟩
            exact HK.out _ _ _ rfl ⟨d, upd_at _ _ _, hd.keep (fun b h => rfl) (fun b h => ⟨Nat.zero_le _, h.2⟩)⟩ hb6
          · obtain ⟨d, f1, hd⟩ := HF.out 1 1 rfl (by kernel_rfl)
            obtain ⟨d', f3, hd'⟩ := HF.out 3 3 rfl (by kernel_rfl)
            rw [f1, f3] at hK ⊢
            have HK := Lib.hid hK
            have HC := Lib.hid (IXY.out w5 _ _ d d' (fun b h => h.2) (fun b h => h.2) hd hd')
            clear hK f1 f3 hd hd'
            go_simp
            refine Calls.mono (by exact HC.out) ?_
            rintro e w6' ⟨rfl, hb6⟩
            exact HK.out _ _ _ rfl (upd_at _ _ _) hb6
          · simp at ht
          · simp at ht
          · simp at ht
        case tail =>
          intro u w5 hb hF K HKK
          have f4 : u 4 = _ := hF 4 (by decide)
          have f5 : u 5 = _ := hF 5 (by decide)
          have f6 : u 6 = _ := hF 6 (by decide)
          have f7 : u 7 = _ := hF 7 (by decide)
          have TW := Lib.hid (TA.out.later hb)
          clear hF hb TA
          simp only [putAll, Act.put, List.setIfInBounds_toArray, List.set_cons_succ, List.set_cons_zero, Nat.zero_add, Nat.reduceAdd, List.filterMap_cons, List.filterMap_nil, List.getElem?_toArray, List.getElem?_cons_zero, List.getElem?_cons_succ, f4, f5, f6, f7]
          clear f4 f5 f6 f7
          go_wp2_with fail
          refine HKK.out _ _ ?_
          clear HKK
          obtain ⟨a0, a1, a2, a3, a4, a5, a6⟩ := seven TW.out.fst
          obtain ⟨d0, d1, d2, d3, d4, d5, d6⟩ := seven TW.out.snd
          go_wp2_with fail
          clear a0 a1 a2 a3 a4 a5 a6 d0 d1 d2 d3 d4 d5 d6
          go_loopw [7, 68] (fun v i wr => ∃ j : Nat, j ≤ items2.length ∧ i = .int .i64 j ∧ v = .bool (wantK t keys2 j) ∧ Hid (Two w wr (.cells #[.int .i64 3, .int .i64 n, .float .f64 f, .string t, .bool b, .slice ip items.length ic, .slice kp keys.length kc] 30) (.cells #[.int .i64 6, .int .i64 n2, .float .f64 f2, .string t2, .bool b2, .slice ip2 items2.length ic2, .slice kp2 keys2.length kc2] 30))) (fun _ i _ => items2.length - (intOf i).toNat)
          case atStart => exact ⟨0, Nat.zero_le _, rfl, by rw [wantK_zero], TW.out⟩
          case round =>
            obtain ⟨j, hj, rfl, rfl, TR⟩ := hrel
            by_cases hlt : j < items2.length
            · have hit := SV.in_item (SV.in_later TR.out.below _ HY.out) (show Y.items[j]? = some items2[j] by rw [e3]; exact List.getElem?_eq_getElem hlt)
              rw [e4] at hit
              obtain ⟨⟨bi, oi, hip, hcs⟩, hin⟩ := hit
              subst hip
              have HJ := Lib.hid (show items2[j]? = some items2[j] from List.getElem?_eq_getElem hlt)
              generalize items2[j] = Y' at *
              have BW : Hid (Below wr.heap.size wr (wr.alloc (.cells Y'.cells.toArray 30))) := (Below.refl _ _).alloc (Nat.le_refl _) _
              have HIN := Lib.hid (SV.in_later BW.out _ hin)
              have TA := Lib.hid (TR.out.later BW.out)
              clear hin BW
              obtain ⟨k3, n3, f3, t3, b3, ip3, ic3, items3, kp3, kc3, keys3, cy, vy⟩ : ∃ k2 n2 f2 t2 b2 ip2 ic2 items2 kp2 kc2 keys2, Y'.cells = [.int .i64 k2, .int .i64 n2, .float .f64 f2, .string t2, .bool b2, .slice ip2 (List.length (α := SV) items2) ic2, .slice kp2 (List.length (α := ByteArray) keys2) kc2] ∧
                  Y'.val = .agg #[.int .i64 k2, .int .i64 n2, .float .f64 f2, .string t2, .bool b2, .slice ip2 (List.length (α := SV) items2) ic2, .slice kp2 (List.length (α := ByteArray) keys2) kc2] := ⟨_, _, _, _, _, _, _, _, _, _, _, rfl, rfl⟩
              rw [cy] at hcs TA HIN
              have c0 := hcs 0 _ rfl
              have c1 := hcs 1 _ rfl
              have c2 := hcs 2 _ rfl
              have c3 := hcs 3 _ rfl
              have c4 := hcs 4 _ rfl
              have c5 := hcs 5 _ rfl
              have c6 := hcs 6 _ rfl
              clear hcs
              simp only [Nat.add_zero] at c0
              generalize hw : wantK t keys2 j = W
              have HW := Lib.hid hw
              clear hw
              obtain ⟨a0, a1, a2, a3, a4, a5, a6⟩ := seven TR.out.fst
              obtain ⟨d0, d1, d2, d3, d4, d5, d6⟩ := seven TR.out.snd
              obtain ⟨aa0, aa1, aa2, aa3, aa4, aa5, aa6⟩ := seven TA.out.fst
              obtain ⟨dd0, dd1, dd2, dd3, dd4, dd5, dd6⟩ := seven TA.out.snd
              have hjk : j < keys2.length := by have := HKL.out; omega
              have HK := Lib.hid (show keys2[j]? = some keys2[j] from List.getElem?_eq_getElem hjk)
              obtain ⟨hzj, bk, ok, hkp, hcj⟩ := HST.out _ TA.out.below j _ HK.out
              subst hkp
              have hkc := hcj 0 _ rfl
              simp only [Nat.add_zero] at hkc
              clear hcj
              have HS := Lib.hid (wantK_succ t HK.out)
              generalize keys2[j] = kj at *
              have hjc : (j : Int) < keys2.length := by omega
              cases W
              · go_wp2_with fail
                go_quiet (fail)
                go_wp2_with fail
                go_roundw
                case rel => exact ⟨j + 1, by omega, by go_num, by rw [HS.out, HW.out, Bool.false_or, beq_toListBytes], TA.out.later (below_drewN (Below.refl _ _) _)⟩
                case measure => simp [intOf]; omega
              · go_wp2_with fail
                go_quiet (fail)
                go_wp2_with fail
                go_roundw
                case rel => exact ⟨j + 1, by omega, by go_num, by rw [HS.out, HW.out]; rfl, TA.out.later (below_drewN (Below.refl _ _) _)⟩
                case measure => simp [intOf]; omega
            · have hjn : j = items2.length := by omega
              subst hjn
              rw [WA.out]
              have TW := Lib.hid TR.out
              clear TR
              obtain ⟨a0, a1, a2, a3, a4, a5, a6⟩ := seven TW.out.fst
              obtain ⟨d0, d1, d2, d3, d4, d5, d6⟩ := seven TW.out.snd
              go_wp2_with fail
              refine Calls.mono (by exact COX.out _ TW.out.below) ?_
              rintro e w6 ⟨d, rfl, hb6, hd6⟩
              have T6 := Lib.hid (TW.out.later hb6)
              have HC := Lib.hid (NI.out w6 _ (fun _ => False) d (Dv.plain nilV) (fun b h => h.2) (fun b h => h.elim) hd6 (.plain nilV ⟨by decide, by decide⟩))
              rw [nil_door] at HC
              clear hb6 hd6 a0 a1 a2 a3 a4 a5 a6 d0 d1 d2 d3 d4 d5 d6
              go_wp2_with fail
              refine Calls.mono (by exact HC.out) ?_
              rintro e w7 ⟨rfl, hb7⟩
              have T7 := Lib.hid (T6.out.later hb7)
              clear hb7 HC
              have BO := Lib.hid ((Below.refl w7.heap.size w7).alloc (Nat.le_refl _) (.cells #[Value.int .i64 1, .int .i64 1, .int .u64 0, .float .f64 0, .string ⟨#[]⟩, .bool false, .slice none 0 0, .slice none 0 0] 35))
              have T8 := Lib.hid (T7.out.later BO.out)
              have HO := Lib.hid (heap_alloc_new w7 (.cells #[Value.int .i64 1, .int .i64 1, .int .u64 0, .float .f64 0, .string ⟨#[]⟩, .bool false, .slice none 0 0, .slice none 0 0] 35))
              have HC := Lib.hid (OI.out _ (fun _ => False) _ (Dv.plain oneV) (Dv.list (some ⟨w7.heap.size, 0, none⟩) 1 1) (fun b h => h.elim) (fun b h => by rw [h]; exact lt_of_block HO.out) (.plain oneV ⟨by decide, by decide⟩) (ones_door HO.out))
              rw [one_door] at HC
              simp only [Dv.val, Dv.list] at HC
              go_wp2_with fail
              refine Calls.mono (by exact HC.out) ?_
              rintro e w9 ⟨rfl, hb9⟩
              have TZ := Lib.hid (T8.out.later hb9)
              clear hb9
              cases res
              all_goals
                go_wp2_with fail
                go_ret
                exact ⟨rfl, TZ.out.below⟩

      · have h3' : (k == 3) = false := by simp; omega
        go_wp2_with fail
        go_ret
        exact ⟨rfl, T3.out.below⟩
    · have h5' : (k2 == 5) = false := by simp; omega
      have h6' : (k2 == 6) = false := by simp; omega
      go_wp2_with fail
      go_ret
      exact ⟨rfl, T3.out.below⟩

namespace fnIn
open Go.ChangeShapes Go.WideShapes Go.ChangeAt

set_option maxRecDepth 100000 in
theorem lifted (os : Os) (started : os.Started) (H : Type) (enc : TypeId × Value → H) :
    ReturnsInHanded {} Try.checked os 6 .any (Rows.fnInSpec.pre6 enc Try.prog Try.f6 Rows.fnInRow.domain false) (Rows.fnInSpec.post enc Try.prog Try.f6 false true false false) := by
  refine returnsInHanded_of_change (C := Try.checked) own started (by kernel_rfl) Try.func6
    (ChangeSpec.witness6 (enc := enc) (C := Try.checked) false ⟨#[], #[zeroV, zeroV], []⟩ 8 (by kernel_rfl) (by kernel_rfl) (by kernel_rfl) (by kernel_rfl)) ?_
  intro W base args ds gs before hval0 hW _ _
  have hval : ∀ (j : Nat) t v, Try.f6.params[j]? = some t → args[j]? = some v → Value.okWide Try.prog W .any base t v := hval0
  have hW' := hW
  obtain ⟨p, q, hA0, hV, rfl, hfz, hnd⟩ := hW
  have hA : DataW.TrodAll enc Try.prog W 0 (fun _ => true) true Try.f6.params.toList args.toList ds p := hA0
  rw [Try.params6] at hA hval
  obtain ⟨v0, vs0, d0, ds0, p0, q0, hargs, rfl, rfl, h0, r0⟩ := trodAll_cons hA
  obtain ⟨v1, vs1, d1, ds1, p1, q1, rfl, rfl, rfl, h1, r1⟩ := trodAll_cons r0
  obtain ⟨rfl, rfl, rfl⟩ := trodAll_nil r1
  obtain rfl : args = #[v0, v1] := by cases args; simp_all
  obtain ⟨rfl, rfl⟩ := trodVars_none hV
  obtain ⟨x, rfl, hx⟩ := open_V (hval 0 30 v0 rfl rfl) h0
  obtain ⟨y, rfl, hy⟩ := open_V (hval 1 30 v1 rfl rfl) h1
  clear hA0 hval0
  refine (fnIn_any x y W hx hy).mono fun e W' ⟨he, hb⟩ => ?_
  subst he
  exact ⟨_, rfl, law_post hW' rfl rfl (by intro t ht; rw [Try.params6] at ht; simp at ht; subst ht; exact ⟨by kernel_rfl, of_decide_eq_true (by kernel_rfl)⟩) rfl rfl rfl hb⟩

theorem proved : Rows.FnInSaid :=
  OpenClaim.holds_of_wide 6 Try.f6 rfl rfl rfl rfl rfl rfl rfl ⟨rfl, rfl, rfl, rfl, rfl⟩ rfl rfl rfl rfl rfl (by kernel_rfl) Try.func6 (by kernel_rfl)
    (of_decide_eq_true (by kernel_rfl)) (by unfold Func.isWrapper; first | (rw [if_pos (by decide +kernel)]; kernel_rfl) | (rw [if_neg (by decide +kernel)]; exact ⟨rfl, rfl⟩))
    (fun os started H enc _ => lifted os started H enc)
end fnIn

/-- THE STATEMENT. -/
theorem fnIn_holds : Rows.FnInSaid := fnIn.proved
#print axioms fnIn_holds
end Go.Proofs.Ythmogfjmngbamaa

