/-
  What is proved: 'laws.FnFetch' returns true for every two values of the reference that can be read as data, and leaves all memory that was there as it was. No condition.
-/
import Derived.Test.YthmogfjmngbamaaFetr
namespace Go.Proofs.Ythmogfjmngbamaa
open Go.RowKit
set_option linter.unusedSimpArgs false
set_option linter.unusedVariables false

set_option maxHeartbeats 4000000 in
set_option maxRecDepth 100000 in
theorem fnFetch_any (x y : SV) (w : World) (hx : SV.In w x) (hy : SV.In w y) : Calls Try.prog 9 #[x.val, y.val] w (Holds w) := by
  have HX := Lib.hid hx
  have HY := Lib.hid hy
  clear hx hy
  have F1 := Lib.hid (zzFits3_any x)
  have F2 := Lib.hid (zzFits3_any y)
  have P1 := Lib.hid (CuFits_any x)
  have P2 := Lib.hid (CuFits_any y)
  have C1 := Lib.hid (cuOf_any w x 10)
  have C2 := Lib.hid (cuOf_any w y 10)
  have CA := Lib.hid (fun w' hx h => cuat_run x y w' hx h)
  generalize hxx : x = X at *
  generalize hyy : y = Y at *
  cases x with
  | mk k n f t b ip ic items kp kc keys =>
  cases y with
  | mk k2 n2 f2 t2 b2 ip2 ic2 items2 kp2 kc2 keys2 =>
  have vx : X.val = .agg #[.int .i64 k, .int .i64 n, .float .f64 f, .string t, .bool b, .slice ip items.length ic, .slice kp keys.length kc] := by rw [← hxx]; rfl
  have vy : Y.val = .agg #[.int .i64 k2, .int .i64 n2, .float .f64 f2, .string t2, .bool b2, .slice ip2 items2.length ic2, .slice kp2 keys2.length kc2] := by rw [← hyy]; rfl
  have e1 : X.kind = k := by rw [← hxx]; rfl
  have e2 : Y.kind = k2 := by rw [← hyy]; rfl
  rw [vx] at F1 P1 C1 CA ⊢
  rw [vy] at F2 P2 C2 CA ⊢
  clear vx vy hxx hyy
  go_enter Try.func9, Try.ntmps9
  go_wp2_with fail
  refine Calls.mono (by exact F1.out _ (SV.in_later (((Below.refl _ _).alloc (Nat.le_refl _) _).alloc (by simp) _) _ HX.out)) ?_
  rintro e w1 ⟨r, -, rfl, hb⟩
  have T1 := Lib.hid (Two.mk' hb)
  clear hb
  obtain ⟨a0, a1, a2, a3, a4, a5, a6⟩ := seven T1.out.fst
  obtain ⟨d0, d1, d2, d3, d4, d5, d6⟩ := seven T1.out.snd
  cases r
  · go_wp2_with fail
    go_ret
    exact ⟨rfl, T1.out.below⟩
  go_wp2_with fail
  refine Calls.mono (by exact F2.out _ (SV.in_later T1.out.below _ HY.out)) ?_
  rintro e w2 ⟨r, -, rfl, hb⟩
  have T2 := Lib.hid (T1.out.later hb)
  clear T1 a0 a1 a2 a3 a4 a5 a6 d0 d1 d2 d3 d4 d5 d6
  clear hb
  obtain ⟨a0, a1, a2, a3, a4, a5, a6⟩ := seven T2.out.fst
  obtain ⟨d0, d1, d2, d3, d4, d5, d6⟩ := seven T2.out.snd
  cases r
  · go_wp2_with fail
    go_ret
    exact ⟨rfl, T2.out.below⟩
  go_wp2_with fail
  refine Calls.mono (by exact P1.out _ (SV.in_later T2.out.below _ HX.out)) ?_
  rintro e w3 ⟨r, hr, rfl, hb⟩
  have T3 := Lib.hid (T2.out.later hb)
  clear T2 a0 a1 a2 a3 a4 a5 a6 d0 d1 d2 d3 d4 d5 d6
  clear hb
  obtain ⟨a0, a1, a2, a3, a4, a5, a6⟩ := seven T3.out.fst
  obtain ⟨d0, d1, d2, d3, d4, d5, d6⟩ := seven T3.out.snd
  cases r
  · clear hr
    go_wp2_with fail
    go_ret
    exact ⟨rfl, T3.out.below⟩
  have HRX := Lib.hid (hr rfl)
  clear hr
  go_wp2_with fail
  refine Calls.mono (by exact P2.out _ (SV.in_later T3.out.below _ HY.out)) ?_
  rintro e w4 ⟨r, hr, rfl, hb⟩
  have T4 := Lib.hid (T3.out.later hb)
  clear T3 a0 a1 a2 a3 a4 a5 a6 d0 d1 d2 d3 d4 d5 d6
  clear hb
  obtain ⟨a0, a1, a2, a3, a4, a5, a6⟩ := seven T4.out.fst
  obtain ⟨d0, d1, d2, d3, d4, d5, d6⟩ := seven T4.out.snd
  cases r
  · clear hr
    go_wp2_with fail
    go_ret
    exact ⟨rfl, T4.out.below⟩
  have HRY := Lib.hid (hr rfl)
  clear hr
  by_cases h5 : k = 5
  · subst h5
    by_cases h1 : k2 = 1
    · subst h1
      have HP : Hid (Pair X Y) := ⟨HRX.out.1, HRX.out.2.1, HRX.out.2.2, HRY.out.1, HRY.out.2.1, HRY.out.2.2, (SV.in_flat HY.out).int, .inl ⟨e1, e2⟩⟩
      have COX := Lib.hid (fun w' hb => C1.out w' HX.out hb HRX.out.1 HRX.out.2.1 HRX.out.2.2)
      have COY := Lib.hid (fun w' hb => C2.out w' HY.out hb HRY.out.1 HRY.out.2.1 HRY.out.2.2)
      have HOK := Lib.hid (fun z => @fetO_ok X Y z HP.out)
      clear HRX HRY
      go_wp2_with fail
      clear a0 a1 a2 a3 a4 a5 a6 d0 d1 d2 d3 d4 d5 d6
      cases hres : fetO X Y with
      | some z =>
        have NZ0 := HOK.out z hres
        have NZ : Hid ((SV.In w z ∧ SV.Ok z) ∧ ∀ v : SV, Like v z → Nice v) := by
          obtain ⟨n, hs⟩ := NZ0.2.2
          have hin := fetO_in HP.out HX.out hres
          exact ⟨⟨hin, NZ0.1⟩, fun v hl => Nice.like hl (nice_of z n hin NZ0.1 hs NZ0.2.1)⟩
        clear NZ0
        have IFX := Lib.hid (fun w B B2 d d2 hB hB2 hd hd2 => implFetch X Y w B B2 d d2 hB hB2 hd hd2 HP.out)
        have AT := Lib.hid (fun w' hx => CA.out w' hx HP.out)
        rw [hres] at IFX AT
        clear hres HOK CA HP C1 C2 F1 F2 P1 P2
        have TA := T4.out
        refine wp_region_chainr [0, 1, 2, 3, 4, 5, 6, 7, 8] [5, 6, 7] [9, 10] [some 58, some 59, some 60, some 61, some 62, some 57, some 63, some 64, some 5] _
          (fun p => match p with | 5 => [4, 5] | 6 => [4, 6] | p => [p])
          (fun p u w' => match p with
            | 0 => u 0 = .agg #[.int .i64 5, .int .i64 n, .float .f64 f, .string t, .bool b, .slice ip items.length ic, .slice kp keys.length kc]
            | 1 => ∃ d : Dv, u 1 = d.val ∧ DoorOf w' (betw 0 w'.heap.size) X d
            | 2 => u 2 = .agg #[.int .i64 1, .int .i64 n2, .float .f64 f2, .string t2, .bool b2, .slice ip2 items2.length ic2, .slice kp2 keys2.length kc2]
            | 3 => ∃ d : Dv, u 3 = d.val ∧ DoorOf w' (betw 0 w'.heap.size) Y d
            | 4 => ∃ r : Dv, u 4 = .tuple #[r.val, .int .i64 0]
            | 5 => ∃ r : Dv, u 4 = .tuple #[r.val, .int .i64 0] ∧ u 5 = .tuple #[r.val, .int .i64 0]
            | 6 => ∃ r : Dv, u 4 = .tuple #[r.val, .int .i64 0] ∧ u 6 = r.val
            | 7 => u 7 = .int .i64 0
            | 8 => ∃ g, u 8 = .pointer (some ⟨g, 0, none⟩)
            | _ => True) (FR w4 z)
          (by kernel_rfl) (by kernel_rfl) rfl rfl ?mono ?same ?start ?take ?step ?tail
        case mono =>
          intro p u w' w'' hp hF hb
          match p, hF with
          | 0, hF => exact hF
          | 1, ⟨d, h1, h2⟩ => exact ⟨d, h1, h2.keep (fun b h => hb.block b h.2) (fun b h => ⟨h.1, Nat.lt_of_lt_of_le h.2 hb.size⟩)⟩
          | 2, hF => exact hF
          | 3, ⟨d, h1, h2⟩ => exact ⟨d, h1, h2.keep (fun b h => hb.block b h.2) (fun b h => ⟨h.1, Nat.lt_of_lt_of_le h.2 hb.size⟩)⟩
          | 4, hF => exact hF
          | 5, hF => exact hF
          | 6, hF => exact hF
          | 7, hF => exact hF
          | 8, hF => exact hF
          | p + 9, _ => exact trivial
        case same =>
          intro p u u' w' hp hd hF
          match p, hd, hF with
          | 0, hd, hF => rw [← hd 0 (by simp)]; exact hF
          | 1, hd, hF => rw [← hd 1 (by simp)]; exact hF
          | 2, hd, hF => rw [← hd 2 (by simp)]; exact hF
          | 3, hd, hF => rw [← hd 3 (by simp)]; exact hF
          | 4, hd, hF => rw [← hd 4 (by simp)]; exact hF
          | 5, hd, hF => rw [← hd 4 (by simp), ← hd 5 (by simp)]; exact hF
          | 6, hd, hF => rw [← hd 4 (by simp), ← hd 6 (by simp)]; exact hF
          | 7, hd, hF => rw [← hd 7 (by simp)]; exact hF
          | 8, hd, hF => rw [← hd 8 (by simp)]; exact hF
          | p + 9, _, _ => exact trivial
        case start => exact ⟨fun g h => (by cases h), fun c h => (by cases h)⟩
        case take =>
          intro p i o hp ht ho u w5 hb hR hF
          have hpc : p = 0 ∨ p = 1 ∨ p = 2 ∨ p = 3 ∨ p = 4 ∨ p = 5 ∨ p = 6 ∨ p = 7 ∨ p = 8 := by
            have : p < 9 := (List.getElem?_eq_some_iff.1 hp).1
            omega
          rcases hpc with rfl | rfl | rfl | rfl | rfl | rfl | rfl | rfl | rfl
          all_goals
            simp only [List.getElem?_cons_zero, List.getElem?_cons_succ, Option.some.injEq] at hp
            subst hp
          iterate 5 (simp at ht)
          · simp only [List.getElem?_toArray, List.getElem?_cons_zero, List.getElem?_cons_succ, Option.some.injEq] at ho
            subst ho
            obtain ⟨r, h4⟩ := hF 4 4 rfl (by kernel_rfl)
            refine ⟨.tuple #[r.val, .int .i64 0], ⟨?a5, ⟨r, (upd_far _ _ _ _ (by decide)).trans h4, upd_at _ _ _⟩, (hR.keep (upd_far _ _ _ _ (by decide)) (upd_far _ _ _ _ (by decide)) (Below.refl _ _))⟩⟩
            case a5 =>
              refine .inl ⟨by rfl, fun w => ?_⟩
              simp only [putAll, Act.put, List.setIfInBounds_toArray, List.set_cons_succ, List.set_cons_zero, Nat.zero_add, Nat.reduceAdd, h4]
              clear h4 hF hR
              go_simp
          · simp only [List.getElem?_toArray, List.getElem?_cons_zero, List.getElem?_cons_succ, Option.some.injEq] at ho
            subst ho
            obtain ⟨r, h4, h5⟩ := hF 5 5 rfl (by kernel_rfl)
            refine ⟨r.val, ⟨?a6, ⟨r, (upd_far _ _ _ _ (by decide)).trans h4, upd_at _ _ _⟩, (hR.keep (upd_far _ _ _ _ (by decide)) (upd_far _ _ _ _ (by decide)) (Below.refl _ _))⟩⟩
            case a6 =>
              refine .inl ⟨by rfl, fun w => ?_⟩
              simp only [putAll, Act.put, List.setIfInBounds_toArray, List.set_cons_succ, List.set_cons_zero, Nat.zero_add, Nat.reduceAdd, h5]
              clear h4 h5 hF hR
              go_simp
          · simp only [List.getElem?_toArray, List.getElem?_cons_zero, List.getElem?_cons_succ, Option.some.injEq] at ho
            subst ho
            obtain ⟨r, h4, h5⟩ := hF 5 5 rfl (by kernel_rfl)
            refine ⟨.int .i64 0, ⟨?a7, upd_at _ _ _, (hR.keep (upd_far _ _ _ _ (by decide)) (upd_far _ _ _ _ (by decide)) (Below.refl _ _))⟩⟩
            case a7 =>
              refine .inl ⟨by rfl, fun w => ?_⟩
              simp only [putAll, Act.put, List.setIfInBounds_toArray, List.set_cons_succ, List.set_cons_zero, Nat.zero_add, Nat.reduceAdd, h5]
              clear h4 h5 hF hR
              go_simp
          · simp at ht
        case step =>
          intro p i o hp ht ho u w5 hb hR hF K hK Q'
          have T5 := TA.later hb
          obtain ⟨a0, a1, a2, a3, a4, a5, a6⟩ := seven T5.fst
          obtain ⟨d0, d1, d2, d3, d4, d5, d6⟩ := seven T5.snd
          have HB5 := Lib.hid T5.below
          have HS5 := Lib.hid hb.size
          clear hb
          have hpc : p = 0 ∨ p = 1 ∨ p = 2 ∨ p = 3 ∨ p = 4 ∨ p = 5 ∨ p = 6 ∨ p = 7 ∨ p = 8 := by
            have : p < 9 := (List.getElem?_eq_some_iff.1 hp).1
            omega
          rcases hpc with rfl | rfl | rfl | rfl | rfl | rfl | rfl | rfl | rfl
          all_goals
            simp only [List.getElem?_cons_zero, List.getElem?_cons_succ, Option.some.injEq] at hp
            subst hp
            simp only [List.getElem?_toArray, List.getElem?_cons_zero, List.getElem?_cons_succ, Option.some.injEq] at ho
            subst ho
            have HF := Lib.hid hF
            clear hF
            simp only [putAll, Act.put, List.setIfInBounds_toArray, List.set_cons_succ, List.set_cons_zero, Nat.zero_add, Nat.reduceAdd] at hK ⊢
          · have HK := Lib.hid hK
            clear hK
            go_simp
            exact HK.out _ _ _ rfl (upd_at _ _ _) (hR.keep (upd_far _ _ _ _ (by decide)) (upd_far _ _ _ _ (by decide)) (Below.refl _ _)) (Below.refl _ _)
          · have f0 : u 0 = _ := HF.out 0 0 rfl (by kernel_rfl)
            rw [f0] at hK ⊢
            have HK := Lib.hid hK
            clear hK f0
            go_simp
            refine Calls.mono (by exact COX.out _ HB5.out) ?_
            rintro e w6' ⟨d, rfl, hb6, hd⟩
            exact HK.out _ _ _ rfl ⟨d, upd_at _ _ _, hd.keep (fun b h => rfl) (fun b h => ⟨Nat.zero_le _, h.2⟩)⟩ (hR.keep (upd_far _ _ _ _ (by decide)) (upd_far _ _ _ _ (by decide)) hb6) hb6
          · have HK := Lib.hid hK
            clear hK
            go_simp
            exact HK.out _ _ _ rfl (upd_at _ _ _) (hR.keep (upd_far _ _ _ _ (by decide)) (upd_far _ _ _ _ (by decide)) (Below.refl _ _)) (Below.refl _ _)
          · have f0 : u 2 = _ := HF.out 2 2 rfl (by kernel_rfl)
            rw [f0] at hK ⊢
            have HK := Lib.hid hK
            clear hK f0
            go_simp
            refine Calls.mono (by exact COY.out _ HB5.out) ?_
            rintro e w6' ⟨d, rfl, hb6, hd⟩
            exact HK.out _ _ _ rfl ⟨d, upd_at _ _ _, hd.keep (fun b h => rfl) (fun b h => ⟨Nat.zero_le _, h.2⟩)⟩ (hR.keep (upd_far _ _ _ _ (by decide)) (upd_far _ _ _ _ (by decide)) hb6) hb6
          · obtain ⟨d, f1, hd⟩ := HF.out 1 1 rfl (by kernel_rfl)
            obtain ⟨d', f3, hd'⟩ := HF.out 3 3 rfl (by kernel_rfl)
            rw [f1, f3] at hK ⊢
            have HK := Lib.hid hK
            have HC := Lib.hid (IFX.out w5 _ _ d d' (fun b h => h.2) (fun b h => h.2) hd hd')
            clear hK f1 f3 hd hd'
            go_simp
            refine Calls.mono (by exact HC.out) ?_
            rintro e w6' ⟨hb6, r, v, rfl, hdv, hlk⟩
            exact HK.out _ _ _ rfl ⟨r, upd_at _ _ _⟩ (hR.call (upd_at _ _ _) (upd_far _ _ _ _ (by decide)) hb6 hdv hlk) hb6
          · simp at ht
          · simp at ht
          · simp at ht
          · have HK := Lib.hid hK
            clear hK
            go_simp
            exact HK.out _ _ _ rfl ⟨_, upd_at _ _ _⟩ (hR.alloc (upd_far _ _ _ _ (by decide)) (upd_at _ _ _) HS5.out) ((Below.refl _ _).alloc (Nat.le_refl _) _)
        case tail =>
          intro u w5 hb hR hF K HKK
          have f0 : u 0 = _ := hF 0 (by decide)
          have f7 : u 7 = _ := hF 7 (by decide)
          obtain ⟨g, f8⟩ := hF 8 (by decide)
          obtain ⟨hg, hWg⟩ := hR.al g f8
          obtain ⟨r1, f4, f6⟩ := hF 6 (by decide)
          obtain ⟨r, v, B, er, hdv, hlk, hBl, hBg⟩ := hR.ca _ f4
          have hBg := hBg g f8
          rw [er] at f6
          have TW := TA.later hb
          obtain ⟨W6, hW6⟩ : ∃ W6, W6 = store8 w5 g (.int .i64 r.k) (.int .i64 r.n) (.int .u64 0) (.float .f64 r.f) (.string r.t) (.bool r.b) (.slice r.kp r.kl r.kc) (.slice r.ip r.il r.ic) := ⟨_, rfl⟩
          have hG6 : W6.heap[g]? = some (.cells #[Value.int .i64 r.k, .int .i64 r.n, .int .u64 0, .float .f64 r.f, .string r.t, .bool r.b, .slice r.kp r.kl r.kc, .slice r.ip r.il r.ic] 35 (0, 0)) := by rw [hW6]; exact store8_at _ _ _ _ _ _ _ _ hg
          have hT6 : Two w W6 (.cells #[.int .i64 5, .int .i64 n, .float .f64 f, .string t, .bool b, .slice ip items.length ic, .slice kp keys.length kc] 30) (.cells #[.int .i64 1, .int .i64 n2, .float .f64 f2, .string t2, .bool b2, .slice ip2 items2.length ic2, .slice kp2 keys2.length kc2] 30) := by
            have h1 := TA.size
            have l1 := lt_of_block TW.fst
            rw [hW6]
            refine ⟨(store8_other _ _ _ _ _ _ _ _ (by omega)).trans TW.fst, (store8_other _ _ _ _ _ _ _ _ (by omega)).trans TW.snd, by rw [store8_size]; exact TW.size, store8_below _ _ _ _ _ _ _ _ TW.below (by omega)⟩
          have hD6 : DoorOf W6 B v r := hdv.keep (fun b hB => by rw [hW6]; exact store8_other _ _ _ _ _ _ _ _ (fun e => hBg (e ▸ hB))) (fun _ h => h)
          have hB6 : ∀ b, B b → b < W6.heap.size := fun b hB => by rw [hW6, store8_size]; exact hBl b hB
          have hg0 := cell_at_block hg 0 _ rfl
          have zg := free_block hg
          unfold store8 at hW6
          clear hF hR TA hb TW hWg hg0
          obtain ⟨b0, b1, b2, b3, b4, b5, b6, b7⟩ := eight hg
          clear hg
          simp only [putAll, Act.put, List.setIfInBounds_toArray, List.set_cons_succ, List.set_cons_zero, Nat.zero_add, Nat.reduceAdd, List.filterMap_cons, List.filterMap_nil, List.getElem?_toArray, List.getElem?_cons_zero, List.getElem?_cons_succ, f6, f7, f8]
          clear f6 f7 f8 f0 f4 er hdv hBl hBg
          unfold Dv.val
          go_wp2_with fail
          refine HKK.out _ _ ?_
          clear HKK b0 b1 b2 b3 b4 b5 b6 b7 zg
          rw [← hW6]
          clear hW6
          have T6 := Lib.hid hT6
          have G6 := Lib.hid hG6
          have D6 := Lib.hid hD6
          have L6 := Lib.hid hlk
          have B6 := Lib.hid hB6
          clear hD6 hlk hB6
          clear hT6 hG6
          have HAT := Lib.hid (AT.out _ (SV.in_later T6.out.below _ HX.out))
          unfold atR at HAT
          dsimp only at HAT
          unfold SV.val at HAT
          obtain ⟨a0, a1, a2, a3, a4, a5, a6⟩ := seven T6.out.fst
          obtain ⟨d0, d1, d2, d3, d4, d5, d6⟩ := seven T6.out.snd
          go_wp2_with fail
          refine Calls.mono (by exact HAT.out) ?_
          rintro e w7 ⟨rfl, hb7⟩
          clear a0 a1 a2 a3 a4 a5 a6 d0 d1 d2 d3 d4 d5 d6 HAT
          have B8 : Hid (Below w7.heap.size w7 ((w7.alloc (.cells #[Value.int .i64 z.kind, .int .i64 z.int, .float .f64 z.fl, .string z.text, .bool z.bool, .slice z.ip z.items.length z.ic, .slice z.kp z.keys.length z.kc] 30)).alloc (.cells #[Value.int .i64 1, .int .i64 5, .int .u64 0, .float .f64 0, .string ⟨#[]⟩, .bool false, .slice none 0 0, .slice none 0 0] 35))) := ((Below.refl _ _).alloc (Nat.le_refl _) _).alloc (by simp) _
          have h8 := heap_alloc_new w7 (.cells #[Value.int .i64 z.kind, .int .i64 z.int, .float .f64 z.fl, .string z.text, .bool z.bool, .slice z.ip z.items.length z.ic, .slice z.kp z.keys.length z.kc] 30)
          have h9 := heap_alloc_new (w7.alloc (.cells #[Value.int .i64 z.kind, .int .i64 z.int, .float .f64 z.fl, .string z.text, .bool z.bool, .slice z.ip z.items.length z.ic, .slice z.kp z.keys.length z.kc] 30)) (.cells #[Value.int .i64 1, .int .i64 5, .int .u64 0, .float .f64 0, .string ⟨#[]⟩, .bool false, .slice none 0 0, .slice none 0 0] 35)
          have HL := Lib.hid (implFetchLit _ _ h9)
          simp only [World.size_alloc] at HL
          have T8 := Lib.hid ((T6.out.later hb7).later B8.out)
          have G8 : Hid (((w7.alloc (.cells #[Value.int .i64 z.kind, .int .i64 z.int, .float .f64 z.fl, .string z.text, .bool z.bool, .slice z.ip z.items.length z.ic, .slice z.kp z.keys.length z.kc] 30)).alloc (.cells #[Value.int .i64 1, .int .i64 5, .int .u64 0, .float .f64 0, .string ⟨#[]⟩, .bool false, .slice none 0 0, .slice none 0 0] 35)).heap[g]? = _) := (B8.out.block _ (Nat.lt_of_lt_of_le (lt_of_block G6.out) hb7.size)).trans ((hb7.block _ (lt_of_block G6.out)).trans G6.out)
          have H8 : Hid (((w7.alloc (.cells #[Value.int .i64 z.kind, .int .i64 z.int, .float .f64 z.fl, .string z.text, .bool z.bool, .slice z.ip z.items.length z.ic, .slice z.kp z.keys.length z.kc] 30)).alloc (.cells #[Value.int .i64 1, .int .i64 5, .int .u64 0, .float .f64 0, .string ⟨#[]⟩, .bool false, .slice none 0 0, .slice none 0 0] 35)).heap[w7.heap.size]? = some (.cells #[Value.int .i64 z.kind, .int .i64 z.int, .float .f64 z.fl, .string z.text, .bool z.bool, .slice z.ip z.items.length z.ic, .slice z.kp z.keys.length z.kc] 30 (0, 0))) := (Below.heap_alloc _ _ _ (by simp)).trans h8
          have D8 := Lib.hid (D6.out.keep (fun b hB => (B8.out.block _ (Nat.lt_of_lt_of_le (B6.out b hB) hb7.size)).trans (hb7.block _ (B6.out b hB))) (fun _ h => h))
          have BB8 := Lib.hid (fun b hB => Nat.lt_of_lt_of_le (Nat.lt_of_lt_of_le (B6.out b hB) hb7.size) B8.out.size)
          clear h8 h9 hb7 B8 G6 T6 D6 B6
          go_wp2_with fail
          refine Calls.mono (by exact HL.out) ?_
          rintro e w9 ⟨rfl, hb9⟩
          have BA : Hid (Below w9.heap.size w9 (w9.alloc (.cells #[Value.int .i64 1, .int .i64 5, .int .u64 0, .float .f64 0, .string ⟨#[]⟩, .bool false, .slice none 0 0, .slice none 0 0] 35))) := (Below.refl _ _).alloc (Nat.le_refl _) _
          have h10 := heap_alloc_new w9 (.cells #[Value.int .i64 1, .int .i64 5, .int .u64 0, .float .f64 0, .string ⟨#[]⟩, .bool false, .slice none 0 0, .slice none 0 0] 35)
          have TB := Lib.hid ((T8.out.later hb9).later BA.out)
          have G9 := (BA.out.block _ (Nat.lt_of_lt_of_le (lt_of_block G8.out) hb9.size)).trans ((hb9.block _ (lt_of_block G8.out)).trans G8.out)
          have H9 := (BA.out.block _ (Nat.lt_of_lt_of_le (lt_of_block H8.out) hb9.size)).trans ((hb9.block _ (lt_of_block H8.out)).trans H8.out)
          obtain ⟨b0, b1, b2, b3, b4, b5, b6, b7⟩ := eight h10
          have HC := Lib.hid (cuSame_like v z _ _ r (fun b hB => Nat.lt_of_lt_of_le (Nat.lt_of_lt_of_le (BB8.out b hB) hb9.size) BA.out.size) (D8.out.keep (fun b hB => (BA.out.block _ (Nat.lt_of_lt_of_le (BB8.out b hB) hb9.size)).trans (hb9.block _ (BB8.out b hB))) (fun _ h => h)) (NZ.out.2 v L6.out) L6.out (SV.in_later TB.out.below _ NZ.out.1.1) NZ.out.1.2)
          obtain ⟨e0, e1, e2, e3, e4, e5, e6, e7⟩ := eight G9
          obtain ⟨s0, s1, s2, s3, s4, s5, s6⟩ := seven H9
          unfold SV.val Dv.val at HC
          clear h10 G9 H9 G8 H8 T8 D8 BB8 hb9 BA
          go_wp2_with fail
          refine Calls.mono (by exact HC.out) ?_
          rintro e w10 ⟨rfl, hb10⟩
          have TZ := Lib.hid (TB.out.later hb10)
          clear hb10 b0 b1 b2 b3 b4 b5 b6 b7 e0 e1 e2 e3 e4 e5 e6 e7 s0 s1 s2 s3 s4 s5 s6
          go_wp2_with fail
          go_ret
          exact ⟨rfl, TZ.out.below⟩
      | none =>
        have IFX := Lib.hid (fun w B B2 d d2 hB hB2 hd hd2 => implFetch X Y w B B2 d d2 hB hB2 hd hd2 HP.out)
        have AT := Lib.hid (fun w' hx => CA.out w' hx HP.out)
        rw [hres] at IFX AT
        clear hres HOK CA HP C1 C2 F1 F2 P1 P2
        have TA := T4.out
        refine wp_region_chainr [0, 1, 2, 3, 4, 5, 6, 7, 8] [5, 6, 7] [9, 10] [some 58, some 59, some 60, some 61, some 62, some 57, some 63, some 64, some 5] _
          (fun p => [p])
          (fun p u w' => match p with
            | 0 => u 0 = .agg #[.int .i64 5, .int .i64 n, .float .f64 f, .string t, .bool b, .slice ip items.length ic, .slice kp keys.length kc]
            | 1 => ∃ d : Dv, u 1 = d.val ∧ DoorOf w' (betw 0 w'.heap.size) X d
            | 2 => u 2 = .agg #[.int .i64 1, .int .i64 n2, .float .f64 f2, .string t2, .bool b2, .slice ip2 items2.length ic2, .slice kp2 keys2.length kc2]
            | 3 => ∃ d : Dv, u 3 = d.val ∧ DoorOf w' (betw 0 w'.heap.size) Y d
            | 4 => u 4 = .tuple #[.agg #[Value.int .i64 0, .int .i64 0, .int .u64 0, .float .f64 0, .string ⟨#[]⟩, .bool false, .slice none 0 0, .slice none 0 0], .int .i64 2]
            | 5 => u 5 = .tuple #[.agg #[Value.int .i64 0, .int .i64 0, .int .u64 0, .float .f64 0, .string ⟨#[]⟩, .bool false, .slice none 0 0, .slice none 0 0], .int .i64 2]
            | 6 => u 6 = .agg #[Value.int .i64 0, .int .i64 0, .int .u64 0, .float .f64 0, .string ⟨#[]⟩, .bool false, .slice none 0 0, .slice none 0 0]
            | 7 => u 7 = .int .i64 2
            | 8 => ∃ g, u 8 = .pointer (some ⟨g, 0, none⟩)
            | _ => True) (FR w4 noV)
          (by kernel_rfl) (by kernel_rfl) rfl rfl ?mono ?same ?start ?take ?step ?tail
        case mono =>
          intro p u w' w'' hp hF hb
          match p, hF with
          | 0, hF => exact hF
          | 1, ⟨d, h1, h2⟩ => exact ⟨d, h1, h2.keep (fun b h => hb.block b h.2) (fun b h => ⟨h.1, Nat.lt_of_lt_of_le h.2 hb.size⟩)⟩
          | 2, hF => exact hF
          | 3, ⟨d, h1, h2⟩ => exact ⟨d, h1, h2.keep (fun b h => hb.block b h.2) (fun b h => ⟨h.1, Nat.lt_of_lt_of_le h.2 hb.size⟩)⟩
          | 4, hF => exact hF
          | 5, hF => exact hF
          | 6, hF => exact hF
          | 7, hF => exact hF
          | 8, hF => exact hF
          | p + 9, _ => exact trivial
        case same =>
          intro p u u' w' hp hd hF
          match p, hd, hF with
          | 0, hd, hF => rw [← hd 0 (by simp)]; exact hF
          | 1, hd, hF => rw [← hd 1 (by simp)]; exact hF
          | 2, hd, hF => rw [← hd 2 (by simp)]; exact hF
          | 3, hd, hF => rw [← hd 3 (by simp)]; exact hF
          | 4, hd, hF => rw [← hd 4 (by simp)]; exact hF
          | 5, hd, hF => rw [← hd 5 (by simp)]; exact hF
          | 6, hd, hF => rw [← hd 6 (by simp)]; exact hF
          | 7, hd, hF => rw [← hd 7 (by simp)]; exact hF
          | 8, hd, hF => rw [← hd 8 (by simp)]; exact hF
          | p + 9, _, _ => exact trivial
        case start => exact ⟨fun g h => (by cases h), fun c h => (by cases h)⟩
        case take =>
          intro p i o hp ht ho u w5 hb hR hF
          have hpc : p = 0 ∨ p = 1 ∨ p = 2 ∨ p = 3 ∨ p = 4 ∨ p = 5 ∨ p = 6 ∨ p = 7 ∨ p = 8 := by
            have : p < 9 := (List.getElem?_eq_some_iff.1 hp).1
            omega
          rcases hpc with rfl | rfl | rfl | rfl | rfl | rfl | rfl | rfl | rfl
          all_goals
            simp only [List.getElem?_cons_zero, List.getElem?_cons_succ, Option.some.injEq] at hp
            subst hp
          iterate 5 (simp at ht)
          · simp only [List.getElem?_toArray, List.getElem?_cons_zero, List.getElem?_cons_succ, Option.some.injEq] at ho
            subst ho
            have h4 : u 4 = _ := hF 4 4 rfl (by kernel_rfl)
            refine ⟨.tuple #[.agg #[Value.int .i64 0, .int .i64 0, .int .u64 0, .float .f64 0, .string ⟨#[]⟩, .bool false, .slice none 0 0, .slice none 0 0], .int .i64 2], ⟨?a5, upd_at _ _ _, (hR.keep (upd_far _ _ _ _ (by decide)) (upd_far _ _ _ _ (by decide)) (Below.refl _ _))⟩⟩
            case a5 =>
              refine .inl ⟨by rfl, fun w => ?_⟩
              simp only [putAll, Act.put, List.setIfInBounds_toArray, List.set_cons_succ, List.set_cons_zero, Nat.zero_add, Nat.reduceAdd, h4]
              clear h4 hF hR
              go_simp
          · simp only [List.getElem?_toArray, List.getElem?_cons_zero, List.getElem?_cons_succ, Option.some.injEq] at ho
            subst ho
            have h4 : u 5 = _ := hF 5 5 rfl (by kernel_rfl)
            refine ⟨.agg #[Value.int .i64 0, .int .i64 0, .int .u64 0, .float .f64 0, .string ⟨#[]⟩, .bool false, .slice none 0 0, .slice none 0 0], ⟨?a6, upd_at _ _ _, (hR.keep (upd_far _ _ _ _ (by decide)) (upd_far _ _ _ _ (by decide)) (Below.refl _ _))⟩⟩
            case a6 =>
              refine .inl ⟨by rfl, fun w => ?_⟩
              simp only [putAll, Act.put, List.setIfInBounds_toArray, List.set_cons_succ, List.set_cons_zero, Nat.zero_add, Nat.reduceAdd, h4]
              clear h4 hF hR
              go_simp
          · simp only [List.getElem?_toArray, List.getElem?_cons_zero, List.getElem?_cons_succ, Option.some.injEq] at ho
            subst ho
            have h4 : u 5 = _ := hF 5 5 rfl (by kernel_rfl)
            refine ⟨.int .i64 2, ⟨?a7, upd_at _ _ _, (hR.keep (upd_far _ _ _ _ (by decide)) (upd_far _ _ _ _ (by decide)) (Below.refl _ _))⟩⟩
            case a7 =>
              refine .inl ⟨by rfl, fun w => ?_⟩
              simp only [putAll, Act.put, List.setIfInBounds_toArray, List.set_cons_succ, List.set_cons_zero, Nat.zero_add, Nat.reduceAdd, h4]
              clear h4 hF hR
              go_simp
          · simp at ht
        case step =>
          intro p i o hp ht ho u w5 hb hR hF K hK Q'
          have T5 := TA.later hb
          obtain ⟨a0, a1, a2, a3, a4, a5, a6⟩ := seven T5.fst
          obtain ⟨d0, d1, d2, d3, d4, d5, d6⟩ := seven T5.snd
          have HB5 := Lib.hid T5.below
          have HS5 := Lib.hid hb.size
          clear hb
          have hpc : p = 0 ∨ p = 1 ∨ p = 2 ∨ p = 3 ∨ p = 4 ∨ p = 5 ∨ p = 6 ∨ p = 7 ∨ p = 8 := by
            have : p < 9 := (List.getElem?_eq_some_iff.1 hp).1
            omega
          rcases hpc with rfl | rfl | rfl | rfl | rfl | rfl | rfl | rfl | rfl
          all_goals
            simp only [List.getElem?_cons_zero, List.getElem?_cons_succ, Option.some.injEq] at hp
            subst hp
            simp only [List.getElem?_toArray, List.getElem?_cons_zero, List.getElem?_cons_succ, Option.some.injEq] at ho
            subst ho
            have HF := Lib.hid hF
            clear hF
            simp only [putAll, Act.put, List.setIfInBounds_toArray, List.set_cons_succ, List.set_cons_zero, Nat.zero_add, Nat.reduceAdd] at hK ⊢
          · have HK := Lib.hid hK
            clear hK
            go_simp
            exact HK.out _ _ _ rfl (upd_at _ _ _) (hR.keep (upd_far _ _ _ _ (by decide)) (upd_far _ _ _ _ (by decide)) (Below.refl _ _)) (Below.refl _ _)
          · have f0 : u 0 = _ := HF.out 0 0 rfl (by kernel_rfl)
            rw [f0] at hK ⊢
            have HK := Lib.hid hK
            clear hK f0
            go_simp
            refine Calls.mono (by exact COX.out _ HB5.out) ?_
            rintro e w6' ⟨d, rfl, hb6, hd⟩
            exact HK.out _ _ _ rfl ⟨d, upd_at _ _ _, hd.keep (fun b h => rfl) (fun b h => ⟨Nat.zero_le _, h.2⟩)⟩ (hR.keep (upd_far _ _ _ _ (by decide)) (upd_far _ _ _ _ (by decide)) hb6) hb6
          · have HK := Lib.hid hK
            clear hK
            go_simp
            exact HK.out _ _ _ rfl (upd_at _ _ _) (hR.keep (upd_far _ _ _ _ (by decide)) (upd_far _ _ _ _ (by decide)) (Below.refl _ _)) (Below.refl _ _)
          · have f0 : u 2 = _ := HF.out 2 2 rfl (by kernel_rfl)
            rw [f0] at hK ⊢
            have HK := Lib.hid hK
            clear hK f0
            go_simp
            refine Calls.mono (by exact COY.out _ HB5.out) ?_
            rintro e w6' ⟨d, rfl, hb6, hd⟩
            exact HK.out _ _ _ rfl ⟨d, upd_at _ _ _, hd.keep (fun b h => rfl) (fun b h => ⟨Nat.zero_le _, h.2⟩)⟩ (hR.keep (upd_far _ _ _ _ (by decide)) (upd_far _ _ _ _ (by decide)) hb6) hb6
          · obtain ⟨d, f1, hd⟩ := HF.out 1 1 rfl (by kernel_rfl)
            obtain ⟨d', f3, hd'⟩ := HF.out 3 3 rfl (by kernel_rfl)
            rw [f1, f3] at hK ⊢
            have HK := Lib.hid hK
            have HC := Lib.hid (IFX.out w5 _ _ d d' (fun b h => h.2) (fun b h => h.2) hd hd')
            clear hK f1 f3 hd hd'
            go_simp
            refine Calls.mono (by exact HC.out) ?_
            rintro e w6' ⟨hb6, rfl⟩
            exact HK.out _ _ _ rfl (upd_at _ _ _) (hR.fault (upd_at _ _ _) (upd_far _ _ _ _ (by decide)) hb6) hb6
          · simp at ht
          · simp at ht
          · simp at ht
          · have HK := Lib.hid hK
            clear hK
            go_simp
            exact HK.out _ _ _ rfl ⟨_, upd_at _ _ _⟩ (hR.alloc (upd_far _ _ _ _ (by decide)) (upd_at _ _ _) HS5.out) ((Below.refl _ _).alloc (Nat.le_refl _) _)
        case tail =>
          intro u w5 hb hR hF K HKK
          have f0 : u 0 = _ := hF 0 (by decide)
          have f7 : u 7 = _ := hF 7 (by decide)
          obtain ⟨g, f8⟩ := hF 8 (by decide)
          obtain ⟨hg, hWg⟩ := hR.al g f8
          have f6 : u 6 = _ := hF 6 (by decide)
          have TW := TA.later hb
          obtain ⟨W6, hW6⟩ : ∃ W6, W6 = store8 w5 g (.int .i64 0) (.int .i64 0) (.int .u64 0) (.float .f64 0) (.string ⟨#[]⟩) (.bool false) (.slice none 0 0) (.slice none 0 0) := ⟨_, rfl⟩
          have hG6 : W6.heap[g]? = some (.cells #[Value.int .i64 0, .int .i64 0, .int .u64 0, .float .f64 0, .string ⟨#[]⟩, .bool false, .slice none 0 0, .slice none 0 0] 35 (0, 0)) := by rw [hW6]; exact store8_at _ _ _ _ _ _ _ _ hg
          have hT6 : Two w W6 (.cells #[.int .i64 5, .int .i64 n, .float .f64 f, .string t, .bool b, .slice ip items.length ic, .slice kp keys.length kc] 30) (.cells #[.int .i64 1, .int .i64 n2, .float .f64 f2, .string t2, .bool b2, .slice ip2 items2.length ic2, .slice kp2 keys2.length kc2] 30) := by
            have h1 := TA.size
            have l1 := lt_of_block TW.fst
            rw [hW6]
            refine ⟨(store8_other _ _ _ _ _ _ _ _ (by omega)).trans TW.fst, (store8_other _ _ _ _ _ _ _ _ (by omega)).trans TW.snd, by rw [store8_size]; exact TW.size, store8_below _ _ _ _ _ _ _ _ TW.below (by omega)⟩
          have hg0 := cell_at_block hg 0 _ rfl
          have zg := free_block hg
          unfold store8 at hW6
          clear hF hR TA hb TW hWg hg0
          obtain ⟨b0, b1, b2, b3, b4, b5, b6, b7⟩ := eight hg
          clear hg
          simp only [putAll, Act.put, List.setIfInBounds_toArray, List.set_cons_succ, List.set_cons_zero, Nat.zero_add, Nat.reduceAdd, List.filterMap_cons, List.filterMap_nil, List.getElem?_toArray, List.getElem?_cons_zero, List.getElem?_cons_succ, f6, f7, f8]
          clear f6 f7 f8 f0
          go_wp2_with fail
          refine HKK.out _ _ ?_
          clear HKK b0 b1 b2 b3 b4 b5 b6 b7 zg
          rw [← hW6]
          clear hW6
          have T6 := Lib.hid hT6
          have G6 := Lib.hid hG6
          clear hT6 hG6
          have HAT := Lib.hid (AT.out _ (SV.in_later T6.out.below _ HX.out))
          unfold atR zeroV at HAT
          dsimp only at HAT
          obtain ⟨a0, a1, a2, a3, a4, a5, a6⟩ := seven T6.out.fst
          obtain ⟨d0, d1, d2, d3, d4, d5, d6⟩ := seven T6.out.snd
          go_wp2_with fail
          refine Calls.mono (by exact HAT.out) ?_
          rintro e w7 ⟨rfl, hb7⟩
          clear a0 a1 a2 a3 a4 a5 a6 d0 d1 d2 d3 d4 d5 d6 HAT
          have B8 : Hid (Below w7.heap.size w7 ((w7.alloc (.cells #[Value.int .i64 0, .int .i64 0, .float .f64 0, .string ⟨#[]⟩, .bool false, .slice none 0 0, .slice none 0 0] 30)).alloc (.cells #[Value.int .i64 1, .int .i64 5, .int .u64 0, .float .f64 0, .string ⟨#[]⟩, .bool false, .slice none 0 0, .slice none 0 0] 35))) := ((Below.refl _ _).alloc (Nat.le_refl _) _).alloc (by simp) _
          have h8 := heap_alloc_new w7 (.cells #[Value.int .i64 0, .int .i64 0, .float .f64 0, .string ⟨#[]⟩, .bool false, .slice none 0 0, .slice none 0 0] 30)
          have h9 := heap_alloc_new (w7.alloc (.cells #[Value.int .i64 0, .int .i64 0, .float .f64 0, .string ⟨#[]⟩, .bool false, .slice none 0 0, .slice none 0 0] 30)) (.cells #[Value.int .i64 1, .int .i64 5, .int .u64 0, .float .f64 0, .string ⟨#[]⟩, .bool false, .slice none 0 0, .slice none 0 0] 35)
          have HL := Lib.hid (implFetchLit _ _ h9)
          simp only [World.size_alloc] at HL
          have T8 := Lib.hid ((T6.out.later hb7).later B8.out)
          have G8 : Hid (((w7.alloc (.cells #[Value.int .i64 0, .int .i64 0, .float .f64 0, .string ⟨#[]⟩, .bool false, .slice none 0 0, .slice none 0 0] 30)).alloc (.cells #[Value.int .i64 1, .int .i64 5, .int .u64 0, .float .f64 0, .string ⟨#[]⟩, .bool false, .slice none 0 0, .slice none 0 0] 35)).heap[g]? = _) := (B8.out.block _ (Nat.lt_of_lt_of_le (lt_of_block G6.out) hb7.size)).trans ((hb7.block _ (lt_of_block G6.out)).trans G6.out)
          have H8 : Hid (((w7.alloc (.cells #[Value.int .i64 0, .int .i64 0, .float .f64 0, .string ⟨#[]⟩, .bool false, .slice none 0 0, .slice none 0 0] 30)).alloc (.cells #[Value.int .i64 1, .int .i64 5, .int .u64 0, .float .f64 0, .string ⟨#[]⟩, .bool false, .slice none 0 0, .slice none 0 0] 35)).heap[w7.heap.size]? = some (.cells #[Value.int .i64 0, .int .i64 0, .float .f64 0, .string ⟨#[]⟩, .bool false, .slice none 0 0, .slice none 0 0] 30 (0, 0))) := (Below.heap_alloc _ _ _ (by simp)).trans h8
          clear h8 h9 hb7 B8 G6 T6
          go_wp2_with fail
          refine Calls.mono (by exact HL.out) ?_
          rintro e w9 ⟨rfl, hb9⟩
          have BA : Hid (Below w9.heap.size w9 (w9.alloc (.cells #[Value.int .i64 1, .int .i64 5, .int .u64 0, .float .f64 0, .string ⟨#[]⟩, .bool false, .slice none 0 0, .slice none 0 0] 35))) := (Below.refl _ _).alloc (Nat.le_refl _) _
          have h10 := heap_alloc_new w9 (.cells #[Value.int .i64 1, .int .i64 5, .int .u64 0, .float .f64 0, .string ⟨#[]⟩, .bool false, .slice none 0 0, .slice none 0 0] 35)
          have TB := Lib.hid ((T8.out.later hb9).later BA.out)
          have G9 := (BA.out.block _ (Nat.lt_of_lt_of_le (lt_of_block G8.out) hb9.size)).trans ((hb9.block _ (lt_of_block G8.out)).trans G8.out)
          have H9 := (BA.out.block _ (Nat.lt_of_lt_of_le (lt_of_block H8.out) hb9.size)).trans ((hb9.block _ (lt_of_block H8.out)).trans H8.out)
          obtain ⟨b0, b1, b2, b3, b4, b5, b6, b7⟩ := eight h10
          clear h10 G9 H9 G8 H8 T8 hb9 BA
          go_wp2_with fail
          go_ret
          exact ⟨rfl, TB.out.below⟩

    · have h1' : (k2 == 1) = false := by simp; omega
      go_wp2_with fail
      go_ret
      exact ⟨rfl, T4.out.below⟩
  · by_cases h6 : k = 6
    · subst h6
      by_cases h3 : k2 = 3
      · subst h3
        have HP : Hid (Pair X Y) := ⟨HRX.out.1, HRX.out.2.1, HRX.out.2.2, HRY.out.1, HRY.out.2.1, HRY.out.2.2, (SV.in_flat HY.out).int, .inr ⟨e1, e2⟩⟩
        have COX := Lib.hid (fun w' hb => C1.out w' HX.out hb HRX.out.1 HRX.out.2.1 HRX.out.2.2)
        have COY := Lib.hid (fun w' hb => C2.out w' HY.out hb HRY.out.1 HRY.out.2.1 HRY.out.2.2)
        have HOK := Lib.hid (fun z => @fetO_ok X Y z HP.out)
        clear HRX HRY
        go_wp2_with fail
        clear a0 a1 a2 a3 a4 a5 a6 d0 d1 d2 d3 d4 d5 d6
        cases hres : fetO X Y with
        | some z =>
          have NZ0 := HOK.out z hres
          have NZ : Hid ((SV.In w z ∧ SV.Ok z) ∧ ∀ v : SV, Like v z → Nice v) := by
            obtain ⟨n, hs⟩ := NZ0.2.2
            have hin := fetO_in HP.out HX.out hres
            exact ⟨⟨hin, NZ0.1⟩, fun v hl => Nice.like hl (nice_of z n hin NZ0.1 hs NZ0.2.1)⟩
          clear NZ0
          have IFX := Lib.hid (fun w B B2 d d2 hB hB2 hd hd2 => implFetch X Y w B B2 d d2 hB hB2 hd hd2 HP.out)
          have AT := Lib.hid (fun w' hx => CA.out w' hx HP.out)
          rw [hres] at IFX AT
          clear hres HOK CA HP C1 C2 F1 F2 P1 P2
          have TA := T4.out
          refine wp_region_chainr [0, 1, 2, 3, 4, 5, 6, 7, 8] [5, 6, 7] [9, 10] [some 58, some 59, some 60, some 61, some 62, some 57, some 63, some 64, some 5] _
            (fun p => match p with | 5 => [4, 5] | 6 => [4, 6] | p => [p])
            (fun p u w' => match p with
              | 0 => u 0 = .agg #[.int .i64 6, .int .i64 n, .float .f64 f, .string t, .bool b, .slice ip items.length ic, .slice kp keys.length kc]
              | 1 => ∃ d : Dv, u 1 = d.val ∧ DoorOf w' (betw 0 w'.heap.size) X d
              | 2 => u 2 = .agg #[.int .i64 3, .int .i64 n2, .float .f64 f2, .string t2, .bool b2, .slice ip2 items2.length ic2, .slice kp2 keys2.length kc2]
              | 3 => ∃ d : Dv, u 3 = d.val ∧ DoorOf w' (betw 0 w'.heap.size) Y d
              | 4 => ∃ r : Dv, u 4 = .tuple #[r.val, .int .i64 0]
              | 5 => ∃ r : Dv, u 4 = .tuple #[r.val, .int .i64 0] ∧ u 5 = .tuple #[r.val, .int .i64 0]
              | 6 => ∃ r : Dv, u 4 = .tuple #[r.val, .int .i64 0] ∧ u 6 = r.val
              | 7 => u 7 = .int .i64 0
              | 8 => ∃ g, u 8 = .pointer (some ⟨g, 0, none⟩)
              | _ => True) (FR w4 z)
            (by kernel_rfl) (by kernel_rfl) rfl rfl ?mono ?same ?start ?take ?step ?tail
          case mono =>
            intro p u w' w'' hp hF hb
            match p, hF with
            | 0, hF => exact hF
            | 1, ⟨d, h1, h2⟩ => exact ⟨d, h1, h2.keep (fun b h => hb.block b h.2) (fun b h => ⟨h.1, Nat.lt_of_lt_of_le h.2 hb.size⟩)⟩
            | 2, hF => exact hF
            | 3, ⟨d, h1, h2⟩ => exact ⟨d, h1, h2.keep (fun b h => hb.block b h.2) (fun b h => ⟨h.1, Nat.lt_of_lt_of_le h.2 hb.size⟩)⟩
            | 4, hF => exact hF
            | 5, hF => exact hF
            | 6, hF => exact hF
            | 7, hF => exact hF
            | 8, hF => exact hF
            | p + 9, _ => exact trivial
          case same =>
            intro p u u' w' hp hd hF
            match p, hd, hF with
            | 0, hd, hF => rw [← hd 0 (by simp)]; exact hF
            | 1, hd, hF => rw [← hd 1 (by simp)]; exact hF
            | 2, hd, hF => rw [← hd 2 (by simp)]; exact hF
            | 3, hd, hF => rw [← hd 3 (by simp)]; exact hF
            | 4, hd, hF => rw [← hd 4 (by simp)]; exact hF
            | 5, hd, hF => rw [← hd 4 (by simp), ← hd 5 (by simp)]; exact hF
            | 6, hd, hF => rw [← hd 4 (by simp), ← hd 6 (by simp)]; exact hF
            | 7, hd, hF => rw [← hd 7 (by simp)]; exact hF
            | 8, hd, hF => rw [← hd 8 (by simp)]; exact hF
            | p + 9, _, _ => exact trivial
          case start => exact ⟨fun g h => (by cases h), fun c h => (by cases h)⟩
          case take =>
            intro p i o hp ht ho u w5 hb hR hF
            have hpc : p = 0 ∨ p = 1 ∨ p = 2 ∨ p = 3 ∨ p = 4 ∨ p = 5 ∨ p = 6 ∨ p = 7 ∨ p = 8 := by
              have : p < 9 := (List.getElem?_eq_some_iff.1 hp).1
              omega
            rcases hpc with rfl | rfl | rfl | rfl | rfl | rfl | rfl | rfl | rfl
            all_goals
              simp only [List.getElem?_cons_zero, List.getElem?_cons_succ, Option.some.injEq] at hp
              subst hp
            iterate 5 (simp at ht)
            · simp only [List.getElem?_toArray, List.getElem?_cons_zero, List.getElem?_cons_succ, Option.some.injEq] at ho
              subst ho
              obtain ⟨r, h4⟩ := hF 4 4 rfl (by kernel_rfl)
              refine ⟨.tuple #[r.val, .int .i64 0], ⟨?a5, ⟨r, (upd_far _ _ _ _ (by decide)).trans h4, upd_at _ _ _⟩, (hR.keep (upd_far _ _ _ _ (by decide)) (upd_far _ _ _ _ (by decide)) (Below.refl _ _))⟩⟩
              case a5 =>
                refine .inl ⟨by rfl, fun w => ?_⟩
                simp only [putAll, Act.put, List.setIfInBounds_toArray, List.set_cons_succ, List.set_cons_zero, Nat.zero_add, Nat.reduceAdd, h4]
                clear h4 hF hR
                go_simp
            · simp only [List.getElem?_toArray, List.getElem?_cons_zero, List.getElem?_cons_succ, Option.some.injEq] at ho
              subst ho
              obtain ⟨r, h4, h5⟩ := hF 5 5 rfl (by kernel_rfl)
              refine ⟨r.val, ⟨?a6, ⟨r, (upd_far _ _ _ _ (by decide)).trans h4, upd_at _ _ _⟩, (hR.keep (upd_far _ _ _ _ (by decide)) (upd_far _ _ _ _ (by decide)) (Below.refl _ _))⟩⟩
              case a6 =>
                refine .inl ⟨by rfl, fun w => ?_⟩
                simp only [putAll, Act.put, List.setIfInBounds_toArray, List.set_cons_succ, List.set_cons_zero, Nat.zero_add, Nat.reduceAdd, h5]
                clear h4 h5 hF hR
                go_simp
            · simp only [List.getElem?_toArray, List.getElem?_cons_zero, List.getElem?_cons_succ, Option.some.injEq] at ho
              subst ho
              obtain ⟨r, h4, h5⟩ := hF 5 5 rfl (by kernel_rfl)
              refine ⟨.int .i64 0, ⟨?a7, upd_at _ _ _, (hR.keep (upd_far _ _ _ _ (by decide)) (upd_far _ _ _ _ (by decide)) (Below.refl _ _))⟩⟩
              case a7 =>
                refine .inl ⟨by rfl, fun w => ?_⟩
                simp only [putAll, Act.put, List.setIfInBounds_toArray, List.set_cons_succ, List.set_cons_zero, Nat.zero_add, Nat.reduceAdd, h5]
                clear h4 h5 hF hR
                go_simp
            · simp at ht
          case step =>
            intro p i o hp ht ho u w5 hb hR hF K hK Q'
            have T5 := TA.later hb
            obtain ⟨a0, a1, a2, a3, a4, a5, a6⟩ := seven T5.fst
            obtain ⟨d0, d1, d2, d3, d4, d5, d6⟩ := seven T5.snd
            have HB5 := Lib.hid T5.below
            have HS5 := Lib.hid hb.size
            clear hb
            have hpc : p = 0 ∨ p = 1 ∨ p = 2 ∨ p = 3 ∨ p = 4 ∨ p = 5 ∨ p = 6 ∨ p = 7 ∨ p = 8 := by
              have : p < 9 := (List.getElem?_eq_some_iff.1 hp).1
              omega
            rcases hpc with rfl | rfl | rfl | rfl | rfl | rfl | rfl | rfl | rfl
            all_goals
              simp only [List.getElem?_cons_zero, List.getElem?_cons_succ, Option.some.injEq] at hp
              subst hp
              simp only [List.getElem?_toArray, List.getElem?_cons_zero, List.getElem?_cons_succ, Option.some.injEq] at ho
              subst ho
              have HF := Lib.hid hF
              clear hF
              simp only [putAll, Act.put, List.setIfInBounds_toArray, List.set_cons_succ, List.set_cons_zero, Nat.zero_add, Nat.reduceAdd] at hK ⊢
            · have HK := Lib.hid hK
              clear hK
              go_simp
              exact HK.out _ _ _ rfl (upd_at _ _ _) (hR.keep (upd_far _ _ _ _ (by decide)) (upd_far _ _ _ _ (by decide)) (Below.refl _ _)) (Below.refl _ _)
            · have f0 : u 0 = _ := HF.out 0 0 rfl (by kernel_rfl)
              rw [f0] at hK ⊢
              have HK := Lib.hid hK
              clear hK f0
              go_simp
              refine Calls.mono (by exact COX.out _ HB5.out) ?_
              rintro e w6' ⟨d, rfl, hb6, hd⟩
              exact HK.out _ _ _ rfl ⟨d, upd_at _ _ _, hd.keep (fun b h => rfl) (fun b h => ⟨Nat.zero_le _, h.2⟩)⟩ (hR.keep (upd_far _ _ _ _ (by decide)) (upd_far _ _ _ _ (by decide)) hb6) hb6
            · have HK := Lib.hid hK
              clear hK
              go_simp
              exact HK.out _ _ _ rfl (upd_at _ _ _) (hR.keep (upd_far _ _ _ _ (by decide)) (upd_far _ _ _ _ (by decide)) (Below.refl _ _)) (Below.refl _ _)
            · have f0 : u 2 = _ := HF.out 2 2 rfl (by kernel_rfl)
              rw [f0] at hK ⊢
              have HK := Lib.hid hK
              clear hK f0
              go_simp
              refine Calls.mono (by exact COY.out _ HB5.out) ?_
              rintro e w6' ⟨d, rfl, hb6, hd⟩
              exact HK.out _ _ _ rfl ⟨d, upd_at _ _ _, hd.keep (fun b h => rfl) (fun b h => ⟨Nat.zero_le _, h.2⟩)⟩ (hR.keep (upd_far _ _ _ _ (by decide)) (upd_far _ _ _ _ (by decide)) hb6) hb6
            · obtain ⟨d, f1, hd⟩ := HF.out 1 1 rfl (by kernel_rfl)
              obtain ⟨d', f3, hd'⟩ := HF.out 3 3 rfl (by kernel_rfl)
              rw [f1, f3] at hK ⊢
              have HK := Lib.hid hK
              have HC := Lib.hid (IFX.out w5 _ _ d d' (fun b h => h.2) (fun b h => h.2) hd hd')
              clear hK f1 f3 hd hd'
              go_simp
              refine Calls.mono (by exact HC.out) ?_
              rintro e w6' ⟨hb6, r, v, rfl, hdv, hlk⟩
              exact HK.out _ _ _ rfl ⟨r, upd_at _ _ _⟩ (hR.call (upd_at _ _ _) (upd_far _ _ _ _ (by decide)) hb6 hdv hlk) hb6
            · simp at ht
            · simp at ht
            · simp at ht
            · have HK := Lib.hid hK
              clear hK
              go_simp
              exact HK.out _ _ _ rfl ⟨_, upd_at _ _ _⟩ (hR.alloc (upd_far _ _ _ _ (by decide)) (upd_at _ _ _) HS5.out) ((Below.refl _ _).alloc (Nat.le_refl _) _)
          case tail =>
            intro u w5 hb hR hF K HKK
            have f0 : u 0 = _ := hF 0 (by decide)
            have f7 : u 7 = _ := hF 7 (by decide)
            obtain ⟨g, f8⟩ := hF 8 (by decide)
            obtain ⟨hg, hWg⟩ := hR.al g f8
            obtain ⟨r1, f4, f6⟩ := hF 6 (by decide)
            obtain ⟨r, v, B, er, hdv, hlk, hBl, hBg⟩ := hR.ca _ f4
            have hBg := hBg g f8
            rw [er] at f6
            have TW := TA.later hb
            obtain ⟨W6, hW6⟩ : ∃ W6, W6 = store8 w5 g (.int .i64 r.k) (.int .i64 r.n) (.int .u64 0) (.float .f64 r.f) (.string r.t) (.bool r.b) (.slice r.kp r.kl r.kc) (.slice r.ip r.il r.ic) := ⟨_, rfl⟩
            have hG6 : W6.heap[g]? = some (.cells #[Value.int .i64 r.k, .int .i64 r.n, .int .u64 0, .float .f64 r.f, .string r.t, .bool r.b, .slice r.kp r.kl r.kc, .slice r.ip r.il r.ic] 35 (0, 0)) := by rw [hW6]; exact store8_at _ _ _ _ _ _ _ _ hg
            have hT6 : Two w W6 (.cells #[.int .i64 6, .int .i64 n, .float .f64 f, .string t, .bool b, .slice ip items.length ic, .slice kp keys.length kc] 30) (.cells #[.int .i64 3, .int .i64 n2, .float .f64 f2, .string t2, .bool b2, .slice ip2 items2.length ic2, .slice kp2 keys2.length kc2] 30) := by
              have h1 := TA.size
              have l1 := lt_of_block TW.fst
              rw [hW6]
              refine ⟨(store8_other _ _ _ _ _ _ _ _ (by omega)).trans TW.fst, (store8_other _ _ _ _ _ _ _ _ (by omega)).trans TW.snd, by rw [store8_size]; exact TW.size, store8_below _ _ _ _ _ _ _ _ TW.below (by omega)⟩
            have hD6 : DoorOf W6 B v r := hdv.keep (fun b hB => by rw [hW6]; exact store8_other _ _ _ _ _ _ _ _ (fun e => hBg (e ▸ hB))) (fun _ h => h)
            have hB6 : ∀ b, B b → b < W6.heap.size := fun b hB => by rw [hW6, store8_size]; exact hBl b hB
            have hg0 := cell_at_block hg 0 _ rfl
            have zg := free_block hg
            unfold store8 at hW6
            clear hF hR TA hb TW hWg hg0
            obtain ⟨b0, b1, b2, b3, b4, b5, b6, b7⟩ := eight hg
            clear hg
            simp only [putAll, Act.put, List.setIfInBounds_toArray, List.set_cons_succ, List.set_cons_zero, Nat.zero_add, Nat.reduceAdd, List.filterMap_cons, List.filterMap_nil, List.getElem?_toArray, List.getElem?_cons_zero, List.getElem?_cons_succ, f6, f7, f8]
            clear f6 f7 f8 f0 f4 er hdv hBl hBg
            unfold Dv.val
            go_wp2_with fail
            refine HKK.out _ _ ?_
            clear HKK b0 b1 b2 b3 b4 b5 b6 b7 zg
            rw [← hW6]
            clear hW6
            have T6 := Lib.hid hT6
            have G6 := Lib.hid hG6
            have D6 := Lib.hid hD6
            have L6 := Lib.hid hlk
            have B6 := Lib.hid hB6
            clear hD6 hlk hB6
            clear hT6 hG6
            have HAT := Lib.hid (AT.out _ (SV.in_later T6.out.below _ HX.out))
            unfold atR at HAT
            dsimp only at HAT
            unfold SV.val at HAT
            obtain ⟨a0, a1, a2, a3, a4, a5, a6⟩ := seven T6.out.fst
            obtain ⟨d0, d1, d2, d3, d4, d5, d6⟩ := seven T6.out.snd
            go_wp2_with fail
            refine Calls.mono (by exact HAT.out) ?_
            rintro e w7 ⟨rfl, hb7⟩
            clear a0 a1 a2 a3 a4 a5 a6 d0 d1 d2 d3 d4 d5 d6 HAT
            have B8 : Hid (Below w7.heap.size w7 ((w7.alloc (.cells #[Value.int .i64 z.kind, .int .i64 z.int, .float .f64 z.fl, .string z.text, .bool z.bool, .slice z.ip z.items.length z.ic, .slice z.kp z.keys.length z.kc] 30)).alloc (.cells #[Value.int .i64 1, .int .i64 5, .int .u64 0, .float .f64 0, .string ⟨#[]⟩, .bool false, .slice none 0 0, .slice none 0 0] 35))) := ((Below.refl _ _).alloc (Nat.le_refl _) _).alloc (by simp) _
            have h8 := heap_alloc_new w7 (.cells #[Value.int .i64 z.kind, .int .i64 z.int, .float .f64 z.fl, .string z.text, .bool z.bool, .slice z.ip z.items.length z.ic, .slice z.kp z.keys.length z.kc] 30)
            have h9 := heap_alloc_new (w7.alloc (.cells #[Value.int .i64 z.kind, .int .i64 z.int, .float .f64 z.fl, .string z.text, .bool z.bool, .slice z.ip z.items.length z.ic, .slice z.kp z.keys.length z.kc] 30)) (.cells #[Value.int .i64 1, .int .i64 5, .int .u64 0, .float .f64 0, .string ⟨#[]⟩, .bool false, .slice none 0 0, .slice none 0 0] 35)
            have HL := Lib.hid (implFetchLit _ _ h9)
            simp only [World.size_alloc] at HL
            have T8 := Lib.hid ((T6.out.later hb7).later B8.out)
            have G8 : Hid (((w7.alloc (.cells #[Value.int .i64 z.kind, .int .i64 z.int, .float .f64 z.fl, .string z.text, .bool z.bool, .slice z.ip z.items.length z.ic, .slice z.kp z.keys.length z.kc] 30)).alloc (.cells #[Value.int .i64 1, .int .i64 5, .int .u64 0, .float .f64 0, .string ⟨#[]⟩, .bool false, .slice none 0 0, .slice none 0 0] 35)).heap[g]? = _) := (B8.out.block _ (Nat.lt_of_lt_of_le (lt_of_block G6.out) hb7.size)).trans ((hb7.block _ (lt_of_block G6.out)).trans G6.out)
            have H8 : Hid (((w7.alloc (.cells #[Value.int .i64 z.kind, .int .i64 z.int, .float .f64 z.fl, .string z.text, .bool z.bool, .slice z.ip z.items.length z.ic, .slice z.kp z.keys.length z.kc] 30)).alloc (.cells #[Value.int .i64 1, .int .i64 5, .int .u64 0, .float .f64 0, .string ⟨#[]⟩, .bool false, .slice none 0 0, .slice none 0 0] 35)).heap[w7.heap.size]? = some (.cells #[Value.int .i64 z.kind, .int .i64 z.int, .float .f64 z.fl, .string z.text, .bool z.bool, .slice z.ip z.items.length z.ic, .slice z.kp z.keys.length z.kc] 30 (0, 0))) := (Below.heap_alloc _ _ _ (by simp)).trans h8
            have D8 := Lib.hid (D6.out.keep (fun b hB => (B8.out.block _ (Nat.lt_of_lt_of_le (B6.out b hB) hb7.size)).trans (hb7.block _ (B6.out b hB))) (fun _ h => h))
            have BB8 := Lib.hid (fun b hB => Nat.lt_of_lt_of_le (Nat.lt_of_lt_of_le (B6.out b hB) hb7.size) B8.out.size)
            clear h8 h9 hb7 B8 G6 T6 D6 B6
            go_wp2_with fail
            refine Calls.mono (by exact HL.out) ?_
            rintro e w9 ⟨rfl, hb9⟩
            have BA : Hid (Below w9.heap.size w9 (w9.alloc (.cells #[Value.int .i64 1, .int .i64 5, .int .u64 0, .float .f64 0, .string ⟨#[]⟩, .bool false, .slice none 0 0, .slice none 0 0] 35))) := (Below.refl _ _).alloc (Nat.le_refl _) _
            have h10 := heap_alloc_new w9 (.cells #[Value.int .i64 1, .int .i64 5, .int .u64 0, .float .f64 0, .string ⟨#[]⟩, .bool false, .slice none 0 0, .slice none 0 0] 35)
            have TB := Lib.hid ((T8.out.later hb9).later BA.out)
            have G9 := (BA.out.block _ (Nat.lt_of_lt_of_le (lt_of_block G8.out) hb9.size)).trans ((hb9.block _ (lt_of_block G8.out)).trans G8.out)
            have H9 := (BA.out.block _ (Nat.lt_of_lt_of_le (lt_of_block H8.out) hb9.size)).trans ((hb9.block _ (lt_of_block H8.out)).trans H8.out)
            obtain ⟨b0, b1, b2, b3, b4, b5, b6, b7⟩ := eight h10
            have HC := Lib.hid (cuSame_like v z _ _ r (fun b hB => Nat.lt_of_lt_of_le (Nat.lt_of_lt_of_le (BB8.out b hB) hb9.size) BA.out.size) (D8.out.keep (fun b hB => (BA.out.block _ (Nat.lt_of_lt_of_le (BB8.out b hB) hb9.size)).trans (hb9.block _ (BB8.out b hB))) (fun _ h => h)) (NZ.out.2 v L6.out) L6.out (SV.in_later TB.out.below _ NZ.out.1.1) NZ.out.1.2)
            obtain ⟨e0, e1, e2, e3, e4, e5, e6, e7⟩ := eight G9
            obtain ⟨s0, s1, s2, s3, s4, s5, s6⟩ := seven H9
            unfold SV.val Dv.val at HC
            clear h10 G9 H9 G8 H8 T8 D8 BB8 hb9 BA
            go_wp2_with fail
            refine Calls.mono (by exact HC.out) ?_
            rintro e w10 ⟨rfl, hb10⟩
            have TZ := Lib.hid (TB.out.later hb10)
            clear hb10 b0 b1 b2 b3 b4 b5 b6 b7 e0 e1 e2 e3 e4 e5 e6 e7 s0 s1 s2 s3 s4 s5 s6
            go_wp2_with fail
            go_ret
            exact ⟨rfl, TZ.out.below⟩
        | none =>
          have IFX := Lib.hid (fun w B B2 d d2 hB hB2 hd hd2 => implFetch X Y w B B2 d d2 hB hB2 hd hd2 HP.out)
          have AT := Lib.hid (fun w' hx => CA.out w' hx HP.out)
          rw [hres] at IFX AT
          clear hres HOK CA HP C1 C2 F1 F2 P1 P2
          have TA := T4.out
          refine wp_region_chainr [0, 1, 2, 3, 4, 5, 6, 7, 8] [5, 6, 7] [9, 10] [some 58, some 59, some 60, some 61, some 62, some 57, some 63, some 64, some 5] _
            (fun p => [p])
            (fun p u w' => match p with
              | 0 => u 0 = .agg #[.int .i64 6, .int .i64 n, .float .f64 f, .string t, .bool b, .slice ip items.length ic, .slice kp keys.length kc]
              | 1 => ∃ d : Dv, u 1 = d.val ∧ DoorOf w' (betw 0 w'.heap.size) X d
              | 2 => u 2 = .agg #[.int .i64 3, .int .i64 n2, .float .f64 f2, .string t2, .bool b2, .slice ip2 items2.length ic2, .slice kp2 keys2.length kc2]
              | 3 => ∃ d : Dv, u 3 = d.val ∧ DoorOf w' (betw 0 w'.heap.size) Y d
              | 4 => u 4 = .tuple #[.agg #[Value.int .i64 0, .int .i64 0, .int .u64 0, .float .f64 0, .string ⟨#[]⟩, .bool false, .slice none 0 0, .slice none 0 0], .int .i64 2]
              | 5 => u 5 = .tuple #[.agg #[Value.int .i64 0, .int .i64 0, .int .u64 0, .float .f64 0, .string ⟨#[]⟩, .bool false, .slice none 0 0, .slice none 0 0], .int .i64 2]
              | 6 => u 6 = .agg #[Value.int .i64 0, .int .i64 0, .int .u64 0, .float .f64 0, .string ⟨#[]⟩, .bool false, .slice none 0 0, .slice none 0 0]
              | 7 => u 7 = .int .i64 2
              | 8 => ∃ g, u 8 = .pointer (some ⟨g, 0, none⟩)
              | _ => True) (FR w4 noV)
            (by kernel_rfl) (by kernel_rfl) rfl rfl ?mono ?same ?start ?take ?step ?tail
          case mono =>
            intro p u w' w'' hp hF hb
            match p, hF with
            | 0, hF => exact hF
            | 1, ⟨d, h1, h2⟩ => exact ⟨d, h1, h2.keep (fun b h => hb.block b h.2) (fun b h => ⟨h.1, Nat.lt_of_lt_of_le h.2 hb.size⟩)⟩
            | 2, hF => exact hF
            | 3, ⟨d, h1, h2⟩ => exact ⟨d, h1, h2.keep (fun b h => hb.block b h.2) (fun b h => ⟨h.1, Nat.lt_of_lt_of_le h.2 hb.size⟩)⟩
            | 4, hF => exact hF
            | 5, hF => exact hF
            | 6, hF => exact hF
            | 7, hF => exact hF
            | 8, hF => exact hF
            | p + 9, _ => exact trivial
          case same =>
            intro p u u' w' hp hd hF
            match p, hd, hF with
            | 0, hd, hF => rw [← hd 0 (by simp)]; exact hF
            | 1, hd, hF => rw [← hd 1 (by simp)]; exact hF
            | 2, hd, hF => rw [← hd 2 (by simp)]; exact hF
            | 3, hd, hF => rw [← hd 3 (by simp)]; exact hF
            | 4, hd, hF => rw [← hd 4 (by simp)]; exact hF
            | 5, hd, hF => rw [← hd 5 (by simp)]; exact hF
            | 6, hd, hF => rw [← hd 6 (by simp)]; exact hF
            | 7, hd, hF => rw [← hd 7 (by simp)]; exact hF
            | 8, hd, hF => rw [← hd 8 (by simp)]; exact hF
            | p + 9, _, _ => exact trivial
          case start => exact ⟨fun g h => (by cases h), fun c h => (by cases h)⟩
          case take =>
            intro p i o hp ht ho u w5 hb hR hF
            have hpc : p = 0 ∨ p = 1 ∨ p = 2 ∨ p = 3 ∨ p = 4 ∨ p = 5 ∨ p = 6 ∨ p = 7 ∨ p = 8 := by
              have : p < 9 := (List.getElem?_eq_some_iff.1 hp).1
              omega
            rcases hpc with rfl | rfl | rfl | rfl | rfl | rfl | rfl | rfl | rfl
            all_goals
              simp only [List.getElem?_cons_zero, List.getElem?_cons_succ, Option.some.injEq] at hp
              subst hp
            iterate 5 (simp at ht)
            · simp only [List.getElem?_toArray, List.getElem?_cons_zero, List.getElem?_cons_succ, Option.some.injEq] at ho
              subst ho
              have h4 : u 4 = _ := hF 4 4 rfl (by kernel_rfl)
              refine ⟨.tuple #[.agg #[Value.int .i64 0, .int .i64 0, .int .u64 0, .float .f64 0, .string ⟨#[]⟩, .bool false, .slice none 0 0, .slice none 0 0], .int .i64 2], ⟨?a5, upd_at _ _ _, (hR.keep (upd_far _ _ _ _ (by decide)) (upd_far _ _ _ _ (by decide)) (Below.refl _ _))⟩⟩
              case a5 =>
                refine .inl ⟨by rfl, fun w => ?_⟩
                simp only [putAll, Act.put, List.setIfInBounds_toArray, List.set_cons_succ, List.set_cons_zero, Nat.zero_add, Nat.reduceAdd, h4]
                clear h4 hF hR
                go_simp
            · simp only [List.getElem?_toArray, List.getElem?_cons_zero, List.getElem?_cons_succ, Option.some.injEq] at ho
              subst ho
              have h4 : u 5 = _ := hF 5 5 rfl (by kernel_rfl)
              refine ⟨.agg #[Value.int .i64 0, .int .i64 0, .int .u64 0, .float .f64 0, .string ⟨#[]⟩, .bool false, .slice none 0 0, .slice none 0 0], ⟨?a6, upd_at _ _ _, (hR.keep (upd_far _ _ _ _ (by decide)) (upd_far _ _ _ _ (by decide)) (Below.refl _ _))⟩⟩
              case a6 =>
                refine .inl ⟨by rfl, fun w => ?_⟩
                simp only [putAll, Act.put, List.setIfInBounds_toArray, List.set_cons_succ, List.set_cons_zero, Nat.zero_add, Nat.reduceAdd, h4]
                clear h4 hF hR
                go_simp
            · simp only [List.getElem?_toArray, List.getElem?_cons_zero, List.getElem?_cons_succ, Option.some.injEq] at ho
              subst ho
              have h4 : u 5 = _ := hF 5 5 rfl (by kernel_rfl)
              refine ⟨.int .i64 2, ⟨?a7, upd_at _ _ _, (hR.keep (upd_far _ _ _ _ (by decide)) (upd_far _ _ _ _ (by decide)) (Below.refl _ _))⟩⟩
              case a7 =>
                refine .inl ⟨by rfl, fun w => ?_⟩
                simp only [putAll, Act.put, List.setIfInBounds_toArray, List.set_cons_succ, List.set_cons_zero, Nat.zero_add, Nat.reduceAdd, h4]
                clear h4 hF hR
                go_simp
            · simp at ht
          case step =>
            intro p i o hp ht ho u w5 hb hR hF K hK Q'
            have T5 := TA.later hb
            obtain ⟨a0, a1, a2, a3, a4, a5, a6⟩ := seven T5.fst
            obtain ⟨d0, d1, d2, d3, d4, d5, d6⟩ := seven T5.snd
            have HB5 := Lib.hid T5.below
            have HS5 := Lib.hid hb.size
            clear hb
            have hpc : p = 0 ∨ p = 1 ∨ p = 2 ∨ p = 3 ∨ p = 4 ∨ p = 5 ∨ p = 6 ∨ p = 7 ∨ p = 8 := by
              have : p < 9 := (List.getElem?_eq_some_iff.1 hp).1
              omega
            rcases hpc with rfl | rfl | rfl | rfl | rfl | rfl | rfl | rfl | rfl
            all_goals
              simp only [List.getElem?_cons_zero, List.getElem?_cons_succ, Option.some.injEq] at hp
              subst hp
              simp only [List.getElem?_toArray, List.getElem?_cons_zero, List.getElem?_cons_succ, Option.some.injEq] at ho
              subst ho
              have HF := Lib.hid hF
              clear hF
              simp only [putAll, Act.put, List.setIfInBounds_toArray, List.set_cons_succ, List.set_cons_zero, Nat.zero_add, Nat.reduceAdd] at hK ⊢
            · have HK := Lib.hid hK
              clear hK
              go_simp
              exact HK.out _ _ _ rfl (upd_at _ _ _) (hR.keep (upd_far _ _ _ _ (by decide)) (upd_far _ _ _ _ (by decide)) (Below.refl _ _)) (Below.refl _ _)
            · have f0 : u 0 = _ := HF.out 0 0 rfl (by kernel_rfl)
              rw [f0] at hK ⊢
              have HK := Lib.hid hK
              clear hK f0
              go_simp
              refine Calls.mono (by exact COX.out _ HB5.out) ?_
              rintro e w6' ⟨d, rfl, hb6, hd⟩
              exact HK.out _ _ _ rfl ⟨d, upd_at _ _ _, hd.keep (fun b h => rfl) (fun b h => ⟨Nat.zero_le _, h.2⟩)⟩ (hR.keep (upd_far _ _ _ _ (by decide)) (upd_far _ _ _ _ (by decide)) hb6) hb6
            · have HK := Lib.hid hK
              clear hK
              go_simp
              exact HK.out _ _ _ rfl (upd_at _ _ _) (hR.keep (upd_far _ _ _ _ (by decide)) (upd_far _ _ _ _ (by decide)) (Below.refl _ _)) (Below.refl _ _)
            · have f0 : u 2 = _ := HF.out 2 2 rfl (by kernel_rfl)
              rw [f0] at hK ⊢
              have HK := Lib.hid hK
              clear hK f0
              go_simp
              refine Calls.mono (by exact COY.out _ HB5.out) ?_
              rintro e w6' ⟨d, rfl, hb6, hd⟩
              exact HK.out _ _ _ rfl ⟨d, upd_at _ _ _, hd.keep (fun b h => rfl) (fun b h => ⟨Nat.zero_le _, h.2⟩)⟩ (hR.keep (upd_far _ _ _ _ (by decide)) (upd_far _ _ _ _ (by decide)) hb6) hb6
            · obtain ⟨d, f1, hd⟩ := HF.out 1 1 rfl (by kernel_rfl)
              obtain ⟨d', f3, hd'⟩ := HF.out 3 3 rfl (by kernel_rfl)
              rw [f1, f3] at hK ⊢
              have HK := Lib.hid hK
              have HC := Lib.hid (IFX.out w5 _ _ d d' (fun b h => h.2) (fun b h => h.2) hd hd')
              clear hK f1 f3 hd hd'
              go_simp
              refine Calls.mono (by exact HC.out) ?_
              rintro e w6' ⟨hb6, rfl⟩
              exact HK.out _ _ _ rfl (upd_at _ _ _) (hR.fault (upd_at _ _ _) (upd_far _ _ _ _ (by decide)) hb6) hb6
            · simp at ht
            · simp at ht
            · simp at ht
            · have HK := Lib.hid hK
              clear hK
              go_simp
              exact HK.out _ _ _ rfl ⟨_, upd_at _ _ _⟩ (hR.alloc (upd_far _ _ _ _ (by decide)) (upd_at _ _ _) HS5.out) ((Below.refl _ _).alloc (Nat.le_refl _) _)
          case tail =>
            intro u w5 hb hR hF K HKK
            have f0 : u 0 = _ := hF 0 (by decide)
            have f7 : u 7 = _ := hF 7 (by decide)
            obtain ⟨g, f8⟩ := hF 8 (by decide)
            obtain ⟨hg, hWg⟩ := hR.al g f8
            have f6 : u 6 = _ := hF 6 (by decide)
            have TW := TA.later hb
            obtain ⟨W6, hW6⟩ : ∃ W6, W6 = store8 w5 g (.int .i64 0) (.int .i64 0) (.int .u64 0) (.float .f64 0) (.string ⟨#[]⟩) (.bool false) (.slice none 0 0) (.slice none 0 0) := ⟨_, rfl⟩
            have hG6 : W6.heap[g]? = some (.cells #[Value.int .i64 0, .int .i64 0, .int .u64 0, .float .f64 0, .string ⟨#[]⟩, .bool false, .slice none 0 0, .slice none 0 0] 35 (0, 0)) := by rw [hW6]; exact store8_at _ _ _ _ _ _ _ _ hg
            have hT6 : Two w W6 (.cells #[.int .i64 6, .int .i64 n, .float .f64 f, .string t, .bool b, .slice ip items.length ic, .slice kp keys.length kc] 30) (.cells #[.int .i64 3, .int .i64 n2, .float .f64 f2, .string t2, .bool b2, .slice ip2 items2.length ic2, .slice kp2 keys2.length kc2] 30) := by
              have h1 := TA.size
              have l1 := lt_of_block TW.fst
              rw [hW6]
              refine ⟨(store8_other _ _ _ _ _ _ _ _ (by omega)).trans TW.fst, (store8_other _ _ _ _ _ _ _ _ (by omega)).trans TW.snd, by rw [store8_size]; exact TW.size, store8_below _ _ _ _ _ _ _ _ TW.below (by omega)⟩
            have hg0 := cell_at_block hg 0 _ rfl
            have zg := free_block hg
            unfold store8 at hW6
            clear hF hR TA hb TW hWg hg0
            obtain ⟨b0, b1, b2, b3, b4, b5, b6, b7⟩ := eight hg
            clear hg
            simp only [putAll, Act.put, List.setIfInBounds_toArray, List.set_cons_succ, List.set_cons_zero, Nat.zero_add, Nat.reduceAdd, List.filterMap_cons, List.filterMap_nil, List.getElem?_toArray, List.getElem?_cons_zero, List.getElem?_cons_succ, f6, f7, f8]
            clear f6 f7 f8 f0
            go_wp2_with fail
            refine HKK.out _ _ ?_
            clear HKK b0 b1 b2 b3 b4 b5 b6 b7 zg
            rw [← hW6]
            clear hW6
            have T6 := Lib.hid hT6
            have G6 := Lib.hid hG6
            clear hT6 hG6
            have HAT := Lib.hid (AT.out _ (SV.in_later T6.out.below _ HX.out))
            unfold atR zeroV at HAT
            dsimp only at HAT
            obtain ⟨a0, a1, a2, a3, a4, a5, a6⟩ := seven T6.out.fst
            obtain ⟨d0, d1, d2, d3, d4, d5, d6⟩ := seven T6.out.snd
            go_wp2_with fail
            refine Calls.mono (by exact HAT.out) ?_
            rintro e w7 ⟨rfl, hb7⟩
            clear a0 a1 a2 a3 a4 a5 a6 d0 d1 d2 d3 d4 d5 d6 HAT
            have B8 : Hid (Below w7.heap.size w7 ((w7.alloc (.cells #[Value.int .i64 0, .int .i64 0, .float .f64 0, .string ⟨#[]⟩, .bool false, .slice none 0 0, .slice none 0 0] 30)).alloc (.cells #[Value.int .i64 1, .int .i64 5, .int .u64 0, .float .f64 0, .string ⟨#[]⟩, .bool false, .slice none 0 0, .slice none 0 0] 35))) := ((Below.refl _ _).alloc (Nat.le_refl _) _).alloc (by simp) _
            have h8 := heap_alloc_new w7 (.cells #[Value.int .i64 0, .int .i64 0, .float .f64 0, .string ⟨#[]⟩, .bool false, .slice none 0 0, .slice none 0 0] 30)
            have h9 := heap_alloc_new (w7.alloc (.cells #[Value.int .i64 0, .int .i64 0, .float .f64 0, .string ⟨#[]⟩, .bool false, .slice none 0 0, .slice none 0 0] 30)) (.cells #[Value.int .i64 1, .int .i64 5, .int .u64 0, .float .f64 0, .string ⟨#[]⟩, .bool false, .slice none 0 0, .slice none 0 0] 35)
            have HL := Lib.hid (implFetchLit _ _ h9)
            simp only [World.size_alloc] at HL
            have T8 := Lib.hid ((T6.out.later hb7).later B8.out)
            have G8 : Hid (((w7.alloc (.cells #[Value.int .i64 0, .int .i64 0, .float .f64 0, .string ⟨#[]⟩, .bool false, .slice none 0 0, .slice none 0 0] 30)).alloc (.cells #[Value.int .i64 1, .int .i64 5, .int .u64 0, .float .f64 0, .string ⟨#[]⟩, .bool false, .slice none 0 0, .slice none 0 0] 35)).heap[g]? = _) := (B8.out.block _ (Nat.lt_of_lt_of_le (lt_of_block G6.out) hb7.size)).trans ((hb7.block _ (lt_of_block G6.out)).trans G6.out)
            have H8 : Hid (((w7.alloc (.cells #[Value.int .i64 0, .int .i64 0, .float .f64 0, .string ⟨#[]⟩, .bool false, .slice none 0 0, .slice none 0 0] 30)).alloc (.cells #[Value.int .i64 1, .int .i64 5, .int .u64 0, .float .f64 0, .string ⟨#[]⟩, .bool false, .slice none 0 0, .slice none 0 0] 35)).heap[w7.heap.size]? = some (.cells #[Value.int .i64 0, .int .i64 0, .float .f64 0, .string ⟨#[]⟩, .bool false, .slice none 0 0, .slice none 0 0] 30 (0, 0))) := (Below.heap_alloc _ _ _ (by simp)).trans h8
            clear h8 h9 hb7 B8 G6 T6
            go_wp2_with fail
            refine Calls.mono (by exact HL.out) ?_
            rintro e w9 ⟨rfl, hb9⟩
            have BA : Hid (Below w9.heap.size w9 (w9.alloc (.cells #[Value.int .i64 1, .int .i64 5, .int .u64 0, .float .f64 0, .string ⟨#[]⟩, .bool false, .slice none 0 0, .slice none 0 0] 35))) := (Below.refl _ _).alloc (Nat.le_refl _) _
            have h10 := heap_alloc_new w9 (.cells #[Value.int .i64 1, .int .i64 5, .int .u64 0, .float .f64 0, .string ⟨#[]⟩, .bool false, .slice none 0 0, .slice none 0 0] 35)
            have TB := Lib.hid ((T8.out.later hb9).later BA.out)
            have G9 := (BA.out.block _ (Nat.lt_of_lt_of_le (lt_of_block G8.out) hb9.size)).trans ((hb9.block _ (lt_of_block G8.out)).trans G8.out)
            have H9 := (BA.out.block _ (Nat.lt_of_lt_of_le (lt_of_block H8.out) hb9.size)).trans ((hb9.block _ (lt_of_block H8.out)).trans H8.out)
            obtain ⟨b0, b1, b2, b3, b4, b5, b6, b7⟩ := eight h10
            clear h10 G9 H9 G8 H8 T8 hb9 BA
            go_wp2_with fail
            go_ret
            exact ⟨rfl, TB.out.below⟩

      · have h3' : (k2 == 3) = false := by simp; omega
        go_wp2_with fail
        go_ret
        exact ⟨rfl, T4.out.below⟩
    · have h5' : (k == 5) = false := by simp; omega
      have h6' : (k == 6) = false := by simp; omega
      go_wp2_with fail
      go_ret
      exact ⟨rfl, T4.out.below⟩

namespace fnFetch
open Go.ChangeShapes Go.WideShapes Go.ChangeAt

set_option maxRecDepth 100000 in
theorem lifted (os : Os) (started : os.Started) (H : Type) (enc : TypeId × Value → H) :
    ReturnsInHanded {} Try.checked os 9 .any (Rows.fnFetchSpec.pre6 enc Try.prog Try.f9 Rows.fnFetchRow.domain false) (Rows.fnFetchSpec.post enc Try.prog Try.f9 false true false false) := by
  refine returnsInHanded_of_change (C := Try.checked) own started (by kernel_rfl) Try.func9
    (ChangeSpec.witness6 (enc := enc) (C := Try.checked) false ⟨#[], #[zeroV, zeroV], []⟩ 8 (by kernel_rfl) (by kernel_rfl) (by kernel_rfl) (by kernel_rfl)) ?_
  intro W base args ds gs before hval0 hW _ _
  have hval : ∀ (j : Nat) t v, Try.f9.params[j]? = some t → args[j]? = some v → Value.okWide Try.prog W .any base t v := hval0
  have hW' := hW
  obtain ⟨p, q, hA0, hV, rfl, hfz, hnd⟩ := hW
  have hA : DataW.TrodAll enc Try.prog W 0 (fun _ => true) true Try.f9.params.toList args.toList ds p := hA0
  rw [Try.params9] at hA hval
  obtain ⟨v0, vs0, d0, ds0, p0, q0, hargs, rfl, rfl, h0, r0⟩ := trodAll_cons hA
  obtain ⟨v1, vs1, d1, ds1, p1, q1, rfl, rfl, rfl, h1, r1⟩ := trodAll_cons r0
  obtain ⟨rfl, rfl, rfl⟩ := trodAll_nil r1
  obtain rfl : args = #[v0, v1] := by cases args; simp_all
  obtain ⟨rfl, rfl⟩ := trodVars_none hV
  obtain ⟨x, rfl, hx⟩ := open_V (hval 0 30 v0 rfl rfl) h0
  obtain ⟨y, rfl, hy⟩ := open_V (hval 1 30 v1 rfl rfl) h1
  clear hA0 hval0
  refine (fnFetch_any x y W hx hy).mono fun e W' ⟨he, hb⟩ => ?_
  subst he
  exact ⟨_, rfl, law_post hW' rfl rfl (by intro t ht; rw [Try.params9] at ht; simp at ht; subst ht; exact ⟨by kernel_rfl, of_decide_eq_true (by kernel_rfl)⟩) rfl rfl rfl hb⟩

theorem proved : Rows.FnFetchSaid :=
  OpenClaim.holds_of_wide 9 Try.f9 rfl rfl rfl rfl rfl rfl rfl ⟨rfl, rfl, rfl, rfl, rfl⟩ rfl rfl rfl rfl rfl (by kernel_rfl) Try.func9 (by kernel_rfl)
    (of_decide_eq_true (by kernel_rfl)) (by unfold Func.isWrapper; first | (rw [if_pos (by decide +kernel)]; kernel_rfl) | (rw [if_neg (by decide +kernel)]; exact ⟨rfl, rfl⟩))
    (fun os started H enc _ => lifted os started H enc)
end fnFetch

/-- THE STATEMENT. -/
theorem fnFetch_holds : Rows.FnFetchSaid := fnFetch.proved
#print axioms fnFetch_holds
end Go.Proofs.Ythmogfjmngbamaa

