/-
  'laws.cuQuotients' walked at plain values: it returns true.
-/
import Derived.Test.YthmogfjmngbamaaScu
import Derived.Test.YthmogfjmngbamaaKit
import Derived.Test.YthmogfjmngbamaaDraw
import Derived.Deep.Cut
namespace Go.Proofs.Ythmogfjmngbamaa
open Go.RowKit
set_option linter.unusedSimpArgs false
set_option linter.unusedVariables false

theorem any_eight {w1 : World} {b : Nat} {c0 c1 c2 c3 c4 c5 c6 c7 : Value} {t : TypeId} (h : w1.heap[b]? = some (.cells #[c0, c1, c2, c3, c4, c5, c6, c7] t (0, 0))) :
    (∀ o, (w1.alloc o).cell? ⟨b, 0, none⟩ = some c0) ∧ (∀ o, (w1.alloc o).cell? ⟨b, 1, none⟩ = some c1) ∧ (∀ o, (w1.alloc o).cell? ⟨b, 2, none⟩ = some c2) ∧ (∀ o, (w1.alloc o).cell? ⟨b, 3, none⟩ = some c3) ∧
    (∀ o, (w1.alloc o).cell? ⟨b, 4, none⟩ = some c4) ∧ (∀ o, (w1.alloc o).cell? ⟨b, 5, none⟩ = some c5) ∧ (∀ o, (w1.alloc o).cell? ⟨b, 6, none⟩ = some c6) ∧ (∀ o, (w1.alloc o).cell? ⟨b, 7, none⟩ = some c7) :=
  ⟨fun o => cell_at_block (seven_later h o) 0 _ rfl, fun o => cell_at_block (seven_later h o) 1 _ rfl, fun o => cell_at_block (seven_later h o) 2 _ rfl, fun o => cell_at_block (seven_later h o) 3 _ rfl,
    fun o => cell_at_block (seven_later h o) 4 _ rfl, fun o => cell_at_block (seven_later h o) 5 _ rfl, fun o => cell_at_block (seven_later h o) 6 _ rfl, fun o => cell_at_block (seven_later h o) 7 _ rfl⟩

theorem quo_both (x y : SV) (o o' : Option SV) (h : (quoR x y).Good o) (h' : (quoR x y).Good o') :
    (o = none ∧ o' = none) ∨ ∃ v v', o = some (.ofFloat v) ∧ o' = some (.ofFloat v') ∧ FlAlike v v' := by
  unfold quoR nums at h h'
  split at h
  · rename_i a b e1 e2
    simp only [e1, e2] at h'
    obtain ⟨v, hv, rfl⟩ := h
    obtain ⟨v', hv', rfl⟩ := h'
    exact .inr ⟨v, v', rfl, rfl, flAlike_of hv hv'⟩
  · rename_i hn
    split at h'
    · rename_i a b e1 e2
      exact (hn a b e1 e2).elim
    · exact .inl ⟨h, h'⟩
theorem rem_both (x y : SV) (o o' : Option SV) (h : (remR x y).Good o) (h' : (remR x y).Good o') :
    (o = none ∧ o' = none) ∨ ∃ n, o = some (.ofInt n) ∧ o' = some (.ofInt n) := by
  unfold remR at h h'
  split at h
  · rename_i hc
    rw [if_pos hc] at h'
    exact .inr ⟨_, h, h'⟩
  · rename_i hc
    rw [if_neg hc] at h'
    exact .inl ⟨h, h'⟩
theorem flAlike_ways {v v' : Nat} (h : FlAlike v v') : (FloatKind.f64.format.order v v' != some .eq) = false ∨
    ((FloatKind.f64.format.order v v' != some .eq) = true ∧ (FloatKind.f64.format.order v v == some .eq) = false ∧ (FloatKind.f64.format.order v' v' == some .eq) = false) := by
  rcases h with h | ⟨h1, h2, h3⟩
  · exact .inl (by simp [bne, h])
  · refine .inr ⟨by simp [bne, h1], ?_, ?_⟩
    · simpa [bne] using h2
    · simpa [bne] using h3

set_option maxHeartbeats 4000000 in
set_option maxRecDepth 100000 in
theorem cuQuotients_plain (x y : SV) (hx : SV.Plain x) (hy : SV.Plain y) (w : World) : Calls Try.prog 45 #[x.val, y.val] w (Holds w) := by
  have PX := Lib.hid hx
  have PY := Lib.hid hy
  have C1 := Lib.hid (cuOf_plain x)
  have C2 := Lib.hid (cuOf_plain y)
  have A1 := Lib.hid (cuArithmetic_any 47 (.inr (.inr (.inr (.inl rfl)))) x y hx.text hy.text)
  have A2 := Lib.hid (cuArithmetic_any 37 (.inr (.inr (.inr (.inr rfl)))) x y hx.text hy.text)
  have D1 := Lib.hid (implDivide x y hx hy)
  have D2 := Lib.hid (implModulo x y hx hy)
  have ea : arOf (47 : UInt8).toNat x y = quoR x y := rfl
  have eb : arOf (37 : UInt8).toNat x y = remR x y := rfl
  rw [ea] at A1
  rw [eb] at A2
  clear hx hy ea eb
  have HQ := Lib.hid (quo_both x y)
  have HM := Lib.hid (rem_both x y)
  generalize quoR x y = q1 at *
  generalize remR x y = q2 at *
  generalize hxx : x = X at *
  generalize hyy : y = Y at *
  cases x with
  | mk k n f t b ip ic items kp kc keys =>
  cases y with
  | mk k2 n2 f2 t2 b2 ip2 ic2 items2 kp2 kc2 keys2 =>
  have vx : X.val = .agg #[.int .i64 k, .int .i64 n, .float .f64 f, .string t, .bool b, .slice ip items.length ic, .slice kp keys.length kc] := by rw [← hxx]; rfl
  have vy : Y.val = .agg #[.int .i64 k2, .int .i64 n2, .float .f64 f2, .string t2, .bool b2, .slice ip2 items2.length ic2, .slice kp2 keys2.length kc2] := by rw [← hyy]; rfl
  rw [vx] at A1 A2 C1 ⊢
  rw [vy] at A1 A2 C2 ⊢
  clear vx vy hxx hyy
  have CX := Lib.hid (C1.out PX.out)
  have CY := Lib.hid (C2.out PY.out)
  clear C1 C2
  unfold SV.door at CX CY D1 D2
  go_enter Try.func45, Try.ntmps45
  have T4 : Hid (Two w ((w.alloc (.cells #[.int .i64 k, .int .i64 n, .float .f64 f, .string t, .bool b, .slice ip items.length ic, .slice kp keys.length kc] 30)).alloc (.cells #[.int .i64 k2, .int .i64 n2, .float .f64 f2, .string t2, .bool b2, .slice ip2 items2.length ic2, .slice kp2 keys2.length kc2] 30)) _ _) := Two.mk' (Below.refl _ _)
  go_upto_region 1 with fail
  obtain ⟨wz, hwz⟩ : ∃ wz, wz = ((w.alloc (.cells #[.int .i64 k, .int .i64 n, .float .f64 f, .string t, .bool b, .slice ip items.length ic, .slice kp keys.length kc] 30)).alloc (.cells #[.int .i64 k2, .int .i64 n2, .float .f64 f2, .string t2, .bool b2, .slice ip2 items2.length ic2, .slice kp2 keys2.length kc2] 30)) := ⟨_, rfl⟩
  rw [← hwz] at T4 ⊢
  clear hwz
  have a0 : True := trivial
  have a1 : True := trivial
  have a2 : True := trivial
  have a3 : True := trivial
  have a4 : True := trivial
  have a5 : True := trivial
  have a6 : True := trivial
  have d0 : True := trivial
  have d1 : True := trivial
  have d2 : True := trivial
  have d3 : True := trivial
  have d4 : True := trivial
  have d5 : True := trivial
  have d6 : True := trivial
  refine wp_region_apart (n := 6) (ds := [some 13, some 14, some 15, some 16, some 5, some 6]) (fun i v w' => match i with
    | 0 => v = .agg #[.int .i64 k, .int .i64 n, .float .f64 f, .string t, .bool b, .slice ip items.length ic, .slice kp keys.length kc]
    | 1 => v = X.door
    | 2 => v = .agg #[.int .i64 k2, .int .i64 n2, .float .f64 f2, .string t2, .bool b2, .slice ip2 items2.length ic2, .slice kp2 keys2.length kc2]
    | 3 => v = Y.door
    | _ => ∃ g, v = .pointer (some ⟨g, 0, none⟩) ∧ wz.heap.size ≤ g ∧ w'.heap[g]? = some (.cells #[.int .i64 0, .int .i64 0, .int .u64 0, .float .f64 0, .string ⟨#[]⟩, .bool false, .slice none 0 0, .slice none 0 0] 35 (0, 0)))
    (fun i j v v' => (i = 4 ∧ j = 5) ∨ (i = 5 ∧ j = 4) → v ≠ v') (by kernel_rfl) (by kernel_rfl) rfl ?mono ?step ?tail
  case mono =>
    intro i v w' w'' hi hF hb
    match i, hF with
    | 0, hF => exact hF
    | 1, hF => exact hF
    | 2, hF => exact hF
    | 3, hF => exact hF
    | i + 4, ⟨g, h1, h2, h3⟩ => exact ⟨g, h1, h2, (hb.block g (lt_of_block h3)).trans h3⟩
  case step =>
    intro i o hi ho u w5 hb hF K hK
    have T5 := T4.out.later hb
    obtain ⟨a0, a1, a2, a3, a4, a5, a6⟩ := seven T5.fst
    obtain ⟨d0, d1, d2, d3, d4, d5, d6⟩ := seven T5.snd
    have hi6 : i = 0 ∨ i = 1 ∨ i = 2 ∨ i = 3 ∨ i = 4 ∨ i = 5 := by omega
    rcases hi6 with rfl | rfl | rfl | rfl | rfl | rfl
    all_goals
      simp only [List.getElem?_toArray, List.getElem?_cons_zero, List.getElem?_cons_succ, Option.some.injEq] at ho
      subst ho
      have HF := Lib.hid hF
      clear hF
      simp only [putAll, Act.put, List.setIfInBounds_toArray, List.set_cons_succ, List.set_cons_zero, Nat.zero_add, Nat.reduceAdd] at hK ⊢
    · have HK := Lib.hid hK
      clear hK
      go_simp
      exact HK.out _ _ _ rfl rfl (Below.refl _ _) (fun j x _ _ _ h5 => by omega)
    · have f0 : u 0 = _ := HF.out 0 (by omega) (by kernel_rfl)
      rw [f0] at hK ⊢
      have HK := Lib.hid hK
      clear hK f0
      go_simp
      refine Calls.mono (by exact CX.out _) ?_
      rintro e w6 ⟨rfl, hb6⟩
      exact HK.out _ _ _ rfl rfl hb6 (fun j x _ _ _ h5 => by omega)
    · have HK := Lib.hid hK
      clear hK
      go_simp
      exact HK.out _ _ _ rfl rfl (Below.refl _ _) (fun j x _ _ _ h5 => by omega)
    · have f0 : u 2 = _ := HF.out 2 (by omega) (by kernel_rfl)
      rw [f0] at hK ⊢
      have HK := Lib.hid hK
      clear hK f0
      go_simp
      refine Calls.mono (by exact CY.out _) ?_
      rintro e w6 ⟨rfl, hb6⟩
      exact HK.out _ _ _ rfl rfl hb6 (fun j x _ _ _ h5 => by omega)
    · have HK := Lib.hid hK
      clear hK
      go_simp
      refine HK.out _ _ _ rfl ⟨_, rfl, hb.size, heap_alloc_new _ _⟩ ((Below.refl _ _).alloc (Nat.le_refl _) _) (fun j x _ _ hx h4 => ?_)
      obtain rfl : j = 5 := by omega
      obtain ⟨g, rfl, _, hg⟩ := hx
      have := lt_of_block hg
      simp
      try omega
    · have HK := Lib.hid hK
      clear hK
      go_simp
      refine HK.out _ _ _ rfl ⟨_, rfl, hb.size, heap_alloc_new _ _⟩ ((Below.refl _ _).alloc (Nat.le_refl _) _) (fun j x _ _ hx h4 => ?_)
      obtain rfl : j = 4 := by omega
      obtain ⟨g, rfl, _, hg⟩ := hx
      have := lt_of_block hg
      simp
      try omega
  case tail =>
    intro u w5 hb hF hD
    have f0 : u 0 = _ := hF 0 (by omega)
    have f1 : u 1 = _ := hF 1 (by omega)
    have f2 : u 2 = _ := hF 2 (by omega)
    have f3 : u 3 = _ := hF 3 (by omega)
    obtain ⟨g1, f4, hg1, hb1⟩ := hF 4 (by omega)
    obtain ⟨g2, f5, hg2, hb2⟩ := hF 5 (by omega)
    have hne : g1 ≠ g2 := by
      rcases hD 4 5 (by omega) (by omega) (by omega) with h | h
      · have := h (.inl ⟨rfl, rfl⟩)
        rw [f4, f5] at this
        simpa using this
      · have := h (.inr ⟨rfl, rfl⟩)
        rw [f4, f5] at this
        exact fun e => this (by rw [e])
    have T5 := Lib.hid (T4.out.later hb)
    have hs4 := T4.out.size
    clear hF hD T4 a0 a1 a2 a3 a4 a5 a6 d0 d1 d2 d3 d4 d5 d6 hb
    simp only [putAll, Act.put, List.setIfInBounds_toArray, List.set_cons_succ, List.set_cons_zero, Nat.zero_add, Nat.reduceAdd, List.drop_succ_cons, List.drop_zero, f0, f1, f2, f3, f4, f5]
    clear f0 f1 f2 f3 f4 f5
    obtain ⟨a0, a1, a2, a3, a4, a5, a6⟩ := seven T5.out.fst
    obtain ⟨d0, d1, d2, d3, d4, d5, d6⟩ := seven T5.out.snd
    obtain ⟨e0, e1, e2, e3, e4, e5, e6, e7⟩ := eight hb1
    obtain ⟨k0, k1, k2', k3, k4, k5, k6, k7⟩ := eight hb2
    have z1 := free_block hb1
    have z2 := free_block hb2
    have HG1 := Lib.hid hb1
    have HG2 := Lib.hid hb2
    have hne' : g2 ≠ g1 := fun e => hne e.symm
    clear hb1 hb2
    unfold SV.door
    go_wp2_with fail
    have HW : Hid (Four w (store8 (store8 w5 g1 (.int .i64 X.dk) (.int .i64 X.dn) (.int .u64 0) (.float .f64 X.df) (.string X.dt) (.bool X.db) (.slice none 0 0) (.slice none 0 0)) g2 (.int .i64 Y.dk) (.int .i64 Y.dn) (.int .u64 0) (.float .f64 Y.df) (.string Y.dt) (.bool Y.db) (.slice none 0 0) (.slice none 0 0)) _ _ g1 g2 _ _) := ⟨⟨by rw [store8_other _ _ _ _ _ _ _ _ (by omega), store8_other _ _ _ _ _ _ _ _ (by omega)]; exact T5.out.fst, by rw [store8_other _ _ _ _ _ _ _ _ (by omega), store8_other _ _ _ _ _ _ _ _ (by omega)]; exact T5.out.snd, by rw [store8_size, store8_size]; exact T5.out.size, store8_below _ _ _ _ _ _ _ _ (store8_below _ _ _ _ _ _ _ _ T5.out.below (by omega)) (by omega)⟩, by rw [store8_other _ _ _ _ _ _ _ _ hne]; exact store8_at _ _ _ _ _ _ _ _ HG1.out, store8_at _ _ _ _ _ _ _ _ (by rw [store8_other _ _ _ _ _ _ _ _ hne']; exact HG2.out)⟩
    have Q := HW
    clear HW HG1 HG2 T5 hs4 e0 e1 e2 e3 e4 e5 e6 e7 k0 k1 k2' k3 k4 k5 k6 k7 z1 z2 a0 a1 a2 a3 a4 a5 a6 d0 d1 d2 d3 d4 d5 d6 hne hne' hg1 hg2
    refine Calls.mono (by exact D1.out _) ?_
    rintro e w6 ⟨o, ho, rfl, hb⟩
    have HO := Lib.hid ho
    clear ho
    have Q2 := Lib.hid (Q.out.later hb)
    clear Q hb
    have Q := Lib.hid Q2.out
    clear Q2
    cases o
    all_goals
      simp only [doorRes]
      obtain ⟨e0, e1, e2, e3, e4, e5, e6, e7⟩ := eight Q.out.one
      obtain ⟨k0, k1, k2', k3, k4, k5, k6, k7⟩ := eight Q.out.other
      obtain ⟨a0, a1, a2, a3, a4, a5, a6⟩ := seven Q.out.two.fst
      obtain ⟨d0, d1, d2, d3, d4, d5, d6⟩ := seven Q.out.two.snd
      go_wp2_with fail
      clear e0 e1 e2 e3 e4 e5 e6 e7 k0 k1 k2' k3 k4 k5 k6 k7 a0 a1 a2 a3 a4 a5 a6 d0 d1 d2 d3 d4 d5 d6
      refine Calls.mono (by exact A1.out _) ?_
      rintro e w7 ⟨o', ho', rfl, hb⟩
      have Q2 := Lib.hid (Q.out.later hb)
      clear Q hb
      have Q := Lib.hid Q2.out
      clear Q2
      have HQQ := HQ.out _ _ HO.out ho'
      clear ho' HO
    · rcases HQQ with ⟨-, rfl⟩ | ⟨v, v', h, _⟩
      rotate_left
      · cases h
      simp only [arRes, zeroV, SV.ofFloat_val, SV.ofFloat_fl]
      obtain ⟨e0, e1, e2, e3, e4, e5, e6, e7⟩ := any_eight Q.out.one
      obtain ⟨k0, k1, k2', k3, k4, k5, k6, k7⟩ := any_eight Q.out.other
      obtain ⟨a0, a1, a2, a3, a4, a5, a6, -⟩ := any_seven Q.out.two.fst
      obtain ⟨d0, d1, d2, d3, d4, d5, d6, -⟩ := any_seven Q.out.two.snd
      go_wp2_with fail
      clear e0 e1 e2 e3 e4 e5 e6 e7 k0 k1 k2' k3 k4 k5 k6 k7 a0 a1 a2 a3 a4 a5 a6 d0 d1 d2 d3 d4 d5 d6
      refine Calls.mono (by exact D2.out _) ?_
      rintro e w8 ⟨o2, ho2, rfl, hb⟩
      have H9 := Lib.hid ((hb.block w7.heap.size (by simp)).trans (heap_alloc_new w7 _))
      have hs9 : w7.heap.size < w8.heap.size := by have := hb.size; simp at this; omega
      have hs7 := Q.out.two.size
      have Q2 := Lib.hid (Q.out.later (((Below.refl _ _).alloc (Nat.le_refl _) _).trans (hb.mono (by simp))))
      clear Q hb
      have Q := Lib.hid Q2.out
      have HO2 := Lib.hid ho2
      clear Q2 ho2
      cases o2
      all_goals
        simp only [doorRes]
        obtain ⟨e0, e1, e2, e3, e4, e5, e6, e7⟩ := eight Q.out.one
        obtain ⟨k0, k1, k2', k3, k4, k5, k6, k7⟩ := eight Q.out.other
        obtain ⟨a0, a1, a2, a3, a4, a5, a6⟩ := seven Q.out.two.fst
        obtain ⟨d0, d1, d2, d3, d4, d5, d6⟩ := seven Q.out.two.snd
        go_wp2_with fail
        clear e0 e1 e2 e3 e4 e5 e6 e7 k0 k1 k2' k3 k4 k5 k6 k7 a0 a1 a2 a3 a4 a5 a6 d0 d1 d2 d3 d4 d5 d6
        refine Calls.mono (by exact A2.out _) ?_
        rintro e w9 ⟨o3, ho3, rfl, hb⟩
        have H9' := Lib.hid ((hb.block _ hs9).trans H9.out)
        have QB := Lib.hid (Q.out.later hb).two.below
        have HMM := HM.out _ _ HO2.out ho3
        clear ho3 HO2 hb H9 Q
        obtain ⟨c0, c1, c2, c3, c4, c5, c6⟩ := seven H9'.out
        have zf := free_block H9'.out
      · rcases HMM with ⟨-, rfl⟩ | ⟨n, h, _⟩
        rotate_left
        · cases h
        simp only [arRes, zeroV]
        go_wp2_with fail
        go_ret
        refine ⟨rfl, ?_⟩
        repeat (refine Below.setCell ?_ (by simp; omega) _)
        exact QB.out
      · rcases HMM with ⟨h, -⟩ | ⟨n, h, rfl⟩
        · cases h
        cases h
        simp only [arRes, SV.ofInt_val, SV.ofInt_int]
        go_wp2_with fail
        go_ret
        refine ⟨rfl, ?_⟩
        repeat (refine Below.setCell ?_ (by simp; omega) _)
        exact QB.out
    · rcases HQQ with ⟨h, -⟩ | ⟨v, v', h, rfl, ha⟩
      · cases h
      cases h
      rcases flAlike_ways ha with h1 | ⟨h1, h2, h3⟩
      all_goals
        clear ha
        simp only [arRes, zeroV, SV.ofFloat_val, SV.ofFloat_fl]
        obtain ⟨e0, e1, e2, e3, e4, e5, e6, e7⟩ := any_eight Q.out.one
        obtain ⟨k0, k1, k2', k3, k4, k5, k6, k7⟩ := any_eight Q.out.other
        obtain ⟨a0, a1, a2, a3, a4, a5, a6, -⟩ := any_seven Q.out.two.fst
        obtain ⟨d0, d1, d2, d3, d4, d5, d6, -⟩ := any_seven Q.out.two.snd
        go_wp2_with fail
        clear e0 e1 e2 e3 e4 e5 e6 e7 k0 k1 k2' k3 k4 k5 k6 k7 a0 a1 a2 a3 a4 a5 a6 d0 d1 d2 d3 d4 d5 d6
        refine Calls.mono (by exact D2.out _) ?_
        rintro e w8 ⟨o2, ho2, rfl, hb⟩
        have H9 := Lib.hid ((hb.block w7.heap.size (by simp)).trans (heap_alloc_new w7 _))
        have hs9 : w7.heap.size < w8.heap.size := by have := hb.size; simp at this; omega
        have hs7 := Q.out.two.size
        have Q2 := Lib.hid (Q.out.later (((Below.refl _ _).alloc (Nat.le_refl _) _).trans (hb.mono (by simp))))
        clear Q hb
        have Q := Lib.hid Q2.out
        have HO2 := Lib.hid ho2
        clear Q2 ho2
        cases o2
        all_goals
          simp only [doorRes]
          obtain ⟨e0, e1, e2, e3, e4, e5, e6, e7⟩ := eight Q.out.one
          obtain ⟨k0, k1, k2', k3, k4, k5, k6, k7⟩ := eight Q.out.other
          obtain ⟨a0, a1, a2, a3, a4, a5, a6⟩ := seven Q.out.two.fst
          obtain ⟨d0, d1, d2, d3, d4, d5, d6⟩ := seven Q.out.two.snd
          go_wp2_with fail
          clear e0 e1 e2 e3 e4 e5 e6 e7 k0 k1 k2' k3 k4 k5 k6 k7 a0 a1 a2 a3 a4 a5 a6 d0 d1 d2 d3 d4 d5 d6
          refine Calls.mono (by exact A2.out _) ?_
          rintro e w9 ⟨o3, ho3, rfl, hb⟩
          have H9' := Lib.hid ((hb.block _ hs9).trans H9.out)
          have QB := Lib.hid (Q.out.later hb).two.below
          have HMM := HM.out _ _ HO2.out ho3
          clear ho3 HO2 hb H9 Q
          obtain ⟨c0, c1, c2, c3, c4, c5, c6⟩ := seven H9'.out
          have zf := free_block H9'.out
        · rcases HMM with ⟨-, rfl⟩ | ⟨n, h, _⟩
          rotate_left
          · cases h
          simp only [arRes, zeroV]
          go_wp2_with fail
          go_ret
          refine ⟨rfl, ?_⟩
          repeat (refine Below.setCell ?_ (by simp; omega) _)
          exact QB.out
        · rcases HMM with ⟨h, -⟩ | ⟨n, h, rfl⟩
          · cases h
          cases h
          simp only [arRes, SV.ofInt_val, SV.ofInt_int]
          go_wp2_with fail
          go_ret
          refine ⟨rfl, ?_⟩
          repeat (refine Below.setCell ?_ (by simp; omega) _)
          exact QB.out
end Go.Proofs.Ythmogfjmngbamaa
