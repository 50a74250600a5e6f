/-
  What is proved: 'laws.FnArithmetic' returns true for every two values of the reference that can be read as data, and leaves all memory that was there as it was. No condition.
-/
import Derived.Test.YthmogfjmngbamaaQuot
import Derived.Test.YthmogfjmngbamaaDrawb
namespace Go.Proofs.Ythmogfjmngbamaa
open Go.RowKit
set_option linter.unusedSimpArgs false
set_option linter.unusedVariables false

/-- An outcome's value, nil where there is none; and its fault. -/
def oV (o : Option SV) : SV := o.getD (.mk 0 0 0 ⟨#[]⟩ false none 0 [] none 0 [])
def oF (o : Option SV) : Int := if o.isSome then 0 else 2
theorem valRes_eq (o : Option SV) : valRes o = .tuple #[.agg #[.int .i64 (oV o).dk, .int .i64 (oV o).dn, .int .u64 0, .float .f64 (oV o).df, .string (oV o).dt, .bool (oV o).db, .slice none 0 0, .slice none 0 0], .int .i64 (oF o)] := by
  cases o <;> rfl
theorem arRes_eq (o : Option SV) : arRes o = .tuple #[.agg #[.int .i64 (oV o).kind, .int .i64 (oV o).int, .float .f64 (oV o).fl, .string (oV o).text, .bool (oV o).bool, .slice (oV o).ip (oV o).items.length (oV o).ic, .slice (oV o).kp (oV o).keys.length (oV o).kc], .bool o.isSome] := by
  cases o <;> rfl
def fstT : Value → Value
  | .tuple vs => vs.getD 0 undef
  | v => v
def sndT : Value → Value
  | .tuple vs => vs.getD 1 undef
  | v => v
theorem below7 {B : Nat} {w0 w : World} {g : Nat} (h : Below B w0 w) (hg : B ≤ g) (c0 c1 c2 c3 c4 c5 c6 : Value) :
    Below B w0 (((((((w.setCell ⟨g, 0, none⟩ c0).setCell ⟨g, 1, none⟩ c1).setCell ⟨g, 2, none⟩ c2).setCell ⟨g, 3, none⟩ c3).setCell ⟨g, 4, none⟩ c4).setCell ⟨g, 5, none⟩ c5).setCell ⟨g, 6, none⟩ c6) :=
  ((((((h.setCell (p := ⟨g, 0, none⟩) hg _).setCell (p := ⟨g, 1, none⟩) hg _).setCell (p := ⟨g, 2, none⟩) hg _).setCell (p := ⟨g, 3, none⟩) hg _).setCell (p := ⟨g, 4, none⟩) hg _).setCell (p := ⟨g, 5, none⟩) hg _).setCell (p := ⟨g, 6, none⟩) hg _
theorem good_both {r : Res} {o o' : Option SV} (h : r.Good o) (h' : r.Good o') : (o = none ∧ o' = none) ∨ ∃ y z, o = some y ∧ o' = some z := by
  cases r with
  | dies => exact .inl ⟨h, h'⟩
  | int n => exact .inr ⟨_, _, h, h'⟩
  | txt t => exact .inr ⟨_, _, h, h'⟩
  | fl op a b =>
    obtain ⟨v, _, h⟩ := h
    obtain ⟨v', _, h'⟩ := h'
    exact .inr ⟨_, _, h, h'⟩

set_option maxHeartbeats 2000000 in
set_option maxRecDepth 100000 in
theorem fnArithmetic_any (x y : SV) (w : World) (hx : SV.In w x) (hy : SV.In w y) : Calls Try.prog 12 #[x.val, y.val] w (Holds w) := by
  have HX := Lib.hid hx
  have HY := Lib.hid hy
  clear hx hy
  have F1 := Lib.hid (zzFits3_any x)
  have F2 := Lib.hid (zzFits3_any y)
  have P1 := Lib.hid (cuPlain_any x)
  have P2 := Lib.hid (cuPlain_any y)
  have C1 := Lib.hid (cuOf_plain x)
  have C2 := Lib.hid (cuOf_plain y)
  have A0 := Lib.hid (fun hx hy => cuArithmetic_any 43 (.inl rfl) x y hx hy)
  have A1 := Lib.hid (fun hx hy => cuArithmetic_any 45 (.inr (.inl rfl)) x y hx hy)
  have A2 := Lib.hid (fun hx hy => cuArithmetic_any 42 (.inr (.inr (.inl rfl))) x y hx hy)
  have E0 := Lib.hid (fun hx hy => cuQuotients_plain x y hx hy)
  have ea : arOf (43 : UInt8).toNat x y = addR x y := rfl
  have eb : arOf (45 : UInt8).toNat x y = subR x y := rfl
  have ec : arOf (42 : UInt8).toNat x y = mulR x y := rfl
  rw [ea] at A0
  rw [eb] at A1
  rw [ec] at A2
  clear ea eb ec
  generalize hxx : x = X at *
  generalize hyy : y = Y at *
  cases x with
  | mk k n f t b ip ic items kp kc keys =>
  cases y with
  | mk k2 n2 f2 t2 b2 ip2 ic2 items2 kp2 kc2 keys2 =>
  have vx : X.val = .agg #[.int .i64 k, .int .i64 n, .float .f64 f, .string t, .bool b, .slice ip items.length ic, .slice kp keys.length kc] := by rw [← hxx]; rfl
  have vy : Y.val = .agg #[.int .i64 k2, .int .i64 n2, .float .f64 f2, .string t2, .bool b2, .slice ip2 items2.length ic2, .slice kp2 keys2.length kc2] := by rw [← hyy]; rfl
  rw [vx] at F1 P1 C1 A0 A1 A2 E0 ⊢
  rw [vy] at F2 P2 C2 A0 A1 A2 E0 ⊢
  clear vx vy hxx hyy
  go_enter Try.func12, Try.ntmps12
  go_wp2_with fail
  -- zzFits3(a)
  refine Calls.mono (by exact F1.out _ (SV.in_later (((Below.refl _ _).alloc (Nat.le_refl _) _).alloc (by simp) _) _ HX.out)) ?_
  rintro e w1 ⟨r, -, rfl, hb⟩
  have T1 := Lib.hid (Two.mk' hb)
  clear hb
  obtain ⟨a0, a1, a2, a3, a4, a5, a6⟩ := seven T1.out.fst
  obtain ⟨d0, d1, d2, d3, d4, d5, d6⟩ := seven T1.out.snd
  cases r
  · go_wp2_with fail
    go_ret
    exact ⟨rfl, T1.out.below⟩
  go_wp2_with fail
  -- zzFits3(b)
  refine Calls.mono (by exact F2.out _ (SV.in_later T1.out.below _ HY.out)) ?_
  rintro e w2 ⟨r, -, rfl, hb⟩
  have T2 := Lib.hid (T1.out.later hb)
  clear T1 a0 a1 a2 a3 a4 a5 a6 d0 d1 d2 d3 d4 d5 d6
  clear hb
  obtain ⟨a0, a1, a2, a3, a4, a5, a6⟩ := seven T2.out.fst
  obtain ⟨d0, d1, d2, d3, d4, d5, d6⟩ := seven T2.out.snd
  cases r
  · go_wp2_with fail
    go_ret
    exact ⟨rfl, T2.out.below⟩
  go_wp2_with fail
  -- cuPlain(a)
  refine Calls.mono (by exact P1.out _ (SV.in_later T2.out.below _ HX.out)) ?_
  rintro e w3 ⟨r, hr, rfl, hb⟩
  have T3 := Lib.hid (T2.out.later hb)
  clear T2 a0 a1 a2 a3 a4 a5 a6 d0 d1 d2 d3 d4 d5 d6
  clear hb
  obtain ⟨a0, a1, a2, a3, a4, a5, a6⟩ := seven T3.out.fst
  obtain ⟨d0, d1, d2, d3, d4, d5, d6⟩ := seven T3.out.snd
  cases r
  · clear hr
    go_wp2_with fail
    go_ret
    exact ⟨rfl, T3.out.below⟩
  have PX := Lib.hid (hr rfl)
  clear hr
  go_wp2_with fail
  -- cuPlain(b)
  refine Calls.mono (by exact P2.out _ (SV.in_later T3.out.below _ HY.out)) ?_
  rintro e w4 ⟨r, hr, rfl, hb⟩
  have T4 := Lib.hid (T3.out.later hb)
  clear T3 a0 a1 a2 a3 a4 a5 a6 d0 d1 d2 d3 d4 d5 d6
  clear hb
  obtain ⟨a0, a1, a2, a3, a4, a5, a6⟩ := seven T4.out.fst
  obtain ⟨d0, d1, d2, d3, d4, d5, d6⟩ := seven T4.out.snd
  cases r
  · clear hr
    go_wp2_with fail
    go_ret
    exact ⟨rfl, T4.out.below⟩
  have PY := Lib.hid (hr rfl)
  clear hr
  go_upto_region 5 with fail
  have CX := Lib.hid (C1.out PX.out)
  have CY := Lib.hid (C2.out PY.out)
  have B0 := Lib.hid (A0.out PX.out.text PY.out.text)
  have B1 := Lib.hid (A1.out PX.out.text PY.out.text)
  have B2 := Lib.hid (A2.out PX.out.text PY.out.text)
  have EQ := Lib.hid (E0.out PX.out PY.out)
  have D1 := Lib.hid (implAdd X Y PX.out PY.out)
  have D2 := Lib.hid (implSubtract X Y PX.out PY.out)
  have D3 := Lib.hid (implMultiply X Y PX.out PY.out)
  clear C1 C2 F1 F2 P1 P2 A0 A1 A2 E0 HX HY
  unfold SV.door at CX CY D1 D2 D3
  generalize addR X Y = r0 at *
  generalize subR X Y = r1 at *
  generalize mulR X Y = r2 at *
  refine wp_region_apart (n := 6) (ds := [some 34, some 35, some 36, some 37, some 5, some 6]) (fun i v w' => match i with
    | 0 => v = .agg #[.int .i64 k, .int .i64 n, .float .f64 f, .string t, .bool b, .slice ip items.length ic, .slice kp keys.length kc]
    | 1 => v = X.door
    | 2 => v = .agg #[.int .i64 k2, .int .i64 n2, .float .f64 f2, .string t2, .bool b2, .slice ip2 items2.length ic2, .slice kp2 keys2.length kc2]
    | 3 => v = Y.door
    | _ => ∃ g, v = .pointer (some ⟨g, 0, none⟩) ∧ w4.heap.size ≤ g ∧ w'.heap[g]? = some (.cells #[.int .i64 0, .int .i64 0, .int .u64 0, .float .f64 0, .string ⟨#[]⟩, .bool false, .slice none 0 0, .slice none 0 0] 35 (0, 0)))
    (fun i j v v' => (i = 4 ∧ j = 5) ∨ (i = 5 ∧ j = 4) → v ≠ v') (by kernel_rfl) (by kernel_rfl) rfl ?mono ?step ?tail
  case mono =>
    intro i v w' w'' hi hF hb
    match i, hF with
    | 0, hF => exact hF
    | 1, hF => exact hF
    | 2, hF => exact hF
    | 3, hF => exact hF
    | i + 4, ⟨g, h1, h2, h3⟩ => exact ⟨g, h1, h2, (hb.block g (lt_of_block h3)).trans h3⟩
  case step =>
    intro i o hi ho u w5 hb hF K hK
    have T5 := T4.out.later hb
    obtain ⟨a0, a1, a2, a3, a4, a5, a6⟩ := seven T5.fst
    obtain ⟨d0, d1, d2, d3, d4, d5, d6⟩ := seven T5.snd
    have hi6 : i = 0 ∨ i = 1 ∨ i = 2 ∨ i = 3 ∨ i = 4 ∨ i = 5 := by omega
    rcases hi6 with rfl | rfl | rfl | rfl | rfl | rfl
    all_goals
      simp only [List.getElem?_toArray, List.getElem?_cons_zero, List.getElem?_cons_succ, Option.some.injEq] at ho
      subst ho
      have HF := Lib.hid hF
      clear hF
      simp only [putAll, Act.put, List.setIfInBounds_toArray, List.set_cons_succ, List.set_cons_zero, Nat.zero_add, Nat.reduceAdd] at hK ⊢
    · have HK := Lib.hid hK
      clear hK
      go_simp
      exact HK.out _ _ _ rfl rfl (Below.refl _ _) (fun j x _ _ _ h5 => by omega)
    · have f0 : u 0 = _ := HF.out 0 (by omega) (by kernel_rfl)
      rw [f0] at hK ⊢
      have HK := Lib.hid hK
      clear hK f0
      go_simp
      refine Calls.mono (by exact CX.out _) ?_
      rintro e w6 ⟨rfl, hb6⟩
      exact HK.out _ _ _ rfl rfl hb6 (fun j x _ _ _ h5 => by omega)
    · have HK := Lib.hid hK
      clear hK
      go_simp
      exact HK.out _ _ _ rfl rfl (Below.refl _ _) (fun j x _ _ _ h5 => by omega)
    · have f0 : u 2 = _ := HF.out 2 (by omega) (by kernel_rfl)
      rw [f0] at hK ⊢
      have HK := Lib.hid hK
      clear hK f0
      go_simp
      refine Calls.mono (by exact CY.out _) ?_
      rintro e w6 ⟨rfl, hb6⟩
      exact HK.out _ _ _ rfl rfl hb6 (fun j x _ _ _ h5 => by omega)
    · have HK := Lib.hid hK
      clear hK
      go_simp
      refine HK.out _ _ _ rfl ⟨_, rfl, hb.size, heap_alloc_new _ _⟩ ((Below.refl _ _).alloc (Nat.le_refl _) _) (fun j x _ _ hx h4 => ?_)
      obtain rfl : j = 5 := by omega
      obtain ⟨g, rfl, _, hg⟩ := hx
      have := lt_of_block hg
      simp
      try omega
    · have HK := Lib.hid hK
      clear hK
      go_simp
      refine HK.out _ _ _ rfl ⟨_, rfl, hb.size, heap_alloc_new _ _⟩ ((Below.refl _ _).alloc (Nat.le_refl _) _) (fun j x _ _ hx h4 => ?_)
      obtain rfl : j = 4 := by omega
      obtain ⟨g, rfl, _, hg⟩ := hx
      have := lt_of_block hg
      simp
      try omega
  case tail =>
    intro u w5 hb hF hD
    have f0 : u 0 = _ := hF 0 (by omega)
    have f1 : u 1 = _ := hF 1 (by omega)
    have f2 : u 2 = _ := hF 2 (by omega)
    have f3 : u 3 = _ := hF 3 (by omega)
    obtain ⟨g1, f4, hg1, hb1⟩ := hF 4 (by omega)
    obtain ⟨g2, f5, hg2, hb2⟩ := hF 5 (by omega)
    have hne : g1 ≠ g2 := by
      rcases hD 4 5 (by omega) (by omega) (by omega) with h | h
      · have := h (.inl ⟨rfl, rfl⟩)
        rw [f4, f5] at this
        simpa using this
      · have := h (.inr ⟨rfl, rfl⟩)
        rw [f4, f5] at this
        exact fun e => this (by rw [e])
    have T5 := Lib.hid (T4.out.later hb)
    have hs4 := T4.out.size
    clear hF hD T4 a0 a1 a2 a3 a4 a5 a6 d0 d1 d2 d3 d4 d5 d6 hb
    simp only [putAll, Act.put, List.setIfInBounds_toArray, List.set_cons_succ, List.set_cons_zero, Nat.zero_add, Nat.reduceAdd, List.drop_succ_cons, List.drop_zero, f0, f1, f2, f3, f4, f5]
    clear f0 f1 f2 f3 f4 f5
    obtain ⟨a0, a1, a2, a3, a4, a5, a6⟩ := seven T5.out.fst
    obtain ⟨d0, d1, d2, d3, d4, d5, d6⟩ := seven T5.out.snd
    obtain ⟨e0, e1, e2, e3, e4, e5, e6, e7⟩ := eight hb1
    obtain ⟨k0, k1, k2', k3, k4, k5, k6, k7⟩ := eight hb2
    have z1 := free_block hb1
    have z2 := free_block hb2
    have HG1 := Lib.hid hb1
    have HG2 := Lib.hid hb2
    have hne' : g2 ≠ g1 := fun e => hne e.symm
    clear hb1 hb2
    unfold SV.door
    go_wp2_with fail
    have HW : Hid (Four w (store8 (store8 w5 g1 (.int .i64 X.dk) (.int .i64 X.dn) (.int .u64 0) (.float .f64 X.df) (.string X.dt) (.bool X.db) (.slice none 0 0) (.slice none 0 0)) g2 (.int .i64 Y.dk) (.int .i64 Y.dn) (.int .u64 0) (.float .f64 Y.df) (.string Y.dt) (.bool Y.db) (.slice none 0 0) (.slice none 0 0)) _ _ g1 g2 _ _) := ⟨⟨by rw [store8_other _ _ _ _ _ _ _ _ (by omega), store8_other _ _ _ _ _ _ _ _ (by omega)]; exact T5.out.fst, by rw [store8_other _ _ _ _ _ _ _ _ (by omega), store8_other _ _ _ _ _ _ _ _ (by omega)]; exact T5.out.snd, by rw [store8_size, store8_size]; exact T5.out.size, store8_below _ _ _ _ _ _ _ _ (store8_below _ _ _ _ _ _ _ _ T5.out.below (by omega)) (by omega)⟩, by rw [store8_other _ _ _ _ _ _ _ _ hne]; exact store8_at _ _ _ _ _ _ _ _ HG1.out, store8_at _ _ _ _ _ _ _ _ (by rw [store8_other _ _ _ _ _ _ _ _ hne']; exact HG2.out)⟩
    have Q := HW
    clear HW HG1 HG2 T5 hs4 e0 e1 e2 e3 e4 e5 e6 e7 k0 k1 k2' k3 k4 k5 k6 k7 z1 z2 a0 a1 a2 a3 a4 a5 a6 d0 d1 d2 d3 d4 d5 d6 hne hne' hg1 hg2
    refine Calls.mono (by exact D1.out _) ?_
    rintro e w6 ⟨o0, ho0, rfl, hb⟩
    have HO0 := Lib.hid ho0
    clear ho0 D1
    have Q2 := Lib.hid (Q.out.later hb)
    clear Q hb
    have Q := Lib.hid Q2.out
    clear Q2
    rw [valRes_eq]
    obtain ⟨e0, e1, e2, e3, e4, e5, e6, e7⟩ := any_eight Q.out.one
    obtain ⟨k0, k1, k2', k3, k4, k5, k6, k7⟩ := any_eight Q.out.other
    obtain ⟨a0, a1, a2, a3, a4, a5, a6, -⟩ := any_seven Q.out.two.fst
    obtain ⟨d0, d1, d2, d3, d4, d5, d6, -⟩ := any_seven Q.out.two.snd
    go_wp2_with fail
    clear e0 e1 e2 e3 e4 e5 e6 e7 k0 k1 k2' k3 k4 k5 k6 k7 a0 a1 a2 a3 a4 a5 a6 d0 d1 d2 d3 d4 d5 d6
    refine Calls.mono (by exact D2.out _) ?_
    rintro e w7 ⟨o1, ho1, rfl, hb⟩
    have HO1 := Lib.hid ho1
    have S0 := Lib.hid ((hb.block w6.heap.size (by simp)).trans (heap_alloc_new w6 _))
    have Q2 := Lib.hid (Q.out.later (((Below.refl _ _).alloc (Nat.le_refl _) _).trans (hb.mono (by simp))))
    clear ho1 D2 Q hb
    have Q := Lib.hid Q2.out
    clear Q2
    rw [valRes_eq]
    obtain ⟨e0, e1, e2, e3, e4, e5, e6, e7⟩ := any_eight Q.out.one
    obtain ⟨k0, k1, k2', k3, k4, k5, k6, k7⟩ := any_eight Q.out.other
    obtain ⟨a0, a1, a2, a3, a4, a5, a6, -⟩ := any_seven Q.out.two.fst
    obtain ⟨d0, d1, d2, d3, d4, d5, d6, -⟩ := any_seven Q.out.two.snd
    go_wp2_with fail
    clear e0 e1 e2 e3 e4 e5 e6 e7 k0 k1 k2' k3 k4 k5 k6 k7 a0 a1 a2 a3 a4 a5 a6 d0 d1 d2 d3 d4 d5 d6
    refine Calls.mono (by exact D3.out _) ?_
    rintro e w8 ⟨o2, ho2, rfl, hb⟩
    have HO2 := Lib.hid ho2
    have hs67 : w6.heap.size < w7.heap.size := lt_of_block S0.out
    have S0' := Lib.hid ((hb.block _ (by simp; omega)).trans ((Below.heap_alloc w7 _ _ hs67).trans S0.out))
    have S1 := Lib.hid ((hb.block w7.heap.size (by simp)).trans (heap_alloc_new w7 _))
    have Q2 := Lib.hid (Q.out.later (((Below.refl _ _).alloc (Nat.le_refl _) _).trans (hb.mono (by simp))))
    clear ho2 D3 Q hb S0
    have Q := Lib.hid Q2.out
    clear Q2
    rw [valRes_eq]
    obtain ⟨g0, g1', g2', g3, g4, g5, g6, g7⟩ := any_eight S0'.out
    obtain ⟨h0, h1, h2, h3, h4, h5, h6, h7⟩ := any_eight S1.out
    go_wp2_with fail
    clear g0 g1' g2' g3 g4 g5 g6 g7 h0 h1 h2 h3 h4 h5 h6 h7
    have HSL : Hid (((w8.alloc (.cells #[.int .i64 (oV o2).dk, .int .i64 (oV o2).dn, .int .u64 0, .float .f64 (oV o2).df, .string (oV o2).dt, .bool (oV o2).db, .slice none 0 0, .slice none 0 0] 35)).alloc (.cells #[.int .i64 (oV o0).dk, .int .i64 (oV o0).dn, .int .u64 0, .float .f64 (oV o0).df, .string (oV o0).dt, .bool (oV o0).db, .slice none 0 0, .slice none 0 0, .int .i64 (oV o1).dk, .int .i64 (oV o1).dn, .int .u64 0, .float .f64 (oV o1).df, .string (oV o1).dt, .bool (oV o1).db, .slice none 0 0, .slice none 0 0, .int .i64 (oV o2).dk, .int .i64 (oV o2).dn, .int .u64 0, .float .f64 (oV o2).df, .string (oV o2).dt, .bool (oV o2).db, .slice none 0 0, .slice none 0 0] 35)).heap[w8.heap.size + 1]? = some (.cells #[.int .i64 (oV o0).dk, .int .i64 (oV o0).dn, .int .u64 0, .float .f64 (oV o0).df, .string (oV o0).dt, .bool (oV o0).db, .slice none 0 0, .slice none 0 0, .int .i64 (oV o1).dk, .int .i64 (oV o1).dn, .int .u64 0, .float .f64 (oV o1).df, .string (oV o1).dt, .bool (oV o1).db, .slice none 0 0, .slice none 0 0, .int .i64 (oV o2).dk, .int .i64 (oV o2).dn, .int .u64 0, .float .f64 (oV o2).df, .string (oV o2).dt, .bool (oV o2).db, .slice none 0 0, .slice none 0 0] 35 (0, 0))) := by
      show _ = _
      have h := heap_alloc_new (w8.alloc (.cells #[.int .i64 (oV o2).dk, .int .i64 (oV o2).dn, .int .u64 0, .float .f64 (oV o2).df, .string (oV o2).dt, .bool (oV o2).db, .slice none 0 0, .slice none 0 0] 35)) (.cells #[.int .i64 (oV o0).dk, .int .i64 (oV o0).dn, .int .u64 0, .float .f64 (oV o0).df, .string (oV o0).dt, .bool (oV o0).db, .slice none 0 0, .slice none 0 0, .int .i64 (oV o1).dk, .int .i64 (oV o1).dn, .int .u64 0, .float .f64 (oV o1).df, .string (oV o1).dt, .bool (oV o1).db, .slice none 0 0, .slice none 0 0, .int .i64 (oV o2).dk, .int .i64 (oV o2).dn, .int .u64 0, .float .f64 (oV o2).df, .string (oV o2).dt, .bool (oV o2).db, .slice none 0 0, .slice none 0 0] 35)
      rw [World.size_alloc] at h
      exact h
    have HQL := Lib.hid (Q.out.two.later (((Below.refl _ _).alloc (Nat.le_refl _) (.cells #[.int .i64 (oV o2).dk, .int .i64 (oV o2).dn, .int .u64 0, .float .f64 (oV o2).df, .string (oV o2).dt, .bool (oV o2).db, .slice none 0 0, .slice none 0 0] 35)).alloc (by simp) (.cells #[.int .i64 (oV o0).dk, .int .i64 (oV o0).dn, .int .u64 0, .float .f64 (oV o0).df, .string (oV o0).dt, .bool (oV o0).db, .slice none 0 0, .slice none 0 0, .int .i64 (oV o1).dk, .int .i64 (oV o1).dn, .int .u64 0, .float .f64 (oV o1).df, .string (oV o1).dt, .bool (oV o1).db, .slice none 0 0, .slice none 0 0, .int .i64 (oV o2).dk, .int .i64 (oV o2).dn, .int .u64 0, .float .f64 (oV o2).df, .string (oV o2).dt, .bool (oV o2).db, .slice none 0 0, .slice none 0 0] 35)))
    obtain ⟨wl, hwl⟩ : ∃ wl, wl = ((w8.alloc (.cells #[.int .i64 (oV o2).dk, .int .i64 (oV o2).dn, .int .u64 0, .float .f64 (oV o2).df, .string (oV o2).dt, .bool (oV o2).db, .slice none 0 0, .slice none 0 0] 35)).alloc (.cells #[.int .i64 (oV o0).dk, .int .i64 (oV o0).dn, .int .u64 0, .float .f64 (oV o0).df, .string (oV o0).dt, .bool (oV o0).db, .slice none 0 0, .slice none 0 0, .int .i64 (oV o1).dk, .int .i64 (oV o1).dn, .int .u64 0, .float .f64 (oV o1).df, .string (oV o1).dt, .bool (oV o1).db, .slice none 0 0, .slice none 0 0, .int .i64 (oV o2).dk, .int .i64 (oV o2).dn, .int .u64 0, .float .f64 (oV o2).df, .string (oV o2).dt, .bool (oV o2).db, .slice none 0 0, .slice none 0 0] 35)) := ⟨_, rfl⟩
    rw [← hwl] at HSL HQL ⊢
    clear hwl Q S0' S1 hs67
    go_loopw [61] (fun i wr => ∃ j : Nat, j ≤ 3 ∧ i = .int .i64 j ∧ Hid (Below wl.heap.size wl wr)) (fun i _ => 3 - (intOf i).toNat)
    case atStart => exact ⟨0, by omega, rfl, Below.refl _ _⟩
    case round =>
      obtain ⟨j, hj, rfl, hR⟩ := hrel
      have TR := Lib.hid (HQL.out.later hR.out)
      have SR := Lib.hid ((hR.out.block _ (lt_of_block HSL.out)).trans HSL.out)
      by_cases hlt : j < 3
      · have hj3 : j = 0 ∨ j = 1 ∨ j = 2 := by omega
        clear hlt hj
        rcases hj3 with rfl | rfl | rfl
        · skip
          have c0 := cell_at_block SR.out 0 _ rfl
          have c1 := cell_at_block SR.out 1 _ rfl
          have c2 := cell_at_block SR.out 2 _ rfl
          have c3 := cell_at_block SR.out 3 _ rfl
          have c4 := cell_at_block SR.out 4 _ rfl
          have c5 := cell_at_block SR.out 5 _ rfl
          have c6 := cell_at_block SR.out 6 _ rfl
          have c7 := cell_at_block SR.out 7 _ rfl
          go_wp2_with fail
          clear c0 c1 c2 c3 c4 c5 c6 c7
          have TA := Lib.hid (TR.out.later ((Below.refl _ _).alloc (Nat.le_refl _) (.cells #[.int .i64 (oV o0).dk, .int .i64 (oV o0).dn, .int .u64 0, .float .f64 (oV o0).df, .string (oV o0).dt, .bool (oV o0).db, .slice none 0 0, .slice none 0 0] 35)))
          have GA := Lib.hid (heap_alloc_new wr (.cells #[.int .i64 (oV o0).dk, .int .i64 (oV o0).dn, .int .u64 0, .float .f64 (oV o0).df, .string (oV o0).dt, .bool (oV o0).db, .slice none 0 0, .slice none 0 0] 35))
          have hRA := Lib.hid (hR.out.trans ((Below.refl _ _).alloc hR.out.size (.cells #[.int .i64 (oV o0).dk, .int .i64 (oV o0).dn, .int .u64 0, .float .f64 (oV o0).df, .string (oV o0).dt, .bool (oV o0).db, .slice none 0 0, .slice none 0 0] 35)))
          have hrs : wr.heap.size < (wr.alloc (.cells #[.int .i64 (oV o0).dk, .int .i64 (oV o0).dn, .int .u64 0, .float .f64 (oV o0).df, .string (oV o0).dt, .bool (oV o0).db, .slice none 0 0, .slice none 0 0] 35)).heap.size := by simp
          obtain ⟨wa, hwa⟩ : ∃ wa, wa = (wr.alloc (.cells #[.int .i64 (oV o0).dk, .int .i64 (oV o0).dn, .int .u64 0, .float .f64 (oV o0).df, .string (oV o0).dt, .bool (oV o0).db, .slice none 0 0, .slice none 0 0] 35)) := ⟨_, rfl⟩
          rw [← hwa] at TA GA hRA hrs ⊢
          clear hwa TR SR hR
          refine wp_region_chain [0, 1, 2, 3, 4, 5, 6, 7, 8, 9, 10] [7, 8, 9] [11, 12] [some 67, some 68, some 69, some 70, some 71, some 72, some 73, some 66, some 74, some 75, some 15] _
            (fun p => match p with | 7 => [7, 6] | 8 => [8, 6] | 9 => [9, 6] | p => [p])
            (fun p u w' => match p with
              | 0 => ∃ g, u 0 = .slice (some ⟨g, 0, none⟩) 3 3 ∧ w'.heap[g]? = some (.cells #[.string ⟨#[43]⟩, .string ⟨#[45]⟩, .string ⟨#[42]⟩] 9 (0, 0))
              | 1 => u 1 = .int .i64 0
              | 2 => ∃ g, u 2 = .pointer (some ⟨g, 0, none⟩) ∧ w'.heap[g]? = some (.cells #[.string ⟨#[43]⟩, .string ⟨#[45]⟩, .string ⟨#[42]⟩] 9 (0, 0))
              | 3 => u 3 = .string ⟨#[43]⟩
              | 4 => u 4 = .agg #[.int .i64 k, .int .i64 n, .float .f64 f, .string t, .bool b, .slice ip items.length ic, .slice kp keys.length kc]
              | 5 => u 5 = .agg #[.int .i64 k2, .int .i64 n2, .float .f64 f2, .string t2, .bool b2, .slice ip2 items2.length ic2, .slice kp2 keys2.length kc2]
              | 6 => ∃ o, r0.Good o ∧ u 6 = arRes o
              | 7 => u 7 = u 6
              | 8 => u 8 = fstT (u 6)
              | 9 => u 9 = sndT (u 6)
              | 10 => ∃ g, u 10 = .pointer (some ⟨g, 0, none⟩) ∧ wa.heap.size ≤ g ∧ w'.heap[g]? = some (.cells #[.int .i64 0, .int .i64 0, .float .f64 0, .string ⟨#[]⟩, .bool false, .slice none 0 0, .slice none 0 0] 30 (0, 0))
              | _ => True)
            (by kernel_rfl) (by kernel_rfl) rfl rfl ?mono ?same ?take ?step ?tail
          case mono =>
            intro p u w' w'' hp hF hb
            match p, hF with
            | 0, ⟨g, h1, h2⟩ => exact ⟨g, h1, (hb.block g (lt_of_block h2)).trans h2⟩
            | 1, hF => exact hF
            | 2, ⟨g, h1, h2⟩ => exact ⟨g, h1, (hb.block g (lt_of_block h2)).trans h2⟩
            | 3, hF => exact hF
            | 4, hF => exact hF
            | 5, hF => exact hF
            | 6, hF => exact hF
            | 7, hF => exact hF
            | 8, hF => exact hF
            | 9, hF => exact hF
            | 10, ⟨g, h1, h2, h3⟩ => exact ⟨g, h1, h2, (hb.block g (lt_of_block h3)).trans h3⟩
            | p + 11, _ => exact trivial
          case same =>
            intro p u u' w' hp hd hF
            match p, hd, hF with
            | 0, hd, hF => rw [← hd 0 (by simp)]; exact hF
            | 1, hd, hF => rw [← hd 1 (by simp)]; exact hF
            | 2, hd, hF => rw [← hd 2 (by simp)]; exact hF
            | 3, hd, hF => rw [← hd 3 (by simp)]; exact hF
            | 4, hd, hF => rw [← hd 4 (by simp)]; exact hF
            | 5, hd, hF => rw [← hd 5 (by simp)]; exact hF
            | 6, hd, hF => rw [← hd 6 (by simp)]; exact hF
            | 7, hd, hF => rw [← hd 7 (by simp), ← hd 6 (by simp)]; exact hF
            | 8, hd, hF => rw [← hd 8 (by simp), ← hd 6 (by simp)]; exact hF
            | 9, hd, hF => rw [← hd 9 (by simp), ← hd 6 (by simp)]; exact hF
            | 10, hd, hF => rw [← hd 10 (by simp)]; exact hF
            | p + 11, _, _ => exact trivial
          case take =>
            intro p i o hp ht ho u w5 hb hF
            have hpc : p = 0 ∨ p = 1 ∨ p = 2 ∨ p = 3 ∨ p = 4 ∨ p = 5 ∨ p = 6 ∨ p = 7 ∨ p = 8 ∨ p = 9 ∨ p = 10 := by
              have : p < 11 := (List.getElem?_eq_some_iff.1 hp).1
              omega
            rcases hpc with rfl | rfl | rfl | rfl | rfl | rfl | rfl | rfl | rfl | rfl | rfl
            all_goals
              simp only [List.getElem?_cons_zero, List.getElem?_cons_succ, Option.some.injEq] at hp
              subst hp
            iterate 7 (simp at ht)
            · simp only [List.getElem?_toArray, List.getElem?_cons_zero, List.getElem?_cons_succ, Option.some.injEq] at ho
              subst ho
              refine ⟨u 6, .inl ⟨by rfl, fun w => ?_⟩, by simp [upd]⟩
              simp only [putAll, Act.put, List.setIfInBounds_toArray, List.set_cons_succ, List.set_cons_zero, Nat.zero_add, Nat.reduceAdd]
              go_simp
            · simp only [List.getElem?_toArray, List.getElem?_cons_zero, List.getElem?_cons_succ, Option.some.injEq] at ho
              subst ho
              obtain ⟨o', -, h6⟩ := hF 6 6 rfl (by kernel_rfl)
              have h7 : u 7 = u 6 := hF 7 7 rfl (by kernel_rfl)
              rw [arRes_eq] at h6
              refine ⟨fstT (u 6), .inl ⟨by rfl, fun w => ?_⟩, by simp [upd]⟩
              simp only [putAll, Act.put, List.setIfInBounds_toArray, List.set_cons_succ, List.set_cons_zero, Nat.zero_add, Nat.reduceAdd, h7, h6]
              clear h7 h6 hF
              go_simp
              rfl
            · simp only [List.getElem?_toArray, List.getElem?_cons_zero, List.getElem?_cons_succ, Option.some.injEq] at ho
              subst ho
              obtain ⟨o', -, h6⟩ := hF 6 6 rfl (by kernel_rfl)
              have h7 : u 7 = u 6 := hF 7 7 rfl (by kernel_rfl)
              rw [arRes_eq] at h6
              refine ⟨sndT (u 6), .inl ⟨by rfl, fun w => ?_⟩, by simp [upd]⟩
              simp only [putAll, Act.put, List.setIfInBounds_toArray, List.set_cons_succ, List.set_cons_zero, Nat.zero_add, Nat.reduceAdd, h7, h6]
              clear h7 h6 hF
              go_simp
              rfl
            · simp at ht
          case step =>
            intro p i o hp ht ho u w5 hb hF K hK Q'
            have T5 := TA.out.later hb
            obtain ⟨a0, a1, a2, a3, a4, a5, a6⟩ := seven T5.fst
            obtain ⟨d0, d1, d2, d3, d4, d5, d6⟩ := seven T5.snd
            have hpc : p = 0 ∨ p = 1 ∨ p = 2 ∨ p = 3 ∨ p = 4 ∨ p = 5 ∨ p = 6 ∨ p = 7 ∨ p = 8 ∨ p = 9 ∨ p = 10 := by
              have : p < 11 := (List.getElem?_eq_some_iff.1 hp).1
              omega
            rcases hpc with rfl | rfl | rfl | rfl | rfl | rfl | rfl | rfl | rfl | rfl | rfl
            all_goals
              simp only [List.getElem?_cons_zero, List.getElem?_cons_succ, Option.some.injEq] at hp
              subst hp
              simp only [List.getElem?_toArray, List.getElem?_cons_zero, List.getElem?_cons_succ, Option.some.injEq] at ho
              subst ho
              have HF := Lib.hid hF
              clear hF
              simp only [putAll, Act.put, List.setIfInBounds_toArray, List.set_cons_succ, List.set_cons_zero, Nat.zero_add, Nat.reduceAdd] at hK ⊢
            · have HK := Lib.hid hK
              clear hK
              go_simp
              exact HK.out _ _ _ rfl ⟨_, upd_at _ _ _, heap_alloc_new _ _⟩ ((Below.refl _ _).alloc (Nat.le_refl _) _)
            · have HK := Lib.hid hK
              clear hK
              go_simp
              exact HK.out _ _ _ rfl (upd_at _ _ _) (Below.refl _ _)
            · obtain ⟨g, f0, hg⟩ := HF.out 0 0 rfl (by kernel_rfl)
              have f1 : u 1 = _ := HF.out 1 1 rfl (by kernel_rfl)
              rw [f0, f1] at hK ⊢
              have HK := Lib.hid hK
              clear hK f0 f1
              go_simp
              exact HK.out _ _ _ rfl ⟨g, upd_at _ _ _, hg⟩ (Below.refl _ _)
            · obtain ⟨g, f0, hg⟩ := HF.out 2 2 rfl (by kernel_rfl)
              rw [f0] at hK ⊢
              have hc := cell_at_block hg 0 _ rfl
              have HK := Lib.hid hK
              clear hK f0 hg
              go_simp
              exact HK.out _ _ _ rfl (upd_at _ _ _) (Below.refl _ _)
            · have HK := Lib.hid hK
              clear hK
              go_simp
              exact HK.out _ _ _ rfl (upd_at _ _ _) (Below.refl _ _)
            · have HK := Lib.hid hK
              clear hK
              go_simp
              exact HK.out _ _ _ rfl (upd_at _ _ _) (Below.refl _ _)
            · have f3 : u 3 = _ := HF.out 3 3 rfl (by kernel_rfl)
              have f4 : u 4 = _ := HF.out 4 4 rfl (by kernel_rfl)
              have f5 : u 5 = _ := HF.out 5 5 rfl (by kernel_rfl)
              rw [f3, f4, f5] at hK ⊢
              have HK := Lib.hid hK
              clear hK f3 f4 f5
              go_simp
              refine Calls.mono (by exact B0.out _) ?_
              rintro e w6' ⟨o', ho', rfl, hb6⟩
              exact HK.out _ _ _ rfl ⟨o', ho', upd_at _ _ _⟩ hb6
            · simp at ht
            · simp at ht
            · simp at ht
            · have HK := Lib.hid hK
              clear hK
              go_simp
              exact HK.out _ _ _ rfl ⟨_, upd_at _ _ _, hb.size, heap_alloc_new _ _⟩ ((Below.refl _ _).alloc (Nat.le_refl _) _)
          case tail =>
            intro u w5 hb hF K HKK
            have f1 : u 1 = _ := hF 1 (by decide)
            obtain ⟨o', ho', f6⟩ := hF 6 (by decide)
            have f8 : u 8 = fstT (u 6) := hF 8 (by decide)
            have f9 : u 9 = sndT (u 6) := hF 9 (by decide)
            obtain ⟨g, f10, hg1, hg2⟩ := hF 10 (by decide)
            rw [f6, arRes_eq] at f8 f9
            simp only [fstT, sndT, List.getD_eq_getElem?_getD, Array.getD_eq_getD_getElem?, List.getElem?_toArray, List.getElem?_cons_zero, List.getElem?_cons_succ, Option.getD_some] at f8 f9
            have GW := Lib.hid ((hb.block _ hrs).trans GA.out)
            have HB5 := Lib.hid (hRA.out.trans (hb.mono hRA.out.size))
            have TW := Lib.hid (TA.out.later hb)
            have hgl : wl.heap.size ≤ g := by have := hRA.out.size; omega
            have hs5 : wl.heap.size ≤ w5.heap.size := by have := hRA.out.size; have := hb.size; omega
            have n1 : ¬ g = wr.heap.size := by omega
            have n2' : ¬ wr.heap.size = g := by omega
            have hwr5 : wr.heap.size < w5.heap.size := by have := hb.size; omega
            have n3 : ¬ wr.heap.size = w5.heap.size := by omega
            have n4 : ¬ w5.heap.size = wr.heap.size := by omega
            have n5 : ¬ g = w5.heap.size := by have := lt_of_block hg2; omega
            have n6 : ¬ w5.heap.size = g := by omega
            have HS := Lib.hid (fun y z h1 h2 => @cuSame_good r0 y z h1 h2)
            have HBO := Lib.hid (good_both HO0.out ho')
            have HO' := Lib.hid ho'
            obtain ⟨e0, e1, e2, e3, e4, e5, e6⟩ := seven hg2
            have zf := free_block hg2
            have hgw : g < w5.heap.size := lt_of_block hg2
            clear hF hg2 hb TA GA hRA hg1 hrs f6 ho'
            simp only [putAll, Act.put, List.setIfInBounds_toArray, List.set_cons_succ, List.set_cons_zero, Nat.zero_add, Nat.reduceAdd, List.filterMap_cons, List.filterMap_nil, List.getElem?_toArray, List.getElem?_cons_zero, List.getElem?_cons_succ, f1, f8, f9, f10]
            clear f1 f8 f9 f10
            rcases HBO.out with ⟨ho, rfl⟩ | ⟨y, z, ho, rfl⟩
            · have t1 : (oF o0 == 0) = false := by rw [ho]; rfl
              have t2 : (oF o0 != 2) = false := by rw [ho]; rfl
              clear ho
              clear HS HBO HO' TW GW
              go_wp2_with fail
              refine HKK.out _ _ ?_
              go_wp2_with fail
              go_roundw
              case rel => exact ⟨0 + 1, by omega, by go_num, ((below7 HB5.out hgl _ _ _ _ _ _ _).alloc (by simp; omega) _)⟩
              case measure => simp [intOf]
            · have t1 : (oF o0 == 0) = true := by rw [ho]; rfl
              have hy : some (oV o0) = o0 := by rw [ho]; rfl
              have q3 : oV (some z) = z := rfl
              have HT := Lib.hid (HS.out (oV o0) z (hy ▸ HO0.out) HO'.out)
              clear HS HBO HO' ho hy
              rw [q3]
              clear q3
              obtain ⟨k0, k1, k2', k3, k4, k5, k6, k7⟩ := eight GW.out
              unfold SV.door SV.val at HT
              go_wp2_with fail
              refine HKK.out _ _ ?_
              go_wp2_with fail
              refine Calls.mono (by exact HT.out _) ?_
              rintro e w9 ⟨rfl, hb9⟩
              have HB9 := Lib.hid (((below7 HB5.out hgl _ _ _ _ _ _ _).alloc (by simp; omega) _).trans (hb9.mono (by simp; omega)))
              clear hb9 k0 k1 k2' k3 k4 k5 k6 k7
              go_wp2_with fail
              go_roundw
              case rel => exact ⟨0 + 1, by omega, by go_num, HB9.out⟩
              case measure => simp [intOf]
        · skip
          have c0 := cell_at_block SR.out 8 _ rfl
          have c1 := cell_at_block SR.out 9 _ rfl
          have c2 := cell_at_block SR.out 10 _ rfl
          have c3 := cell_at_block SR.out 11 _ rfl
          have c4 := cell_at_block SR.out 12 _ rfl
          have c5 := cell_at_block SR.out 13 _ rfl
          have c6 := cell_at_block SR.out 14 _ rfl
          have c7 := cell_at_block SR.out 15 _ rfl
          go_wp2_with fail
          clear c0 c1 c2 c3 c4 c5 c6 c7
          have TA := Lib.hid (TR.out.later ((Below.refl _ _).alloc (Nat.le_refl _) (.cells #[.int .i64 (oV o1).dk, .int .i64 (oV o1).dn, .int .u64 0, .float .f64 (oV o1).df, .string (oV o1).dt, .bool (oV o1).db, .slice none 0 0, .slice none 0 0] 35)))
          have GA := Lib.hid (heap_alloc_new wr (.cells #[.int .i64 (oV o1).dk, .int .i64 (oV o1).dn, .int .u64 0, .float .f64 (oV o1).df, .string (oV o1).dt, .bool (oV o1).db, .slice none 0 0, .slice none 0 0] 35))
          have hRA := Lib.hid (hR.out.trans ((Below.refl _ _).alloc hR.out.size (.cells #[.int .i64 (oV o1).dk, .int .i64 (oV o1).dn, .int .u64 0, .float .f64 (oV o1).df, .string (oV o1).dt, .bool (oV o1).db, .slice none 0 0, .slice none 0 0] 35)))
          have hrs : wr.heap.size < (wr.alloc (.cells #[.int .i64 (oV o1).dk, .int .i64 (oV o1).dn, .int .u64 0, .float .f64 (oV o1).df, .string (oV o1).dt, .bool (oV o1).db, .slice none 0 0, .slice none 0 0] 35)).heap.size := by simp
          obtain ⟨wa, hwa⟩ : ∃ wa, wa = (wr.alloc (.cells #[.int .i64 (oV o1).dk, .int .i64 (oV o1).dn, .int .u64 0, .float .f64 (oV o1).df, .string (oV o1).dt, .bool (oV o1).db, .slice none 0 0, .slice none 0 0] 35)) := ⟨_, rfl⟩
          rw [← hwa] at TA GA hRA hrs ⊢
          clear hwa TR SR hR
          refine wp_region_chain [0, 1, 2, 3, 4, 5, 6, 7, 8, 9, 10] [7, 8, 9] [11, 12] [some 67, some 68, some 69, some 70, some 71, some 72, some 73, some 66, some 74, some 75, some 15] _
            (fun p => match p with | 7 => [7, 6] | 8 => [8, 6] | 9 => [9, 6] | p => [p])
            (fun p u w' => match p with
              | 0 => ∃ g, u 0 = .slice (some ⟨g, 0, none⟩) 3 3 ∧ w'.heap[g]? = some (.cells #[.string ⟨#[43]⟩, .string ⟨#[45]⟩, .string ⟨#[42]⟩] 9 (0, 0))
              | 1 => u 1 = .int .i64 1
              | 2 => ∃ g, u 2 = .pointer (some ⟨g, 1, none⟩) ∧ w'.heap[g]? = some (.cells #[.string ⟨#[43]⟩, .string ⟨#[45]⟩, .string ⟨#[42]⟩] 9 (0, 0))
              | 3 => u 3 = .string ⟨#[45]⟩
              | 4 => u 4 = .agg #[.int .i64 k, .int .i64 n, .float .f64 f, .string t, .bool b, .slice ip items.length ic, .slice kp keys.length kc]
              | 5 => u 5 = .agg #[.int .i64 k2, .int .i64 n2, .float .f64 f2, .string t2, .bool b2, .slice ip2 items2.length ic2, .slice kp2 keys2.length kc2]
              | 6 => ∃ o, r1.Good o ∧ u 6 = arRes o
              | 7 => u 7 = u 6
              | 8 => u 8 = fstT (u 6)
              | 9 => u 9 = sndT (u 6)
              | 10 => ∃ g, u 10 = .pointer (some ⟨g, 0, none⟩) ∧ wa.heap.size ≤ g ∧ w'.heap[g]? = some (.cells #[.int .i64 0, .int .i64 0, .float .f64 0, .string ⟨#[]⟩, .bool false, .slice none 0 0, .slice none 0 0] 30 (0, 0))
              | _ => True)
            (by kernel_rfl) (by kernel_rfl) rfl rfl ?mono ?same ?take ?step ?tail
          case mono =>
            intro p u w' w'' hp hF hb
            match p, hF with
            | 0, ⟨g, h1, h2⟩ => exact ⟨g, h1, (hb.block g (lt_of_block h2)).trans h2⟩
            | 1, hF => exact hF
            | 2, ⟨g, h1, h2⟩ => exact ⟨g, h1, (hb.block g (lt_of_block h2)).trans h2⟩
            | 3, hF => exact hF
            | 4, hF => exact hF
            | 5, hF => exact hF
            | 6, hF => exact hF
            | 7, hF => exact hF
            | 8, hF => exact hF
            | 9, hF => exact hF
            | 10, ⟨g, h1, h2, h3⟩ => exact ⟨g, h1, h2, (hb.block g (lt_of_block h3)).trans h3⟩
            | p + 11, _ => exact trivial
          case same =>
            intro p u u' w' hp hd hF
            match p, hd, hF with
            | 0, hd, hF => rw [← hd 0 (by simp)]; exact hF
            | 1, hd, hF => rw [← hd 1 (by simp)]; exact hF
            | 2, hd, hF => rw [← hd 2 (by simp)]; exact hF
            | 3, hd, hF => rw [← hd 3 (by simp)]; exact hF
            | 4, hd, hF => rw [← hd 4 (by simp)]; exact hF
            | 5, hd, hF => rw [← hd 5 (by simp)]; exact hF
            | 6, hd, hF => rw [← hd 6 (by simp)]; exact hF
            | 7, hd, hF => rw [← hd 7 (by simp), ← hd 6 (by simp)]; exact hF
            | 8, hd, hF => rw [← hd 8 (by simp), ← hd 6 (by simp)]; exact hF
            | 9, hd, hF => rw [← hd 9 (by simp), ← hd 6 (by simp)]; exact hF
            | 10, hd, hF => rw [← hd 10 (by simp)]; exact hF
            | p + 11, _, _ => exact trivial
          case take =>
            intro p i o hp ht ho u w5 hb hF
            have hpc : p = 0 ∨ p = 1 ∨ p = 2 ∨ p = 3 ∨ p = 4 ∨ p = 5 ∨ p = 6 ∨ p = 7 ∨ p = 8 ∨ p = 9 ∨ p = 10 := by
              have : p < 11 := (List.getElem?_eq_some_iff.1 hp).1
              omega
            rcases hpc with rfl | rfl | rfl | rfl | rfl | rfl | rfl | rfl | rfl | rfl | rfl
            all_goals
              simp only [List.getElem?_cons_zero, List.getElem?_cons_succ, Option.some.injEq] at hp
              subst hp
            iterate 7 (simp at ht)
            · simp only [List.getElem?_toArray, List.getElem?_cons_zero, List.getElem?_cons_succ, Option.some.injEq] at ho
              subst ho
              refine ⟨u 6, .inl ⟨by rfl, fun w => ?_⟩, by simp [upd]⟩
              simp only [putAll, Act.put, List.setIfInBounds_toArray, List.set_cons_succ, List.set_cons_zero, Nat.zero_add, Nat.reduceAdd]
              go_simp
            · simp only [List.getElem?_toArray, List.getElem?_cons_zero, List.getElem?_cons_succ, Option.some.injEq] at ho
              subst ho
              obtain ⟨o', -, h6⟩ := hF 6 6 rfl (by kernel_rfl)
              have h7 : u 7 = u 6 := hF 7 7 rfl (by kernel_rfl)
              rw [arRes_eq] at h6
              refine ⟨fstT (u 6), .inl ⟨by rfl, fun w => ?_⟩, by simp [upd]⟩
              simp only [putAll, Act.put, List.setIfInBounds_toArray, List.set_cons_succ, List.set_cons_zero, Nat.zero_add, Nat.reduceAdd, h7, h6]
              clear h7 h6 hF
              go_simp
              rfl
            · simp only [List.getElem?_toArray, List.getElem?_cons_zero, List.getElem?_cons_succ, Option.some.injEq] at ho
              subst ho
              obtain ⟨o', -, h6⟩ := hF 6 6 rfl (by kernel_rfl)
              have h7 : u 7 = u 6 := hF 7 7 rfl (by kernel_rfl)
              rw [arRes_eq] at h6
              refine ⟨sndT (u 6), .inl ⟨by rfl, fun w => ?_⟩, by simp [upd]⟩
              simp only [putAll, Act.put, List.setIfInBounds_toArray, List.set_cons_succ, List.set_cons_zero, Nat.zero_add, Nat.reduceAdd, h7, h6]
              clear h7 h6 hF
              go_simp
              rfl
            · simp at ht
          case step =>
            intro p i o hp ht ho u w5 hb hF K hK Q'
            have T5 := TA.out.later hb
            obtain ⟨a0, a1, a2, a3, a4, a5, a6⟩ := seven T5.fst
            obtain ⟨d0, d1, d2, d3, d4, d5, d6⟩ := seven T5.snd
            have hpc : p = 0 ∨ p = 1 ∨ p = 2 ∨ p = 3 ∨ p = 4 ∨ p = 5 ∨ p = 6 ∨ p = 7 ∨ p = 8 ∨ p = 9 ∨ p = 10 := by
              have : p < 11 := (List.getElem?_eq_some_iff.1 hp).1
              omega
            rcases hpc with rfl | rfl | rfl | rfl | rfl | rfl | rfl | rfl | rfl | rfl | rfl
            all_goals
              simp only [List.getElem?_cons_zero, List.getElem?_cons_succ, Option.some.injEq] at hp
              subst hp
              simp only [List.getElem?_toArray, List.getElem?_cons_zero, List.getElem?_cons_succ, Option.some.injEq] at ho
              subst ho
              have HF := Lib.hid hF
              clear hF
              simp only [putAll, Act.put, List.setIfInBounds_toArray, List.set_cons_succ, List.set_cons_zero, Nat.zero_add, Nat.reduceAdd] at hK ⊢
            · have HK := Lib.hid hK
              clear hK
              go_simp
              exact HK.out _ _ _ rfl ⟨_, upd_at _ _ _, heap_alloc_new _ _⟩ ((Below.refl _ _).alloc (Nat.le_refl _) _)
            · have HK := Lib.hid hK
              clear hK
              go_simp
              exact HK.out _ _ _ rfl (upd_at _ _ _) (Below.refl _ _)
            · obtain ⟨g, f0, hg⟩ := HF.out 0 0 rfl (by kernel_rfl)
              have f1 : u 1 = _ := HF.out 1 1 rfl (by kernel_rfl)
              rw [f0, f1] at hK ⊢
              have HK := Lib.hid hK
              clear hK f0 f1
              go_simp
              exact HK.out _ _ _ rfl ⟨g, upd_at _ _ _, hg⟩ (Below.refl _ _)
            · obtain ⟨g, f0, hg⟩ := HF.out 2 2 rfl (by kernel_rfl)
              rw [f0] at hK ⊢
              have hc := cell_at_block hg 1 _ rfl
              have HK := Lib.hid hK
              clear hK f0 hg
              go_simp
              exact HK.out _ _ _ rfl (upd_at _ _ _) (Below.refl _ _)
            · have HK := Lib.hid hK
              clear hK
              go_simp
              exact HK.out _ _ _ rfl (upd_at _ _ _) (Below.refl _ _)
            · have HK := Lib.hid hK
              clear hK
              go_simp
              exact HK.out _ _ _ rfl (upd_at _ _ _) (Below.refl _ _)
            · have f3 : u 3 = _ := HF.out 3 3 rfl (by kernel_rfl)
              have f4 : u 4 = _ := HF.out 4 4 rfl (by kernel_rfl)
              have f5 : u 5 = _ := HF.out 5 5 rfl (by kernel_rfl)
              rw [f3, f4, f5] at hK ⊢
              have HK := Lib.hid hK
              clear hK f3 f4 f5
              go_simp
              refine Calls.mono (by exact B1.out _) ?_
              rintro e w6' ⟨o', ho', rfl, hb6⟩
              exact HK.out _ _ _ rfl ⟨o', ho', upd_at _ _ _⟩ hb6
            · simp at ht
            · simp at ht
            · simp at ht
            · have HK := Lib.hid hK
              clear hK
              go_simp
              exact HK.out _ _ _ rfl ⟨_, upd_at _ _ _, hb.size, heap_alloc_new _ _⟩ ((Below.refl _ _).alloc (Nat.le_refl _) _)
          case tail =>
            intro u w5 hb hF K HKK
            have f1 : u 1 = _ := hF 1 (by decide)
            obtain ⟨o', ho', f6⟩ := hF 6 (by decide)
            have f8 : u 8 = fstT (u 6) := hF 8 (by decide)
            have f9 : u 9 = sndT (u 6) := hF 9 (by decide)
            obtain ⟨g, f10, hg1, hg2⟩ := hF 10 (by decide)
            rw [f6, arRes_eq] at f8 f9
            simp only [fstT, sndT, List.getD_eq_getElem?_getD, Array.getD_eq_getD_getElem?, List.getElem?_toArray, List.getElem?_cons_zero, List.getElem?_cons_succ, Option.getD_some] at f8 f9
            have GW := Lib.hid ((hb.block _ hrs).trans GA.out)
            have HB5 := Lib.hid (hRA.out.trans (hb.mono hRA.out.size))
            have TW := Lib.hid (TA.out.later hb)
            have hgl : wl.heap.size ≤ g := by have := hRA.out.size; omega
            have hs5 : wl.heap.size ≤ w5.heap.size := by have := hRA.out.size; have := hb.size; omega
            have n1 : ¬ g = wr.heap.size := by omega
            have n2' : ¬ wr.heap.size = g := by omega
            have hwr5 : wr.heap.size < w5.heap.size := by have := hb.size; omega
            have n3 : ¬ wr.heap.size = w5.heap.size := by omega
            have n4 : ¬ w5.heap.size = wr.heap.size := by omega
            have n5 : ¬ g = w5.heap.size := by have := lt_of_block hg2; omega
            have n6 : ¬ w5.heap.size = g := by omega
            have HS := Lib.hid (fun y z h1 h2 => @cuSame_good r1 y z h1 h2)
            have HBO := Lib.hid (good_both HO1.out ho')
            have HO' := Lib.hid ho'
            obtain ⟨e0, e1, e2, e3, e4, e5, e6⟩ := seven hg2
            have zf := free_block hg2
            have hgw : g < w5.heap.size := lt_of_block hg2
            clear hF hg2 hb TA GA hRA hg1 hrs f6 ho'
            simp only [putAll, Act.put, List.setIfInBounds_toArray, List.set_cons_succ, List.set_cons_zero, Nat.zero_add, Nat.reduceAdd, List.filterMap_cons, List.filterMap_nil, List.getElem?_toArray, List.getElem?_cons_zero, List.getElem?_cons_succ, f1, f8, f9, f10]
            clear f1 f8 f9 f10
            rcases HBO.out with ⟨ho, rfl⟩ | ⟨y, z, ho, rfl⟩
            · have t1 : (oF o1 == 0) = false := by rw [ho]; rfl
              have t2 : (oF o1 != 2) = false := by rw [ho]; rfl
              clear ho
              clear HS HBO HO' TW GW
              go_wp2_with fail
              refine HKK.out _ _ ?_
              go_wp2_with fail
              go_roundw
              case rel => exact ⟨1 + 1, by omega, by go_num, ((below7 HB5.out hgl _ _ _ _ _ _ _).alloc (by simp; omega) _)⟩
              case measure => simp [intOf]
            · have t1 : (oF o1 == 0) = true := by rw [ho]; rfl
              have hy : some (oV o1) = o1 := by rw [ho]; rfl
              have q3 : oV (some z) = z := rfl
              have HT := Lib.hid (HS.out (oV o1) z (hy ▸ HO1.out) HO'.out)
              clear HS HBO HO' ho hy
              rw [q3]
              clear q3
              obtain ⟨k0, k1, k2', k3, k4, k5, k6, k7⟩ := eight GW.out
              unfold SV.door SV.val at HT
              go_wp2_with fail
              refine HKK.out _ _ ?_
              go_wp2_with fail
              refine Calls.mono (by exact HT.out _) ?_
              rintro e w9 ⟨rfl, hb9⟩
              have HB9 := Lib.hid (((below7 HB5.out hgl _ _ _ _ _ _ _).alloc (by simp; omega) _).trans (hb9.mono (by simp; omega)))
              clear hb9 k0 k1 k2' k3 k4 k5 k6 k7
              go_wp2_with fail
              go_roundw
              case rel => exact ⟨1 + 1, by omega, by go_num, HB9.out⟩
              case measure => simp [intOf]
        · skip
          have c0 := cell_at_block SR.out 16 _ rfl
          have c1 := cell_at_block SR.out 17 _ rfl
          have c2 := cell_at_block SR.out 18 _ rfl
          have c3 := cell_at_block SR.out 19 _ rfl
          have c4 := cell_at_block SR.out 20 _ rfl
          have c5 := cell_at_block SR.out 21 _ rfl
          have c6 := cell_at_block SR.out 22 _ rfl
          have c7 := cell_at_block SR.out 23 _ rfl
          go_wp2_with fail
          clear c0 c1 c2 c3 c4 c5 c6 c7
          have TA := Lib.hid (TR.out.later ((Below.refl _ _).alloc (Nat.le_refl _) (.cells #[.int .i64 (oV o2).dk, .int .i64 (oV o2).dn, .int .u64 0, .float .f64 (oV o2).df, .string (oV o2).dt, .bool (oV o2).db, .slice none 0 0, .slice none 0 0] 35)))
          have GA := Lib.hid (heap_alloc_new wr (.cells #[.int .i64 (oV o2).dk, .int .i64 (oV o2).dn, .int .u64 0, .float .f64 (oV o2).df, .string (oV o2).dt, .bool (oV o2).db, .slice none 0 0, .slice none 0 0] 35))
          have hRA := Lib.hid (hR.out.trans ((Below.refl _ _).alloc hR.out.size (.cells #[.int .i64 (oV o2).dk, .int .i64 (oV o2).dn, .int .u64 0, .float .f64 (oV o2).df, .string (oV o2).dt, .bool (oV o2).db, .slice none 0 0, .slice none 0 0] 35)))
          have hrs : wr.heap.size < (wr.alloc (.cells #[.int .i64 (oV o2).dk, .int .i64 (oV o2).dn, .int .u64 0, .float .f64 (oV o2).df, .string (oV o2).dt, .bool (oV o2).db, .slice none 0 0, .slice none 0 0] 35)).heap.size := by simp
          obtain ⟨wa, hwa⟩ : ∃ wa, wa = (wr.alloc (.cells #[.int .i64 (oV o2).dk, .int .i64 (oV o2).dn, .int .u64 0, .float .f64 (oV o2).df, .string (oV o2).dt, .bool (oV o2).db, .slice none 0 0, .slice none 0 0] 35)) := ⟨_, rfl⟩
          rw [← hwa] at TA GA hRA hrs ⊢
          clear hwa TR SR hR
          refine wp_region_chain [0, 1, 2, 3, 4, 5, 6, 7, 8, 9, 10] [7, 8, 9] [11, 12] [some 67, some 68, some 69, some 70, some 71, some 72, some 73, some 66, some 74, some 75, some 15] _
            (fun p => match p with | 7 => [7, 6] | 8 => [8, 6] | 9 => [9, 6] | p => [p])
            (fun p u w' => match p with
              | 0 => ∃ g, u 0 = .slice (some ⟨g, 0, none⟩) 3 3 ∧ w'.heap[g]? = some (.cells #[.string ⟨#[43]⟩, .string ⟨#[45]⟩, .string ⟨#[42]⟩] 9 (0, 0))
              | 1 => u 1 = .int .i64 2
              | 2 => ∃ g, u 2 = .pointer (some ⟨g, 2, none⟩) ∧ w'.heap[g]? = some (.cells #[.string ⟨#[43]⟩, .string ⟨#[45]⟩, .string ⟨#[42]⟩] 9 (0, 0))
              | 3 => u 3 = .string ⟨#[42]⟩
              | 4 => u 4 = .agg #[.int .i64 k, .int .i64 n, .float .f64 f, .string t, .bool b, .slice ip items.length ic, .slice kp keys.length kc]
              | 5 => u 5 = .agg #[.int .i64 k2, .int .i64 n2, .float .f64 f2, .string t2, .bool b2, .slice ip2 items2.length ic2, .slice kp2 keys2.length kc2]
              | 6 => ∃ o, r2.Good o ∧ u 6 = arRes o
              | 7 => u 7 = u 6
              | 8 => u 8 = fstT (u 6)
              | 9 => u 9 = sndT (u 6)
              | 10 => ∃ g, u 10 = .pointer (some ⟨g, 0, none⟩) ∧ wa.heap.size ≤ g ∧ w'.heap[g]? = some (.cells #[.int .i64 0, .int .i64 0, .float .f64 0, .string ⟨#[]⟩, .bool false, .slice none 0 0, .slice none 0 0] 30 (0, 0))
              | _ => True)
            (by kernel_rfl) (by kernel_rfl) rfl rfl ?mono ?same ?take ?step ?tail
          case mono =>
            intro p u w' w'' hp hF hb
            match p, hF with
            | 0, ⟨g, h1, h2⟩ => exact ⟨g, h1, (hb.block g (lt_of_block h2)).trans h2⟩
            | 1, hF => exact hF
            | 2, ⟨g, h1, h2⟩ => exact ⟨g, h1, (hb.block g (lt_of_block h2)).trans h2⟩
            | 3, hF => exact hF
            | 4, hF => exact hF
            | 5, hF => exact hF
            | 6, hF => exact hF
            | 7, hF => exact hF
            | 8, hF => exact hF
            | 9, hF => exact hF
            | 10, ⟨g, h1, h2, h3⟩ => exact ⟨g, h1, h2, (hb.block g (lt_of_block h3)).trans h3⟩
            | p + 11, _ => exact trivial
          case same =>
            intro p u u' w' hp hd hF
            match p, hd, hF with
            | 0, hd, hF => rw [← hd 0 (by simp)]; exact hF
            | 1, hd, hF => rw [← hd 1 (by simp)]; exact hF
            | 2, hd, hF => rw [← hd 2 (by simp)]; exact hF
            | 3, hd, hF => rw [← hd 3 (by simp)]; exact hF
            | 4, hd, hF => rw [← hd 4 (by simp)]; exact hF
            | 5, hd, hF => rw [← hd 5 (by simp)]; exact hF
            | 6, hd, hF => rw [← hd 6 (by simp)]; exact hF
            | 7, hd, hF => rw [← hd 7 (by simp), ← hd 6 (by simp)]; exact hF
            | 8, hd, hF => rw [← hd 8 (by simp), ← hd 6 (by simp)]; exact hF
            | 9, hd, hF => rw [← hd 9 (by simp), ← hd 6 (by simp)]; exact hF
            | 10, hd, hF => rw [← hd 10 (by simp)]; exact hF
            | p + 11, _, _ => exact trivial
          case take =>
            intro p i o hp ht ho u w5 hb hF
            have hpc : p = 0 ∨ p = 1 ∨ p = 2 ∨ p = 3 ∨ p = 4 ∨ p = 5 ∨ p = 6 ∨ p = 7 ∨ p = 8 ∨ p = 9 ∨ p = 10 := by
              have : p < 11 := (List.getElem?_eq_some_iff.1 hp).1
              omega
            rcases hpc with rfl | rfl | rfl | rfl | rfl | rfl | rfl | rfl | rfl | rfl | rfl
            all_goals
              simp only [List.getElem?_cons_zero, List.getElem?_cons_succ, Option.some.injEq] at hp
              subst hp
            iterate 7 (simp at ht)
            · simp only [List.getElem?_toArray, List.getElem?_cons_zero, List.getElem?_cons_succ, Option.some.injEq] at ho
              subst ho
              refine ⟨u 6, .inl ⟨by rfl, fun w => ?_⟩, by simp [upd]⟩
              simp only [putAll, Act.put, List.setIfInBounds_toArray, List.set_cons_succ, List.set_cons_zero, Nat.zero_add, Nat.reduceAdd]
              go_simp
            · simp only [List.getElem?_toArray, List.getElem?_cons_zero, List.getElem?_cons_succ, Option.some.injEq] at ho
              subst ho
              obtain ⟨o', -, h6⟩ := hF 6 6 rfl (by kernel_rfl)
              have h7 : u 7 = u 6 := hF 7 7 rfl (by kernel_rfl)
              rw [arRes_eq] at h6
              refine ⟨fstT (u 6), .inl ⟨by rfl, fun w => ?_⟩, by simp [upd]⟩
              simp only [putAll, Act.put, List.setIfInBounds_toArray, List.set_cons_succ, List.set_cons_zero, Nat.zero_add, Nat.reduceAdd, h7, h6]
              clear h7 h6 hF
              go_simp
              rfl
            · simp only [List.getElem?_toArray, List.getElem?_cons_zero, List.getElem?_cons_succ, Option.some.injEq] at ho
              subst ho
              obtain ⟨o', -, h6⟩ := hF 6 6 rfl (by kernel_rfl)
              have h7 : u 7 = u 6 := hF 7 7 rfl (by kernel_rfl)
              rw [arRes_eq] at h6
              refine ⟨sndT (u 6), .inl ⟨by rfl, fun w => ?_⟩, by simp [upd]⟩
              simp only [putAll, Act.put, List.setIfInBounds_toArray, List.set_cons_succ, List.set_cons_zero, Nat.zero_add, Nat.reduceAdd, h7, h6]
              clear h7 h6 hF
              go_simp
              rfl
            · simp at ht
          case step =>
            intro p i o hp ht ho u w5 hb hF K hK Q'
            have T5 := TA.out.later hb
            obtain ⟨a0, a1, a2, a3, a4, a5, a6⟩ := seven T5.fst
            obtain ⟨d0, d1, d2, d3, d4, d5, d6⟩ := seven T5.snd
            have hpc : p = 0 ∨ p = 1 ∨ p = 2 ∨ p = 3 ∨ p = 4 ∨ p = 5 ∨ p = 6 ∨ p = 7 ∨ p = 8 ∨ p = 9 ∨ p = 10 := by
              have : p < 11 := (List.getElem?_eq_some_iff.1 hp).1
              omega
            rcases hpc with rfl | rfl | rfl | rfl | rfl | rfl | rfl | rfl | rfl | rfl | rfl
            all_goals
              simp only [List.getElem?_cons_zero, List.getElem?_cons_succ, Option.some.injEq] at hp
              subst hp
              simp only [List.getElem?_toArray, List.getElem?_cons_zero, List.getElem?_cons_succ, Option.some.injEq] at ho
              subst ho
              have HF := Lib.hid hF
              clear hF
              simp only [putAll, Act.put, List.setIfInBounds_toArray, List.set_cons_succ, List.set_cons_zero, Nat.zero_add, Nat.reduceAdd] at hK ⊢
            · have HK := Lib.hid hK
              clear hK
              go_simp
              exact HK.out _ _ _ rfl ⟨_, upd_at _ _ _, heap_alloc_new _ _⟩ ((Below.refl _ _).alloc (Nat.le_refl _) _)
            · have HK := Lib.hid hK
              clear hK
              go_simp
              exact HK.out _ _ _ rfl (upd_at _ _ _) (Below.refl _ _)
            · obtain ⟨g, f0, hg⟩ := HF.out 0 0 rfl (by kernel_rfl)
              have f1 : u 1 = _ := HF.out 1 1 rfl (by kernel_rfl)
              rw [f0, f1] at hK ⊢
              have HK := Lib.hid hK
              clear hK f0 f1
              go_simp
              exact HK.out _ _ _ rfl ⟨g, upd_at _ _ _, hg⟩ (Below.refl _ _)
            · obtain ⟨g, f0, hg⟩ := HF.out 2 2 rfl (by kernel_rfl)
              rw [f0] at hK ⊢
              have hc := cell_at_block hg 2 _ rfl
              have HK := Lib.hid hK
              clear hK f0 hg
              go_simp
              exact HK.out _ _ _ rfl (upd_at _ _ _) (Below.refl _ _)
            · have HK := Lib.hid hK
              clear hK
              go_simp
              exact HK.out _ _ _ rfl (upd_at _ _ _) (Below.refl _ _)
            · have HK := Lib.hid hK
              clear hK
              go_simp
              exact HK.out _ _ _ rfl (upd_at _ _ _) (Below.refl _ _)
            · have f3 : u 3 = _ := HF.out 3 3 rfl (by kernel_rfl)
              have f4 : u 4 = _ := HF.out 4 4 rfl (by kernel_rfl)
              have f5 : u 5 = _ := HF.out 5 5 rfl (by kernel_rfl)
              rw [f3, f4, f5] at hK ⊢
              have HK := Lib.hid hK
              clear hK f3 f4 f5
              go_simp
              refine Calls.mono (by exact B2.out _) ?_
              rintro e w6' ⟨o', ho', rfl, hb6⟩
              exact HK.out _ _ _ rfl ⟨o', ho', upd_at _ _ _⟩ hb6
            · simp at ht
            · simp at ht
            · simp at ht
            · have HK := Lib.hid hK
              clear hK
              go_simp
              exact HK.out _ _ _ rfl ⟨_, upd_at _ _ _, hb.size, heap_alloc_new _ _⟩ ((Below.refl _ _).alloc (Nat.le_refl _) _)
          case tail =>
            intro u w5 hb hF K HKK
            have f1 : u 1 = _ := hF 1 (by decide)
            obtain ⟨o', ho', f6⟩ := hF 6 (by decide)
            have f8 : u 8 = fstT (u 6) := hF 8 (by decide)
            have f9 : u 9 = sndT (u 6) := hF 9 (by decide)
            obtain ⟨g, f10, hg1, hg2⟩ := hF 10 (by decide)
            rw [f6, arRes_eq] at f8 f9
            simp only [fstT, sndT, List.getD_eq_getElem?_getD, Array.getD_eq_getD_getElem?, List.getElem?_toArray, List.getElem?_cons_zero, List.getElem?_cons_succ, Option.getD_some] at f8 f9
            have GW := Lib.hid ((hb.block _ hrs).trans GA.out)
            have HB5 := Lib.hid (hRA.out.trans (hb.mono hRA.out.size))
            have TW := Lib.hid (TA.out.later hb)
            have hgl : wl.heap.size ≤ g := by have := hRA.out.size; omega
            have hs5 : wl.heap.size ≤ w5.heap.size := by have := hRA.out.size; have := hb.size; omega
            have n1 : ¬ g = wr.heap.size := by omega
            have n2' : ¬ wr.heap.size = g := by omega
            have hwr5 : wr.heap.size < w5.heap.size := by have := hb.size; omega
            have n3 : ¬ wr.heap.size = w5.heap.size := by omega
            have n4 : ¬ w5.heap.size = wr.heap.size := by omega
            have n5 : ¬ g = w5.heap.size := by have := lt_of_block hg2; omega
            have n6 : ¬ w5.heap.size = g := by omega
            have HS := Lib.hid (fun y z h1 h2 => @cuSame_good r2 y z h1 h2)
            have HBO := Lib.hid (good_both HO2.out ho')
            have HO' := Lib.hid ho'
            obtain ⟨e0, e1, e2, e3, e4, e5, e6⟩ := seven hg2
            have zf := free_block hg2
            have hgw : g < w5.heap.size := lt_of_block hg2
            clear hF hg2 hb TA GA hRA hg1 hrs f6 ho'
            simp only [putAll, Act.put, List.setIfInBounds_toArray, List.set_cons_succ, List.set_cons_zero, Nat.zero_add, Nat.reduceAdd, List.filterMap_cons, List.filterMap_nil, List.getElem?_toArray, List.getElem?_cons_zero, List.getElem?_cons_succ, f1, f8, f9, f10]
            clear f1 f8 f9 f10
            rcases HBO.out with ⟨ho, rfl⟩ | ⟨y, z, ho, rfl⟩
            · have t1 : (oF o2 == 0) = false := by rw [ho]; rfl
              have t2 : (oF o2 != 2) = false := by rw [ho]; rfl
              clear ho
              clear HS HBO HO' TW GW
              go_wp2_with fail
              refine HKK.out _ _ ?_
              go_wp2_with fail
              go_roundw
              case rel => exact ⟨2 + 1, by omega, by go_num, ((below7 HB5.out hgl _ _ _ _ _ _ _).alloc (by simp; omega) _)⟩
              case measure => simp [intOf]
            · have t1 : (oF o2 == 0) = true := by rw [ho]; rfl
              have hy : some (oV o2) = o2 := by rw [ho]; rfl
              have q3 : oV (some z) = z := rfl
              have HT := Lib.hid (HS.out (oV o2) z (hy ▸ HO2.out) HO'.out)
              clear HS HBO HO' ho hy
              rw [q3]
              clear q3
              obtain ⟨k0, k1, k2', k3, k4, k5, k6, k7⟩ := eight GW.out
              unfold SV.door SV.val at HT
              go_wp2_with fail
              refine HKK.out _ _ ?_
              go_wp2_with fail
              refine Calls.mono (by exact HT.out _) ?_
              rintro e w9 ⟨rfl, hb9⟩
              have HB9 := Lib.hid (((below7 HB5.out hgl _ _ _ _ _ _ _).alloc (by simp; omega) _).trans (hb9.mono (by simp; omega)))
              clear hb9 k0 k1 k2' k3 k4 k5 k6 k7
              go_wp2_with fail
              go_roundw
              case rel => exact ⟨2 + 1, by omega, by go_num, HB9.out⟩
              case measure => simp [intOf]
      · obtain rfl : j = 3 := by omega
        clear hlt hj
        obtain ⟨a0, a1, a2, a3, a4, a5, a6⟩ := seven TR.out.fst
        obtain ⟨d0, d1, d2, d3, d4, d5, d6⟩ := seven TR.out.snd
        go_wp2_with fail
        refine Calls.mono (by exact EQ.out _) ?_
        rintro e w9 ⟨rfl, hb⟩
        have HB9 := Lib.hid (TR.out.later hb).below
        clear hb
        go_wp2_with fail
        go_ret
        exact ⟨rfl, HB9.out⟩


namespace fnArithmetic
open Go.ChangeShapes Go.WideShapes Go.ChangeAt

set_option maxRecDepth 100000 in
theorem lifted (os : Os) (started : os.Started) (H : Type) (enc : TypeId × Value → H) :
    ReturnsInHanded {} Try.checked os 12 .any (Rows.fnArithmeticSpec.pre6 enc Try.prog Try.f12 Rows.fnArithmeticRow.domain false) (Rows.fnArithmeticSpec.post enc Try.prog Try.f12 false true false false) := by
  refine returnsInHanded_of_change (C := Try.checked) own started (by kernel_rfl) Try.func12
    (ChangeSpec.witness6 (enc := enc) (C := Try.checked) false ⟨#[], #[zeroV, zeroV], []⟩ 8 (by kernel_rfl) (by kernel_rfl) (by kernel_rfl) (by kernel_rfl)) ?_
  intro W base args ds gs before hval0 hW _ _
  have hval : ∀ (j : Nat) t v, Try.f12.params[j]? = some t → args[j]? = some v → Value.okWide Try.prog W .any base t v := hval0
  have hW' := hW
  obtain ⟨p, q, hA0, hV, rfl, hfz, hnd⟩ := hW
  have hA : DataW.TrodAll enc Try.prog W 0 (fun _ => true) true Try.f12.params.toList args.toList ds p := hA0
  rw [Try.params12] at hA hval
  obtain ⟨v0, vs0, d0, ds0, p0, q0, hargs, rfl, rfl, h0, r0⟩ := trodAll_cons hA
  obtain ⟨v1, vs1, d1, ds1, p1, q1, rfl, rfl, rfl, h1, r1⟩ := trodAll_cons r0
  obtain ⟨rfl, rfl, rfl⟩ := trodAll_nil r1
  obtain rfl : args = #[v0, v1] := by cases args; simp_all
  obtain ⟨rfl, rfl⟩ := trodVars_none hV
  obtain ⟨x, rfl, hx⟩ := open_V (hval 0 30 v0 rfl rfl) h0
  obtain ⟨y, rfl, hy⟩ := open_V (hval 1 30 v1 rfl rfl) h1
  clear hA0 hval0
  refine (fnArithmetic_any x y W hx hy).mono fun e W' ⟨he, hb⟩ => ?_
  subst he
  exact ⟨_, rfl, law_post hW' rfl rfl (by intro t ht; rw [Try.params12] at ht; simp at ht; subst ht; exact ⟨by kernel_rfl, of_decide_eq_true (by kernel_rfl)⟩) rfl rfl rfl hb⟩

theorem proved : Rows.FnArithmeticSaid :=
  OpenClaim.holds_of_wide 12 Try.f12 rfl rfl rfl rfl rfl rfl rfl ⟨rfl, rfl, rfl, rfl, rfl⟩ rfl rfl rfl rfl rfl (by kernel_rfl) Try.func12 (by kernel_rfl)
    (of_decide_eq_true (by kernel_rfl)) (by unfold Func.isWrapper; first | (rw [if_pos (by decide +kernel)]; kernel_rfl) | (rw [if_neg (by decide +kernel)]; exact ⟨rfl, rfl⟩))
    (fun os started H enc _ => lifted os started H enc)
end fnArithmetic

/-- THE STATEMENT. -/
theorem fnArithmetic_holds : Rows.FnArithmeticSaid := fnArithmetic.proved
#print axioms fnArithmetic_holds
end Go.Proofs.Ythmogfjmngbamaa
