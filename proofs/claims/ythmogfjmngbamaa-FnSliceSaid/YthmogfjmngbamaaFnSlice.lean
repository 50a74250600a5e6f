/-
  What is proved: 'laws.FnSlice' returns true for every value of the reference that can be read as data and every two places, and leaves all memory that was there as it was. No condition.
-/
import Derived.Test.YthmogfjmngbamaaSdoor
import Derived.Test.YthmogfjmngbamaaSam
namespace Go.Proofs.Ythmogfjmngbamaa
open Go.RowKit
set_option linter.unusedSimpArgs false
set_option linter.unusedVariables false

theorem door_list {w : World} {B : Nat → Prop} {v : SV} {r : Dv} (h : DoorOf w B v r) (hk : v.kind = 5) : r.k = 15 := by
  cases h with
  | plain _ hk2 => omega
  | list _ p c D hk2 => rfl
  | map _ kp kc p c D hk2 => omega

set_option maxHeartbeats 4000000 in
set_option maxRecDepth 100000 in
theorem fnSlice_any (x : SV) (a b : Int) (w : World) (hx : SV.In w x) (wa : (Lit.int .i64 a).wf = true) (wb : (Lit.int .i64 b).wf = true) : Calls Try.prog 10 #[x.val, .int .i64 a, .int .i64 b] w (Holds w) := by
  have ra := i64_wf wa
  have rb := i64_wf wb
  have HX := Lib.hid hx
  clear hx wa wb
  have F1 := Lib.hid (zzFits3_any x)
  have P1 := Lib.hid (CuFits_any x)
  have C1 := Lib.hid (cuOf_any w x 10)
  have CP := Lib.hid (fun hk hn hc w' => cupart_run x hk a b w' hn hc ra rb)
  have IS := Lib.hid (fun w B d hB hd hk hok hp hs => implSlice x a b w B d hB hd hk hok hp hs ra rb)
  clear ra rb
  generalize hxx : x = X at *
  cases x with
  | mk k n f t bo ip ic items kp kc keys =>
  have e1 : X.kind = k := by rw [← hxx]; rfl
  have vx : X.val = .agg #[.int .i64 k, .int .i64 n, .float .f64 f, .string t, .bool bo, .slice ip items.length ic, .slice kp keys.length kc] := by rw [← hxx]; rfl
  rw [vx] at F1 P1 C1 CP ⊢
  clear vx hxx
  generalize hil : items.length = il at *
  generalize hkl : keys.length = kl at *
  clear hil hkl items keys
  go_enter Try.func10, Try.ntmps10
  go_wp2_with fail
  refine Calls.mono (by exact F1.out _ (SV.in_later ((Below.refl _ _).alloc (Nat.le_refl _) _) _ HX.out)) ?_
  rintro e w1 ⟨r, -, rfl, hb⟩
  have K1 := Lib.hid ((hb.block _ (by simp)).trans (heap_alloc_new w _))
  have B1 : Hid (Below w.heap.size w w1) := ((Below.refl _ _).alloc (Nat.le_refl _) _).trans (hb.mono (by simp))
  clear hb
  obtain ⟨a0, a1, a2, a3, a4, a5, a6⟩ := seven K1.out
  cases r
  · go_wp2_with fail
    go_ret
    exact ⟨rfl, B1.out⟩
  go_wp2_with fail
  refine Calls.mono (by exact P1.out _ (SV.in_later B1.out _ HX.out)) ?_
  rintro e w2 ⟨r, hr, rfl, hb⟩
  have K2 := Lib.hid ((hb.block _ (lt_of_block K1.out)).trans K1.out)
  have B2 := Lib.hid (B1.out.trans (hb.mono B1.out.size))
  clear hb K1 B1 a0 a1 a2 a3 a4 a5 a6
  obtain ⟨k0, k1, k2, k3, k4, k5, k6⟩ := seven K2.out
  cases r
  · clear hr
    go_wp2_with fail
    go_ret
    exact ⟨rfl, B2.out⟩
  have HR := Lib.hid (hr rfl)
  clear hr
  by_cases h5 : k = 5
  case neg =>
    have h5' : (k == 5) = false := by simp; omega
    go_wp2_with fail
    go_ret
    exact ⟨rfl, B2.out⟩
  subst h5
  go_wp2_with fail
  refine Calls.mono (by exact C1.out _ HX.out B2.out HR.out.1 HR.out.2.1 HR.out.2.2) ?_
  rintro e w3 ⟨d, rfl, hb, hd⟩
  have K3 := Lib.hid ((hb.block _ (lt_of_block K2.out)).trans K2.out)
  have B3 := Lib.hid (B2.out.trans (hb.mono B2.out.size))
  have HT := Lib.hid (IS.out w3 _ d (fun b h => h.2) hd e1 HR.out.1 HR.out.2.1 HR.out.2.2)
  clear hb hd K2 B2 k0 k1 k2 k3 k4 k5 k6
  unfold Dv.val at HT ⊢
  go_wp2_with fail
  refine Calls.mono (by exact HT.out) ?_
  rintro e w4 ⟨hb, r, v, rfl, hdv, hlk⟩
  have hrk := door_list hdv (hlk.kind.trans (partV_kind X a b).1)
  have BW : Hid (Below w4.heap.size w4 (w4.alloc (.cells #[Value.int .i64 r.k, .int .i64 r.n, .int .u64 0, .float .f64 r.f, .string r.t, .bool r.b, .slice r.kp r.kl r.kc, .slice r.ip r.il r.ic] 35))) := (Below.refl _ _).alloc (Nat.le_refl _) _
  have GW := Lib.hid (heap_alloc_new w4 (.cells #[Value.int .i64 r.k, .int .i64 r.n, .int .u64 0, .float .f64 r.f, .string r.t, .bool r.b, .slice r.kp r.kl r.kc, .slice r.ip r.il r.ic] 35))
  have KX := Lib.hid ((BW.out.block _ (Nat.lt_of_lt_of_le (lt_of_block K3.out) hb.size)).trans ((hb.block _ (lt_of_block K3.out)).trans K3.out))
  have BX : Hid (Below w.heap.size w (w4.alloc (.cells #[Value.int .i64 r.k, .int .i64 r.n, .int .u64 0, .float .f64 r.f, .string r.t, .bool r.b, .slice r.kp r.kl r.kc, .slice r.ip r.il r.ic] 35))) := (B3.out.trans (hb.mono B3.out.size)).trans (BW.out.mono (Nat.le_trans B3.out.size hb.size))
  have DW := Lib.hid (hdv.keep (fun b h => BW.out.block b h.2) (fun _ h => h))
  have LK := Lib.hid hlk
  have BD : Hid (∀ b, betw w3.heap.size w4.heap.size b → b < (w4.alloc (.cells #[Value.int .i64 r.k, .int .i64 r.n, .int .u64 0, .float .f64 r.f, .string r.t, .bool r.b, .slice r.kp r.kl r.kc, .slice r.ip r.il r.ic] 35)).heap.size) := fun b h => Nat.lt_of_lt_of_le h.2 BW.out.size
  have HRK := Lib.hid hrk
  clear hb hdv hlk hrk HT K3 B3
  unfold Dv.val
  go_wp2_with fail
  obtain ⟨W, hW⟩ : ∃ W, W = w4.alloc (.cells #[Value.int .i64 r.k, .int .i64 r.n, .int .u64 0, .float .f64 r.f, .string r.t, .bool r.b, .slice r.kp r.kl r.kc, .slice r.ip r.il r.ic] 35) := ⟨_, rfl⟩
  rw [← hW] at GW KX BX DW BD ⊢
  clear hW BW
  obtain ⟨g, hg⟩ : ∃ g, g = w4.heap.size := ⟨_, rfl⟩
  rw [← hg] at GW BD DW ⊢
  clear hg
  have hln : X.items.length ≤ 200 := by have := SV.items_parts X; have := HR.out.2.1; omega
  have HCP := Lib.hid (CP.out e1 hln (SV.in_flat HX.out).items.1)
  have PO := partV_ok a b HR.out.1 HR.out.2.1 HR.out.2.2
  have PI := partV_in a b HX.out
  have HCS := Lib.hid (fun w' (hb : Below W.heap.size W w') => cuSame_like v (partV X a b) w' _ r (fun b h => Nat.lt_of_lt_of_le (BD.out b h) hb.size) (DW.out.keep (fun b h => hb.block b (BD.out b h)) (fun _ h => h)) (Nice.like LK.out (nice_of _ 10 PI PO.1 PO.2.2 PO.2.1)) LK.out (SV.in_later (BX.out.trans (hb.mono BX.out.size)) _ PI) PO.1)
  clear PO PI hln
  generalize (partV X a b).val = ZV at *
  unfold Dv.val at HCS
  rw [HRK.out] at GW HCS ⊢
  clear F1 P1 C1 CP IS HR HX LK DW BD HRK
  refine wp_region_phaseg [0, 1, 2, 3, 4, 5, 6, 7, 8, 9, 10, 11] [12, 13] [14, 15] [some 30, some 31, some 32, some 33, some 34, some 35, some 36, some 37, some 38, some 39, some 40, some 41, some 42, some 43] _
    (fun p => match p with
      | 0 => .int .i64 0
      | 1 => .bool true
      | 2 => .bool true
      | 3 => .pointer (some ⟨g, 0, none⟩)
      | 4 => .int .i64 15
      | 5 => .bool true
      | 6 => .bool true
      | 7 => .bool true
      | 8 => .agg #[Value.int .i64 15, .int .i64 r.n, .int .u64 0, .float .f64 r.f, .string r.t, .bool r.b, .slice r.kp r.kl r.kc, .slice r.ip r.il r.ic]
      | 9 => .agg #[.int .i64 5, .int .i64 n, .float .f64 f, .string t, .bool bo, .slice ip il ic, .slice kp kl kc]
      | 10 => .int .i64 a
      | 11 => .int .i64 b
      | _ => .nilIface)
    (fun k v w' => Hid (Below W.heap.size W w' ∧ match k with
      | 0 => True
      | 1 => v 0 = ZV
      | 2 => v 1 = .bool true
      | _ => False))
    (by kernel_rfl) (by kernel_rfl) rfl rfl ?want ?start ?read ?step ?tail
  case want =>
    intro i o hi ho u hF
    have hic : i = 0 ∨ i = 1 ∨ i = 2 ∨ i = 3 ∨ i = 4 ∨ i = 5 ∨ i = 6 ∨ i = 7 ∨ i = 8 ∨ i = 9 ∨ i = 10 ∨ i = 11 ∨ i = 12 ∨ i = 13 := by simpa using hi
    rcases hic with rfl | rfl | rfl | rfl | rfl | rfl | rfl | rfl | rfl | rfl | rfl | rfl | rfl | rfl
    all_goals
      simp only [List.getElem?_toArray, List.getElem?_cons_zero, List.getElem?_cons_succ, Option.some.injEq] at ho
      subst ho
    iterate 3 (· rfl)
    iterate 3 (· exact wanted_of 2 2 32 true rfl rfl rfl rfl (by kernel_rfl) (hF 2 2 rfl (by kernel_rfl)))
    iterate 2 (· rfl)
    iterate 6 (· exact wanted_of 7 7 37 true rfl rfl rfl rfl (by kernel_rfl) (hF 7 7 rfl (by kernel_rfl)))
  case start =>
    intro v
    exact ⟨(Below.refl _ _).drew, trivial⟩
  case read =>
    intro pp i o hp ho u JJ w' hJ hF K hK Q'
    have HB' := Lib.hid hJ.out.1
    clear hJ
    have hpc : pp = 0 ∨ pp = 1 ∨ pp = 2 ∨ pp = 3 ∨ pp = 4 ∨ pp = 5 ∨ pp = 6 ∨ pp = 7 ∨ pp = 8 ∨ pp = 9 ∨ pp = 10 ∨ pp = 11 := by
      have : pp < 12 := (List.getElem?_eq_some_iff.1 hp).1
      omega
    rcases hpc with rfl | rfl | rfl | rfl | rfl | rfl | rfl | rfl | rfl | rfl | rfl | rfl
    all_goals
      simp only [List.getElem?_cons_zero, List.getElem?_cons_succ, Option.some.injEq] at hp
      subst hp
      simp only [List.getElem?_toArray, List.getElem?_cons_zero, List.getElem?_cons_succ, Option.some.injEq] at ho
      subst ho
      have HF := Lib.hid hF
      clear hF
      simp only [putAll, Act.put, List.setIfInBounds_toArray, List.set_cons_succ, List.set_cons_zero, Nat.zero_add, Nat.reduceAdd] at hK ⊢
    · have HKK := Lib.hid hK
      clear hK
      go_simp
      exact HKK.out
    · have f0 : u 0 = _ := HF.out 0 0 rfl (by kernel_rfl)
      rw [f0] at hK ⊢
      have HKK := Lib.hid hK
      clear hK f0
      go_simp
      exact HKK.out
    · have f1 : u 1 = _ := HF.out 1 1 rfl (by kernel_rfl)
      rw [f1] at hK ⊢
      have HKK := Lib.hid hK
      clear hK f1
      go_simp
      exact HKK.out
    · have HKK := Lib.hid hK
      clear hK
      go_simp
      exact HKK.out
    · have f3 : u 3 = _ := HF.out 3 3 rfl (by kernel_rfl)
      rw [f3] at hK ⊢
      have HKK := Lib.hid hK
      clear hK f3
      obtain ⟨o0, o1, o2, o3, o4, o5, o6, o7⟩ := eight ((HB'.out.block _ (lt_of_block GW.out)).trans GW.out)
      go_simp
      exact HKK.out
    · have f4 : u 4 = _ := HF.out 4 4 rfl (by kernel_rfl)
      rw [f4] at hK ⊢
      have HKK := Lib.hid hK
      clear hK f4
      go_simp
      exact HKK.out
    · have f2 : u 2 = _ := HF.out 2 2 rfl (by kernel_rfl)
      have f5 : u 5 = _ := HF.out 5 5 rfl (by kernel_rfl)
      rw [f2, f5] at hK ⊢
      have HKK := Lib.hid hK
      clear hK f2 f5
      go_simp
      exact HKK.out
    · have f6 : u 6 = _ := HF.out 6 6 rfl (by kernel_rfl)
      rw [f6] at hK ⊢
      have HKK := Lib.hid hK
      clear hK f6
      go_simp
      exact HKK.out
    · have HKK := Lib.hid hK
      clear hK
      obtain ⟨o0, o1, o2, o3, o4, o5, o6, o7⟩ := eight ((HB'.out.block _ (lt_of_block GW.out)).trans GW.out)
      go_simp
      exact HKK.out
    · have HKK := Lib.hid hK
      clear hK
      obtain ⟨o0, o1, o2, o3, o4, o5, o6⟩ := seven ((HB'.out.block _ (lt_of_block KX.out)).trans KX.out)
      go_simp
      exact HKK.out
    · have HKK := Lib.hid hK
      clear hK
      go_simp
      exact HKK.out
    · have HKK := Lib.hid hK
      clear hK
      go_simp
      exact HKK.out
  case step =>
    intro qq i o hp ho u w' hJ hF K hK Q'
    have hpc : qq = 0 ∨ qq = 1 := by
      have : qq < 2 := (List.getElem?_eq_some_iff.1 hp).1
      omega
    rcases hpc with rfl | rfl
    all_goals
      simp only [List.getElem?_cons_zero, List.getElem?_cons_succ, Option.some.injEq] at hp
      subst hp
      simp only [List.getElem?_toArray, List.getElem?_cons_zero, List.getElem?_cons_succ, Option.some.injEq] at ho
      subst ho
      have HF := Lib.hid hF
      clear hF
      simp only [putAll, Act.put, List.setIfInBounds_toArray, List.set_cons_succ, List.set_cons_zero, Nat.zero_add, Nat.reduceAdd] at hK ⊢
    · have f9 : u 9 = _ := HF.out 9 9 rfl (by kernel_rfl)
      have f10 : u 10 = _ := HF.out 10 10 rfl (by kernel_rfl)
      have f11 : u 11 = _ := HF.out 11 11 rfl (by kernel_rfl)
      rw [f9, f10, f11] at hK ⊢
      have HKK := Lib.hid hK
      have HJ1 := Lib.hid hJ.out.1
      clear hK f9 f10 f11 hJ
      go_simp
      refine Calls.mono (by exact HCP.out w') ?_
      rintro e w7 ⟨rfl, hb7⟩
      exact HKK.out _ _ _ rfl ⟨HJ1.out.trans (hb7.mono HJ1.out.size), upd_at _ _ _⟩
    · have f12 : u 12 = ZV := hJ.out.2
      have f8 : u 8 = _ := HF.out 8 8 rfl (by kernel_rfl)
      rw [f12, f8] at hK ⊢
      have HKK := Lib.hid hK
      have HJ1 := Lib.hid hJ.out.1
      have HC0 := Lib.hid (HCS.out w' hJ.out.1)
      clear hK f12 f8 hJ
      go_simp
      refine Calls.mono (by exact HC0.out) ?_
      rintro e w7 ⟨rfl, hb7⟩
      exact HKK.out _ _ _ rfl ⟨HJ1.out.trans (hb7.mono HJ1.out.size), upd_at _ _ _⟩
  case tail =>
    intro u w' hJ hF K HKK
    have f13 : u 13 = .bool true := hJ.out.2
    have f7 : u 7 = _ := hF 7 (by decide)
    have TB := Lib.hid (BX.out.trans (hJ.out.1.mono BX.out.size))
    clear hJ hF
    simp only [putAll, Act.put, List.setIfInBounds_toArray, List.set_cons_succ, List.set_cons_zero, Nat.zero_add, Nat.reduceAdd, List.filterMap_cons, List.filterMap_nil, List.getElem?_toArray, List.getElem?_cons_zero, List.getElem?_cons_succ, f13, f7]
    clear f13 f7
    go_wp2_with fail
    refine HKK.out _ _ ?_
    clear HKK
    go_wp2_with fail
    go_ret
    exact ⟨rfl, TB.out⟩

namespace fnSlice
open Go.ChangeShapes Go.WideShapes Go.ChangeAt

set_option maxRecDepth 100000 in
theorem lifted (os : Os) (started : os.Started) (H : Type) (enc : TypeId × Value → H) :
    ReturnsInHanded {} Try.checked os 10 .any (Rows.fnSliceSpec.pre6 enc Try.prog Try.f10 Rows.fnSliceRow.domain false) (Rows.fnSliceSpec.post enc Try.prog Try.f10 false true false false) := by
  refine returnsInHanded_of_change (C := Try.checked) own started (by kernel_rfl) Try.func10
    (ChangeSpec.witness6 (enc := enc) (C := Try.checked) false ⟨#[], #[zeroV, .int .i64 0, .int .i64 0], []⟩ 8 (by kernel_rfl) (by kernel_rfl) (by kernel_rfl) (by kernel_rfl)) ?_
  intro W base args ds gs before hval0 hW _ _
  have hval : ∀ (j : Nat) t v, Try.f10.params[j]? = some t → args[j]? = some v → Value.okWide Try.prog W .any base t v := hval0
  have hW' := hW
  obtain ⟨p, q, hA0, hV, rfl, hfz, hnd⟩ := hW
  have hA : DataW.TrodAll enc Try.prog W 0 (fun _ => true) true Try.f10.params.toList args.toList ds p := hA0
  rw [Try.params10] at hA hval
  obtain ⟨v0, vs0, d0, ds0, p0, q0, hargs, rfl, rfl, h0, r0⟩ := trodAll_cons hA
  obtain ⟨v1, vs1, d1, ds1, p1, q1, rfl, rfl, rfl, h1, r1⟩ := trodAll_cons r0
  obtain ⟨v2, vs2, d2, ds2, p2, q2, rfl, rfl, rfl, h2, r2⟩ := trodAll_cons r1
  obtain ⟨rfl, rfl, rfl⟩ := trodAll_nil r2
  obtain rfl : args = #[v0, v1, v2] := by cases args; simp_all
  obtain ⟨rfl, rfl⟩ := trodVars_none hV
  obtain ⟨x, rfl, hx⟩ := open_V (hval 0 30 v0 rfl rfl) h0
  obtain ⟨a1, rfl, rfl, rfl, w1⟩ := open_int Try.underlying3 (hval 1 3 v1 rfl rfl) h1
  obtain ⟨a2, rfl, rfl, rfl, w2⟩ := open_int Try.underlying3 (hval 2 3 v2 rfl rfl) h2
  clear hA0 hval0
  refine (fnSlice_any x a1 a2 W hx w1 w2).mono fun e W' ⟨he, hb⟩ => ?_
  subst he
  exact ⟨_, rfl, law_post hW' rfl rfl (by intro t ht; rw [Try.params10] at ht; simp at ht; rcases ht with rfl | rfl <;> exact ⟨by kernel_rfl, of_decide_eq_true (by kernel_rfl)⟩) rfl rfl rfl hb⟩

theorem proved : Rows.FnSliceSaid :=
  OpenClaim.holds_of_wide 10 Try.f10 rfl rfl rfl rfl rfl rfl rfl ⟨rfl, rfl, rfl, rfl, rfl⟩ rfl rfl rfl rfl rfl (by kernel_rfl) Try.func10 (by kernel_rfl)
    (of_decide_eq_true (by kernel_rfl)) (by unfold Func.isWrapper; first | (rw [if_pos (by decide +kernel)]; kernel_rfl) | (rw [if_neg (by decide +kernel)]; exact ⟨rfl, rfl⟩))
    (fun os started H enc _ => lifted os started H enc)
end fnSlice

/-- THE STATEMENT. -/
theorem fnSlice_holds : Rows.FnSliceSaid := fnSlice.proved
#print axioms fnSlice_holds
end Go.Proofs.Ythmogfjmngbamaa

