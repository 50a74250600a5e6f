/-
  What is proved: 'laws.FnLengths' returns true for every value of the reference that can be read as data, and leaves all memory that was there as it was. No condition.
-/
import Derived.Test.YthmogfjmngbamaaDlen
namespace Go.Proofs.Ythmogfjmngbamaa
open Go.RowKit
set_option linter.unusedSimpArgs false
set_option linter.unusedVariables false

theorem implLength_some (x : SV) (n : Int) (h : lenR x = .int n) (hok : SV.Ok x) (hp : x.parts ≤ 200) (hs : SV.Small 10 x) (w : World) (B : Nat → Prop) (d : Dv) (hB : ∀ b, B b → b < w.heap.size) (hd : DoorOf w B x d) :
    Calls Try.prog 29 #[d.val] w (Gives (.tuple #[.agg #[.int .i64 1, .int .i64 n, .int .u64 0, .float .f64 0, .string ⟨#[]⟩, .bool false, .slice none 0 0, .slice none 0 0], .int .i64 0]) w) := by
  refine (implLength x w B d hB hd hok hp hs).mono ?_
  rintro e w' ⟨o, ho, hg⟩
  rw [h] at ho
  obtain rfl : o = some (.ofInt n) := ho
  exact hg
theorem implLength_none (x : SV) (h : lenR x = .dies) (hok : SV.Ok x) (hp : x.parts ≤ 200) (hs : SV.Small 10 x) (w : World) (B : Nat → Prop) (d : Dv) (hB : ∀ b, B b → b < w.heap.size) (hd : DoorOf w B x d) :
    Calls Try.prog 29 #[d.val] w (Gives (.tuple #[.agg #[.int .i64 0, .int .i64 0, .int .u64 0, .float .f64 0, .string ⟨#[]⟩, .bool false, .slice none 0 0, .slice none 0 0], .int .i64 2]) w) := by
  refine (implLength x w B d hB hd hok hp hs).mono ?_
  rintro e w' ⟨o, ho, hg⟩
  rw [h] at ho
  obtain rfl : o = none := ho
  exact hg
theorem implSize_some (x : SV) (n : Int) (h : sizeR x = .int n) (hok : SV.Ok x) (hp : x.parts ≤ 200) (hs : SV.Small 10 x) (w : World) (B : Nat → Prop) (d : Dv) (hB : ∀ b, B b → b < w.heap.size) (hd : DoorOf w B x d) :
    Calls Try.prog 30 #[d.val] w (Gives (.tuple #[.int .i64 n, .int .i64 0]) w) := by
  refine (implSize x w B d hB hd hok hp hs).mono ?_
  rintro e w' ⟨o, ho, hg⟩
  rw [h] at ho
  obtain rfl : o = some (.ofInt n) := ho
  exact hg
theorem implSize_none (x : SV) (h : sizeR x = .dies) (hok : SV.Ok x) (hp : x.parts ≤ 200) (hs : SV.Small 10 x) (w : World) (B : Nat → Prop) (d : Dv) (hB : ∀ b, B b → b < w.heap.size) (hd : DoorOf w B x d) :
    Calls Try.prog 30 #[d.val] w (Gives (.tuple #[.int .i64 0, .int .i64 2]) w) := by
  refine (implSize x w B d hB hd hok hp hs).mono ?_
  rintro e w' ⟨o, ho, hg⟩
  rw [h] at ho
  obtain rfl : o = none := ho
  exact hg
theorem lengths_3 {x : SV} (h : x.kind = 3) : lenR x = .int (Lib.runeCount x.text) ∧ sizeR x = .int x.text.size := by
  simp [lenR, sizeR, lenO, h]
theorem lengths_5 {x : SV} (h : x.kind = 5 ∨ x.kind = 6) : lenR x = .int x.items.length ∧ sizeR x = .int x.items.length := by
  rcases h with h | h <;> simp [lenR, sizeR, lenO, h]
theorem lengths_0 {x : SV} (h : x.kind = 0 ∨ x.kind = 1 ∨ x.kind = 2 ∨ x.kind = 4) : lenR x = .dies ∧ sizeR x = .dies := by
  rcases h with h | h | h | h <;> simp [lenR, sizeR, lenO, h]

set_option maxHeartbeats 2000000 in
set_option maxRecDepth 100000 in
theorem fnLengths_any (x : SV) (w : World) (hx : SV.In w x) : Calls Try.prog 8 #[x.val] w (Holds w) := by
  have HX := Lib.hid hx
  clear hx
  have F1 := Lib.hid (zzFits3_any x)
  have P1 := Lib.hid (CuFits_any x)
  have C1 := Lib.hid (cuOf_any w x 10)
  have L3 := Lib.hid (@lengths_3 x)
  have L5 := Lib.hid (@lengths_5 x)
  have L0 := Lib.hid (@lengths_0 x)
  generalize hxx : x = X at *
  cases x with
  | mk k n f t b ip ic items kp kc keys =>
  have e1 : X.kind = k := by rw [← hxx]; rfl
  have e2 : X.text = t := by rw [← hxx]; rfl
  have e3 : X.items.length = items.length := by rw [← hxx]; rfl
  have vx : X.val = .agg #[.int .i64 k, .int .i64 n, .float .f64 f, .string t, .bool b, .slice ip items.length ic, .slice kp keys.length kc] := by rw [← hxx]; rfl
  rw [vx] at F1 P1 C1 ⊢
  rw [e1, e2] at L3
  rw [e1, e3] at L5
  rw [e1] at L0
  clear vx hxx e3
  generalize hil : items.length = il at *
  generalize hkl : keys.length = kl at *
  clear hil hkl items keys
  go_enter Try.func8, Try.ntmps8
  go_wp2_with fail
  -- zzFits3(v)
  refine Calls.mono (by exact F1.out _ (SV.in_later ((Below.refl _ _).alloc (Nat.le_refl _) _) _ HX.out)) ?_
  rintro e w1 ⟨r, -, rfl, hb⟩
  have K1 := Lib.hid ((hb.block _ (by simp)).trans (heap_alloc_new w _))
  have B1 : Hid (Below w.heap.size w w1) := ((Below.refl _ _).alloc (Nat.le_refl _) _).trans (hb.mono (by simp))
  clear hb
  obtain ⟨a0, a1, a2, a3, a4, a5, a6⟩ := seven K1.out
  cases r
  · go_wp2_with fail
    go_ret
    exact ⟨rfl, B1.out⟩
  go_wp2_with fail
  -- CuFits(v)
  refine Calls.mono (by exact P1.out _ (SV.in_later B1.out _ HX.out)) ?_
  rintro e w2 ⟨r, hr, rfl, hb⟩
  have K2 := Lib.hid ((hb.block _ (lt_of_block K1.out)).trans K1.out)
  have B2 := Lib.hid (B1.out.trans (hb.mono B1.out.size))
  clear hb K1 B1 a0 a1 a2 a3 a4 a5 a6
  obtain ⟨k0, k1, k2, k3, k4, k5, k6⟩ := seven K2.out
  cases r
  · clear hr
    go_wp2_with fail
    go_ret
    exact ⟨rfl, B2.out⟩
  have HR := Lib.hid (hr rfl)
  clear hr
  have HS : Hid (t.size ≤ 500) := by have := HR.out.2.2.1; rw [e2] at this; exact this
  have hkk : k = 3 ∨ (k = 5 ∨ k = 6) ∨ (k = 0 ∨ k = 1 ∨ k = 2 ∨ k = 4) := by
    obtain ⟨h1, h2, _⟩ := SV.ok_shape HR.out.1
    rw [e1] at h1 h2
    omega
  clear e2 e1
  rcases hkk with rfl | h | h
  · clear L5 L0
    have hl := L3.out rfl
    clear L3
    obtain ⟨cap, W, hr1, hbW, X1, hr2⟩ := runes_there t HS.out w2
    have KW := Lib.hid ((hbW.block _ (lt_of_block K2.out)).trans K2.out)
    have BW := Lib.hid (B2.out.trans (hbW.mono B2.out.size))
    clear hbW
    obtain ⟨k0, k1, k2, k3, k4, k5, k6⟩ := seven KW.out
    by_cases hX : ¬ X1 = t
    · have hX1 := ba_false hX
      have hX2 : (X1.toList != t.toList) = true := by rw [bne, hX1]; rfl
      go_wp2_with fail
      go_ret
      exact ⟨rfl, BW.out⟩
    replace hX : X1 = t := Decidable.not_not.1 hX
    have hX1 := ba_true hX
    have hX2 : (X1.toList != t.toList) = false := by rw [bne, hX1]; rfl
    clear hX
    generalize hW : W = w2' at *
    clear hW
    go_wp2_with fail
    -- CuOf(v)
    refine Calls.mono (by exact C1.out _ HX.out BW.out HR.out.1 HR.out.2.1 HR.out.2.2) ?_
    rintro e w3 ⟨d, rfl, hb, hd⟩
    have K3 := Lib.hid ((hb.block _ (lt_of_block KW.out)).trans KW.out)
    have B3 := Lib.hid (BW.out.trans (hb.mono BW.out.size))
    have HT := Lib.hid (implLength_some X _ hl.1 HR.out.1 HR.out.2.1 HR.out.2.2 w3 _ d (fun b h => h.2) hd)
    clear hb hd KW BW k0 k1 k2 k3 k4 k5 k6
    unfold Dv.val at HT ⊢
    go_wp2_with fail
    -- Length
    refine Calls.mono (by exact HT.out) ?_
    rintro e w4 ⟨rfl, hb⟩
    have K4 := Lib.hid ((hb.block _ (lt_of_block K3.out)).trans K3.out)
    have B4 := Lib.hid (B3.out.trans (hb.mono B3.out.size))
    have lt4 := lt_of_block K4.out
    clear hb K3 B3 HT
    obtain ⟨k0, k1, k2, k3, k4, k5, k6⟩ := seven K4.out
    go_wp2_with fail
    -- CuOf(v)
    refine Calls.mono (by exact C1.out _ HX.out (B4.out.alloc (Nat.le_of_lt lt4) _) HR.out.1 HR.out.2.1 HR.out.2.2) ?_
    rintro e w5 ⟨d, rfl, hb, hd⟩
    have K5 := Lib.hid ((hb.block _ (by simp; omega)).trans ((Below.heap_alloc _ _ _ lt4).trans K4.out))
    have O5 := Lib.hid ((hb.block _ (by simp)).trans (heap_alloc_new w4 _))
    have B5 := Lib.hid ((B4.out.alloc (Nat.le_of_lt lt4) _).trans (hb.mono (by simp; omega)))
    have HT := Lib.hid (implSize_some X _ hl.2 HR.out.1 HR.out.2.1 HR.out.2.2 w5 _ d (fun b h => h.2) hd)
    have gt5 : w4.heap.size < w5.heap.size := lt_of_block O5.out
    clear hb hd K4 B4 k0 k1 k2 k3 k4 k5 k6
    unfold Dv.val at HT ⊢
    go_wp2_with fail
    -- Size
    refine Calls.mono (by exact HT.out) ?_
    rintro e w6 ⟨rfl, hb⟩
    have K6 := Lib.hid ((hb.block _ (by omega)).trans K5.out)
    have O6 := Lib.hid ((hb.block _ gt5).trans O5.out)
    have B6 := Lib.hid (B5.out.trans (hb.mono (by omega)))
    clear hb K5 B5 HT O5
    obtain ⟨k0, k1, k2, k3, k4, k5, k6⟩ := seven K6.out
    obtain ⟨o0, o1, o2, o3, o4, o5, o6, o7⟩ := eight O6.out
    obtain ⟨cap2, W2, hq1, hbW2, X2, hq2⟩ := runes_there t HS.out w6
    have KW2 := Lib.hid ((hbW2.block _ (lt_of_block K6.out)).trans K6.out)
    have BW2 := Lib.hid (B6.out.trans (hbW2.mono B6.out.size))
    clear hbW2 hq2
    obtain ⟨m0, m1, m2, m3, m4, m5, m6⟩ := seven KW2.out
    go_wp2_with fail
    go_ret
    exact ⟨rfl, BW2.out⟩
  · clear L3 L0
    have hl := L5.out h
    clear L5
    have KW := K2
    have BW := B2
    rcases h with rfl | rfl
    all_goals
        go_wp2_with fail
        -- CuOf(v)
        refine Calls.mono (by exact C1.out _ HX.out BW.out HR.out.1 HR.out.2.1 HR.out.2.2) ?_
        rintro e w3 ⟨d, rfl, hb, hd⟩
        have K3 := Lib.hid ((hb.block _ (lt_of_block KW.out)).trans KW.out)
        have B3 := Lib.hid (BW.out.trans (hb.mono BW.out.size))
        have HT := Lib.hid (implLength_some X _ hl.1 HR.out.1 HR.out.2.1 HR.out.2.2 w3 _ d (fun b h => h.2) hd)
        clear hb hd KW BW k0 k1 k2 k3 k4 k5 k6
        unfold Dv.val at HT ⊢
        go_wp2_with fail
        -- Length
        refine Calls.mono (by exact HT.out) ?_
        rintro e w4 ⟨rfl, hb⟩
        have K4 := Lib.hid ((hb.block _ (lt_of_block K3.out)).trans K3.out)
        have B4 := Lib.hid (B3.out.trans (hb.mono B3.out.size))
        have lt4 := lt_of_block K4.out
        clear hb K3 B3 HT
        obtain ⟨k0, k1, k2, k3, k4, k5, k6⟩ := seven K4.out
        go_wp2_with fail
        -- CuOf(v)
        refine Calls.mono (by exact C1.out _ HX.out (B4.out.alloc (Nat.le_of_lt lt4) _) HR.out.1 HR.out.2.1 HR.out.2.2) ?_
        rintro e w5 ⟨d, rfl, hb, hd⟩
        have K5 := Lib.hid ((hb.block _ (by simp; omega)).trans ((Below.heap_alloc _ _ _ lt4).trans K4.out))
        have O5 := Lib.hid ((hb.block _ (by simp)).trans (heap_alloc_new w4 _))
        have B5 := Lib.hid ((B4.out.alloc (Nat.le_of_lt lt4) _).trans (hb.mono (by simp; omega)))
        have HT := Lib.hid (implSize_some X _ hl.2 HR.out.1 HR.out.2.1 HR.out.2.2 w5 _ d (fun b h => h.2) hd)
        have gt5 : w4.heap.size < w5.heap.size := lt_of_block O5.out
        clear hb hd K4 B4 k0 k1 k2 k3 k4 k5 k6
        unfold Dv.val at HT ⊢
        go_wp2_with fail
        -- Size
        refine Calls.mono (by exact HT.out) ?_
        rintro e w6 ⟨rfl, hb⟩
        have K6 := Lib.hid ((hb.block _ (by omega)).trans K5.out)
        have O6 := Lib.hid ((hb.block _ gt5).trans O5.out)
        have B6 := Lib.hid (B5.out.trans (hb.mono (by omega)))
        clear hb K5 B5 HT O5
        obtain ⟨k0, k1, k2, k3, k4, k5, k6⟩ := seven K6.out
        obtain ⟨o0, o1, o2, o3, o4, o5, o6, o7⟩ := eight O6.out
        go_wp2_with fail
        go_ret
        exact ⟨rfl, B6.out⟩
  · clear L3 L5
    have hl := L0.out h
    clear L0
    have KW := K2
    have BW := B2
    rcases h with rfl | rfl | rfl | rfl
    all_goals
        go_wp2_with fail
        -- CuOf(v)
        refine Calls.mono (by exact C1.out _ HX.out BW.out HR.out.1 HR.out.2.1 HR.out.2.2) ?_
        rintro e w3 ⟨d, rfl, hb, hd⟩
        have K3 := Lib.hid ((hb.block _ (lt_of_block KW.out)).trans KW.out)
        have B3 := Lib.hid (BW.out.trans (hb.mono BW.out.size))
        have HT := Lib.hid (implLength_none X hl.1 HR.out.1 HR.out.2.1 HR.out.2.2 w3 _ d (fun b h => h.2) hd)
        clear hb hd KW BW k0 k1 k2 k3 k4 k5 k6
        unfold Dv.val at HT ⊢
        go_wp2_with fail
        -- Length
        refine Calls.mono (by exact HT.out) ?_
        rintro e w4 ⟨rfl, hb⟩
        have K4 := Lib.hid ((hb.block _ (lt_of_block K3.out)).trans K3.out)
        have B4 := Lib.hid (B3.out.trans (hb.mono B3.out.size))
        have lt4 := lt_of_block K4.out
        clear hb K3 B3 HT
        obtain ⟨k0, k1, k2, k3, k4, k5, k6⟩ := seven K4.out
        go_wp2_with fail
        -- CuOf(v)
        refine Calls.mono (by exact C1.out _ HX.out (B4.out.alloc (Nat.le_of_lt lt4) _) HR.out.1 HR.out.2.1 HR.out.2.2) ?_
        rintro e w5 ⟨d, rfl, hb, hd⟩
        have K5 := Lib.hid ((hb.block _ (by simp; omega)).trans ((Below.heap_alloc _ _ _ lt4).trans K4.out))
        have O5 := Lib.hid ((hb.block _ (by simp)).trans (heap_alloc_new w4 _))
        have B5 := Lib.hid ((B4.out.alloc (Nat.le_of_lt lt4) _).trans (hb.mono (by simp; omega)))
        have HT := Lib.hid (implSize_none X hl.2 HR.out.1 HR.out.2.1 HR.out.2.2 w5 _ d (fun b h => h.2) hd)
        have gt5 : w4.heap.size < w5.heap.size := lt_of_block O5.out
        clear hb hd K4 B4 k0 k1 k2 k3 k4 k5 k6
        unfold Dv.val at HT ⊢
        go_wp2_with fail
        -- Size
        refine Calls.mono (by exact HT.out) ?_
        rintro e w6 ⟨rfl, hb⟩
        have K6 := Lib.hid ((hb.block _ (by omega)).trans K5.out)
        have O6 := Lib.hid ((hb.block _ gt5).trans O5.out)
        have B6 := Lib.hid (B5.out.trans (hb.mono (by omega)))
        clear hb K5 B5 HT O5
        obtain ⟨k0, k1, k2, k3, k4, k5, k6⟩ := seven K6.out
        obtain ⟨o0, o1, o2, o3, o4, o5, o6, o7⟩ := eight O6.out
        go_wp2_with fail
        go_ret
        exact ⟨rfl, B6.out⟩

namespace fnLengths
open Go.ChangeShapes Go.WideShapes Go.ChangeAt

set_option maxRecDepth 100000 in
theorem lifted (os : Os) (started : os.Started) (H : Type) (enc : TypeId × Value → H) :
    ReturnsInHanded {} Try.checked os 8 .any (Rows.fnLengthsSpec.pre6 enc Try.prog Try.f8 Rows.fnLengthsRow.domain false) (Rows.fnLengthsSpec.post enc Try.prog Try.f8 false true false false) := by
  refine returnsInHanded_of_change (C := Try.checked) own started (by kernel_rfl) Try.func8
    (ChangeSpec.witness6 (enc := enc) (C := Try.checked) false ⟨#[], #[zeroV], []⟩ 8 (by kernel_rfl) (by kernel_rfl) (by kernel_rfl) (by kernel_rfl)) ?_
  intro W base args ds gs before hval0 hW _ _
  have hval : ∀ (j : Nat) t v, Try.f8.params[j]? = some t → args[j]? = some v → Value.okWide Try.prog W .any base t v := hval0
  have hW' := hW
  obtain ⟨p, q, hA0, hV, rfl, hfz, hnd⟩ := hW
  have hA : DataW.TrodAll enc Try.prog W 0 (fun _ => true) true Try.f8.params.toList args.toList ds p := hA0
  rw [Try.params8] at hA hval
  obtain ⟨v0, vs0, d0, ds0, p0, q0, hargs, rfl, rfl, h0, r0⟩ := trodAll_cons hA
  obtain ⟨rfl, rfl, rfl⟩ := trodAll_nil r0
  obtain rfl : args = #[v0] := by cases args; simp_all
  obtain ⟨rfl, rfl⟩ := trodVars_none hV
  obtain ⟨x, rfl, hx⟩ := open_V (hval 0 30 v0 rfl rfl) h0
  clear hA0 hval0
  refine (fnLengths_any x W hx).mono fun e W' ⟨he, hb⟩ => ?_
  subst he
  exact ⟨_, rfl, law_post hW' rfl rfl (by intro t ht; rw [Try.params8] at ht; simp at ht; subst ht; exact ⟨by kernel_rfl, of_decide_eq_true (by kernel_rfl)⟩) rfl rfl rfl hb⟩

theorem proved : Rows.FnLengthsSaid :=
  OpenClaim.holds_of_wide 8 Try.f8 rfl rfl rfl rfl rfl rfl rfl ⟨rfl, rfl, rfl, rfl, rfl⟩ rfl rfl rfl rfl rfl (by kernel_rfl) Try.func8 (by kernel_rfl)
    (of_decide_eq_true (by kernel_rfl)) (by unfold Func.isWrapper; first | (rw [if_pos (by decide +kernel)]; kernel_rfl) | (rw [if_neg (by decide +kernel)]; exact ⟨rfl, rfl⟩))
    (fun os started H enc _ => lifted os started H enc)
end fnLengths

/-- THE STATEMENT. -/
theorem fnLengths_holds : Rows.FnLengthsSaid := fnLengths.proved
#print axioms fnLengths_holds
end Go.Proofs.Ythmogfjmngbamaa

