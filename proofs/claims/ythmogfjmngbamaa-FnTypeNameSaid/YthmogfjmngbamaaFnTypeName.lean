/-
  What is proved: 'laws.FnTypeName' returns true for every value of the reference that can be read as data, and leaves all memory that was there as it was. No condition.
-/
import Derived.Test.YthmogfjmngbamaaTyp
namespace Go.Proofs.Ythmogfjmngbamaa
open Go.RowKit
set_option linter.unusedSimpArgs false
set_option linter.unusedVariables false

set_option maxHeartbeats 2000000 in
set_option maxRecDepth 100000 in
theorem fnTypeName_any (x : SV) (w : World) (hx : SV.In w x) : Calls Try.prog 7 #[x.val] w (Holds w) := by
  have HX := Lib.hid hx
  clear hx
  have F1 := Lib.hid (zzFits3_any x)
  have P1 := Lib.hid (CuFits_any x)
  have C1 := Lib.hid (cuOf_any w x 10)
  have T1 := Lib.hid (implTypeName x)
  generalize hxx : x = X at *
  cases x with
  | mk k n f t b ip ic items kp kc keys =>
  have e1 : X.kind = k := by rw [← hxx]; rfl
  have vx : X.val = .agg #[.int .i64 k, .int .i64 n, .float .f64 f, .string t, .bool b, .slice ip items.length ic, .slice kp keys.length kc] := by rw [← hxx]; rfl
  rw [vx] at F1 P1 C1 ⊢
  rw [e1] at T1
  clear vx hxx
  have hmm := @run_makeMap Try.prog
  go_enter Try.func7, Try.ntmps7
  go_wp2_with fail
  -- zzFits3(v)
  refine Calls.mono (by exact F1.out _ (SV.in_later ((Below.refl _ _).alloc (Nat.le_refl _) _) _ HX.out)) ?_
  rintro e w1 ⟨r, -, rfl, hb⟩
  have K1 := Lib.hid ((hb.block _ (by simp)).trans (heap_alloc_new w _))
  have B1 : Hid (Below w.heap.size w w1) := ((Below.refl _ _).alloc (Nat.le_refl _) _).trans (hb.mono (by simp))
  clear hb
  obtain ⟨a0, a1, a2, a3, a4, a5, a6⟩ := seven K1.out
  cases r
  · go_wp2_with fail
    go_ret
    exact ⟨rfl, B1.out⟩
  go_wp2_with fail
  -- CuFits(v)
  refine Calls.mono (by exact P1.out _ (SV.in_later B1.out _ HX.out)) ?_
  rintro e w2 ⟨r, hr, rfl, hb⟩
  have K2 := Lib.hid ((hb.block _ (lt_of_block K1.out)).trans K1.out)
  have B2 := Lib.hid (B1.out.trans (hb.mono B1.out.size))
  clear hb K1 B1 a0 a1 a2 a3 a4 a5 a6
  obtain ⟨a0, a1, a2, a3, a4, a5, a6⟩ := seven K2.out
  cases r
  · clear hr
    go_wp2_with fail
    go_ret
    exact ⟨rfl, B2.out⟩
  have HR := Lib.hid (hr rfl)
  clear hr
  go_wp2_with fail
  -- CuOf(v)
  refine Calls.mono (by exact C1.out _ HX.out B2.out HR.out.1 HR.out.2.1 HR.out.2.2) ?_
  rintro e w3 ⟨d, rfl, hb, hd⟩
  have K3 := Lib.hid ((hb.block _ (lt_of_block K2.out)).trans K2.out)
  have B3 := Lib.hid (B2.out.trans (hb.mono B2.out.size))
  have HT := Lib.hid (T1.out w3 _ d (fun b h => h.2) hd HR.out.1 HR.out.2.1 HR.out.2.2)
  clear hb hd K2 B2 a0 a1 a2 a3 a4 a5 a6 T1
  unfold Dv.val at HT ⊢
  go_wp2_with fail
  -- TypeName
  refine Calls.mono (by exact HT.out) ?_
  rintro e w4 ⟨rfl, hb⟩
  have K4 := Lib.hid ((hb.block _ (lt_of_block K3.out)).trans K3.out)
  have B4 := Lib.hid (B3.out.trans (hb.mono B3.out.size))
  clear hb K3 B3 HT
  obtain ⟨m1, m2, m3, m4, m5, m6, m7, r0, r1, r2, r3, r4, r5, r6, rl, hb7⟩ := kinds_made (w4.alloc (.cells #[.int .i64 13, .int .i64 0, .int .u64 0, .float .f64 0, .string (kindName k), .bool false, .slice none 0 0, .slice none 0 0] 35))
  have hkk : 0 ≤ k ∧ k ≤ 6 := by
    obtain ⟨h1, h2, _⟩ := SV.ok_shape HR.out.1
    rw [e1] at h1 h2
    exact ⟨h1, h2⟩
  have rk := rl k hkk
  have hsz : w.heap.size < w4.heap.size := lt_of_block K4.out
  have B7 : Hid (Below w.heap.size w m7) := (B4.out.alloc (by omega) _).trans (hb7.mono (by simp; omega))
  have k7 : m7.cell? ⟨w.heap.size, 0, none⟩ = some (.int .i64 k) := cell_at_block ((hb7.block _ (by simp; omega)).trans ((Below.heap_alloc _ _ _ hsz).trans K4.out)) 0 _ rfl
  simp only [World.size_alloc] at r0 r1 r2 r3 r4 r5 r6 rk
  clear rl hb7 hkk K4 HR
  generalize kindName k = nm at *
  go_wp2_with fail
  go_ret
  exact ⟨rfl, B7.out⟩

namespace fnTypeName
open Go.ChangeShapes Go.WideShapes Go.ChangeAt

set_option maxRecDepth 100000 in
theorem lifted (os : Os) (started : os.Started) (H : Type) (enc : TypeId × Value → H) :
    ReturnsInHanded {} Try.checked os 7 .any (Rows.fnTypeNameSpec.pre6 enc Try.prog Try.f7 Rows.fnTypeNameRow.domain false) (Rows.fnTypeNameSpec.post enc Try.prog Try.f7 false true false false) := by
  refine returnsInHanded_of_change (C := Try.checked) own started (by kernel_rfl) Try.func7
    (ChangeSpec.witness6 (enc := enc) (C := Try.checked) false ⟨#[], #[zeroV], []⟩ 8 (by kernel_rfl) (by kernel_rfl) (by kernel_rfl) (by kernel_rfl)) ?_
  intro W base args ds gs before hval0 hW _ _
  have hval : ∀ (j : Nat) t v, Try.f7.params[j]? = some t → args[j]? = some v → Value.okWide Try.prog W .any base t v := hval0
  have hW' := hW
  obtain ⟨p, q, hA0, hV, rfl, hfz, hnd⟩ := hW
  have hA : DataW.TrodAll enc Try.prog W 0 (fun _ => true) true Try.f7.params.toList args.toList ds p := hA0
  rw [Try.params7] at hA hval
  obtain ⟨v0, vs0, d0, ds0, p0, q0, hargs, rfl, rfl, h0, r0⟩ := trodAll_cons hA
  obtain ⟨rfl, rfl, rfl⟩ := trodAll_nil r0
  obtain rfl : args = #[v0] := by cases args; simp_all
  obtain ⟨rfl, rfl⟩ := trodVars_none hV
  obtain ⟨x, rfl, hx⟩ := open_V (hval 0 30 v0 rfl rfl) h0
  clear hA0 hval0
  refine (fnTypeName_any x W hx).mono fun e W' ⟨he, hb⟩ => ?_
  subst he
  exact ⟨_, rfl, law_post hW' rfl rfl (by intro t ht; rw [Try.params7] at ht; simp at ht; subst ht; exact ⟨by kernel_rfl, of_decide_eq_true (by kernel_rfl)⟩) rfl rfl rfl hb⟩

theorem proved : Rows.FnTypeNameSaid :=
  OpenClaim.holds_of_wide 7 Try.f7 rfl rfl rfl rfl rfl rfl rfl ⟨rfl, rfl, rfl, rfl, rfl⟩ rfl rfl rfl rfl rfl (by kernel_rfl) Try.func7 (by kernel_rfl)
    (of_decide_eq_true (by kernel_rfl)) (by unfold Func.isWrapper; first | (rw [if_pos (by decide +kernel)]; kernel_rfl) | (rw [if_neg (by decide +kernel)]; exact ⟨rfl, rfl⟩))
    (fun os started H enc _ => lifted os started H enc)
end fnTypeName

/-- THE STATEMENT. -/
theorem fnTypeName_holds : Rows.FnTypeNameSaid := fnTypeName.proved
#print axioms fnTypeName_holds
end Go.Proofs.Ythmogfjmngbamaa

