/-
  What is proved: 'laws.FnCasts' returns true for every value of the reference that can be read as data, and leaves all memory that was there as it was. No condition.
-/
import Derived.Test.YthmogfjmngbamaaCastsk
namespace Go.Proofs.Ythmogfjmngbamaa
open Go.RowKit

set_option linter.unusedVariables false
set_option linter.unusedSimpArgs false

theorem fnCasts_any (x : SV) (w : World) (hx : SV.In w x) : Calls Try.prog 11 #[x.val] w (Holds w) := by
  have HF : Calls Try.prog 14 #[x.val] (w.alloc (.cells x.cells.toArray 30)) (AnswersB (fun _ => True) (w.alloc (.cells x.cells.toArray 30))) :=
    zzFits3_any x _ (SV.in_later ((Below.refl _ _).alloc (Nat.le_refl _) _) _ hx)
  have HP : ∀ w1, Below w.heap.size w w1 → Calls Try.prog 15 #[x.val] w1 (AnswersB (fun r => r = true → SV.Plain x) w1) :=
    fun w1 hb => cuPlain_any x w1 (SV.in_later hb _ hx)
  have HC : SV.Plain x → ∀ w1, Calls Try.prog 16 #[x.val] w1 (Gives x.door w1) := cuOf_plain x
  have HN : SV.Plain x → ∀ w, Calls Try.prog 36 #[x.door] w (Gives (valRes (negO x)) w) := implNegate x
  have HI : SV.Plain x → (x.kind = 2 → ∃ n, floatToIntVal .f64 x.fl .i64 = some n) → ∀ w, Calls Try.prog 37 #[x.door] w (Gives (doorRes (.int .i64) (.int .i64 0) (toiO x)) w) := implToInt x
  have HL : SV.Plain x → ∀ w, Calls Try.prog 38 #[x.door] w (Gives (doorRes (.float .f64) (.float .f64 0) (tofO x)) w) := implToFloat64 x
  have HT : SV.Plain x → ∀ w, Calls Try.prog 39 #[x.door] w (Gives (doorRes .bool (.bool false) (tobO x)) w) := implToBool x
  have HZ : SV.Plain x → ∀ w, Calls Try.prog 40 #[x.door] w (Gives (doorRes .bool (.bool false) (isnO x)) w) := implIsNil x
  have hpk : SV.Plain x → 0 ≤ x.kind ∧ x.kind < 5 := fun h => h.kind
  have hpf : SV.Plain x → Fin x.fl := fun h => h.fl
  clear hx
  generalize hQ : SV.Plain x = Q at *
  clear hQ
  cases x with
  | mk k n f t b ip ic items kp kc keys =>
  simp only [SV.cells, SV.val, SV.door, SV.dk, SV.dn, SV.df, SV.dt, SV.db, negO, toiO, tofO, SV.num, tobO, isnO, SV.kind, SV.int, SV.fl, SV.text, SV.bool, SV.ip, SV.ic, SV.items, SV.kp, SV.kc, SV.keys] at *
  by_cases hk : 0 ≤ k ∧ k < 5
  · rcases kinds hk with rfl | rfl | rfl | rfl | rfl
    · simp only [Int.reduceEq, ↓reduceIte, valRes, doorRes] at HC HN HI HL HT HZ
      exact casts_0 Q n f t b 0 ip kp items.length ic keys.length kc w HF HP HC (fun q => ⟨HN q, HI q (fun h => by cases h), HL q, HT q, HZ q⟩)
    · simp only [Int.reduceEq, ↓reduceIte, valRes, doorRes, SV.ofInt, SV.door, SV.dk, SV.dn, SV.df, SV.dt, SV.db, SV.kind, SV.int, SV.fl, SV.text, SV.bool] at HC HN HI HL HT HZ
      refine casts_1 Q n f t b 0 ip kp items.length ic keys.length kc w HF HP HC (by have := order_refl (nearest_notNaN n); simp [FloatKind.format, this]) (fun q h1 h2 => ⟨?_, HI q (fun h => by cases h), HL q, HT q, HZ q⟩)
      rw [wrap_small h1 h2] at HN
      exact HN q
    · simp only [Int.reduceEq, ↓reduceIte, valRes, doorRes, SV.ofFloat, SV.door, SV.dk, SV.dn, SV.df, SV.dt, SV.db, SV.kind, SV.int, SV.fl, SV.text, SV.bool] at HC HN HI HL HT HZ
      by_cases hm : Q ∧ (FloatKind.f64.format.order f 4845873199050653696 == some .gt) = false ∧ (FloatKind.f64.format.order f 14069245235905429504 == some .lt) = false
      · obtain ⟨m, hm'⟩ := cut_fits (hpf hm.1) hm.2.1 hm.2.2
        rw [hm'] at HI
        exact casts_2 Q n f t b m ip kp items.length ic keys.length kc w HF HP HC (fun _ _ _ w => run_convert_float_int w 26 3 .f64 .i64 f m (by rw [Try.underlying26]; rfl) Try.underlying3 hm')
          (fun q => ⟨by have := order_refl (hpf q).notNaN; simp [FloatKind.format, this], by have := order_refl (neg_notNaN (hpf q)); simp [FloatKind.format, this]⟩)
          (fun q _ _ => ⟨HN q, HI q (fun _ => ⟨_, rfl⟩), HL q, HT q, HZ q⟩)
      · exact casts_2 Q n f t b 0 ip kp items.length ic keys.length kc w HF HP HC (fun q h1 h2 => absurd ⟨q, h1, h2⟩ hm)
          (fun q => ⟨by have := order_refl (hpf q).notNaN; simp [FloatKind.format, this], by have := order_refl (neg_notNaN (hpf q)); simp [FloatKind.format, this]⟩)
          (fun q h1 h2 => absurd ⟨q, h1, h2⟩ hm)
    · simp only [Int.reduceEq, ↓reduceIte, valRes, doorRes] at HC HN HI HL HT HZ
      exact casts_3 Q n f t b 0 ip kp items.length ic keys.length kc w HF HP HC (fun q => ⟨HN q, HI q (fun h => by cases h), HL q, HT q, HZ q⟩)
    · simp only [Int.reduceEq, ↓reduceIte, valRes, doorRes] at HC HN HI HL HT HZ
      exact casts_4 Q n f t b 0 ip kp items.length ic keys.length kc w HF HP HC (fun q => ⟨HN q, HI q (fun h => by cases h), HL q, HT q, HZ q⟩)
  · have HP' := fun w1 hb => (HP w1 hb).mono (fun e w' ⟨r, hr, he, hb⟩ => (⟨r, fun h => hk (hpk (hr h)), he, hb⟩ : AnswersB (fun r => r = true → False) w1 e w'))
    exact casts_no k n f t b ip kp items.length ic keys.length kc w HF HP'

namespace fnCasts
open Go.ChangeShapes Go.WideShapes Go.ChangeAt

set_option maxRecDepth 100000 in
theorem lifted (os : Os) (started : os.Started) (H : Type) (enc : TypeId × Value → H) :
    ReturnsInHanded {} Try.checked os 11 .any (Rows.fnCastsSpec.pre6 enc Try.prog Try.f11 Rows.fnCastsRow.domain false) (Rows.fnCastsSpec.post enc Try.prog Try.f11 false true false false) := by
  refine returnsInHanded_of_change (C := Try.checked) own started (by kernel_rfl) Try.func11
    (ChangeSpec.witness6 (enc := enc) (C := Try.checked) false ⟨#[], #[zeroV], []⟩ 8 (by kernel_rfl) (by kernel_rfl) (by kernel_rfl) (by kernel_rfl)) ?_
  intro W base args ds gs before hval0 hW _ _
  have hval : ∀ (j : Nat) t v, Try.f11.params[j]? = some t → args[j]? = some v → Value.okWide Try.prog W .any base t v := hval0
  have hW' := hW
  obtain ⟨p, q, hA0, hV, rfl, hfz, hnd⟩ := hW
  have hA : DataW.TrodAll enc Try.prog W 0 (fun _ => true) true Try.f11.params.toList args.toList ds p := hA0
  rw [Try.params11] at hA hval
  obtain ⟨v0, vs0, d0, ds0, p0, q0, hargs, rfl, rfl, h0, r0⟩ := trodAll_cons hA
  obtain ⟨rfl, rfl, rfl⟩ := trodAll_nil r0
  obtain rfl : args = #[v0] := by cases args; simp_all
  obtain ⟨rfl, rfl⟩ := trodVars_none hV
  obtain ⟨x, rfl, hx⟩ := open_V (hval 0 30 v0 rfl rfl) h0
  clear hA0 hval0
  refine (fnCasts_any x W hx).mono fun e W' ⟨he, hb⟩ => ?_
  subst he
  exact ⟨_, rfl, law_post hW' rfl rfl (by intro t ht; rw [Try.params11] at ht; simp at ht; subst ht; exact ⟨by kernel_rfl, of_decide_eq_true (by kernel_rfl)⟩) rfl rfl rfl hb⟩

theorem proved : Rows.FnCastsSaid :=
  OpenClaim.holds_of_wide 11 Try.f11 rfl rfl rfl rfl rfl rfl rfl ⟨rfl, rfl, rfl, rfl, rfl⟩ rfl rfl rfl rfl rfl (by kernel_rfl) Try.func11 (by kernel_rfl)
    (of_decide_eq_true (by kernel_rfl)) (by unfold Func.isWrapper; first | (rw [if_pos (by decide +kernel)]; kernel_rfl) | (rw [if_neg (by decide +kernel)]; exact ⟨rfl, rfl⟩))
    (fun os started H enc _ => lifted os started H enc)
end fnCasts

/-- THE STATEMENT. -/
theorem fnCasts_holds : Rows.FnCastsSaid := fnCasts.proved
#print axioms fnCasts_holds
end Go.Proofs.Ythmogfjmngbamaa
