/-
  The plain law of equality: every value is equal to itself, and equality has no direction.
-/
import Derived.Test.YthmogfjmngbamaaDeq
namespace Go.Proofs.Ythmogfjmngbamaa
open Go.RowKit
set_option linter.unusedSimpArgs false
set_option linter.unusedVariables false

theorem eq_swap (o : Option Ordering) : (o.map Ordering.swap == some .eq) = (o == some .eq) := by
  cases o with
  | none => rfl
  | some o => cases o <;> rfl

theorem eqP_self {x : SV} (hx : SV.Plain x) : eqP x x = true := by
  unfold eqP
  by_cases h1 : x.kind = 1
  · simp [h1]
  · by_cases h2 : x.kind = 2
    · have := order_self hx.fl
      simp [h2, SV.isn, SV.num, SV.nf, this, FloatKind.format]
    · have hn : x.isn = false := by simp [SV.isn, SV.num, h1, h2]
      simp [h1, hn]

theorem eqP_symm (x y : SV) : eqP x y = eqP y x := by
  unfold eqP
  by_cases h1 : x.kind = 1 ∧ y.kind = 1
  · have h1' : y.kind = 1 ∧ x.kind = 1 := ⟨h1.2, h1.1⟩
    rw [if_pos h1, if_pos h1']
    exact BEq.comm
  · have h1' : ¬ (y.kind = 1 ∧ x.kind = 1) := fun h => h1 ⟨h.2, h.1⟩
    rw [if_neg h1, if_neg h1']
    have hf : (FloatKind.f64.format.order y.nf x.nf == some .eq) = (FloatKind.f64.format.order x.nf y.nf == some .eq) := by
      have := order_swap x.nf y.nf
      show (Ieee.double.order y.nf x.nf == some .eq) = (Ieee.double.order x.nf y.nf == some .eq)
      rw [this, eq_swap]
    rw [hf, Bool.and_comm y.isn x.isn]
    by_cases hi : (x.isn && y.isn) = true
    · rw [if_pos hi, if_pos hi]
    · rw [if_neg hi, if_neg hi]
      by_cases hk : x.kind = y.kind
      · simp only [hk, ↓reduceIte]
        by_cases h3 : y.kind = 3
        · rw [if_pos h3, if_pos h3]
          exact BEq.comm
        · rw [if_neg h3, if_neg h3]
          by_cases h4 : y.kind = 4
          · rw [if_pos h4, if_pos h4]
            exact BEq.comm
          · rw [if_neg h4, if_neg h4]
      · have hk' : ¬ y.kind = x.kind := fun h => hk h.symm
        rw [if_neg hk, if_neg hk']

theorem eqL_self {xs : List SV} (h : ∀ z ∈ xs, SV.Plain z) : eqL xs xs = true := by
  refine eqL_all rfl fun j X Y hX hY => ?_
  rw [hX] at hY
  cases hY
  exact eqP_self (h X (List.mem_iff_getElem?.2 ⟨j, hX⟩))

theorem eqL_symm : ∀ xs ys : List SV, eqL xs ys = eqL ys xs := by
  intro xs ys
  unfold eqL
  congr 1
  · exact decide_eq_decide.2 ⟨Eq.symm, Eq.symm⟩
  · induction xs generalizing ys with
    | nil => cases ys <;> rfl
    | cons x r ih =>
      cases ys with
      | nil => rfl
      | cons y s => simp only [List.zip_cons_cons, List.all_cons]; rw [ih s, eqP_symm x y]

theorem eqV_self {x : SV} (h : SV.Eqd x) : eqV x x = true := by
  unfold eqV
  by_cases h5 : x.kind = 5
  · rw [if_pos ⟨h5, h5⟩]
    exact eqL_self h.items
  · rw [if_neg (fun h => h5 h.1), if_neg (fun h => h.elim h5 h5)]
    exact eqP_self (h.plain h5)

theorem eqV_symm (x y : SV) : eqV x y = eqV y x := by
  unfold eqV
  by_cases h5 : x.kind = 5 ∧ y.kind = 5
  · have h5' : y.kind = 5 ∧ x.kind = 5 := ⟨h5.2, h5.1⟩
    rw [if_pos h5, if_pos h5']
    exact eqL_symm _ _
  · have h5' : ¬ (y.kind = 5 ∧ x.kind = 5) := fun h => h5 ⟨h.2, h.1⟩
    rw [if_neg h5, if_neg h5']
    by_cases h : x.kind = 5 ∨ y.kind = 5
    · have h' : y.kind = 5 ∨ x.kind = 5 := h.symm
      rw [if_pos h, if_pos h']
    · have h' : ¬ (y.kind = 5 ∨ x.kind = 5) := fun k => h k.symm
      rw [if_neg h, if_neg h']
      exact eqP_symm x y
end Go.Proofs.Ythmogfjmngbamaa
