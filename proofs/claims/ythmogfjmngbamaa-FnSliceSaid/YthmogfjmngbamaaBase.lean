/-
  What all laws of this seat share: the row's last step for a law that returns true and makes new memory alone.
-/
import Derived.Test.YthmogfjmngbamaaRows
import Derived.WalkKit
import Derived.ProofKit
import Derived.OpenShut
namespace Go.Proofs.Ythmogfjmngbamaa
open Go.ChangeShapes Go.WideShapes Go.ChangeAt Go.RowKit

theorem own : ownKnob Try.prog.godebug = none := by kernel_rfl
theorem laidOutTry : laidOutB Try.prog = true := by kernel_rfl

theorem i64_wf {n : Int} (h : (Lit.int .i64 n).wf = true) : -9223372036854775808 ≤ n ∧ n ≤ 9223372036854775807 := by
  have e1 : IntKind.i64.min = -9223372036854775808 := by decide
  have e2 : IntKind.i64.max = 9223372036854775807 := by decide
  simp only [Lit.wf, e1, e2, Bool.and_eq_true, decide_eq_true_eq] at h
  exact h

section
variable {H : Type} {enc : TypeId × Value → H}

/-- Arguments whose types lead to no interface read behind a call that makes new memory alone as they read before. -/
theorem trodAll_below {W W' : World} (hb : Below W.heap.size W W') :
    ∀ (ts : List TypeId) (vs : List Value) (ds : List (DataW H)) (ps : List MemPlace),
      (∀ t ∈ ts, Try.prog.readableRec t = true ∧ t < Try.prog.types.size) →
      DataW.TrodAll enc Try.prog W 0 (fun _ => true) true ts vs ds ps → (∀ p ∈ ps, p.block < W.heap.size) →
      DataW.TrodAll enc Try.prog W' 0 (fun b => decide (b < W.heap.size)) true ts vs ds ps := by
  intro ts
  induction ts with
  | nil =>
    intro vs ds ps _ h _
    obtain ⟨rfl, rfl, rfl⟩ := trodAll_nil h
    exact trodAll_mk0
  | cons t ts ih =>
    intro vs ds ps ht h hlt
    obtain ⟨v, vs', d, ds', p, q, rfl, rfl, rfl, h1, h2⟩ := trodAll_cons h
    have ht0 := ht t (List.mem_cons_self ..)
    exact trodAll_cons_mk (Below.trod laidOutTry ht0.1 ht0.2 h1 hb (fun x hx => hlt x (List.mem_append_left _ hx)))
      (ih vs' ds' q (fun u hu => ht u (List.mem_cons_of_mem _ hu)) h2 (fun x hx => hlt x (List.mem_append_right _ hx)))

/-- The row's last step of a law: it returned true, and below the old heap's size nothing has turned. -/
theorem law_post {f : Func} {s : ChangeSpec} {W W' : World} {args : Array Value} {ds gs : List (DataW H)} {before : List MemPlace}
    (hW : DataW.Whole enc Try.prog f.params.toList s.vars false W args.toList ds gs before) (hv : s.vars = []) (hr : f.resultTypes = #[4])
    (hp : ∀ t ∈ f.params.toList, Try.prog.readableRec t = true ∧ t < Try.prog.types.size)
    (h1 : (s.fn H (ds ++ gs)).results = [.lit (.bool true)]) (h2 : (s.fn H (ds ++ gs)).args = ds) (h3 : (s.fn H (ds ++ gs)).vars = [])
    (hb : Below W.heap.size W W') : s.post enc Try.prog f false true false false W args (.bool true) W' := by
  have hlt := hW.lt
  obtain ⟨p, q, hA, hV, rfl, hfz, hnd⟩ := hW
  have hW : DataW.Whole enc Try.prog f.params.toList s.vars false W args.toList ds gs (p ++ q) := ⟨p, q, hA, hV, rfl, hfz, hnd⟩
  rw [hv] at hV
  obtain ⟨rfl, rfl⟩ := trodVars_none hV
  refine ⟨ds, [], p ++ [], [], p, [], hW, ?_, ?_, ?_, ?_, fun h => by cases h⟩
  · rw [hr, h1]
    exact trodAll_cons_mk (shut_bool Try.underlying4 _) trodAll_mk0
  · rw [h2]
    exact trodAll_below hb _ _ _ _ hp hA (fun x hx => hlt x (List.mem_append_left _ hx))
  · rw [hv, h3]
    exact rfl
  · exact World.keptBut_mono (fun x hx => ⟨hx, .inr (.inl (by simpa using hx))⟩) (hb.frame (· ∈ p ++ []))
end
end Go.Proofs.Ythmogfjmngbamaa
