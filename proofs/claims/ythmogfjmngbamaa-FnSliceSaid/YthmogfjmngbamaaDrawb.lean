/-
  A region that draws its order, some of whose operations have been taken already: free operations in any order, each with a fact of its own slot, and behind them a chain in the text's order.
-/
import Derived.Test.YthmogfjmngbamaaDraw
import Derived.Lib.Hide
namespace Go.Proofs.Ythmogfjmngbamaa
open Go.RowKit

/-- One value turned. -/
def upd (u : Nat → Value) (p : Nat) (v : Value) : Nat → Value := fun q => if q = p then v else u q
theorem upd_at (u : Nat → Value) (p : Nat) (v : Value) : upd u p v p = v := by simp [upd]
theorem upd_far (u : Nat → Value) (p q : Nat) (v : Value) (h : q ≠ p) : upd u p v q = u q := by simp [upd, h]

/-- May an operation be taken as soon as it may come up? -/
def takeable (ops : Array Oper) (t : Nat) : Bool :=
  match ops[t]? with
  | none => false
  | some oi => (List.range ops.size).all fun j => j == t || comesBehind ops ops.size t j || match ops[j]? with
    | some oj => oj.after.any (fun e => Region.binds .any e && e.on == t) || oi.apart ops oj
    | none => true
theorem takeable_spec {ops : Array Oper} {t : Nat} {oi : Oper} (hi : ops[t]? = some oi) (h : takeable ops t = true) (j : Nat) (oj : Oper) (hj : ops[j]? = some oj) (hne : j ≠ t)
    (hun : comesBehind ops ops.size t j = false) (hno : ∀ e ∈ oj.after, Region.binds .any e = true → e.on ≠ t) : oi.apart ops oj = true := by
  simp only [takeable, hi, List.all_eq_true, List.mem_range] at h
  have h1 := h j (Array.getElem?_eq_some_iff.1 hj).1
  simp only [hj, Bool.or_eq_true, beq_iff_eq, hne, false_or, hun, Bool.false_eq_true] at h1
  rcases h1 with h1 | h1
  · obtain ⟨e, he, hb⟩ := Array.any_eq_true'.1 h1
    simp only [Bool.and_eq_true, beq_iff_eq] at hb
    exact absurd hb.2 (hno e he hb.1)
  · exact h1

/-- All that the law below asks of a region: what is done, what is free, what is the chain. -/
def chainOk (ops : Array Oper) (L0 : Array Bool) (fr tk ch : List Nat) (dep : Nat → List Nat) (fuel : Nat) : Bool :=
  Region.noSelect ops && (tk.all fun t => takeable ops t && fr.contains t && ((ops[t]?).map fun o => o.after.all fun e => !Region.binds .any e || fr.contains e.on || L0.getD e.on false).getD false) && (
  ((List.range fr.length).all fun p => (dep p).all fun d => d == p || (decide (d < fr.length) && comesBehind ops ops.size (fr.getD p 0) (fr.getD d 0))) && (
  backward ops && decide (L0.size = ops.size) && decide (toCome L0 ≤ fuel) &&
  ((List.range ops.size).all fun i => L0.getD i false || fr.contains i || ch.contains i) &&
  (fr.all fun i => !L0.getD i true && decide (i < ops.size) && ((ops[i]?).map (·.guard.isNone)).getD false && !ch.contains i) &&
  (ch.all fun i => !L0.getD i true && decide (i < ops.size)) &&
  (ch.all fun c => fr.all fun i => tk.contains i || comesBehind ops ops.size c i) &&
  ((List.range ch.length).all fun q => (List.range q).all fun p => comesBehind ops ops.size (ch.getD q 0) (ch.getD p 0)) &&
  differ (fr.map fun i => (ops[i]?).bind (·.dst)) && decide fr.Nodup && decide ch.Nodup &&
  ((List.range ops.size).all fun i => !L0.getD i false || ((ops[i]?).map fun o => o.after.all fun e => !Region.binds .any e || L0.getD e.on false).getD true)))

section
variable {P : Program} {ops : Array Oper} {Q : Exit → Act → World → Prop}

theorem wpAny_chain {fuel : Nat} {L0 : Array Bool} {a : Act} {W : World} (fr tk ch : List Nat) (ds : List (Option Tmp)) (os : List Oper) (dep : Nat → List Nat) (F : Nat → (Nat → Value) → World → Prop)
    (hok : chainOk ops L0 fr tk ch dep fuel = true) (hds : (fr.map fun i => (ops[i]?).bind (·.dst)) = ds) (hos : (ch.filterMap fun i => ops[i]?) = os)
    (mono : ∀ p u w w', p < fr.length → F p u w → Below w.heap.size w w' → F p u w')
    (same : ∀ p u u' w, p < fr.length → (∀ d ∈ dep p, u d = u' d) → F p u w → F p u' w)
    (hQ : ∀ c d v a w, Q (.panic c) (Act.put a d v) w → Q (.panic c) a w)
    (take : ∀ p i o, fr[p]? = some i → i ∈ tk → ops[i]? = some o → ∀ u w, Below W.heap.size W w → (∀ q j, fr[q]? = some j → comesBehind ops ops.size i j = true → F q u w) →
      ∃ v, Yields P ops o v (putAll a ds 0 u) ∧ F p (upd u p v) w)
    (step : ∀ p i o, fr[p]? = some i → i ∉ tk → ops[i]? = some o → ∀ u w, Below W.heap.size W w → (∀ q j, fr[q]? = some j → comesBehind ops ops.size i j = true → F q u w) →
      ∀ K : Act → World → Prop, (∀ v a' w', a' = (putAll a ds 0 u).put o.dst v → F p (upd u p v) w' → Below w.heap.size w w' → K a' w') → o.wp P (putAll a ds 0 u) w K Q)
    (tail : ∀ u w, Below W.heap.size W w → (∀ p, p < fr.length → F p u w) → wpList P ops Q os (putAll a ds 0 u) w) :
    wpAny P .any ops Q fuel L0 a W := by
  subst hds
  subst hos
  simp only [chainOk, Bool.and_eq_true, decide_eq_true_eq] at hok
  obtain ⟨⟨hsel, htk⟩, hdep, ⟨⟨⟨⟨⟨⟨⟨⟨⟨⟨hback, hsz⟩, hfuel⟩, hall⟩, hfr⟩, hch⟩, hcf⟩, hcc⟩, hdiff⟩, hnd⟩, hndc⟩, hcl⟩ := hok
  have hall' : ∀ i, i < ops.size → L0.getD i false = true ∨ i ∈ fr ∨ i ∈ ch := by
    intro i hi
    rw [List.all_eq_true] at hall
    have := hall i (List.mem_range.2 hi)
    simp only [Bool.or_eq_true, List.contains_iff_mem] at this
    rcases this with (h | h) | h
    · exact .inl h
    · exact .inr (.inl h)
    · exact .inr (.inr h)
  have hfr' : ∀ i ∈ fr, L0.getD i true = false ∧ i < ops.size ∧ (∀ o, ops[i]? = some o → o.guard = none) ∧ i ∉ ch := by
    intro i hi
    rw [List.all_eq_true] at hfr
    have := hfr i hi
    simp only [Bool.and_eq_true, Bool.not_eq_true', decide_eq_true_eq] at this
    obtain ⟨⟨⟨h1, h2⟩, h3⟩, h4⟩ := this
    refine ⟨h1, h2, fun o ho => ?_, fun hc => ?_⟩
    · rw [ho] at h3; simpa using h3
    · rw [← List.contains_iff_mem, h4] at hc; cases hc
  have hch' : ∀ i ∈ ch, L0.getD i true = false ∧ i < ops.size := by
    intro i hi
    rw [List.all_eq_true] at hch
    have := hch i hi
    simpa only [Bool.and_eq_true, Bool.not_eq_true', decide_eq_true_eq] using this
  have hdep' : ∀ p d, p < fr.length → d ∈ dep p → d = p ∨ (d < fr.length ∧ comesBehind ops ops.size (fr.getD p 0) (fr.getD d 0) = true) := by
    intro p d hp hd
    rw [List.all_eq_true] at hdep
    have := hdep p (List.mem_range.2 hp)
    rw [List.all_eq_true] at this
    have := this d hd
    simpa only [Bool.or_eq_true, Bool.and_eq_true, beq_iff_eq, decide_eq_true_eq] using this
  have hcf' : ∀ c ∈ ch, ∀ i ∈ fr, i ∉ tk → comesBehind ops ops.size c i = true := by
    intro c hc i hi hit
    rw [List.all_eq_true] at hcf
    have := hcf c hc
    rw [List.all_eq_true] at this
    have := this i hi
    simpa only [Bool.or_eq_true, List.contains_iff_mem, hit, false_or] using this
  have htk' : ∀ t ∈ tk, takeable ops t = true ∧ t ∈ fr ∧ ∀ o, ops[t]? = some o → ∀ e ∈ o.after, Region.binds .any e = true → e.on ∈ fr ∨ L0.getD e.on false = true := by
    intro t ht
    rw [List.all_eq_true] at htk
    have := htk t ht
    simp only [Bool.and_eq_true, List.contains_iff_mem] at this
    refine ⟨this.1.1, this.1.2, fun o ho e he hb => ?_⟩
    have h := this.2
    rw [ho] at h
    simp only [Option.map_some, Option.getD_some, Array.all_eq_true_iff_forall_mem] at h
    have := h e he
    simpa only [hb, Bool.not_true, Bool.false_or, Bool.or_eq_true, List.contains_iff_mem] using this
  have hback' : ∀ i o, ops[i]? = some o → ∀ e ∈ o.after, Region.binds .any e = true → e.on < i := by
    intro i o ho e he hb
    unfold backward at hback
    rw [List.all_eq_true] at hback
    have := hback i (List.mem_range.2 (Array.getElem?_eq_some_iff.1 ho).1)
    rw [ho] at this
    simp only [Option.map_some, Option.getD_some, Array.all_eq_true_iff_forall_mem] at this
    have := this e he
    rw [hb] at this
    simpa using this
  have hcc' : ∀ (p q c d : Nat), p < q → ch[p]? = some c → ch[q]? = some d → comesBehind ops ops.size d c = true := by
    intro p q c d hpq hc hd
    rw [List.all_eq_true] at hcc
    have hq : q < ch.length := (List.getElem?_eq_some_iff.1 hd).1
    have := hcc q (List.mem_range.2 hq)
    rw [List.all_eq_true] at this
    have := this p (List.mem_range.2 hpq)
    simp only [List.getD_eq_getElem?_getD, hc, hd, Option.getD_some] at this
    exact this
  have hclosed : Closed ops L0 := by
    intro i o hi ho e he hb
    rw [List.all_eq_true] at hcl
    have hlt : i < ops.size := (Array.getElem?_eq_some_iff.1 ho).1
    have := hcl i (List.mem_range.2 hlt)
    rw [hi, ho] at this
    simp only [Bool.not_true, Bool.false_or, Option.map_some, Option.getD_some, Array.all_eq_true_iff_forall_mem] at this
    have := this e he
    simpa [hb] using this
  have getDs : ∀ (L : Array Bool) (i : Nat), i < L.size → L.getD i true = L.getD i false := by
    intro L i hi
    rw [Array.getD_eq_getD_getElem?, Array.getD_eq_getD_getElem?, Array.getElem?_eq_getElem hi]
    rfl
  let ds := fr.map fun i => (ops[i]?).bind (·.dst)
  let opl : List Nat → List Oper := fun l => l.filterMap fun i => ops[i]?
  let Inv : Array Bool → Act → World → Prop := fun L b w =>
    (∀ j, L0.getD j false = true → L.getD j false = true) ∧
    ((∃ u, b = putAll a ds 0 u ∧ Below W.heap.size W w ∧ (∀ p i, fr[p]? = some i → L.getD i false = true → F p u w) ∧ (∀ c ∈ ch, L.getD c false = false)) ∨
     (∃ k, k ≤ ch.length ∧ (∀ i ∈ fr, L.getD i false = true) ∧ (∀ m c, ch[m]? = some c → L.getD c false = decide (m < k)) ∧ wpList P ops Q (opl (ch.drop k)) b w))
  have hstep : ∀ L b w i, L.size = ops.size → Closed ops L → i ∈ Region.ready .any ops L → (∀ t ∈ tk, t ∉ Region.ready .any ops L) → Inv L b w → wpOp P ops Q i (Inv (L.setIfInBounds i true)) b w := by
    intro L b w i hs hc hi hnt hI
    obtain ⟨h1, h2, o, ho, h3⟩ := mem_ready.1 hi
    obtain ⟨hL0, hI⟩ := hI
    have hbefore : ∀ j, comesBehind ops ops.size i j = true → L.getD j false = true := fun j hj =>
      behind_done hc j ops.size i hj fun o' ho' e he hb => by
        rw [ho] at ho'
        cases ho'
        exact h3 e he hb
    have hLi : L.getD i false = false := by rw [← getDs L i (by omega)]; exact h2
    have hLset : ∀ j, L0.getD j false = true → (L.setIfInBounds i true).getD j false = true := by
      intro j hj
      rw [getD_set (by omega)]
      split
      · rfl
      · exact hL0 j hj
    have hkind : i ∈ fr ∨ i ∈ ch := by
      rcases hall' i h1 with h | h | h
      · rw [hL0 i h] at hLi; cases hLi
      · exact .inl h
      · exact .inr h
    rcases hI with ⟨u, rfl, hb, hFu, hno⟩ | ⟨k, hk, hfrd, hchd, hwp⟩
    · rcases hkind with hif | hic
      · obtain ⟨p, hp⟩ := List.getElem?_of_mem hif
        unfold wpOp
        rw [ho]
        dsimp only
        have hw : Region.wanted o (yielded ops (putAll a ds 0 u).tmps) = true := by simp [Region.wanted, (hfr' i hif).2.2.1 o ho]
        rw [if_pos hw]
        refine .inl (step p i o hp (fun ht => hnt i ht hi) ho u w hb (fun q j hq hij => hFu q j hq (hbefore j hij)) _ ?_)
        intro v a' w' ha' hv hb'
        subst ha'
        have hps : p < fr.length := (List.getElem?_eq_some_iff.1 hp).1
        refine ⟨hLset, .inl ⟨upd u p v, ?_, hb.trans (hb'.mono hb.size), ?_, ?_⟩⟩
        · have hd : ds[p]? = some o.dst := by
            simp only [ds, List.getElem?_map, hp, Option.map_some, ho, Option.bind_some]
          have := putAll_put ds a 0 u p o.dst v hdiff hd
          rw [this]
          simp only [Nat.zero_add]
          rfl
        · intro q j hq hLj
          by_cases hqp : q = p
          · rw [hqp]; exact hv
          · have hji : j ≠ i := fun e => hqp (by
              subst e
              have l1 := (List.getElem?_eq_some_iff.1 hq).1
              exact ((List.getElem?_inj l1 hnd).1 (hq.trans hp.symm)))
            rw [getD_set (by omega), if_neg hji] at hLj
            have hql := (List.getElem?_eq_some_iff.1 hq).1
            refine same q u (upd u p v) w' hql (fun d hd => ?_) (mono q u w w' hql (hFu q j hq hLj) hb')
            by_cases hdp : d = p
            · exfalso
              subst hdp
              rcases hdep' q d hql hd with h | ⟨h5, h6⟩
              · exact hqp h.symm
              · have e1 : fr.getD q 0 = j := by rw [List.getD_eq_getElem?_getD, hq]; rfl
                have e2 : fr.getD d 0 = i := by rw [List.getD_eq_getElem?_getD, hp]; rfl
                rw [e1, e2] at h6
                have := behind_done hc i ops.size j h6 fun o' ho' e he hb => hc j o' hLj ho' e he hb
                rw [hLi] at this
                cases this
            · rw [upd_far _ _ _ _ hdp]
        · intro c hc'
          rw [getD_set (by omega), if_neg (fun (e : c = i) => (hfr' i hif).2.2.2 (e ▸ hc'))]
          exact hno c hc'
      · have hnon : ∀ j ∈ fr, j ∉ tk → L.getD j false = true := fun j hj hjt => hbefore j (hcf' i hic j hj hjt)
        have hyes : ∀ t, t ∈ tk → L.getD t false = true := by
          intro t
          induction t using Nat.strongRecOn with
          | _ t iht =>
            intro ht
            cases hLt : L.getD t false with
            | true => rfl
            | false =>
              exfalso
              obtain ⟨-, htf, hpre⟩ := htk' t ht
              have htl := (hfr' t htf).2.1
              refine hnt t ht (mem_ready.2 ⟨htl, by rw [getDs L t (by omega)]; exact hLt, ops[t], Array.getElem?_eq_getElem htl, fun e he hb => ?_⟩)
              rcases hpre _ (Array.getElem?_eq_getElem htl) e he hb with h | h
              · by_cases het : e.on ∈ tk
                · exact iht e.on (hback' t _ (Array.getElem?_eq_getElem htl) e he hb) het
                · exact hnon e.on h het
              · exact hL0 e.on h
        have hfall : ∀ j ∈ fr, L.getD j false = true := fun j hj => by
          by_cases hjt : j ∈ tk
          · exact hyes j hjt
          · exact hnon j hj hjt
        obtain ⟨q, hq⟩ := List.getElem?_of_mem hic
        have hq0 : q = 0 := by
          rcases Nat.eq_zero_or_pos q with h | h
          · exact h
          · exfalso
            have hql := (List.getElem?_eq_some_iff.1 hq).1
            have h0 : ch[0]? = some (ch[0]'(by omega)) := List.getElem?_eq_getElem _
            have := hbefore _ (hcc' 0 q _ i h h0 hq)
            rw [hno _ (List.mem_of_getElem? h0)] at this
            cases this
        subst hq0
        have hwp := tail u w hb fun p hp => hFu p _ (List.getElem?_eq_getElem hp) (hfall _ (List.getElem_mem hp))
        have hlen : 0 < ch.length := (List.getElem?_eq_some_iff.1 hq).1
        have hd : ch = i :: ch.drop 1 := by
          cases ch with
          | nil => cases hq
          | cons x r => simp at hq; subst hq; rfl
        have hopl : (ch.filterMap fun i => ops[i]?) = o :: opl (ch.drop 1) := by
          conv => lhs; rw [hd]
          simp only [List.filterMap_cons, ho, opl]
        rw [hopl] at hwp
        have hstep : wpOp P ops Q i (wpList P ops Q (opl (ch.drop 1))) (putAll a ds 0 u) w := by
          unfold wpOp
          rw [ho]
          exact hwp
        refine wpOp_mono (fun a' w' h => ⟨hLset, .inr ⟨1, by omega, fun j hj => ?_, fun m c hm => ?_, h⟩⟩) hstep
        · rw [getD_set (by omega)]
          split
          · rfl
          · exact hfall j hj
        · rw [getD_set (by omega)]
          by_cases hm0 : m = 0
          · subst hm0
            rw [hq] at hm
            cases hm
            simp
          · have hci : c ≠ i := fun e => hm0 (by
              subst e
              exact ((List.getElem?_inj (List.getElem?_eq_some_iff.1 hm).1 hndc).1 (hm.trans hq.symm)))
            rw [if_neg hci, hno c (List.mem_of_getElem? hm)]
            simp; omega
    · rcases hkind with hif | hic
      · rw [hfrd i hif] at hLi; cases hLi
      · obtain ⟨q, hq⟩ := List.getElem?_of_mem hic
        have hqk : q = k := by
          rcases Nat.lt_trichotomy q k with h | h | h
          · rw [hchd q i hq] at hLi; simp [h] at hLi
          · exact h
          · exfalso
            have hql := (List.getElem?_eq_some_iff.1 hq).1
            have h0 : ch[k]? = some (ch[k]'(by omega)) := List.getElem?_eq_getElem _
            have := hbefore _ (hcc' k q _ i h h0 hq)
            rw [hchd k _ h0] at this
            simp at this
        subst hqk
        have hlen : q < ch.length := (List.getElem?_eq_some_iff.1 hq).1
        have hd : ch.drop q = i :: ch.drop (q + 1) := by
          rw [List.drop_eq_getElem_cons hlen, (List.getElem?_eq_some_iff.1 hq).2]
        have hopl : opl (ch.drop q) = o :: opl (ch.drop (q + 1)) := by
          simp only [opl, hd, List.filterMap_cons, ho]
        rw [hopl] at hwp
        have hstep : wpOp P ops Q i (wpList P ops Q (opl (ch.drop (q + 1)))) b w := by
          unfold wpOp
          rw [ho]
          exact hwp
        refine wpOp_mono (fun a' w' h => ⟨hLset, .inr ⟨q + 1, by omega, fun j hj => ?_, fun m c hm => ?_, h⟩⟩) hstep
        · rw [getD_set (by omega)]
          split
          · rfl
          · exact hfrd j hj
        · rw [getD_set (by omega)]
          by_cases hmq : m = q
          · subst hmq
            rw [hq] at hm
            cases hm
            simp
          · have hci : c ≠ i := fun e => hmq (by
              subst e
              exact ((List.getElem?_inj (List.getElem?_eq_some_iff.1 hm).1 hndc).1 (hm.trans hq.symm)))
            rw [if_neg hci, hchd m c hm]
            simp only [decide_eq_decide]
            omega
  have hfin : ∀ L b w, (∀ i, i < ops.size → L.getD i false = true) → Inv L b w → Q .normal b w := by
    intro L b w hall2 hI
    obtain ⟨hL0, hI⟩ := hI
    rcases hI with ⟨u, rfl, hb, hFu, hno⟩ | ⟨k, hk, hfrd, hchd, hwp⟩
    · have hce : ch = [] := by
        cases ch with
        | nil => rfl
        | cons c r =>
          have h1 := hno c (List.mem_cons_self ..)
          rw [hall2 c (hch' c (List.mem_cons_self ..)).2] at h1
          cases h1
      have := tail u w hb fun p hp => hFu p _ (List.getElem?_eq_getElem hp) (hall2 _ (hfr' _ (List.getElem_mem hp)).2.1)
      subst hce
      exact this
    · have hkl : k = ch.length := by
        rcases Nat.lt_or_ge k ch.length with h | h
        · have h0 : ch[k]? = some (ch[k]'h) := List.getElem?_eq_getElem _
          have h1 := hchd k _ h0
          rw [hall2 _ (hch' _ (List.mem_of_getElem? h0)).2] at h1
          simp at h1
        · omega
      rw [hkl, List.drop_eq_nil_of_le (Nat.le_refl _)] at hwp
      exact hwp
  have hdone : ∀ (L : Array Bool), L.size = ops.size → Region.ready .any ops L = [] → ∀ i, i < ops.size → L.getD i false = true := by
    intro L hs hr i
    induction i using Nat.strongRecOn with
    | _ i ih =>
      intro hi
      cases hL : L.getD i false with
      | true => rfl
      | false =>
        exfalso
        have : i ∈ Region.ready .any ops L := by
          refine mem_ready.2 ⟨hi, by rw [getDs L i (by omega)]; exact hL, ops[i], Array.getElem?_eq_getElem hi, fun e he hb => ?_⟩
          have hlt := hback' i _ (Array.getElem?_eq_getElem hi) e he hb
          exact ih e.on hlt (by omega)
        rw [hr] at this
        cases this
  have htoc : ∀ (L : Array Bool) (i n : Nat), L.size = ops.size → i ∈ Region.ready .any ops L → toCome L ≤ n + 1 → toCome (L.setIfInBounds i true) ≤ n := by
    intro L i n hs hi hn
    obtain ⟨h1, h2, _⟩ := mem_ready.1 hi
    have hLi : L.toList[i]? = some false := by
      rw [Array.getD_eq_getD_getElem?, Array.getElem?_eq_getElem (by omega)] at h2
      rw [Array.getElem?_toList, Array.getElem?_eq_getElem (by omega)]
      simpa using h2
    have := toCome_set L.toList i hLi
    unfold toCome at hn ⊢
    rw [Array.toList_setIfInBounds]
    omega
  have hmain : ∀ (n : Nat) (L : Array Bool) (b : Act) (w : World), L.size = ops.size → Closed ops L → toCome L ≤ n → Inv L b w → wpAny P .any ops Q n L b w := by
    intro n
    induction n with
    | zero =>
      intro L b w hs hc hf hI
      have hr : Region.ready .any ops L = [] := by
        cases h : Region.ready .any ops L with
        | nil => rfl
        | cons i r =>
          exfalso
          obtain ⟨h1, h2, _⟩ := mem_ready.1 (h ▸ List.mem_cons_self .. : i ∈ Region.ready .any ops L)
          rw [Array.getD_eq_getD_getElem?, Array.getElem?_eq_getElem (by omega)] at h2
          have : (L[i]'(by omega)) ∈ L.toList.filter (!·) := List.mem_filter.2 ⟨by simp, by simpa using h2⟩
          have := List.length_pos_of_mem this
          unfold toCome at hf
          omega
      exact ⟨hr, hfin L b w (hdone L hs hr) hI⟩
    | succ n ih =>
      intro L b w hs hc hf hI
      by_cases hT : ∃ t ∈ tk, t ∈ Region.ready .any ops L
      · obtain ⟨t, ht, hr⟩ := hT
        obtain ⟨h1, h2, o, ho, h3⟩ := mem_ready.1 hr
        have hLt : L.getD t false = false := by rw [← getDs L t (by omega)]; exact h2
        obtain ⟨hfree, htf, -⟩ := htk' t ht
        obtain ⟨hL0, hI⟩ := hI
        rcases hI with ⟨u, rfl, hb, hFu, hno⟩ | ⟨k, hk, hfrd, hchd, hwp⟩
        · obtain ⟨p, hp⟩ := List.getElem?_of_mem htf
          have hbefore : ∀ j, comesBehind ops ops.size t j = true → L.getD j false = true := fun j hj =>
            behind_done hc j ops.size t hj fun o' ho' e he hb => by
              rw [ho] at ho'
              cases ho'
              exact h3 e he hb
          obtain ⟨v, hy, hv⟩ := take p t o hp ht ho u w hb (fun q j hq hij => hFu q j hq (hbefore j hij))
          refine wpAny_first ho (Region.noSelect_spec hsel) (fun c a w => hQ c o.dst v a w) n L _ w
            (fun j oj hj hne hun hno' => takeable_spec ho hfree j oj hj hne (by
              cases hcb : comesBehind ops ops.size t j with
              | false => rfl
              | true =>
                have h5 := hbefore j hcb
                have hjl := (Array.getElem?_eq_some_iff.1 hj).1
                rw [getDs L j (by omega), h5] at hun
                cases hun) hno') hr hy ?_
          refine ih _ _ w (by simpa using hs) (closed_set hs hc hr) (htoc L t n hs hr hf) ?_
          have hps : p < fr.length := (List.getElem?_eq_some_iff.1 hp).1
          refine ⟨fun j hj => ?_, .inl ⟨upd u p v, ?_, hb, ?_, ?_⟩⟩
          · rw [getD_set (by omega)]
            split
            · rfl
            · exact hL0 j hj
          · have hd : ds[p]? = some o.dst := by
              simp only [ds, List.getElem?_map, hp, Option.map_some, ho, Option.bind_some]
            have := putAll_put ds a 0 u p o.dst v hdiff hd
            rw [this]
            simp only [Nat.zero_add]
            rfl
          · intro q j hq hLj
            by_cases hqp : q = p
            · rw [hqp]; exact hv
            · have hji : j ≠ t := fun e => hqp (by
                subst e
                have l1 := (List.getElem?_eq_some_iff.1 hq).1
                exact ((List.getElem?_inj l1 hnd).1 (hq.trans hp.symm)))
              rw [getD_set (by omega), if_neg hji] at hLj
              have hql := (List.getElem?_eq_some_iff.1 hq).1
              refine same q u (upd u p v) w hql (fun d hd => ?_) (hFu q j hq hLj)
              by_cases hdp : d = p
              · exfalso
                subst hdp
                rcases hdep' q d hql hd with h | ⟨h5, h6⟩
                · exact hqp h.symm
                · have e1 : fr.getD q 0 = j := by rw [List.getD_eq_getElem?_getD, hq]; rfl
                  have e2 : fr.getD d 0 = t := by rw [List.getD_eq_getElem?_getD, hp]; rfl
                  rw [e1, e2] at h6
                  have := behind_done hc t ops.size j h6 fun o' ho' e he hb => hc j o' hLj ho' e he hb
                  rw [hLt] at this
                  cases this
              · rw [upd_far _ _ _ _ hdp]
          · intro c hc'
            rw [getD_set (by omega), if_neg (fun (e : c = t) => (hfr' t htf).2.2.2 (e ▸ hc'))]
            exact hno c hc'
        · rw [hfrd t htf] at hLt
          cases hLt
      · refine ⟨fun hr => hfin L b w (hdone L hs hr) hI, fun i hi => ?_⟩
        refine wpOp_mono (fun a' w' hI' => ih _ a' w' (by simpa using hs) (closed_set hs hc hi) (htoc L i n hs hi hf) hI') (hstep L b w i hs hc hi (fun t ht hr => hT ⟨t, ht, hr⟩) hI)
  refine hmain fuel L0 a W hsz hclosed hfuel ?_
  · refine ⟨fun j hj => hj, .inl ⟨fun p => slotOf a (ds.getD p none), ?_, Below.refl _ _, ?_, ?_⟩⟩
    · refine (putAll_self _ _ _ _ fun j d hj => ?_).symm
      rw [Nat.zero_add, List.getD_eq_getElem?_getD, hj]; rfl
    · intro p i hp h
      have hif := List.mem_of_getElem? hp
      have := (hfr' i hif).1
      rw [getDs L0 i (by have := (hfr' i hif).2.1; omega), h] at this
      cases this
    · intro c hc
      rw [← getDs L0 c (by have := (hch' c hc).2; omega)]
      exact (hch' c hc).1

/-- The post, but nothing at a panic. -/
def Calm (Q : Exit → Act → World → Prop) : Exit → Act → World → Prop
  | .panic _, _, _ => False
  | e, a, w => Q e a w
theorem calm_region {P : Program} {id : Nat} {ops : Array Oper} {b : Bool} {Q : Exit → Act → World → Prop} {a : Act} {w : World}
    (h : (Code.region id ops b).wp P (Exit.then (fun a w => Q .normal a w) (Calm Q)) a w) : (Code.region id ops b).wp P Q a w :=
  Code.wp_mono (fun e a w h => by cases e <;> first | exact h | exact (h : False).elim) h

/-- The same from the region's beginning. -/
theorem wp_region_chain {id : Nat} {a : Act} {W : World} (fr tk ch : List Nat) (ds : List (Option Tmp)) (os : List Oper) (dep : Nat → List Nat) (F : Nat → (Nat → Value) → World → Prop) (hm : P.follows .mixedOrders = true)
    (hok : chainOk ops (Array.replicate ops.size false) fr tk ch dep ops.size = true) (hds : (fr.map fun i => (ops[i]?).bind (·.dst)) = ds) (hos : (ch.filterMap fun i => ops[i]?) = os)
    (mono : ∀ p u w w', p < fr.length → F p u w → Below w.heap.size w w' → F p u w')
    (same : ∀ p u u' w, p < fr.length → (∀ d ∈ dep p, u d = u' d) → F p u w → F p u' w)
    (take : ∀ p i o, fr[p]? = some i → i ∈ tk → ops[i]? = some o → ∀ u w, Below W.heap.size W w → (∀ q j, fr[q]? = some j → comesBehind ops ops.size i j = true → F q u w) →
      ∃ v, Yields P ops o v (putAll a ds 0 u) ∧ F p (upd u p v) w)
    (step : ∀ p i o, fr[p]? = some i → i ∉ tk → ops[i]? = some o → ∀ u w, Below W.heap.size W w → (∀ q j, fr[q]? = some j → comesBehind ops ops.size i j = true → F q u w) →
      ∀ K : Act → World → Prop, (∀ v a' w', a' = (putAll a ds 0 u).put o.dst v → F p (upd u p v) w' → Below w.heap.size w w' → K a' w') → ∀ Q', o.wp P (putAll a ds 0 u) w K Q')
    (tail : ∀ u w, Below W.heap.size W w → (∀ p, p < fr.length → F p u w) → ∀ K : Act → World → Prop, Hid (∀ a w, Q .normal a w → K a w) → wpList P ops (Exit.then K (Calm Q)) os (putAll a ds 0 u) w) :
    (Code.region id ops true).wp P Q a W :=
  calm_region (wp_region_any hm (wpAny_chain fr tk ch ds os dep F hok hds hos mono same (fun _ _ _ _ _ h => h)
    (fun p i o hp ht ho u w hb => take p i o hp ht ho u w (((Below.refl _ _).drew).trans hb))
    (fun p i o hp ht ho u w hb hF K hK => step p i o hp ht ho u w (((Below.refl _ _).drew).trans hb) hF K hK _)
    (fun u w hb hF => tail u w (((Below.refl _ _).drew).trans hb) hF _ (fun _ _ h => h))))
end
end Go.Proofs.Ythmogfjmngbamaa
