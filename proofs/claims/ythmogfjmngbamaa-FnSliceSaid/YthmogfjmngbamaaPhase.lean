/-
  A region that draws its order: reads whose values stand fixed, in any order, and a chain of operations in the text's order that turns the world from phase to phase; behind them all the order is forced.
-/
import Derived.Test.YthmogfjmngbamaaDrawb
namespace Go.Proofs.Ythmogfjmngbamaa
open Go.RowKit

/-- All that the law below asks of a region. -/
def phaseOk (ops : Array Oper) (rd cn tl : List Nat) : Bool :=
  backward ops &&
  ((List.range ops.size).all fun i => (rd ++ cn).contains i || tl.contains i) &&
  ((rd ++ cn).all fun i => decide (i < ops.size) && ((ops[i]?).map (·.guard.isNone)).getD false && !tl.contains i) &&
  (tl.all fun c => decide (c < ops.size) && (rd ++ cn).all fun i => comesBehind ops ops.size c i) &&
  ((List.range cn.length).all fun q => (List.range q).all fun p => comesBehind ops ops.size (cn.getD q 0) (cn.getD p 0)) &&
  ((List.range tl.length).all fun q => (List.range q).all fun p => comesBehind ops ops.size (tl.getD q 0) (tl.getD p 0)) &&
  differ ((rd ++ cn).map fun i => (ops[i]?).bind (·.dst)) && decide (rd ++ cn).Nodup && decide tl.Nodup

/-- All that the law below asks of a region. -/
def phaseOkg (ops : Array Oper) (rd cn tl : List Nat) : Bool :=
  backward ops &&
  ((List.range ops.size).all fun i => (rd ++ cn).contains i || tl.contains i) &&
  ((rd ++ cn).all fun i => decide (i < ops.size) && !tl.contains i) &&
  (tl.all fun c => decide (c < ops.size) && (rd ++ cn).all fun i => comesBehind ops ops.size c i) &&
  ((List.range cn.length).all fun q => (List.range q).all fun p => comesBehind ops ops.size (cn.getD q 0) (cn.getD p 0)) &&
  ((List.range tl.length).all fun q => (List.range q).all fun p => comesBehind ops ops.size (tl.getD q 0) (tl.getD p 0)) &&
  differ ((rd ++ cn).map fun i => (ops[i]?).bind (·.dst)) && decide (rd ++ cn).Nodup && decide tl.Nodup

theorem putAll_get_other : ∀ (ds : List (Option Tmp)) (a : Act) (i : Nat) (u : Nat → Value) (d : Tmp), (∀ e ∈ ds, e ≠ some d) → (putAll a ds i u).tmps[d]? = a.tmps[d]? := by
  intro ds
  induction ds with
  | nil => intro a i u d _; rfl
  | cons e ds ih =>
    intro a i u d h
    unfold putAll
    rw [ih _ _ _ _ (fun x hx => h x (List.mem_cons_of_mem _ hx))]
    cases e with
    | none => rfl
    | some c =>
      have hc : c ≠ d := fun e => h (some c) (List.mem_cons_self ..) (by rw [e])
      simp only [Act.put]
      rw [Array.getElem?_setIfInBounds_ne hc]
theorem putAll_size : ∀ (ds : List (Option Tmp)) (a : Act) (i : Nat) (u : Nat → Value), (putAll a ds i u).tmps.size = a.tmps.size := by
  intro ds
  induction ds with
  | nil => intro a i u; rfl
  | cons e ds ih =>
    intro a i u
    unfold putAll
    rw [ih]
    cases e <;> simp [Act.put]
theorem putAll_get : ∀ (ds : List (Option Tmp)) (a : Act) (i : Nat) (u : Nat → Value) (p : Nat) (d : Tmp), differ ds = true → ds[p]? = some (some d) → d < a.tmps.size → (putAll a ds i u).tmps[d]? = some (u (i + p)) := by
  intro ds
  induction ds with
  | nil => intro a i u p d _ h; simp at h
  | cons e ds ih =>
    intro a i u p d hd h hs
    simp only [differ, Bool.and_eq_true] at hd
    obtain ⟨⟨hsome, hnot⟩, hrest⟩ := hd
    unfold putAll
    cases p with
    | zero =>
      have he : e = some d := by simpa using h
      subst he
      rw [putAll_get_other ds _ _ _ _ (fun x hx e => by subst e; simp at hnot; exact hnot hx)]
      simp [Act.put, hs]
    | succ p =>
      rw [ih (a.put e (u i)) (i + 1) u p d hrest (by simpa using h) (by cases e <;> simpa [Act.put] using hs)]
      congr 2
      omega

/-- A guard that stands on a read. -/
theorem wanted_of {ops : Array Oper} {o : Oper} {a : Act} {ds : List (Option Tmp)} {u : Nat → Value} (p g : Nat) (d : Tmp) (b : Bool) (hg : o.guard = some (g, b)) (hop : (ops[g]?).bind (·.dst) = some d) (hd : ds[p]? = some (some d)) (hdiff : differ ds = true)
    (hsz : decide (d < a.tmps.size) = true) (hu : u p = .bool b) : Region.wanted o (yielded ops (putAll a ds 0 u).tmps) = true := by
  have h1 := putAll_get ds a 0 u p d hdiff hd (of_decide_eq_true hsz)
  rw [Nat.zero_add, hu] at h1
  unfold Region.wanted yielded
  rw [hg]
  simp [hop, h1]

section
variable {P : Program} {ops : Array Oper} {Q : Exit → Act → World → Prop}

theorem wp_region_phaseg {id : Nat} {a : Act} {W : World} (rd cn tl : List Nat) (ds : List (Option Tmp)) (os : List Oper) (val : Nat → Value) (J : Nat → (Nat → Value) → World → Prop) (hm : P.follows .mixedOrders = true)
    (hok : phaseOkg ops rd cn tl = true) (hds : ((rd ++ cn).map fun i => (ops[i]?).bind (·.dst)) = ds) (hos : (tl.filterMap fun i => ops[i]?) = os)
    (want : ∀ i o, i ∈ rd ++ cn → ops[i]? = some o → ∀ u, (∀ p j, rd[p]? = some j → comesBehind ops ops.size i j = true → u p = val p) → Region.wanted o (yielded ops (putAll a ds 0 u).tmps) = true)
    (start : ∀ v, J 0 v W.drew)
    (read : ∀ p i o, rd[p]? = some i → ops[i]? = some o → ∀ u k w, J k (fun m => u (rd.length + m)) w → (∀ p' j, rd[p']? = some j → comesBehind ops ops.size i j = true → u p' = val p') →
      ∀ K : Act → World → Prop, K ((putAll a ds 0 u).put o.dst (val p)) w → ∀ Q', o.wp P (putAll a ds 0 u) w K Q')
    (step : ∀ q i o, cn[q]? = some i → ops[i]? = some o → ∀ u w, J q (fun m => u (rd.length + m)) w → (∀ p j, rd[p]? = some j → comesBehind ops ops.size i j = true → u p = val p) →
      ∀ K : Act → World → Prop, (∀ v a' w', a' = (putAll a ds 0 u).put o.dst v → J (q + 1) (upd (fun m => u (rd.length + m)) q v) w' → K a' w') → ∀ Q', o.wp P (putAll a ds 0 u) w K Q')
    (tail : ∀ u w, J cn.length (fun m => u (rd.length + m)) w → (∀ p, p < rd.length → u p = val p) → ∀ K : Act → World → Prop, Hid (∀ a w, Q .normal a w → K a w) → wpList P ops (Exit.then K (Calm Q)) os (putAll a ds 0 u) w) :
    (Code.region id ops true).wp P Q a W := by
  subst hds
  subst hos
  simp only [phaseOkg, Bool.and_eq_true, decide_eq_true_eq] at hok
  obtain ⟨⟨⟨⟨⟨⟨⟨⟨hback, hall⟩, hfr⟩, htl⟩, hcc⟩, htt⟩, hdiff⟩, hnd⟩, hndt⟩ := hok
  have hall' : ∀ i, i < ops.size → i ∈ rd ++ cn ∨ i ∈ tl := by
    intro i hi
    rw [List.all_eq_true] at hall
    have := hall i (List.mem_range.2 hi)
    simpa only [Bool.or_eq_true, List.contains_iff_mem] using this
  have hfr' : ∀ i ∈ rd ++ cn, i < ops.size ∧ i ∉ tl := by
    intro i hi
    rw [List.all_eq_true] at hfr
    have := hfr i hi
    simp only [Bool.and_eq_true, Bool.not_eq_true', decide_eq_true_eq] at this
    obtain ⟨h2, h4⟩ := this
    refine ⟨h2, fun hc => ?_⟩
    rw [← List.contains_iff_mem, h4] at hc; cases hc
  have htl' : ∀ c ∈ tl, c < ops.size ∧ ∀ i ∈ rd ++ cn, comesBehind ops ops.size c i = true := by
    intro c hc
    rw [List.all_eq_true] at htl
    have := htl c hc
    rw [Bool.and_eq_true, decide_eq_true_eq, List.all_eq_true] at this
    exact this
  have order : ∀ (l : List Nat), ((List.range l.length).all fun q => (List.range q).all fun p => comesBehind ops ops.size (l.getD q 0) (l.getD p 0)) = true →
      ∀ (p q c d : Nat), p < q → l[p]? = some c → l[q]? = some d → comesBehind ops ops.size d c = true := by
    intro l hl p q c d hpq hc hd
    rw [List.all_eq_true] at hl
    have hq : q < l.length := (List.getElem?_eq_some_iff.1 hd).1
    have := hl q (List.mem_range.2 hq)
    rw [List.all_eq_true] at this
    have := this p (List.mem_range.2 hpq)
    simp only [List.getD_eq_getElem?_getD, hc, hd, Option.getD_some] at this
    exact this
  have hcc' := order cn hcc
  have htt' := order tl htt
  have getDs : ∀ (L : Array Bool) (i : Nat), i < L.size → L.getD i true = L.getD i false := by
    intro L i hi
    rw [Array.getD_eq_getD_getElem?, Array.getD_eq_getD_getElem?, Array.getElem?_eq_getElem hi]
    rfl
  let ds := (rd ++ cn).map fun i => (ops[i]?).bind (·.dst)
  let opl : List Nat → List Oper := fun l => l.filterMap fun i => ops[i]?
  let R : Exit → Act → World → Prop := Exit.then (fun a w => Q .normal a w) (Calm Q)
  let Inv : Array Bool → Act → World → Prop := fun L b w =>
    (∃ u k, b = putAll a ds 0 u ∧ k ≤ cn.length ∧ J k (fun m => u (rd.length + m)) w ∧ (∀ p i, rd[p]? = some i → L.getD i false = true → u p = val p) ∧ (∀ q c, cn[q]? = some c → L.getD c false = decide (q < k)) ∧ (∀ c ∈ tl, L.getD c false = false)) ∨
    (∃ k, k ≤ tl.length ∧ (∀ i ∈ rd ++ cn, L.getD i false = true) ∧ (∀ m c, tl[m]? = some c → L.getD c false = decide (m < k)) ∧ wpList P ops R (opl (tl.drop k)) b w)
  refine calm_region (wp_region_any hm (wpAny_inv Inv hback ?_ ?_ _ _ _ _ (by simp) ?_ ?_ ?_))
  · intro L b w i hs hc hi hI
    obtain ⟨h1, h2, o, ho, h3⟩ := mem_ready.1 hi
    have hbefore : ∀ j, comesBehind ops ops.size i j = true → L.getD j false = true := fun j hj =>
      behind_done hc j ops.size i hj fun o' ho' e he hb => by
        rw [ho] at ho'
        cases ho'
        exact h3 e he hb
    have hLi : L.getD i false = false := by rw [← getDs L i (by omega)]; exact h2
    rcases hI with ⟨u, k, rfl, hk, hJ, hR, hC, hT⟩ | ⟨k, hk, hfrd, htd, hwp⟩
    · rcases hall' i h1 with hif | hit
      · have hw : Region.wanted o (yielded ops (putAll a ds 0 u).tmps) = true := want i o hif ho u (fun p' j hj hij => hR p' j hj (hbefore j hij))
        unfold wpOp
        rw [ho]
        dsimp only
        rw [if_pos hw]
        obtain ⟨p, hp⟩ := List.getElem?_of_mem hif
        have hps : p < (rd ++ cn).length := (List.getElem?_eq_some_iff.1 hp).1
        have hput : ∀ v, (putAll a ds 0 u).put o.dst v = putAll a ds 0 (upd u p v) := by
          intro v
          have hd : ds[p]? = some o.dst := by
            simp only [ds, List.getElem?_map, hp, Option.map_some, ho, Option.bind_some]
          have := putAll_put ds a 0 u p o.dst v hdiff hd
          rw [this]
          simp only [Nat.zero_add]
          rfl
        have hother : ∀ (q j : Nat), (rd ++ cn)[q]? = some j → q ≠ p → j ≠ i := fun q j hq hqp e => hqp (by
          subst e
          have l1 := (List.getElem?_eq_some_iff.1 hq).1
          exact ((List.getElem?_inj l1 hnd).1 (hq.trans hp.symm)))
        by_cases hpr : p < rd.length
        · have hprd : rd[p]? = some i := by rw [List.getElem?_append_left hpr] at hp; exact hp
          refine .inl (read p i o hprd ho u k w hJ (fun p' j hj hij => hR p' j hj (hbefore j hij)) _ ?_ _)
          refine .inl ⟨upd u p (val p), k, hput _, hk, ?_, ?_, ?_, ?_⟩
          · have : (fun m => upd u p (val p) (rd.length + m)) = fun m => u (rd.length + m) := by
              funext m
              exact upd_far _ _ _ _ (by omega)
            rw [this]
            exact hJ
          · intro q j hq hLj
            by_cases hqp : q = p
            · rw [hqp]; exact upd_at _ _ _
            · rw [upd_far _ _ _ _ hqp]
              have hql := (List.getElem?_eq_some_iff.1 hq).1
              have hji := hother q j (by rw [List.getElem?_append_left hql]; exact hq) hqp
              rw [getD_set (by omega), if_neg hji] at hLj
              exact hR q j hq hLj
          · intro q c hq
            have hql := (List.getElem?_eq_some_iff.1 hq).1
            have hji := hother (rd.length + q) c (by rw [List.getElem?_append_right (by omega), Nat.add_sub_cancel_left]; exact hq) (by omega)
            rw [getD_set (by omega), if_neg hji]
            exact hC q c hq
          · intro c hc'
            rw [getD_set (by omega), if_neg (fun (e : c = i) => (hfr' i hif).2 (e ▸ hc'))]
            exact hT c hc'
        · obtain ⟨q, rfl⟩ : ∃ q, p = rd.length + q := ⟨p - rd.length, by omega⟩
          have hqc : cn[q]? = some i := by rw [List.getElem?_append_right (by omega), Nat.add_sub_cancel_left] at hp; exact hp
          have hqk : q = k := by
            rcases Nat.lt_trichotomy q k with h | h | h
            · rw [hC q i hqc] at hLi; simp [h] at hLi
            · exact h
            · exfalso
              have hql := (List.getElem?_eq_some_iff.1 hqc).1
              have h0 : cn[k]? = some (cn[k]'(by omega)) := List.getElem?_eq_getElem _
              have := hbefore _ (hcc' k q _ i h h0 hqc)
              rw [hC k _ h0] at this
              simp at this
          subst hqk
          have hql := (List.getElem?_eq_some_iff.1 hqc).1
          refine .inl (step q i o hqc ho u w hJ (fun p' j hj hij => hR p' j hj (hbefore j hij)) _ ?_ _)
          intro v a' w' ha' hJ'
          subst ha'
          refine .inl ⟨upd u (rd.length + q) v, q + 1, hput _, by omega, ?_, ?_, ?_, ?_⟩
          · have : (fun m => upd u (rd.length + q) v (rd.length + m)) = upd (fun m => u (rd.length + m)) q v := by
              funext m
              by_cases hmq : m = q
              · subst hmq; rw [upd_at, upd_at]
              · rw [upd_far _ _ _ _ (by omega), upd_far _ _ _ _ hmq]
            rw [this]
            exact hJ'
          · intro p' j hj hLj
            have hpl := (List.getElem?_eq_some_iff.1 hj).1
            rw [upd_far _ _ _ _ (by omega)]
            have hji := hother p' j (by rw [List.getElem?_append_left hpl]; exact hj) (by omega)
            rw [getD_set (by omega), if_neg hji] at hLj
            exact hR p' j hj hLj
          · intro m c hm'
            rw [getD_set (by omega)]
            by_cases hmq : m = q
            · subst hmq
              rw [hqc] at hm'
              cases hm'
              simp
            · have hml := (List.getElem?_eq_some_iff.1 hm').1
              have hji := hother (rd.length + m) c (by rw [List.getElem?_append_right (by omega), Nat.add_sub_cancel_left]; exact hm') (by omega)
              rw [if_neg hji, hC m c hm']
              simp only [decide_eq_decide]
              omega
          · intro c hc'
            rw [getD_set (by omega), if_neg (fun (e : c = i) => (hfr' i hif).2 (e ▸ hc'))]
            exact hT c hc'
      · have hfall : ∀ j ∈ rd ++ cn, L.getD j false = true := fun j hj => hbefore j ((htl' i hit).2 j hj)
        have hkc : k = cn.length := by
          rcases Nat.lt_or_ge k cn.length with h | h
          · have h0 : cn[k]? = some (cn[k]'h) := List.getElem?_eq_getElem _
            have h4 := hC k _ h0
            rw [hfall _ (List.mem_append_right _ (List.mem_of_getElem? h0))] at h4
            simp at h4
          · omega
        subst hkc
        obtain ⟨q, hq⟩ := List.getElem?_of_mem hit
        have hq0 : q = 0 := by
          rcases Nat.eq_zero_or_pos q with h | h
          · exact h
          · exfalso
            have hql := (List.getElem?_eq_some_iff.1 hq).1
            have h0 : tl[0]? = some (tl[0]'(by omega)) := List.getElem?_eq_getElem _
            have := hbefore _ (htt' 0 q _ i h h0 hq)
            rw [hT _ (List.mem_of_getElem? h0)] at this
            cases this
        subst hq0
        have hwp := tail u w hJ (fun p hp => hR p _ (List.getElem?_eq_getElem hp) (hfall _ (List.mem_append_left _ (List.getElem_mem hp)))) (fun a w => Q .normal a w) (fun _ _ h => h)
        have hlen : 0 < tl.length := (List.getElem?_eq_some_iff.1 hq).1
        have hd : tl = i :: tl.drop 1 := by
          cases tl with
          | nil => cases hq
          | cons x r => simp at hq; subst hq; rfl
        have hopl : (tl.filterMap fun i => ops[i]?) = o :: opl (tl.drop 1) := by
          conv => lhs; rw [hd]
          simp only [List.filterMap_cons, ho, opl]
        rw [hopl] at hwp
        have hstep : wpOp P ops R i (wpList P ops R (opl (tl.drop 1))) (putAll a ds 0 u) w := by
          unfold wpOp
          rw [ho]
          exact hwp
        refine wpOp_mono (fun a' w' h => .inr ⟨1, by omega, fun j hj => ?_, fun m c hm => ?_, h⟩) hstep
        · rw [getD_set (by omega)]
          split
          · rfl
          · exact hfall j hj
        · rw [getD_set (by omega)]
          by_cases hm0 : m = 0
          · subst hm0
            rw [hq] at hm
            cases hm
            simp
          · have hci : c ≠ i := fun e => hm0 (by
              subst e
              exact ((List.getElem?_inj (List.getElem?_eq_some_iff.1 hm).1 hndt).1 (hm.trans hq.symm)))
            rw [if_neg hci, hT c (List.mem_of_getElem? hm)]
            simp; omega
    · rcases hall' i h1 with hif | hit
      · rw [hfrd i hif] at hLi; cases hLi
      · obtain ⟨q, hq⟩ := List.getElem?_of_mem hit
        have hqk : q = k := by
          rcases Nat.lt_trichotomy q k with h | h | h
          · rw [htd q i hq] at hLi; simp [h] at hLi
          · exact h
          · exfalso
            have hql := (List.getElem?_eq_some_iff.1 hq).1
            have h0 : tl[k]? = some (tl[k]'(by omega)) := List.getElem?_eq_getElem _
            have := hbefore _ (htt' k q _ i h h0 hq)
            rw [htd k _ h0] at this
            simp at this
        subst hqk
        have hlen : q < tl.length := (List.getElem?_eq_some_iff.1 hq).1
        have hd : tl.drop q = i :: tl.drop (q + 1) := by
          rw [List.drop_eq_getElem_cons hlen, (List.getElem?_eq_some_iff.1 hq).2]
        have hopl : opl (tl.drop q) = o :: opl (tl.drop (q + 1)) := by
          simp only [opl, hd, List.filterMap_cons, ho]
        rw [hopl] at hwp
        have hstep : wpOp P ops R i (wpList P ops R (opl (tl.drop (q + 1)))) b w := by
          unfold wpOp
          rw [ho]
          exact hwp
        refine wpOp_mono (fun a' w' h => .inr ⟨q + 1, by omega, fun j hj => ?_, fun m c hm => ?_, h⟩) hstep
        · rw [getD_set (by omega)]
          split
          · rfl
          · exact hfrd j hj
        · rw [getD_set (by omega)]
          by_cases hmq : m = q
          · subst hmq
            rw [hq] at hm
            cases hm
            simp
          · have hci : c ≠ i := fun e => hmq (by
              subst e
              exact ((List.getElem?_inj (List.getElem?_eq_some_iff.1 hm).1 hndt).1 (hm.trans hq.symm)))
            rw [if_neg hci, htd m c hm]
            simp only [decide_eq_decide]
            omega
  · intro L b w hall2 hI
    rcases hI with ⟨u, k, rfl, hk, hJ, hR, hC, hT⟩ | ⟨k, hk, hfrd, htd, hwp⟩
    · have hce : tl = [] := by
        cases tl with
        | nil => rfl
        | cons c r =>
          have h1 := hT c (List.mem_cons_self ..)
          rw [hall2 c (htl' c (List.mem_cons_self ..)).1] at h1
          cases h1
      have hkc : k = cn.length := by
        rcases Nat.lt_or_ge k cn.length with h | h
        · have h0 : cn[k]? = some (cn[k]'h) := List.getElem?_eq_getElem _
          have h4 := hC k _ h0
          rw [hall2 _ (hfr' _ (List.mem_append_right _ (List.mem_of_getElem? h0))).1] at h4
          simp at h4
        · omega
      subst hkc
      have := tail u w hJ (fun p hp => hR p _ (List.getElem?_eq_getElem hp) (hall2 _ (hfr' _ (List.mem_append_left _ (List.getElem_mem hp))).1)) (fun a w => Q .normal a w) (fun _ _ h => h)
      subst hce
      exact this
    · have hkl : k = tl.length := by
        rcases Nat.lt_or_ge k tl.length with h | h
        · have h0 : tl[k]? = some (tl[k]'h) := List.getElem?_eq_getElem _
          have h1 := htd k _ h0
          rw [hall2 _ (htl' _ (List.mem_of_getElem? h0)).1] at h1
          simp at h1
        · omega
      rw [hkl, List.drop_eq_nil_of_le (Nat.le_refl _)] at hwp
      exact hwp
  · intro i o hi ho e he hb
    rw [Array.getD_eq_getD_getElem?, Array.getElem?_replicate] at hi
    split at hi <;> simp at hi
  · unfold toCome
    have := List.length_filter_le (fun b => !b) (Array.replicate ops.size false).toList
    simp
  · refine .inl ⟨fun p => slotOf a (ds.getD p none), 0, ?_, Nat.zero_le _, start _, ?_, ?_, ?_⟩
    · refine (putAll_self _ _ _ _ fun j d hj => ?_).symm
      rw [Nat.zero_add, List.getD_eq_getElem?_getD, hj]; rfl
    · intro p i hp h
      rw [Array.getD_eq_getD_getElem?, Array.getElem?_replicate] at h
      split at h <;> simp at h
    · intro q c hq
      rw [Array.getD_eq_getD_getElem?, Array.getElem?_replicate]
      split <;> simp
    · intro c hc
      rw [Array.getD_eq_getD_getElem?, Array.getElem?_replicate]
      split <;> simp

theorem wp_region_phase {id : Nat} {a : Act} {W : World} (rd cn tl : List Nat) (ds : List (Option Tmp)) (os : List Oper) (val : Nat → Value) (J : Nat → (Nat → Value) → World → Prop) (hm : P.follows .mixedOrders = true)
    (hok : phaseOk ops rd cn tl = true) (hds : ((rd ++ cn).map fun i => (ops[i]?).bind (·.dst)) = ds) (hos : (tl.filterMap fun i => ops[i]?) = os)
    (start : ∀ v, J 0 v W.drew)
    (read : ∀ p i o, rd[p]? = some i → ops[i]? = some o → ∀ u k w, J k (fun m => u (rd.length + m)) w → (∀ p' j, rd[p']? = some j → comesBehind ops ops.size i j = true → u p' = val p') →
      ∀ K : Act → World → Prop, K ((putAll a ds 0 u).put o.dst (val p)) w → ∀ Q', o.wp P (putAll a ds 0 u) w K Q')
    (step : ∀ q i o, cn[q]? = some i → ops[i]? = some o → ∀ u w, J q (fun m => u (rd.length + m)) w → (∀ p j, rd[p]? = some j → comesBehind ops ops.size i j = true → u p = val p) →
      ∀ K : Act → World → Prop, (∀ v a' w', a' = (putAll a ds 0 u).put o.dst v → J (q + 1) (upd (fun m => u (rd.length + m)) q v) w' → K a' w') → ∀ Q', o.wp P (putAll a ds 0 u) w K Q')
    (tail : ∀ u w, J cn.length (fun m => u (rd.length + m)) w → (∀ p, p < rd.length → u p = val p) → ∀ K : Act → World → Prop, Hid (∀ a w, Q .normal a w → K a w) → wpList P ops (Exit.then K (Calm Q)) os (putAll a ds 0 u) w) :
    (Code.region id ops true).wp P Q a W := by
  refine wp_region_phaseg rd cn tl ds os val J hm ?_ hds hos ?_ start read step tail
  · simp only [phaseOk, Bool.and_eq_true] at hok
    simp only [phaseOkg, Bool.and_eq_true]
    obtain ⟨⟨⟨⟨⟨⟨⟨⟨h1, h2⟩, h3⟩, h4⟩, h5⟩, h6⟩, h7⟩, h8⟩, h9⟩ := hok
    refine ⟨⟨⟨⟨⟨⟨⟨⟨h1, h2⟩, ?_⟩, h4⟩, h5⟩, h6⟩, h7⟩, h8⟩, h9⟩
    rw [List.all_eq_true] at h3 ⊢
    intro i hi
    have := h3 i hi
    simp only [Bool.and_eq_true] at this ⊢
    exact ⟨this.1.1, this.2⟩
  · intro i o hi ho u _
    simp only [phaseOk, Bool.and_eq_true] at hok
    obtain ⟨⟨⟨⟨⟨⟨⟨⟨h1, h2⟩, h3⟩, h4⟩, h5⟩, h6⟩, h7⟩, h8⟩, h9⟩ := hok
    rw [List.all_eq_true] at h3
    have := h3 i hi
    simp only [Bool.and_eq_true, ho, Option.map_some, Option.getD_some] at this
    have hg : o.guard = none := by simpa using this.1.2
    simp [Region.wanted, hg]
end
end Go.Proofs.Ythmogfjmngbamaa
