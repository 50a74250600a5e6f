/-
  A region that draws its order, taken by an invariant: each of its first operations leaves a fact about its own slot that new memory does not disturb; so one goal an operation, whatever the orders, and one goal for all that follows.
-/
import Derived.Test.YthmogfjmngbamaaBase
import Derived.Orders
namespace Go.Proofs.Ythmogfjmngbamaa
open Go.RowKit

/-- All edges that bind in every mode lead back. -/
def backward (ops : Array Oper) : Bool := (List.range ops.size).all fun i => ((ops[i]?).map fun o => o.after.all fun e => !Region.binds .any e || decide (e.on < i)).getD true

/-- Does an operation come behind another one, whatever the order? -/
def comesBehind (ops : Array Oper) : Nat → Nat → Nat → Bool
  | 0, _, _ => false
  | fuel + 1, i, j => ((ops[i]?).map fun o => o.after.toList.any fun e => Region.binds .any e && (e.on == j || comesBehind ops fuel e.on j)).getD false

/-- From operation n on the order is forced. -/
def forced (ops : Array Oper) (n : Nat) : Bool := (List.range ops.size).all fun i => i < n || (List.range i).all fun j => comesBehind ops ops.size i j

/-- The first n operations bear no guard. -/
def unguarded (ops : Array Oper) (n : Nat) : Bool := (List.range n).all fun i => ((ops[i]?).map (·.guard.isNone)).getD false

/-- The slots of the first operations. -/
def dsts (ops : Array Oper) (n : Nat) : List (Option Tmp) := (List.range n).map fun i => (ops[i]?).bind (·.dst)

/-- A frame with values in some slots. -/
def putAll : Act → List (Option Tmp) → Nat → (Nat → Value) → Act
  | a, [], _, _ => a
  | a, d :: ds, i, u => putAll (a.put d (u i)) ds (i + 1) u

def slotOf (a : Act) : Option Tmp → Value
  | some d => a.tmps.getD d undef
  | none => undef

theorem put_self (a : Act) (d : Option Tmp) : a.put d (slotOf a d) = a := by
  cases d with
  | none => rfl
  | some d =>
    unfold Act.put slotOf
    simp only
    congr 1
    apply Array.ext_getElem?
    intro i
    by_cases h : d = i
    · subst h
      by_cases hd : d < a.tmps.size
      · simp [hd]
      · simp [hd]
    · rw [Array.getElem?_setIfInBounds_ne h]

theorem putAll_self : ∀ (ds : List (Option Tmp)) (a : Act) (i : Nat) (u : Nat → Value), (∀ j d, ds[j]? = some d → u (i + j) = slotOf a d) → putAll a ds i u = a := by
  intro ds
  induction ds with
  | nil => intro a i u _; rfl
  | cons d ds ih =>
    intro a i u h
    have h0 : u i = slotOf a d := h 0 d rfl
    unfold putAll
    rw [h0, put_self]
    exact ih a (i + 1) u fun j e hj => by
      have := h (j + 1) e (by simpa using hj)
      rwa [show i + (j + 1) = i + 1 + j by omega] at this

/-- The slots differ from one another. -/
def differ : List (Option Tmp) → Bool
  | [] => true
  | d :: ds => (d.isSome && !ds.contains d) && differ ds

theorem putAll_put_far : ∀ (ds : List (Option Tmp)) (a : Act) (i : Nat) (u : Nat → Value) (d : Option Tmp) (v : Value), (∀ e ∈ ds, e ≠ d) → putAll (a.put d v) ds i u = (putAll a ds i u).put d v := by
  intro ds
  induction ds with
  | nil => intro a i u d v _; rfl
  | cons e ds ih =>
    intro a i u d v h
    unfold putAll
    rw [← ih (a.put e (u i)) (i + 1) u d v (fun x hx => h x (List.mem_cons_of_mem _ hx))]
    rw [Act.put_comm a v (u i) (fun x hx he => h e (List.mem_cons_self ..) (he.trans hx.symm))]

theorem put_put (a : Act) (d : Option Tmp) (v v' : Value) : (a.put d v).put d v' = a.put d v' := by
  cases d with
  | none => rfl
  | some d => simp [Act.put]

theorem putAll_congr : ∀ (ds : List (Option Tmp)) (a : Act) (i : Nat) (u u' : Nat → Value), (∀ j, i ≤ j → u j = u' j) → putAll a ds i u = putAll a ds i u' := by
  intro ds
  induction ds with
  | nil => intro a i u u' _; rfl
  | cons e ds ih =>
    intro a i u u' h
    unfold putAll
    rw [h i (Nat.le_refl _), ih _ (i + 1) u u' fun j hj => h j (by omega)]

theorem putAll_put : ∀ (ds : List (Option Tmp)) (a : Act) (i : Nat) (u : Nat → Value) (j : Nat) (d : Option Tmp) (v : Value), differ ds = true → ds[j]? = some d →
    (putAll a ds i u).put d v = putAll a ds i fun k => if k = i + j then v else u k := by
  intro ds
  induction ds with
  | nil => intro a i u j d v _ h; simp at h
  | cons e ds ih =>
    intro a i u j d v hd h
    simp only [differ, Bool.and_eq_true] at hd
    obtain ⟨⟨hsome, hnot⟩, hrest⟩ := hd
    cases j with
    | zero =>
      simp at h
      subst h
      unfold putAll
      rw [← putAll_put_far ds _ _ _ _ _ (fun x hx hxe => by subst hxe; simp at hnot; exact hnot hx), put_put]
      dsimp only
      rw [if_pos (by omega)]
      exact putAll_congr ds _ _ _ _ fun k hk => by rw [if_neg (by omega)]
    | succ j =>
      unfold putAll
      rw [ih (a.put e (u i)) (i + 1) u j d v hrest (by simpa using h)]
      dsimp only
      rw [if_neg (by omega)]
      exact putAll_congr ds _ _ _ _ fun k hk => by rw [show i + 1 + j = i + (j + 1) by omega]

section
variable {P : Program} {ops : Array Oper} {Q : Exit → Act → World → Prop}

/-- What has been done is closed under what must come before. -/
def Closed (ops : Array Oper) (L : Array Bool) : Prop := ∀ i o, L.getD i false = true → ops[i]? = some o → ∀ e ∈ o.after, Region.binds .any e = true → L.getD e.on false = true

theorem mem_ready {L : Array Bool} {i : Nat} : i ∈ Region.ready .any ops L ↔ i < ops.size ∧ L.getD i true = false ∧ ∃ o, ops[i]? = some o ∧ ∀ e ∈ o.after, Region.binds .any e = true → L.getD e.on false = true := by
  unfold Region.ready
  rw [List.mem_filter, List.mem_range]
  constructor
  · rintro ⟨h1, h2⟩
    rw [Bool.and_eq_true] at h2
    refine ⟨h1, by simpa using h2.1, ?_⟩
    cases ho : ops[i]? with
    | none => rw [ho] at h2; simp at h2
    | some o =>
      rw [ho] at h2
      refine ⟨o, rfl, fun e he hb => ?_⟩
      have h3 := h2.2
      simp only [Option.map_some, Option.getD_some, Array.all_eq_true_iff_forall_mem] at h3
      have := h3 e he
      simpa [hb] using this
  · rintro ⟨h1, h2, o, ho, h3⟩
    refine ⟨h1, ?_⟩
    rw [Bool.and_eq_true, ho]
    refine ⟨by simp [h2], ?_⟩
    simp only [Option.map_some, Option.getD_some, Array.all_eq_true_iff_forall_mem]
    intro e he
    by_cases hb : Region.binds .any e = true
    · simp [h3 e he hb]
    · simp [hb]

theorem behind_done {L : Array Bool} (hc : Closed ops L) (j : Nat) : ∀ (fuel i : Nat), comesBehind ops fuel i j = true → (∀ o, ops[i]? = some o → ∀ e ∈ o.after, Region.binds .any e = true → L.getD e.on false = true) → L.getD j false = true := by
  intro fuel
  induction fuel with
  | zero => intro i h; simp [comesBehind] at h
  | succ fuel ih =>
    intro i h hi
    unfold comesBehind at h
    cases ho : ops[i]? with
    | none => rw [ho] at h; simp at h
    | some o =>
      rw [ho] at h
      simp only [Option.map_some, Option.getD_some, List.any_eq_true, Bool.and_eq_true, Bool.or_eq_true, beq_iff_eq] at h
      obtain ⟨e, he, hb, h⟩ := h
      rw [Array.mem_toList_iff] at he
      have hl := hi o ho e he hb
      rcases h with h | h
      · rw [← h]; exact hl
      · exact ih e.on h fun o' ho' e' he' hb' => hc e.on o' hl ho' e' he' hb'

theorem getD_set {L : Array Bool} {i j : Nat} {d : Bool} (hi : i < L.size) : (L.setIfInBounds i true).getD j d = if j = i then true else L.getD j d := by
  by_cases h : j = i
  · subst h; simp [Array.getD, hi]
  · rw [if_neg h, Array.getD_eq_getD_getElem?, Array.getD_eq_getD_getElem?, Array.getElem?_setIfInBounds_ne (fun e => h e.symm)]

theorem closed_set {L : Array Bool} {i : Nat} (hs : L.size = ops.size) (hc : Closed ops L) (hi : i ∈ Region.ready .any ops L) : Closed ops (L.setIfInBounds i true) := by
  obtain ⟨h1, h2, o, ho, h3⟩ := mem_ready.1 hi
  intro j o' hj ho' e he hb
  rw [getD_set (by omega)] at hj ⊢
  split
  · rfl
  · by_cases hji : j = i
    · subst hji
      rw [ho] at ho'
      cases ho'
      exact h3 e he hb
    · rw [if_neg hji] at hj
      exact hc j o' hj ho' e he hb

/-- How many are still to come. -/
def toCome (L : Array Bool) : Nat := (L.toList.filter (!·)).length

theorem toCome_set : ∀ (L : List Bool) (i : Nat), L[i]? = some false → ((L.set i true).filter (!·)).length + 1 = (L.filter (!·)).length := by
  intro L
  induction L with
  | nil => intro i h; simp at h
  | cons b r ih =>
    intro i h
    cases i with
    | zero => simp at h; subst h; simp
    | succ i =>
      have := ih i (by simpa using h)
      cases b <;> simp [List.set_cons_succ] at this ⊢ <;> omega

/-- A region's orders, by an invariant. -/
theorem wpAny_inv (Inv : Array Bool → Act → World → Prop) (hback : backward ops = true)
    (step : ∀ L a w i, L.size = ops.size → Closed ops L → i ∈ Region.ready .any ops L → Inv L a w → wpOp P ops Q i (Inv (L.setIfInBounds i true)) a w)
    (fin : ∀ L a w, (∀ i, i < ops.size → L.getD i false = true) → Inv L a w → Q .normal a w) :
    ∀ (fuel : Nat) (L : Array Bool) (a : Act) (w : World), L.size = ops.size → Closed ops L → toCome L ≤ fuel → Inv L a w → wpAny P .any ops Q fuel L a w := by
  have done : ∀ (L : Array Bool), L.size = ops.size → Closed ops L → Region.ready .any ops L = [] → ∀ i, i < ops.size → L.getD i false = true := by
    intro L hs hc hr i
    induction i using Nat.strongRecOn with
    | _ i ih =>
      intro hi
      cases hL : L.getD i false with
      | true => rfl
      | false =>
        exfalso
        have : i ∈ Region.ready .any ops L := by
          refine mem_ready.2 ⟨hi, ?_, ops[i], Array.getElem?_eq_getElem hi, fun e he hb => ?_⟩
          · rw [Array.getD_eq_getD_getElem?, Array.getElem?_eq_getElem (by omega)] at hL ⊢
            simpa using hL
          · unfold backward at hback
            rw [List.all_eq_true] at hback
            have := hback i (List.mem_range.2 hi)
            rw [Array.getElem?_eq_getElem hi] at this
            simp only [Option.map_some, Option.getD_some, Array.all_eq_true_iff_forall_mem] at this
            have := this e he
            rw [hb] at this
            have hlt : e.on < i := by simpa using this
            exact ih e.on hlt (by omega)
        rw [hr] at this
        cases this
  intro fuel
  induction fuel with
  | zero =>
    intro L a w hs hc hf hI
    have hr : Region.ready .any ops L = [] := by
      cases h : Region.ready .any ops L with
      | nil => rfl
      | cons i r =>
        exfalso
        obtain ⟨h1, h2, _⟩ := mem_ready.1 (h ▸ List.mem_cons_self .. : i ∈ Region.ready .any ops L)
        rw [Array.getD_eq_getD_getElem?, Array.getElem?_eq_getElem (by omega)] at h2
        have : (L[i]'(by omega)) ∈ L.toList.filter (!·) := List.mem_filter.2 ⟨by simp, by simpa using h2⟩
        have := List.length_pos_of_mem this
        unfold toCome at hf
        omega
    exact ⟨hr, fin L a w (done L hs hc hr) hI⟩
  | succ fuel ih =>
    intro L a w hs hc hf hI
    refine ⟨fun hr => fin L a w (done L hs hc hr) hI, fun i hi => ?_⟩
    obtain ⟨h1, h2, _⟩ := mem_ready.1 hi
    refine wpOp_mono (fun a' w' hI' => ih _ a' w' (by simpa using hs) (closed_set hs hc hi) ?_ hI') (step L a w i hs hc hi hI)
    have hLi : L.toList[i]? = some false := by
      rw [Array.getD_eq_getD_getElem?, Array.getElem?_eq_getElem (by omega)] at h2
      rw [Array.getElem?_toList, Array.getElem?_eq_getElem (by omega)]
      simpa using h2
    have := toCome_set L.toList i hLi
    unfold toCome at hf ⊢
    rw [Array.toList_setIfInBounds]
    omega

theorem wpList_drop {m : Nat} (hm : m < ops.size) {a : Act} {w : World} (h : wpList P ops Q (ops.toList.drop m) a w) : wpOp P ops Q m (wpList P ops Q (ops.toList.drop (m + 1))) a w := by
  have hd : ops.toList.drop m = ops[m] :: ops.toList.drop (m + 1) := by
    rw [List.drop_eq_getElem_cons (by simpa using hm)]; simp
  rw [hd] at h
  unfold wpOp
  rw [Array.getElem?_eq_getElem hm]
  exact h

/-- ████ A REGION THAT DRAWS: each of its first n operations leaves a fact about its own slot, which new memory does not disturb, and stands in D to what was there; behind them all the order is forced. ████ -/
theorem wp_region_apart {id n : Nat} {a : Act} {W : World} {ds : List (Option Tmp)} (F : Nat → Value → World → Prop) (D : Nat → Nat → Value → Value → Prop) (hm : P.follows .mixedOrders = true)
    (hok : (backward ops && forced ops n && unguarded ops n && differ (dsts ops n) && decide (n ≤ ops.size)) = true) (hds : dsts ops n = ds)
    (mono : ∀ i v w w', i < n → F i v w → Below w.heap.size w w' → F i v w')
    (step : ∀ i o, i < n → ops[i]? = some o → ∀ u w, Below W.heap.size W w → (∀ j, j < n → comesBehind ops ops.size i j = true → F j (u j) w) →
      ∀ K : Act → World → Prop, (∀ v a' w', a' = (putAll a ds 0 u).put o.dst v → F i v w' → Below w.heap.size w w' → (∀ j x, j < n → j ≠ i → F j x w → D j i x v) → K a' w') → o.wp P (putAll a ds 0 u) w K Q)
    (tail : ∀ u w, Below W.heap.size W w → (∀ j, j < n → F j (u j) w) → (∀ i j, i < n → j < n → i ≠ j → D i j (u i) (u j) ∨ D j i (u j) (u i)) → wpList P ops Q (ops.toList.drop n) (putAll a ds 0 u) w) :
    (Code.region id ops true).wp P Q a W := by
  subst hds
  simp only [Bool.and_eq_true, decide_eq_true_eq] at hok
  obtain ⟨⟨⟨⟨hback, hforced⟩, hguard⟩, hdiff⟩, hn⟩ := hok
  have hF : ∀ i, n ≤ i → i < ops.size → ∀ j, j < i → comesBehind ops ops.size i j = true := by
    intro i h1 h2 j h3
    unfold forced at hforced
    rw [List.all_eq_true] at hforced
    have := hforced i (List.mem_range.2 h2)
    simp only [Bool.or_eq_true, decide_eq_true_eq, List.all_eq_true, List.mem_range] at this
    rcases this with h | h
    · omega
    · exact h j h3
  have hG : ∀ i o, i < n → ops[i]? = some o → o.guard = none := by
    intro i o h1 h2
    unfold unguarded at hguard
    rw [List.all_eq_true] at hguard
    have := hguard i (List.mem_range.2 h1)
    rw [h2] at this
    simpa using this
  let Inv : Array Bool → Act → World → Prop := fun L b w =>
    (∃ u, b = putAll a (dsts ops n) 0 u ∧ Below W.heap.size W w ∧ (∀ j, j < n → L.getD j false = true → F j (u j) w) ∧ (∀ j, n ≤ j → L.getD j false = false) ∧ ∀ i j, i < n → j < n → i ≠ j → L.getD i false = true → L.getD j false = true → D i j (u i) (u j) ∨ D j i (u j) (u i)) ∨
    (∃ m, n ≤ m ∧ m ≤ ops.size ∧ (∀ j, L.getD j false = decide (j < m)) ∧ wpList P ops Q (ops.toList.drop m) b w)
  refine wp_region_any hm (wpAny_inv Inv hback ?_ ?_ _ _ _ _ (by simp) ?_ ?_ ?_)
  · intro L b w i hs hc hi hI
    obtain ⟨h1, h2, o, ho, h3⟩ := mem_ready.1 hi
    have hbefore : ∀ j, comesBehind ops ops.size i j = true → L.getD j false = true := fun j hj =>
      behind_done hc j ops.size i hj fun o' ho' e he hb => by
        rw [ho] at ho'
        cases ho'
        exact h3 e he hb
    have hLi : L.getD i false = false := by
      rw [Array.getD_eq_getD_getElem?, Array.getElem?_eq_getElem (by omega)] at h2 ⊢
      simpa using h2
    rcases hI with ⟨u, rfl, hb, hFu, hno, hDu⟩ | ⟨m, hm1, hm2, hL, hwp⟩
    · by_cases hin : i < n
      · unfold wpOp
        rw [ho]
        dsimp only
        have hw : Region.wanted o (yielded ops (putAll a (dsts ops n) 0 u).tmps) = true := by simp [Region.wanted, hG i o hin ho]
        rw [if_pos hw]
        refine .inl (step i o hin ho u w hb (fun j hj hij => hFu j hj (hbefore j hij)) _ ?_)
        intro v a' w' ha' hv hb' hD
        subst ha'
        refine .inl ⟨fun k => if k = i then v else u k, ?_, hb.trans (hb'.mono hb.size), ?_, ?_, ?_⟩
        · have hd : (dsts ops n)[i]? = some o.dst := by
            unfold dsts
            rw [List.getElem?_map, List.getElem?_range hin]
            simp [ho]
          have := putAll_put (dsts ops n) a 0 u i o.dst v hdiff hd
          rw [this]
          simp only [Nat.zero_add]
        · intro j hj hLj
          dsimp only
          by_cases hji : j = i
          · rw [if_pos hji, hji]; exact hv
          · rw [if_neg hji]
            rw [getD_set (by omega), if_neg hji] at hLj
            exact mono j (u j) w w' hj (hFu j hj hLj) hb'
        · intro j hj
          rw [getD_set (by omega), if_neg (by omega)]
          exact hno j hj
        · intro x y hx hy hxy hLx hLy
          dsimp only
          rw [getD_set (by omega)] at hLx hLy
          by_cases hxi : x = i
          · subst hxi
            rw [if_neg (fun e => hxy e.symm)] at hLy
            rw [if_pos rfl, if_neg (fun e => hxy e.symm)]
            exact .inr (hD y (u y) hy (fun e => hxy e.symm) (hFu y hy hLy))
          · rw [if_neg hxi] at hLx
            rw [if_neg hxi]
            by_cases hyi : y = i
            · subst hyi
              rw [if_pos rfl]
              exact .inl (hD x (u x) hx hxi (hFu x hx hLx))
            · rw [if_neg hyi] at hLy
              rw [if_neg hyi]
              exact hDu x y hx hy hxy hLx hLy
      · have hall : ∀ j, j < i → L.getD j false = true := fun j hj => hbefore j (hF i (by omega) h1 j hj)
        have hin' : i = n := by
          rcases Nat.lt_or_ge n i with h | h
          · have := hall n h
            rw [hno n (Nat.le_refl _)] at this
            cases this
          · omega
        subst hin'
        have hwp := tail u w hb (fun j hj => hFu j hj (hall j hj)) fun x y hx hy hxy => hDu x y hx hy hxy (hall x hx) (hall y hy)
        refine wpOp_mono (fun a' w' h => .inr ⟨i + 1, by omega, by omega, fun j => ?_, h⟩) (wpList_drop h1 hwp)
        rw [getD_set (by omega)]
        split
        · rename_i h; subst h; simp
        · rename_i h
          rcases Nat.lt_or_ge j i with h' | h'
          · rw [hall j h']; simp; omega
          · rw [hno j h']; simp; omega
    · have him : i = m := by
        rcases Nat.lt_trichotomy i m with h | h | h
        · rw [hL i] at hLi; simp [h] at hLi
        · exact h
        · have := hbefore m (hF i (by omega) h1 m h)
          rw [hL m] at this
          simp at this
      subst him
      refine wpOp_mono (fun a' w' h => .inr ⟨i + 1, by omega, by omega, fun j => ?_, h⟩) (wpList_drop h1 hwp)
      rw [getD_set (by omega), hL j]
      split
      · rename_i h; subst h; simp
      · rename_i h; simp only [decide_eq_decide]; omega
  · intro L b w hall hI
    rcases hI with ⟨u, rfl, hb, hFu, hno, hDu⟩ | ⟨m, hm1, hm2, hL, hwp⟩
    · have hn' : n = ops.size := by
        rcases Nat.lt_or_ge n ops.size with h | h
        · have := hall n h
          rw [hno n (Nat.le_refl _)] at this
          cases this
        · omega
      have := tail u w hb (fun j hj => hFu j hj (hall j (by omega))) fun x y hx hy hxy => hDu x y hx hy hxy (hall x (by omega)) (hall y (by omega))
      subst hn'
      rw [List.drop_eq_nil_of_le (by simp)] at this
      exact this
    · have hm' : m = ops.size := by
        rcases Nat.lt_or_ge m ops.size with h | h
        · have := hall m h
          rw [hL m] at this
          simp at this
        · omega
      rw [hm', List.drop_eq_nil_of_le (by simp)] at hwp
      exact hwp
  · intro i o h
    simp [Array.getD_eq_getD_getElem?, Array.getElem?_replicate] at h
    split at h <;> simp at h
  · unfold toCome
    exact Nat.le_trans (List.length_filter_le _ _) (by simp)
  · refine .inl ⟨fun j => slotOf a ((dsts ops n).getD j none), ?_, (Below.refl _ _).drew, ?_, ?_, ?_⟩
    · refine (putAll_self _ _ _ _ fun j d hj => ?_).symm
      rw [Nat.zero_add, List.getD_eq_getElem?_getD, hj]; rfl
    · intro j hj h
      simp [Array.getD_eq_getD_getElem?, Array.getElem?_replicate] at h
      split at h <;> simp at h
    · intro j hj
      simp [Array.getD_eq_getD_getElem?, Array.getElem?_replicate]
      split <;> rfl
    · intro x y hx hy hxy h
      simp [Array.getD_eq_getD_getElem?, Array.getElem?_replicate] at h
      split at h <;> simp at h

/-- The same where nothing need stand apart. -/
theorem wp_region_mono {id n : Nat} {a : Act} {W : World} {ds : List (Option Tmp)} (F : Nat → Value → World → Prop) (hm : P.follows .mixedOrders = true)
    (hok : (backward ops && forced ops n && unguarded ops n && differ (dsts ops n) && decide (n ≤ ops.size)) = true) (hds : dsts ops n = ds)
    (mono : ∀ i v w w', i < n → F i v w → Below w.heap.size w w' → F i v w')
    (step : ∀ i o, i < n → ops[i]? = some o → ∀ u w, Below W.heap.size W w → (∀ j, j < n → comesBehind ops ops.size i j = true → F j (u j) w) →
      ∀ K : Act → World → Prop, (∀ v a' w', a' = (putAll a ds 0 u).put o.dst v → F i v w' → Below w.heap.size w w' → K a' w') → o.wp P (putAll a ds 0 u) w K Q)
    (tail : ∀ u w, Below W.heap.size W w → (∀ j, j < n → F j (u j) w) → wpList P ops Q (ops.toList.drop n) (putAll a ds 0 u) w) :
    (Code.region id ops true).wp P Q a W :=
  wp_region_apart F (fun _ _ _ _ => True) hm hok hds mono
    (fun i o hi ho u w hb hF K hK => step i o hi ho u w hb hF K fun v a' w' ha hv hb' => hK v a' w' ha hv hb' fun _ _ _ _ _ => trivial)
    (fun u w hb hF _ => tail u w hb hF)
end
end Go.Proofs.Ythmogfjmngbamaa
