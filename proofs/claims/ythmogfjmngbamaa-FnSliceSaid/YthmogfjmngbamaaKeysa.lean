/-
  The order of texts as 'runtime.zzOrder' tells it, and what slices.SortFunc makes of a row of texts as any.
-/
import Derived.Test.YthmogfjmngbamaaSortk
import Derived.Test.YthmogfjmngbamaaCmp
import Derived.Test.YthmogfjmngbamaaFloats
import Derived.Sort.KeysCollected
import Derived.Sort.OwnSorted
import Derived.Maps.RangeWalk
import Derived.Sort.Walk0
import Derived.Lib.Hide
namespace Go.Proofs.Ythmogfjmngbamaa
open Go.RowKit
set_option linter.unusedSimpArgs false
set_option linter.unusedVariables false

/-- How two texts stand to each other. -/
def cmpT (s u : ByteArray) : Int := if Op.bytesLess s.toList u.toList then -1 else if Op.bytesLess u.toList s.toList then 1 else 0

theorem zzRank_text (s : ByteArray) (w : World) : Calls Try.prog 135 #[.iface 9 (.string s)] w (Tells (.int .i64 4) w) := by
  go_enter Try.func135, Try.ntmps135
  go_wp2_with fail
  go_ret
  exact ⟨rfl, rfl⟩

set_option maxHeartbeats 1000000 in
set_option maxRecDepth 100000 in
theorem zzOrder_text (s u : ByteArray) (w : World) : Calls Try.prog 132 #[.iface 9 (.string s), .iface 9 (.string u)] w (Tells (.int .i64 (cmpT s u)) w) := by
  have H1 := Lib.hid (zzRank_text s)
  have H2 := Lib.hid (zzRank_text u)
  have L1 := Lib.hid (less_txt_txt s u)
  have L2 := Lib.hid (less_txt_txt u s)
  have HC : ∃ c, c = cmpT s u := ⟨_, rfl⟩
  obtain ⟨c, hc⟩ := HC
  rw [← hc]
  unfold cmpT at hc
  generalize Op.bytesLess s.toList u.toList = b1 at *
  generalize Op.bytesLess u.toList s.toList = b2 at *
  cases b1 <;> cases b2
  all_goals
    simp only [Bool.false_eq_true, ↓reduceIte] at hc
    subst hc
    go_enter Try.func132, Try.ntmps132
    go_wp2_with fail
    refine Calls.mono (by exact H1.out _) ?_
    rintro e w1 ⟨rfl, rfl⟩
    go_wp2_with fail
    refine Calls.mono (by exact H2.out _) ?_
    rintro e w1 ⟨rfl, rfl⟩
    go_wp2_with fail
    refine Calls.mono (by exact L1.out _) ?_
    rintro e w1 ⟨rfl, rfl⟩
    go_wp2_with fail
  · refine Calls.mono (by exact L2.out _) ?_
    rintro e w1 ⟨rfl, rfl⟩
    go_wp2_with fail
    go_ret
    exact ⟨rfl, rfl⟩
  · refine Calls.mono (by exact L2.out _) ?_
    rintro e w1 ⟨rfl, rfl⟩
    go_wp2_with fail
    go_ret
    exact ⟨rfl, rfl⟩
  · go_ret
    exact ⟨rfl, rfl⟩
  · go_ret
    exact ⟨rfl, rfl⟩

/-- A text as any. -/
def encT (l : List UInt8) : Value := .iface 9 (encStr l)
theorem encT_one : OneCell encT := fun _ => rfl
/-- The same order, of lists of bytes. -/
def cmpL (l m : List UInt8) : Int := cmpT ⟨l.toArray⟩ ⟨m.toArray⟩
theorem toList_of (l : List UInt8) : (⟨l.toArray⟩ : ByteArray).toList = l := by rw [ByteArray.toList_eq]
theorem ltL (l m : List UInt8) : ltOf cmpL l m = decide (l < m) := by
  unfold ltOf cmpL cmpT
  rw [toList_of, toList_of, bytesLess_eq, bytesLess_eq]
  by_cases h1 : l < m
  · simp [h1]
  · by_cases h2 : m < l <;> simp [h1, h2]
theorem swoL : Go.Sort.SWO (ltOf cmpL) where
  irrefl x := by rw [ltL]; simp [List.lt_irrefl]
  trans x y z h1 h2 := by
    rw [ltL] at *
    simp only [decide_eq_true_eq] at *
    exact List.lt_trans h1 h2
  ntrans x y z h1 h2 := by
    rw [ltL] at *
    simp only [decide_eq_false_iff_not, List.not_lt] at *
    exact List.le_trans h2 h1
theorem totL (x y : List UInt8) (h1 : ltOf cmpL x y = false) (h2 : ltOf cmpL y x = false) : x = y := by
  rw [ltL] at h1 h2
  simp only [decide_eq_false_iff_not, List.not_lt] at h1 h2
  exact List.le_antisymm h2 h1
theorem cmpL_ne {x y : List UInt8} (h : x ≠ y) : cmpL x y ≠ 0 := by
  intro e
  have h0 : ∀ s t, cmpT s t = 0 → Op.bytesLess s.toList t.toList = false ∧ Op.bytesLess t.toList s.toList = false := by
    intro s t h
    unfold cmpT at h
    cases h1 : Op.bytesLess s.toList t.toList <;> cases h2 : Op.bytesLess t.toList s.toList <;> simp_all
  obtain ⟨h1, h2⟩ := h0 _ _ e
  rw [toList_of, toList_of, bytesLess_eq] at h1 h2
  simp only [decide_eq_false_iff_not, List.not_lt] at h1 h2
  exact h (List.le_antisymm h2 h1)

theorem enters132 : ∀ args w, (callFunc 132 args).run Try.prog w = .ok (.enter 132 args) w := enters_of Try.func132 (by kernel_rfl) rfl
theorem cmpLays (blk off size : Nat) (w : World) : CmpLays1 Try.prog 132 #[] encT cmpL blk off size w := by
  refine CmpReads.lays fun m os dk hs x y => ?_
  exact (zzOrder_text ⟨x.toArray⟩ ⟨y.toArray⟩ _).mono fun e w' ⟨h1, h2⟩ => ⟨h1, 0, h2.symm⟩

/-- A row of one-cell values that has been sorted in its place. -/
structure RowIn (w : World) (g cap : Nat) (vs : List Value) : Prop where
  block : ∃ cur, w.heap[g]? = some (.cells cur 20 (0, 0)) ∧ cur.size = cap ∧ cur.toList.take vs.length = vs
  room : vs.length ≤ cap
  most : cap ≤ maxLen

theorem free_of {w : World} {g : Nat} {cur : Array Value} (hb : w.heap[g]? = some (.cells cur 20 (0, 0))) (j : Nat) : w.frozen? ⟨g, j, none⟩ = false := by simp [World.frozen?, hb]
theorem RowIn.holds {w : World} {g cap : Nat} {ss : List (List UInt8)} (h : RowIn w g cap (ss.map encT)) : Go.Sort.Holds encT w g 0 ss.toArray := by
  obtain ⟨⟨cur, hb, hs, ht⟩, hr, hm⟩ := h
  rw [List.length_map] at ht
  intro j hj
  have hj' : j < ss.length := by simpa using hj
  refine ⟨?_, free_of hb _⟩
  have h1 : (cur.toList.take ss.length)[j]? = (ss.map encT)[j]? := by rw [ht]
  rw [List.getElem?_take_of_lt hj', List.getElem?_map, List.getElem?_eq_getElem hj', Array.getElem?_toList] at h1
  have h2 : (ss.toArray)[j]! = ss[j] := by simp [hj']
  rw [h2, Nat.zero_add]
  simp only [World.cell?, hb, Option.isSome_none, Bool.false_eq_true, if_false]
  exact h1

theorem RowIn.sorted {w : World} {g cap n : Nat} {os : Array Obj} {ss ts : List (List UInt8)} (h : RowIn w g cap (ss.map encT)) (hl : ts.length = ss.length) :
    RowIn (sortWorld encT w g 0 n ts.toArray os) g cap (ts.map encT) := by
  obtain ⟨⟨cur, hb, hs, ht⟩, hr, hm⟩ := h
  rw [List.length_map] at hr ht
  have hg : g < w.heap.size := (Array.getElem?_eq_some_iff.1 hb).1
  refine ⟨⟨Go.Sort.putCells encT 0 ts.toArray cur, ?_, by simp [Go.Sort.putCells, hs], ?_⟩, by rw [List.length_map, hl]; exact hr, hm⟩
  · unfold sortWorld
    rw [Go.Sort.heap_grow_old _ _ (by simpa using hg)]
    simp [Go.Sort.putRow, Go.Sort.mapBlock, Go.Sort.ahead, Array.getElem?_modify, hb, Go.Sort.onCells]
  · rw [List.length_map]
    refine List.ext_getElem? fun j => ?_
    by_cases hj : j < ts.length
    · rw [List.getElem?_take_of_lt hj, Array.getElem?_toList]
      simp [Go.Sort.putCells, hj, show j < cur.size by omega]
    · rw [List.getElem?_take_eq_none (by omega), List.getElem?_eq_none (by simp; omega)]

theorem sorted_grown {w : World} {g n : Nat} {os : Array Obj} (d : Array (List UInt8)) : w.grownBy (sortWorld encT w g 0 n d os) (some g) := by
  refine ⟨rfl, rfl, rfl, by simp [sortWorld, Go.Sort.ahead], fun k hk hne => ?_⟩
  unfold sortWorld
  rw [Go.Sort.heap_grow_old _ _ (by simpa using hk)]
  have : g ≠ k := fun e => hne (by rw [e])
  simp [Go.Sort.putRow, Go.Sort.mapBlock, Go.Sort.ahead, Array.getElem?_modify, this]

theorem rowIn_of_own {w : World} {base : Nat} {v : Value} {vs : List Value} (h : w.ownsRow base 20 1 v vs.length vs) (h0 : vs ≠ []) : ∃ g cap, v = .slice (some ⟨g, 0, none⟩) vs.length cap ∧ base ≤ g ∧ RowIn w g cap vs := by
  rcases h.2 with ⟨rfl, hn⟩ | ⟨g, cap, cur, rfl, hb, hg, hn, hm, hcs, ht⟩
  · exact (h0 (List.eq_nil_of_length_eq_zero hn)).elim
  · exact ⟨g, cap, rfl, hb, ⟨cur, hg, by rw [hcs, Nat.mul_one], by rwa [Nat.mul_one] at ht⟩, hn, hm⟩
theorem own_of_rowIn {w : World} {base g cap : Nat} {vs : List Value} (h : RowIn w g cap vs) (hb : base ≤ g) : w.ownsRow base 20 1 (.slice (some ⟨g, 0, none⟩) vs.length cap) vs.length vs := by
  obtain ⟨⟨cur, hg, hs, ht⟩, hr, hm⟩ := h
  exact ⟨by rw [Nat.mul_one], .inr ⟨g, cap, cur, rfl, hb, hg, hr, hm, by rw [hs, Nat.mul_one], by rw [Nat.mul_one]; exact ht⟩⟩

/-- slices.SortFunc at a row of texts as any: nothing turns but the row; it holds what it held, in order. -/
theorem sort_texts (base : Nat) (v : Value) (ss : List (List UInt8)) (w : World) (h : w.ownsRow base 20 1 v ss.length (ss.map encT)) (hlen : ss.length ≤ 1000) :
    Calls Try.prog 131 #[v, .func (.func 132) #[] #[]] w fun e w' => e = .returned (.tuple #[]) ∧ ∃ ts : List (List UInt8), ts.Perm ss ∧ w'.ownsRow base 20 1 v ss.length (ts.map encT) ∧ w.grownBy w' v.ownBlock := by
  by_cases h0 : ss = []
  · subst h0
    have hv : ∃ p c, v = .slice p 0 c := by
      rcases h.2 with ⟨rfl, _⟩ | ⟨g, cap, cur, rfl, _⟩
      · exact ⟨_, _, rfl⟩
      · exact ⟨_, _, rfl⟩
    obtain ⟨p, c, rfl⟩ := hv
    have hc := AnyF.slices_SortFunc_none (P := Try.prog) (ρ := sortRen) { sortLay with } p c (.func (.func 132) #[] #[]) w
    change Calls Try.prog 131 _ _ _ at hc
    exact hc.mono fun e w' ⟨h1, h2⟩ => ⟨h1, [], List.Perm.refl _, by rw [h2]; exact h, by rw [h2]; exact ⟨rfl, rfl, rfl, Nat.le_refl _, fun _ _ _ => rfl⟩⟩
  · have hl : (ss.map encT).length = ss.length := List.length_map ..
    obtain ⟨g, cap, hv, hb, hr⟩ := rowIn_of_own (by rw [hl]; exact h) (fun e => h0 (List.map_eq_nil_iff.1 e))
    rw [hl] at hv
    subst hv
    have hgl : g < w.heap.size := by
      obtain ⟨⟨cur, hg, _⟩, _⟩ := hr
      exact (Array.getElem?_eq_some_iff.1 hg).1
    have hc := Any.slices_SortFunc_total sortLay encT encT_one cmpL swoL 132 #[] g 0 cap ss.toArray w enters132 (cmpLays g 0 _ w) hr.holds hgl (by simp; omega) totL
    rw [List.size_toArray] at hc
    change Calls Try.prog 131 _ _ _ at hc
    refine hc.mono fun e w' ⟨h1, n, os, h2⟩ => ⟨h1, ss.mergeSort fun x y => !ltOf cmpL y x, List.mergeSort_perm _ _, ?_, ?_⟩
    · have hp : (ss.mergeSort fun x y => !ltOf cmpL y x).length = ss.length := (List.mergeSort_perm _ _).length_eq
      have := own_of_rowIn (base := base) (RowIn.sorted (n := n) (os := os) hr hp) hb
      rw [List.length_map, hp] at this
      rw [h2]
      exact this
    · rw [h2]
      exact sorted_grown _
end Go.Proofs.Ythmogfjmngbamaa
