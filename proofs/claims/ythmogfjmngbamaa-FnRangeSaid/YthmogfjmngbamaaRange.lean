/-
  What is proved: 'laws.FnRange' returns true for every two int64 numbers, and leaves all memory that was there as it was. No condition.
-/
import Derived.Test.YthmogfjmngbamaaBase
import Derived.WalkKit
import Derived.WalkLawsBesides
import Derived.WalkSpells
import Derived.Lib.Hide
import Derived.IntWalk
namespace Go.Proofs.Ythmogfjmngbamaa
open Go.RowKit

theorem info3 : (Try.prog.info? 3).map (fun i => (i.zero, i.size, i.bytes)) = some (some (.int .i64 0), 1, 8) := by kernel_rfl

/-- The row of a range behind k rounds. -/
def ranged (a : Int) (n k : Nat) : List Value := (List.range n).map fun i : Nat => Value.int .i64 (if i < k then a + i else 0)

theorem ranged_made (a : Int) (n : Nat) : (madeCells (Value.int .i64 0).cells (n * 1)).toList = ranged a n 0 := by
  apply List.ext_getElem?
  intro j
  by_cases hj : j < n
  · simp [madeCells, ranged, Value.cells, hj, Nat.mod_one]
  · simp [madeCells, ranged, hj]

theorem ranged_step (a : Int) (n k : Nat) (h : k < n) : (ranged a n k).set k (.int .i64 (a + k)) = ranged a n (k + 1) := by
  apply List.ext_getElem?
  intro j
  by_cases hk : j = k
  · subst hk; simp [ranged, h]
  · rw [List.getElem?_set_ne (by omega)]
    by_cases hj : j < n
    · simp only [ranged, List.getElem?_map, List.getElem?_range hj, Option.map_some, Option.some.injEq]
      have : (j < k + 1) = (j < k) := by rw [eq_iff_iff]; omega
      simp only [this]
    · simp [ranged, hj]

theorem ranged_at (a : Int) (n k j : Nat) (h : j < n) : (ranged a n k)[j]? = some (.int .i64 (if j < k then a + j else 0)) := by
  simp [ranged, h]

set_option maxHeartbeats 400000 in
set_option maxRecDepth 100000 in
theorem makeRange_some (a b : Int) (w : World) (n : Nat) (h1 : -4398046511104 ≤ a) (h2 : b ≤ 4398046511104) (h3 : Hid (b - a + 1 = n)) (h4 : 0 < n) (h5 : n ≤ 3000) :
    Calls Try.prog 46 #[.int .i64 a, .int .i64 b] w fun e w' => e = .returned (.slice (some ⟨w.heap.size, 0, none⟩) n n) ∧
      w'.ownsRow w.heap.size 3 1 (.slice (some ⟨w.heap.size, 0, none⟩) n n) n (ranged a n n) ∧ Below w.heap.size w w' := by
  obtain ⟨i0, hi, hz0, hz1, hz2⟩ := info_parts info3
  have h6 : a < b + 1 := by have := h3.out; omega
  have h7 : b - a < 3000 := by have := h3.out; omega
  go_enter Try.func46, Try.ntmps46
  go_wp2_with (at_make; refine wpList_make_full _ rfl _ _ 22 rfl w.heap.size 3 i0 (.int .i64 0) 1 Try.underlying22 hi hz0 hz1 .i64 .i64 _ _ n rfl rfl h3.out h3.out (by rw [hz2]; omega) (by unfold maxLen; omega) (Nat.le_refl _) ?_; intro w0 hown0 hgrow0)
  rw [ranged_made a] at hown0
  have HI := Lib.hid hi
  have HZ := Lib.hid hz0
  have HS := Lib.hid hz1
  have HB := Lib.hid hz2
  clear hi hz0 hz1 hz2
  go_loopw [19] (fun i wr => ∃ k : Nat, k ≤ n ∧ i = .int .i64 k ∧ wr.ownsRow w.heap.size 3 1 (.slice (some ⟨w.heap.size, 0, none⟩) n n) n (ranged a n k) ∧ Below w.heap.size w wr) (fun i _ => n - (intOf i).toNat)
  case atStart => exact ⟨0, by omega, rfl, hown0, (Below.refl _ _).grown hgrow0 (Nat.le_refl _) (fun _ h => by cases h)⟩
  case round =>
    obtain ⟨k, hk, rfl, hown, hnx⟩ := hrel
    clear hown0 hgrow0
    by_cases hlt : k < n
    · have hc := hown.cellAt k (by omega)
      rw [ranged_at _ _ _ _ hlt] at hc
      have hf := hown.frozenAt k
      have hst := hown.stored k (.int .i64 (a + k))
      rw [ranged_step _ _ _ hlt] at hst
      have hlt' : (k : Int) < 3000 := by omega
      obtain ⟨hst1, hst2⟩ := hst
      go_wp2
      go_roundw
      case rel => exact ⟨k + 1, by omega, by go_num, hst1, hnx.setCell (by simp) _⟩
      case measure => simp [intOf]; omega
    · have hkn : k = n := by omega
      subst hkn
      go_wp2
      go_ret
      exact ⟨rfl, hown, hnx⟩

set_option maxHeartbeats 400000 in
set_option maxRecDepth 100000 in
theorem makeRange_none (a b : Int) (w : World) (h1 : -4398046511104 ≤ a) (h2 : a ≤ 4398046511104) (h3 : b < a) (h4 : -4398046511104 ≤ b) :
    Calls Try.prog 46 #[.int .i64 a, .int .i64 b] w fun e w' => ∃ p c, e = .returned (.slice p 0 c) ∧ Below w.heap.size w w' := by
  go_enter Try.func46, Try.ntmps46
  go_wp2
  go_ret
  exact ⟨_, _, rfl, (Below.refl _ _).alloc (Nat.le_refl _) _⟩

set_option maxHeartbeats 400000 in
set_option maxRecDepth 100000 in
theorem range_some (a b : Int) (w : World) (n : Nat) (h1 : -4398046511104 ≤ a) (h2 : b ≤ 4398046511104) (h3 : Hid (b - a + 1 = n)) (h4 : 0 < n) (h5 : n ≤ 3000) :
    Calls Try.prog 13 #[.int .i64 a, .int .i64 b] w fun e w' => e = .returned (.tuple #[.slice (some ⟨w.heap.size, 0, none⟩) n n, .int .i64 0]) ∧
      w'.ownsRow w.heap.size 3 1 (.slice (some ⟨w.heap.size, 0, none⟩) n n) n (ranged a n n) ∧ Below w.heap.size w w' := by
  have h6 : a < b + 1 := by have := h3.out; omega
  have h7 : b - a < 3000 := by have := h3.out; omega
  by_cases hab : a < b
  all_goals
    go_enter Try.func13, Try.ntmps13
    go_wp2_with (go_at_call 46; refine (makeRange_some _ _ _ n h1 h2 h3 h4 h5).mono ?_; rintro e w1 ⟨rfl, hown, hb⟩)
    go_ret2
    exact ⟨rfl, hown, hb⟩

set_option maxHeartbeats 400000 in
set_option maxRecDepth 100000 in
theorem range_none (a b : Int) (w : World) (h1 : -4398046511104 ≤ a) (h2 : a ≤ 4398046511104) (h3 : b < a) (h4 : -4398046511104 ≤ b) :
    Calls Try.prog 13 #[.int .i64 a, .int .i64 b] w fun e w' => ∃ p c, e = .returned (.tuple #[.slice p 0 c, .int .i64 0]) ∧ Below w.heap.size w w' := by
  go_enter Try.func13, Try.ntmps13
  go_wp2_with (go_at_call 46; refine (makeRange_none _ _ _ h1 h2 h3 h4).mono ?_; rintro e w1 ⟨p, c, rfl, hb⟩)
  go_ret2
  exact ⟨p, c, rfl, hb⟩

set_option maxHeartbeats 400000 in
set_option maxRecDepth 100000 in
theorem fnRange_out (a b : Int) (w : World) (l1 : -9223372036854775808 ≤ a) (u1 : a ≤ 9223372036854775807) (l2 : -9223372036854775808 ≤ b) (u2 : b ≤ 9223372036854775807)
    (h : 1099511627776 < a ∨ a < -1099511627776 ∨ (-1099511627776 ≤ a ∧ a ≤ 1099511627776 ∧ (a + 1999 < b ∨ b < -1099511627776))) :
    Calls Try.prog 3 #[.int .i64 a, .int .i64 b] w fun e w' => e = .returned (.bool true) ∧ Below w.heap.size w w' := by
  rcases h with h | h | ⟨h, h', h'' | h''⟩
  · go_enter Try.func3, Try.ntmps3
    go_wp2
    go_ret
    exact ⟨rfl, Below.refl _ _⟩
  · have h0 : a ≤ 1099511627776 := by omega
    go_enter Try.func3, Try.ntmps3
    go_wp2
    go_ret
    exact ⟨rfl, Below.refl _ _⟩
  · go_enter Try.func3, Try.ntmps3
    go_wp2
    go_ret
    exact ⟨rfl, Below.refl _ _⟩
  · have h3 : b ≤ a + 1999 := by omega
    go_enter Try.func3, Try.ntmps3
    go_wp2
    go_ret
    exact ⟨rfl, Below.refl _ _⟩

set_option maxHeartbeats 400000 in
set_option maxRecDepth 100000 in
theorem fnRange_none (a b : Int) (w : World) (h1 : -1099511627776 ≤ a) (h2 : a ≤ 1099511627776) (h3 : b ≤ a + 1999) (h4 : -1099511627776 ≤ b) (h5 : b < a) :
    Calls Try.prog 3 #[.int .i64 a, .int .i64 b] w fun e w' => e = .returned (.bool true) ∧ Below w.heap.size w w' := by
  have H : Hid ((3 : Int) - 2 + 1 = (2 : Nat)) := rfl
  go_enter Try.func3, Try.ntmps3
  go_wp2_with fail
  refine (range_none _ _ _ (by omega) (by omega) h5 (by omega)).mono ?_
  rintro e w1 ⟨p, c, rfl, hb⟩
  go_wp2_with fail
  refine (range_some 2 3 _ 2 (by omega) (by omega) H (by omega) (by omega)).mono ?_
  rintro e w2 ⟨rfl, hown, hb2⟩
  have h6 : max (0 : Int) (b - a + 1) = 0 := by omega
  go_wp2
  go_loop [60] (fun i => i = .int .i64 0) (fun _ => 0)
  case atStart => rfl
  case round =>
    obtain rfl := hrel
    go_wp2
    go_ret
    exact ⟨rfl, hb.trans (hb2.mono hb.size)⟩

set_option maxHeartbeats 400000 in
set_option maxRecDepth 100000 in
theorem fnRange_some (a b : Int) (w : World) (n : Nat) (h1 : -1099511627776 ≤ a) (h2 : a ≤ 1099511627776) (h3 : b ≤ a + 1999) (h4 : -1099511627776 ≤ b) (h5 : a ≤ b) (hn : Hid (b - a + 1 = n)) :
    Calls Try.prog 3 #[.int .i64 a, .int .i64 b] w fun e w' => e = .returned (.bool true) ∧ Below w.heap.size w w' := by
  have H : Hid ((3 : Int) - 2 + 1 = (2 : Nat)) := rfl
  have hn' := hn.out
  go_enter Try.func3, Try.ntmps3
  go_wp2_with fail
  refine (range_some _ _ _ n (by omega) (by omega) hn (by omega) (by omega)).mono ?_
  clear hn'
  rintro e w1 ⟨rfl, hown1, hb⟩
  go_wp2_with fail
  refine (range_some 2 3 _ 2 (by omega) (by omega) H (by omega) (by omega)).mono ?_
  rintro e w2 ⟨rfl, hown, hb2⟩
  have h6 : ((n : Int) != b - a + 1) = false := by have := hn.out; rw [bne_eq_false_iff_eq]; omega
  have hlt := (hown1.lt _ rfl).2
  have hc : ∀ k : Nat, k < n → w2.cell? ⟨w.heap.size, k, none⟩ = some (.int .i64 (a + k)) := fun k hk => by
    rw [hb2.cell (by simpa using hlt), hown1.cellAt k (by omega), ranged_at _ _ _ _ hk, if_pos hk]
  have HC := Lib.hid hc
  clear hc hown1 hown
  go_wp2
  go_loop [60] (fun i => ∃ k : Nat, k ≤ n ∧ i = .int .i64 k) (fun i => n - (intOf i).toNat)
  case atStart => exact ⟨0, by omega, rfl⟩
  case round =>
    obtain ⟨k, hk, rfl⟩ := hrel
    have hn' := hn.out
    by_cases hlt : k < n
    · have hck := HC.out k hlt
      have hk2 : (k : Int) < 3000 := by omega
      clear hn'
      go_wp2
      go_round
      case rel => exact ⟨k + 1, by omega, by go_num⟩
      case measure => simp [intOf]; omega
    · clear hn'
      go_wp2
      go_ret
      exact ⟨rfl, hb.trans (hb2.mono hb.size)⟩

/-- 'laws.FnRange' returns true at every input; it makes new memory alone. -/
theorem fnRange_any (a b : Int) (w : World) (wa : (Lit.int .i64 a).wf = true) (wb : (Lit.int .i64 b).wf = true) :
    Calls Try.prog 3 #[.int .i64 a, .int .i64 b] w fun e w' => e = .returned (.bool true) ∧ Below w.heap.size w w' := by
  have b1 := i64_wf wa
  have b2 := i64_wf wb
  by_cases h : 1099511627776 < a ∨ a < -1099511627776 ∨ (-1099511627776 ≤ a ∧ a ≤ 1099511627776 ∧ (a + 1999 < b ∨ b < -1099511627776))
  · exact fnRange_out a b w b1.1 b1.2 b2.1 b2.2 h
  · by_cases h5 : b < a
    · exact fnRange_none a b w (by omega) (by omega) (by omega) (by omega) h5
    · exact fnRange_some a b w (b - a + 1).toNat (by omega) (by omega) (by omega) (by omega) (by omega) (show _ = _ by omega)

namespace fnRange
open Go.ChangeShapes Go.WideShapes Go.ChangeAt

set_option maxRecDepth 100000 in
theorem lifted (os : Os) (started : os.Started) (H : Type) (enc : TypeId × Value → H) :
    ReturnsInHanded {} Try.checked os 3 .any (Rows.fnRangeSpec.pre6 enc Try.prog Try.f3 Rows.fnRangeRow.domain false) (Rows.fnRangeSpec.post enc Try.prog Try.f3 false true false false) := by
  refine returnsInHanded_of_change (C := Try.checked) own started (by kernel_rfl) Try.func3
    (ChangeSpec.witness6 (enc := enc) (C := Try.checked) false ⟨#[], #[.int .i64 0, .int .i64 0], []⟩ 8 (by kernel_rfl) (by kernel_rfl) (by kernel_rfl) (by kernel_rfl)) ?_
  intro W base args ds gs before hval0 hW _ _
  have hval : ∀ (j : Nat) t v, Try.f3.params[j]? = some t → args[j]? = some v → Value.okWide Try.prog W .any base t v := hval0
  have hW' := hW
  obtain ⟨p, q, hA0, hV, rfl, hfz, hnd⟩ := hW
  have hA : DataW.TrodAll enc Try.prog W 0 (fun _ => true) true Try.f3.params.toList args.toList ds p := hA0
  rw [Try.params3] at hA hval
  obtain ⟨v0, vs0, d0, ds0, p0, q0, hargs, rfl, rfl, h0, r0⟩ := trodAll_cons hA
  obtain ⟨v1, vs1, d1, ds1, p1, q1, rfl, rfl, rfl, h1, r1⟩ := trodAll_cons r0
  obtain ⟨rfl, rfl, rfl⟩ := trodAll_nil r1
  obtain rfl : args = #[v0, v1] := by cases args; simp_all
  obtain ⟨rfl, rfl⟩ := trodVars_none hV
  obtain ⟨a0, rfl, rfl, rfl, w0⟩ := open_int Try.underlying2 (hval 0 2 v0 rfl rfl) h0
  obtain ⟨a1, rfl, rfl, rfl, w1⟩ := open_int Try.underlying2 (hval 1 2 v1 rfl rfl) h1
  clear hA0 hval0
  refine (fnRange_any a0 a1 W w0 w1).mono fun e W' ⟨he, hb⟩ => ?_
  subst he
  exact ⟨_, rfl, law_post hW' rfl rfl (by intro t ht; rw [Try.params3] at ht; simp at ht; subst ht; exact ⟨by kernel_rfl, of_decide_eq_true (by kernel_rfl)⟩) rfl rfl rfl hb⟩

theorem proved : Rows.FnRangeSaid :=
  OpenClaim.holds_of_wide 3 Try.f3 rfl rfl rfl rfl rfl rfl rfl ⟨rfl, rfl, rfl, rfl, rfl⟩ rfl rfl rfl rfl rfl (by kernel_rfl) Try.func3 (by kernel_rfl)
    (of_decide_eq_true (by kernel_rfl)) (by unfold Func.isWrapper; first | (rw [if_pos (by decide +kernel)]; kernel_rfl) | (rw [if_neg (by decide +kernel)]; exact ⟨rfl, rfl⟩))
    (fun os started H enc _ => lifted os started H enc)
end fnRange

/-- THE STATEMENT. -/
theorem fnRange_holds : Rows.FnRangeSaid := fnRange.proved
#print axioms fnRange_holds
end Go.Proofs.Ythmogfjmngbamaa
