/-
  The guards of the laws walked: zzFits2, zzFits3, spec.Right, spec.cuFits, spec.CuFits, laws.cuPlain: each returns, and what its 'true' says.
-/
import Derived.Test.YthmogfjmngbamaaFloats
import Derived.WalkLawsBesides
import Derived.WalkSpells
import Derived.Lib.Hide
import Derived.IntWalk
namespace Go.Proofs.Ythmogfjmngbamaa
open Go.RowKit

/-- It returned a bool of which P holds, and the world is as it was. -/
def Answers (P : Bool → Prop) (w : World) (e : Ending) (w' : World) : Prop := ∃ b, P b ∧ e = .returned (.bool b) ∧ w = w'

set_option maxHeartbeats 400000 in
set_option maxRecDepth 100000 in
theorem zzFits2_any (p : Option Addr) (l : List ByteArray) (c : Nat) (w : World) (hl : l.length ≤ 9223372036854775807) (hs : strsAt w p l) :
    Calls Try.prog 47 #[.slice p l.length c] w (Answers (fun _ => True) w) := by
  have HS := Lib.hid hs
  clear hs
  by_cases hbig : 2147483647 < l.length
  · go_enter Try.func47, Try.ntmps47
    go_wp2
    go_ret
    exact ⟨_, trivial, rfl, rfl⟩
  · have hle : l.length ≤ 2147483647 := by omega
    go_enter Try.func47, Try.ntmps47
    go_wp2
    go_loop [10] (fun i => ∃ k : Nat, k ≤ l.length ∧ i = .int .i64 k) (fun i => l.length - (intOf i).toNat)
    case atStart => exact ⟨0, Nat.zero_le _, rfl⟩
    case round =>
      obtain ⟨k, hk, rfl⟩ := hrel
      by_cases hlt : k < l.length
      · obtain ⟨b, o, rfl, hc⟩ := (HS.out k l[k] (List.getElem?_eq_getElem hlt)).2
        have hz := (HS.out k l[k] (List.getElem?_eq_getElem hlt)).1
        unfold maxLen at hz
        have hc0 := hc 0 _ rfl
        clear hc
        rw [Nat.add_zero] at hc0
        by_cases hsz : 2147483647 < l[k].size
        · go_wp2
          go_ret
          exact ⟨_, trivial, rfl, rfl⟩
        · go_wp2
          go_round
          case rel => exact ⟨k + 1, by omega, by go_num⟩
          case measure => simp [intOf]; omega
      · go_wp2
        go_ret
        exact ⟨_, trivial, rfl, rfl⟩

/-- It returned a bool of which P holds, and made new memory alone. -/
def AnswersB (P : Bool → Prop) (w : World) (e : Ending) (w' : World) : Prop := ∃ b, P b ∧ e = .returned (.bool b) ∧ Below w.heap.size w w'

theorem AnswersB.mk {P : Bool → Prop} {w w' : World} {b : Bool} (hp : P b) (hb : Below w.heap.size w w') : AnswersB P w (.returned (.bool b)) w' := ⟨b, hp, rfl, hb⟩

/-- The box in which a parameter of the reference's type is kept. -/
def SV.box (x : SV) : Obj := .cells x.cells.toArray 30

set_option maxHeartbeats 400000 in
set_option maxRecDepth 100000 in
theorem zzFits3_any (x : SV) (w : World) (hx : SV.In w x) :
    Calls Try.prog 14 #[x.val] w (AnswersB (fun _ => True) w) := by
  obtain ⟨hk, hn, hf, ht, hi, hky, hst⟩ := SV.in_flat hx
  cases x with
  | mk k n f t b ip ic items kp kc keys =>
  simp only [SV.val, SV.kind, SV.int, SV.fl, SV.text, SV.bool, SV.ip, SV.ic, SV.items, SV.kp, SV.kc, SV.keys] at *
  by_cases h1 : 2147483647 < t.size
  · go_enter Try.func14, Try.ntmps14
    go_wp2
    go_ret
    exact AnswersB.mk trivial ((Below.refl _ _).alloc (Nat.le_refl _) _)
  by_cases h2 : 2147483647 < items.length
  · go_enter Try.func14, Try.ntmps14
    go_wp2
    go_ret
    exact AnswersB.mk trivial ((Below.refl _ _).alloc (Nat.le_refl _) _)
  have hb := ((Below.refl w.heap.size w).alloc (Nat.le_refl _) (.cells #[Value.int .i64 k, .int .i64 n, .float .f64 f, .string t, .bool b, .slice ip items.length ic, .slice kp keys.length kc] 30))
  have hs2 := strsAt_later hb hst
  go_enter Try.func14, Try.ntmps14
  go_wp2_with fail
  refine (zzFits2_any kp keys kc _ (by omega) hs2).mono ?_
  rintro e w1 ⟨r, -, rfl, rfl⟩
  cases r
  all_goals
    go_wp2
    go_ret
    exact AnswersB.mk trivial ((Below.refl _ _).alloc (Nat.le_refl _) _)
/-- A value whose texts are short, whose floats are numbers, and that has fewer than n + 1 levels. -/
def SV.Small : Nat → SV → Prop
  | 0, _ => False
  | n + 1, x => x.text.size ≤ 500 ∧ Fin x.fl ∧ (∀ (i : Nat) (y : SV), x.items[i]? = some y → SV.Small n y) ∧ ∀ (i : Nat) (s : ByteArray), x.keys[i]? = some s → s.size ≤ 100

theorem cuFits_zero (v : SV) (w : World) :
    Calls Try.prog 62 #[v.val, .int .i64 0] w (AnswersB (fun r => r = true → SV.Small 0 v) w) := by
  cases v with
  | mk k n f t b ip ic items kp kc keys =>
  simp only [SV.val, SV.kind, SV.int, SV.fl, SV.text, SV.bool, SV.ip, SV.ic, SV.items, SV.kp, SV.kc, SV.keys] at *
  go_enter Try.func62, Try.ntmps62
  go_wp2_with fail
  go_ret
  exact AnswersB.mk (fun h => by cases h) ((Below.refl _ _).alloc (Nat.le_refl _) _)

set_option maxHeartbeats 400000 in
set_option maxRecDepth 100000 in
theorem cuFits_step (lv : Nat) (hlv : lv ≤ 1000) (ih : ∀ (x : SV) (w : World), SV.In w x → Calls Try.prog 62 #[x.val, .int .i64 (lv : Int)] w (AnswersB (fun r => r = true → SV.Small lv x) w))
    (x : SV) (w : World) (hx : SV.In w x) :
    Calls Try.prog 62 #[x.val, .int .i64 ((lv : Int) + 1)] w (AnswersB (fun r => r = true → SV.Small (lv + 1) x) w) := by
  have HIH := Lib.hid ih
  clear ih
  obtain ⟨hk, hnn, hf, ht, hi, hky, hst⟩ := SV.in_flat hx
  cases x with
  | mk k n f t b ip ic items kp kc keys =>
  simp only [SV.val, SV.kind, SV.int, SV.fl, SV.text, SV.bool, SV.ip, SV.ic, SV.items, SV.kp, SV.kc, SV.keys] at hk hnn hf ht hi hky hst ⊢
  have HX := Lib.hid hx
  have HST := Lib.hid hst
  clear hx hst
  by_cases h1 : 500 < t.size
  · go_enter Try.func62, Try.ntmps62
    go_wp2
    go_ret
    exact AnswersB.mk (fun h => by cases h) ((Below.refl _ _).alloc (Nat.le_refl _) _)
  have h1' : t.size ≤ 500 := by omega
  rcases fin_or f with hfin | hfin
  rotate_left
  · have hr := run_sub_nan hfin
    have ho := tape_order f f
    go_enter Try.func62, Try.ntmps62
    go_wp2_with fail
    go_ret
    exact AnswersB.mk (fun h => by cases h) (((Below.refl _ _).alloc (Nat.le_refl _) _).drew)
  have hr := run_sub_fin hfin
  have ho := zero_order
  go_enter Try.func62, Try.ntmps62
  go_wp2_with fail
  clear hr ho
  have hB1 : Hid (Below w.heap.size w (w.alloc (.cells #[Value.int .i64 k, .int .i64 n, .float .f64 f, .string t, .bool b, .slice ip items.length ic, .slice kp keys.length kc] 30))) := (Below.refl _ _).alloc (Nat.le_refl _) _
  have hc6 : (w.alloc (.cells #[Value.int .i64 k, .int .i64 n, .float .f64 f, .string t, .bool b, .slice ip items.length ic, .slice kp keys.length kc] 30)).cell? ⟨w.heap.size, 6, none⟩ = some (.slice kp keys.length kc) := by go_simp
  have hz1 : w.heap.size < (w.alloc (.cells #[Value.int .i64 k, .int .i64 n, .float .f64 f, .string t, .bool b, .slice ip items.length ic, .slice kp keys.length kc] 30)).heap.size := by simp
  generalize (w.alloc (.cells #[Value.int .i64 k, .int .i64 n, .float .f64 f, .string t, .bool b, .slice ip items.length ic, .slice kp keys.length kc] 30)) = W1 at *
  go_loopw [28] (fun i wr => ∃ j : Nat, j ≤ items.length ∧ i = .int .i64 j ∧ Below W1.heap.size W1 wr ∧ ∀ (m : Nat) (y : SV), m < j → items[m]? = some y → SV.Small lv y) (fun i _ => items.length - (intOf i).toNat)
  case atStart => exact ⟨0, Nat.zero_le _, rfl, Below.refl _ _, fun m y h => by omega⟩
  case round =>
    obtain ⟨j, hj, rfl, hb, hsm⟩ := hrel
    have HSM := Lib.hid hsm
    clear hsm
    by_cases hlt : j < items.length
    · have hit := SV.in_item (SV.in_later hB1.out _ HX.out) (show items[j]? = some items[j] from List.getElem?_eq_getElem hlt)
      have hin := Lib.hid (SV.in_later hb _ hit.2)
      obtain ⟨b1, o1, rfl, hcs⟩ := cellsAt_later hb hit.1
      clear hit
      have HY := Lib.hid (show items[j]? = some items[j] from List.getElem?_eq_getElem hlt)
      generalize items[j] = y at *
      cases y with
      | mk k2 n2 f2 t2 b2 ip2 ic2 items2 kp2 kc2 keys2 =>
      have c0 := hcs 0 _ rfl
      have c1 := hcs 1 _ rfl
      have c2 := hcs 2 _ rfl
      have c3 := hcs 3 _ rfl
      have c4 := hcs 4 _ rfl
      have c5 := hcs 5 _ rfl
      have c6 := hcs 6 _ rfl
      clear hcs
      simp only [SV.kind, SV.int, SV.fl, SV.text, SV.bool, SV.ip, SV.ic, SV.items, SV.kp, SV.kc, SV.keys, Nat.add_zero] at c0 c1 c2 c3 c4 c5 c6
      go_wp2_with fail
      have hcall := HIH.out (.mk k2 n2 f2 t2 b2 ip2 ic2 items2 kp2 kc2 keys2) (wr.alloc (.cells #[Value.int .i64 k2, .int .i64 n2, .float .f64 f2, .string t2, .bool b2, .slice ip2 items2.length ic2, .slice kp2 keys2.length kc2] 30)) (SV.in_later ((Below.refl _ _).alloc (Nat.le_refl _) _) _ hin.out)
      refine Calls.mono (by exact hcall) ?_
      rintro e w2 ⟨r, hr, rfl, hb2⟩
      have hb3 : Hid (Below W1.heap.size W1 w2) := hb.trans (((Below.refl _ _).alloc hb.size _).trans (hb2.mono (by have := hb.size; simp; omega)))
      cases r
      · go_wp2_with fail
        go_ret
        exact AnswersB.mk (fun h => by cases h) (hB1.out.trans (hb3.out.mono (by omega)))
      · have HR := Lib.hid (hr rfl)
        clear hr hb2 hcall
        go_wp2_with fail
        go_roundw
        case rel => exact ⟨j + 1, by omega, by go_num, hb3.out, fun m z hm hz => by
          by_cases hmj : m = j
          · subst hmj
            rw [HY.out] at hz
            cases hz
            exact HR.out
          · exact HSM.out m z (by omega) hz⟩
        case measure => simp [intOf]; omega
    · have hjn : j = items.length := by omega
      have HSM2 : Hid (∀ (m : Nat) (y : SV), items[m]? = some y → SV.Small lv y) := fun m y hy => HSM.out m y (by have := (List.getElem?_eq_some_iff.1 hy).1; omega) hy
      clear HSM hjn
      have hc6' := cell_later hb hc6
      have HS2 := Lib.hid (strsAt_later hb (strsAt_later hB1.out HST.out))
      have hkl : (keys.length : Int) ≤ 9223372036854775807 := by omega
      clear hc6
      go_wp2_with fail
      go_loop [41] (fun i => ∃ j : Nat, j ≤ keys.length ∧ i = .int .i64 j ∧ ∀ (m : Nat) (s : ByteArray), m < j → keys[m]? = some s → s.size ≤ 100) (fun i => keys.length - (intOf i).toNat)
      case atStart => exact ⟨0, Nat.zero_le _, rfl, fun m y h => by omega⟩
      case round =>
        obtain ⟨q, hq, rfl, hsm⟩ := hrel
        have HSM := Lib.hid hsm
        clear hsm
        by_cases hlt2 : q < keys.length
        · have HQ := Lib.hid (show keys[q]? = some keys[q] from List.getElem?_eq_getElem hlt2)
          obtain ⟨hz, b1, o1, hkp, hcs⟩ := HS2.out q _ HQ.out
          unfold maxLen at hz
          have c0 := hcs 0 _ rfl
          clear hcs
          rw [Nat.add_zero] at c0
          subst hkp
          by_cases hsz : 100 < keys[q].size
          · go_wp2_with fail
            go_ret
            exact AnswersB.mk (fun h => by cases h) (hB1.out.trans (hb.mono (by omega)))
          · have hsz' : keys[q].size ≤ 100 := by omega
            go_wp2_with fail
            go_round
            case rel => exact ⟨q + 1, by omega, by go_num, fun m z hm hzz => by
              by_cases hmj : m = q
              · subst hmj
                rw [HQ.out] at hzz
                cases hzz
                exact hsz'
              · exact HSM.out m z (by omega) hzz⟩
            case measure => simp [intOf]; omega
        · go_wp2_with fail
          go_ret
          have HSM3 : ∀ (m : Nat) (s : ByteArray), keys[m]? = some s → s.size ≤ 100 := fun m z hz => HSM.out m z (by have := (List.getElem?_eq_some_iff.1 hz).1; omega) hz
          exact AnswersB.mk (fun _ => ⟨h1', hfin, HSM2.out, HSM3⟩) (hB1.out.trans (hb.mono (by omega)))

/-- 'spec.cuFits' with n levels. -/
theorem cuFits_any (n : Nat) (hn : n ≤ 1000) : ∀ (x : SV) (w : World), SV.In w x → Calls Try.prog 62 #[x.val, .int .i64 (n : Int)] w (AnswersB (fun r => r = true → SV.Small n x) w) := by
  induction n with
  | zero => exact fun x w _ => cuFits_zero x w
  | succ n ih =>
    intro x w hx
    have := cuFits_step n (by omega) (ih (by omega)) x w hx
    rwa [show ((n : Int) + 1) = ((n + 1 : Nat) : Int) by omega] at this
end Go.Proofs.Ythmogfjmngbamaa
