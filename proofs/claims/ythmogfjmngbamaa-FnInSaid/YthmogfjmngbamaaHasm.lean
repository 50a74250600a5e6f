/-
  'spec.CuHasMap' walked at every value in order: where it answers false, the value is flat.
-/
import Derived.Test.YthmogfjmngbamaaPlain
namespace Go.Proofs.Ythmogfjmngbamaa
open Go.RowKit
set_option linter.unusedSimpArgs false
set_option linter.unusedVariables false

/-- No map, and no list in a list. -/
def SV.Level (x : SV) : Prop := x.kind ≠ 6 ∧ ∀ (m : Nat) (y : SV), x.items[m]? = some y → y.kind < 5

set_option maxHeartbeats 400000 in
set_option maxRecDepth 100000 in
theorem cuHasMap_plain (x : SV) (w : World) (h : x.items = []) (hk : x.kind < 5) : Calls Try.prog 26 #[x.val] w (AnswersB (fun r => r = false) w) := by
  cases x with
  | mk k n f t b ip ic items kp kc keys =>
  simp only [SV.items] at h
  subst h
  simp only [SV.val, SV.kind, SV.int, SV.fl, SV.text, SV.bool, SV.ip, SV.ic, SV.items, SV.kp, SV.kc, SV.keys, List.length_nil] at hk ⊢
  have h6 : (k == 6) = false := by simp; omega
  go_enter Try.func26, Try.ntmps26
  go_wp2_with fail
  go_loopw [8] (fun i wr => i = .int .i64 0 ∧ wr = w.alloc (.cells #[Value.int .i64 k, .int .i64 n, .float .f64 f, .string t, .bool b, .slice ip 0 ic, .slice kp keys.length kc] 30)) (fun i _ => 0)
  case atStart => exact ⟨rfl, rfl⟩
  case round =>
    obtain ⟨rfl, rfl⟩ := hrel
    go_wp2_with fail
    go_ret
    exact AnswersB.mk rfl ((Below.refl _ _).alloc (Nat.le_refl _) _)

set_option maxHeartbeats 400000 in
set_option maxRecDepth 100000 in
theorem cuHasMap_any (x : SV) (w : World) (hx : SV.In w x) (hok : SV.Ok x) : Calls Try.prog 26 #[x.val] w (AnswersB (fun r => r = false → SV.Level x) w) := by
  obtain ⟨hk, hnn, hf, ht, hi, hky, hst⟩ := SV.in_flat hx
  have HSUB : Hid (∀ (m : Nat) (y : SV), x.items[m]? = some y → y.kind ≤ 6 ∧ (y.kind < 5 → y.items = [])) := fun m y hy => by
    obtain ⟨_, d, c, _⟩ := SV.ok_shape (SV.ok_item hok hy)
    exact ⟨d, c⟩
  cases x with
  | mk k n f t b ip ic items kp kc keys =>
  simp only [SV.val, SV.Level, SV.kind, SV.int, SV.fl, SV.text, SV.bool, SV.ip, SV.ic, SV.items, SV.kp, SV.kc, SV.keys] at hk hnn hf ht hi hky hst HSUB ⊢
  have HX := Lib.hid hx
  clear hx hst hok
  go_enter Try.func26, Try.ntmps26
  go_wp2_with fail
  have hB1 : Hid (Below w.heap.size w (w.alloc (.cells #[Value.int .i64 k, .int .i64 n, .float .f64 f, .string t, .bool b, .slice ip items.length ic, .slice kp keys.length kc] 30))) := (Below.refl _ _).alloc (Nat.le_refl _) _
  have hc0 : (w.alloc (.cells #[Value.int .i64 k, .int .i64 n, .float .f64 f, .string t, .bool b, .slice ip items.length ic, .slice kp keys.length kc] 30)).cell? ⟨w.heap.size, 0, none⟩ = some (.int .i64 k) := by go_simp
  generalize (w.alloc (.cells #[Value.int .i64 k, .int .i64 n, .float .f64 f, .string t, .bool b, .slice ip items.length ic, .slice kp keys.length kc] 30)) = W1 at *
  go_loopw [8] (fun i wr => ∃ j : Nat, j ≤ items.length ∧ i = .int .i64 j ∧ Below W1.heap.size W1 wr ∧ ∀ (m : Nat) (y : SV), m < j → items[m]? = some y → y.kind < 5) (fun i _ => items.length - (intOf i).toNat)
  case atStart => exact ⟨0, Nat.zero_le _, rfl, Below.refl _ _, fun m y h => by omega⟩
  case round =>
    obtain ⟨j, hj, rfl, hb, hsm⟩ := hrel
    have HSM := Lib.hid hsm
    clear hsm
    by_cases hlt : j < items.length
    · have hit := SV.in_item (SV.in_later hB1.out _ HX.out) (show items[j]? = some items[j] from List.getElem?_eq_getElem hlt)
      obtain ⟨b1, o1, rfl, hcs⟩ := cellsAt_later hb hit.1
      clear hit
      have HY := Lib.hid (show items[j]? = some items[j] from List.getElem?_eq_getElem hlt)
      have HS1 := Lib.hid (HSUB.out j _ HY.out)
      generalize items[j] = y at *
      cases y with
      | mk k2 n2 f2 t2 b2 ip2 ic2 items2 kp2 kc2 keys2 =>
      have c0 := hcs 0 _ rfl
      have c1 := hcs 1 _ rfl
      have c2 := hcs 2 _ rfl
      have c3 := hcs 3 _ rfl
      have c4 := hcs 4 _ rfl
      have c5 := hcs 5 _ rfl
      have c6 := hcs 6 _ rfl
      clear hcs
      simp only [SV.kind, SV.int, SV.fl, SV.text, SV.bool, SV.ip, SV.ic, SV.items, SV.kp, SV.kc, SV.keys, Nat.add_zero] at c0 c1 c2 c3 c4 c5 c6 HS1
      have hb3 : Hid (Below W1.heap.size W1 (wr.alloc (.cells #[Value.int .i64 k2, .int .i64 n2, .float .f64 f2, .string t2, .bool b2, .slice ip2 items2.length ic2, .slice kp2 keys2.length kc2] 30))) := hb.alloc hb.size _
      by_cases h5 : k2 = 5 ∨ k2 = 6
      · rcases h5 with rfl | rfl
        all_goals
          go_wp2_with fail
          go_ret
          exact AnswersB.mk (fun h => by cases h) (hB1.out.trans (hb3.out.mono hB1.out.size))
      · by_cases h7 : k2 < 5
        · have h6 : (k2 == 6) = false := by simp; omega
          have h5 : (k2 == 5) = false := by simp; omega
          have hcall := Lib.hid (cuHasMap_plain (.mk k2 n2 f2 t2 b2 ip2 ic2 items2 kp2 kc2 keys2) (wr.alloc (.cells #[Value.int .i64 k2, .int .i64 n2, .float .f64 f2, .string t2, .bool b2, .slice ip2 items2.length ic2, .slice kp2 keys2.length kc2] 30)) (HS1.out.2 h7) h7)
          have hb0 := Lib.hid hb
          clear hb
          have hw0 := Lib.hid hc0
          go_wp2_with fail
          refine Calls.mono (by exact hcall.out) ?_
          rintro e w2 ⟨r, rfl, rfl, hb2⟩
          have hb4 : Hid (Below W1.heap.size W1 w2) := hb3.out.trans (hb2.mono (by have := hb0.out.size; simp; omega))
          clear hb2 hcall
          go_wp2_with fail
          go_roundw
          case rel => exact ⟨j + 1, by omega, by go_num, hb4.out, fun m z hm hz => by
            by_cases hmj : m = j
            · subst hmj
              rw [HY.out] at hz
              cases hz
              exact h7
            · exact HSM.out m z (by omega) hz⟩
          case measure => simp [intOf]; omega
        · have := HS1.out.1
          omega
    · have hjn : j = items.length := by omega
      have HSM2 : Hid (∀ (m : Nat) (y : SV), items[m]? = some y → y.kind < 5) := fun m y hy => HSM.out m y (by have := (List.getElem?_eq_some_iff.1 hy).1; omega) hy
      clear HSM hjn
      have hc0' := cell_later hb hc0
      go_wp2_with fail
      go_ret
      exact AnswersB.mk (fun h => ⟨by simpa using h, HSM2.out⟩) (hB1.out.trans (hb.mono hB1.out.size))
end Go.Proofs.Ythmogfjmngbamaa
