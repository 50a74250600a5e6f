/-
  'spec.V.right' at a value whose own kind is in order: the walk, with both loops.
-/
import Derived.Test.YthmogfjmngbamaaRight
namespace Go.Proofs.Ythmogfjmngbamaa
open Go.RowKit

theorem box_later {w W1 wr : World} {q : Nat} {cs : Array Value} (h1 : w.heap.size < W1.heap.size) (hb : W1.heap[w.heap.size]? = some (.cells cs 30 (0, 0))) (hq : w.heap.size ≠ q) (h : ButAt q W1 wr) (j : Nat) (u : Value) (hu : cs[j]? = some u) :
    wr.cell? ⟨w.heap.size, j, none⟩ = some u := by
  have := (h.block _ h1 hq).trans hb
  simp [World.cell?, this, hu]

/-- The keys of a map so far differ. -/
def Apart (keys : List ByteArray) (j : Nat) : Prop := ∀ (a b : Nat) (s : ByteArray), a < b → b < j → keys[a]? = some s → keys[b]? = some s → False

set_option maxHeartbeats 1000000 in
set_option maxRecDepth 100000 in
theorem right_good (x : SV) (m : Int) (q : Nat) (w0 w : World) (hx : SV.In w0 x) (hb0 : Below w0.heap.size w0 w) (hq0 : w0.heap.size ≤ q) (hc : Counter w q m) (hm : 1 ≤ m) (hm2 : m ≤ 100000)
    (hgood : 0 ≤ x.kind ∧ x.kind ≤ 6 ∧ (x.kind < 5 → x.items = []) ∧ (x.kind ≠ 6 → x.keys = []) ∧ (x.kind = 6 → x.keys.length = x.items.length))
    (ih : ∀ (y : SV) (m' : Int) (w' : World), 0 ≤ m' → m' < m → SV.In w0 y → Below w0.heap.size w0 w' → Counter w' q m' → Calls Try.prog 102 #[y.val, .pointer (some ⟨q, 0, none⟩)] w' (RightPost y m' q w')) :
    Calls Try.prog 102 #[x.val, .pointer (some ⟨q, 0, none⟩)] w (RightPost x m q w) := by
  have HIH := Lib.hid ih
  have HG := Lib.hid hgood
  obtain ⟨hk, hnn, hf, ht, hi, hky, hst⟩ := SV.in_flat hx
  obtain ⟨g1, g2, g3, g4, g5⟩ := hgood
  clear ih
  cases x with
  | mk k n f t b ip ic items kp kc keys =>
  simp only [SV.val, SV.kind, SV.int, SV.fl, SV.text, SV.bool, SV.ip, SV.ic, SV.items, SV.kp, SV.kc, SV.keys] at hk hnn hf ht hi hky hst g1 g2 g3 g4 g5 ⊢
  have HX := Lib.hid hx
  have HST := Lib.hid hst
  have HB0 := Lib.hid hb0
  have HQ := Lib.hid hc.lt
  have hm1 : 0 ≤ m - 1 := by omega
  have c0 : (w.alloc (.cells #[Value.int .i64 k, .int .i64 n, .float .f64 f, .string t, .bool b, .slice ip items.length ic, .slice kp keys.length kc] 30)).cell? ⟨q, 0, none⟩ = some (.int .i64 m) := by
    rw [World.cell?_alloc_past _ _ _ hc.lt]; exact cell_of_one hc
  have f0 : (w.alloc (.cells #[Value.int .i64 k, .int .i64 n, .float .f64 f, .string t, .bool b, .slice ip items.length ic, .slice kp keys.length kc] 30)).frozen? ⟨q, 0, none⟩ = false := by
    rw [World.frozen?_alloc_old _ _ _ (by have := hc.lt; simp; omega)]; exact free_of_one hc
  have hq : ¬ q = w.heap.size := by have := hc.lt; omega
  have hone : Hid (Counter ((w.alloc (.cells #[Value.int .i64 k, .int .i64 n, .float .f64 f, .string t, .bool b, .slice ip items.length ic, .slice kp keys.length kc] 30)).setCell ⟨q, 0, none⟩ (.int .i64 (m - 1))) q (m - 1)) :=
    one_setCell (v := .int .i64 m) (Counter.later hc ((Below.refl _ _).alloc (Nat.le_refl _) _) hc.lt)
  have hbut : Hid (ButAt q w ((w.alloc (.cells #[Value.int .i64 k, .int .i64 n, .float .f64 f, .string t, .bool b, .slice ip items.length ic, .slice kp keys.length kc] 30)).setCell ⟨q, 0, none⟩ (.int .i64 (m - 1)))) :=
    (ButAt.alloc _ _).trans (ButAt.setCell _ ⟨q, 0, none⟩ rfl _)
  have hsz : Hid (w.heap.size < ((w.alloc (.cells #[Value.int .i64 k, .int .i64 n, .float .f64 f, .string t, .bool b, .slice ip items.length ic, .slice kp keys.length kc] 30)).setCell ⟨q, 0, none⟩ (.int .i64 (m - 1))).heap.size) := by
    show _ < _; simp
  have hbox : Hid (((w.alloc (.cells #[Value.int .i64 k, .int .i64 n, .float .f64 f, .string t, .bool b, .slice ip items.length ic, .slice kp keys.length kc] 30)).setCell ⟨q, 0, none⟩ (.int .i64 (m - 1))).heap[w.heap.size]? = some (.cells #[Value.int .i64 k, .int .i64 n, .float .f64 f, .string t, .bool b, .slice ip items.length ic, .slice kp keys.length kc] 30 (0, 0))) := by
    show _ = _
    rw [Below.heap_setCell _ _ _ _ (by simpa using fun e => hq e.symm)]
    exact heap_alloc_new _ _
  clear hc hx hst hb0
  have t5 : k < 5 → items = [] := g3
  have t6 : k < 5 ∨ k = 5 ∨ k = 6 := by omega
  clear g3
  rcases t6 with t6 | rfl | rfl
  · obtain rfl := t5 t6
    have e6 : (k != 6) = true := by rw [bne_iff_ne]; omega
    obtain rfl := g4 (by omega)
    simp only [List.length_nil] at c0 f0 hone hbut hsz hbox ⊢
    clear g4 g5 t5
    go_enter Try.func102, Try.ntmps102
    go_wp2_with fail
    clear c0 f0
    generalize (w.alloc (.cells #[Value.int .i64 k, .int .i64 n, .float .f64 f, .string t, .bool b, .slice ip 0 ic, .slice kp 0 kc] 30)).setCell ⟨q, 0, none⟩ (.int .i64 (m - 1)) = W1 at *
    go_loop [67] (fun i => i = .int .i64 0) (fun _ => 0)
    case atStart => rfl
    case round =>
      obtain rfl := hrel
      go_wp2_with fail
      go_ret
      exact ⟨true, m - 1, rfl, (fun _ => ⟨SV.ok_mk ⟨HG.out.1, HG.out.2.1, HG.out.2.2.1, HG.out.2.2.2.1, fun h6 => absurd h6 (show k ≠ 6 by omega)⟩ (fun a y hy => by cases hy), by simp [SV.parts, SV.partsAll], hm1⟩), hbut.out, hone.out⟩
  · obtain rfl := g4 (by omega)
    simp only [List.length_nil] at c0 f0 hone hbut hsz hbox ⊢
    clear g4 g5 t5
    go_enter Try.func102, Try.ntmps102
    go_wp2_with fail
    clear c0 f0
    generalize (w.alloc (.cells #[Value.int .i64 5, .int .i64 n, .float .f64 f, .string t, .bool b, .slice ip items.length ic, .slice kp 0 kc] 30)).setCell ⟨q, 0, none⟩ (.int .i64 (m - 1)) = W1 at *
    go_loopw [67] (fun i wr => ∃ (j : Nat) (mj : Int), j ≤ items.length ∧ i = .int .i64 j ∧ 0 ≤ mj ∧ mj ≤ 100000 ∧ Hid (ButAt q W1 wr ∧ Counter wr q mj ∧ mj = m - 1 - SV.partsAll (items.take j) ∧ (∀ (a : Nat) (y : SV), a < j → items[a]? = some y → SV.Ok y) ∧ True)) (fun i _ => items.length - (intOf i).toNat)
    case atStart => exact ⟨0, m - 1, Nat.zero_le _, rfl, hm1, by omega, ⟨ButAt.refl _ _, hone.out, by simp [SV.partsAll], fun a y h => by omega, trivial⟩⟩
    case round =>
      obtain ⟨j, mj, hj, rfl, hmj0, hmj1, hR⟩ := hrel
      have hbw : Below w0.heap.size w0 wr := HB0.out.trans ((hbut.out.trans hR.out.1).below hq0 HB0.out.size)
      have HBW := Lib.hid hbw
      by_cases hlt : j < items.length
      · have hit := SV.in_item (SV.in_later hbw _ HX.out) (show items[j]? = some items[j] from List.getElem?_eq_getElem hlt)
        have HY := Lib.hid (show items[j]? = some items[j] from List.getElem?_eq_getElem hlt)
        have HYI := Lib.hid (SV.in_item HX.out (show items[j]? = some items[j] from List.getElem?_eq_getElem hlt)).2
        obtain ⟨b1, o1, rfl, hcs⟩ := hit.1
        clear hit hbw
        generalize items[j] = y at *
        cases y with
        | mk k2 n2 f2 t2 b2 ip2 ic2 items2 kp2 kc2 keys2 =>
        have c0 := hcs 0 _ rfl
        have c1 := hcs 1 _ rfl
        have c2 := hcs 2 _ rfl
        have c3 := hcs 3 _ rfl
        have c4 := hcs 4 _ rfl
        have c5 := hcs 5 _ rfl
        have c6 := hcs 6 _ rfl
        clear hcs
        simp only [SV.kind, SV.int, SV.fl, SV.text, SV.bool, SV.ip, SV.ic, SV.items, SV.kp, SV.kc, SV.keys, Nat.add_zero] at c0 c1 c2 c3 c4 c5 c6
        have k0 : wr.cell? ⟨w.heap.size, 0, none⟩ = some (.int .i64 5) := box_later hsz.out hbox.out (fun e => hq e.symm) hR.out.1 0 _ rfl
        have hsr : w.heap.size < wr.heap.size := Nat.lt_of_lt_of_le hsz.out hR.out.1.size
        have hcr := Lib.hid (Counter.later (B := wr.heap.size) hR.out.2.1 ((Below.refl _ _).alloc (Nat.le_refl _) (.cells #[Value.int .i64 k2, .int .i64 n2, .float .f64 f2, .string t2, .bool b2, .slice ip2 items2.length ic2, .slice kp2 keys2.length kc2] 30)) hR.out.2.1.lt)
        have hcall := Lib.hid (HIH.out (.mk k2 n2 f2 t2 b2 ip2 ic2 items2 kp2 kc2 keys2) mj (wr.alloc (.cells #[Value.int .i64 k2, .int .i64 n2, .float .f64 f2, .string t2, .bool b2, .slice ip2 items2.length ic2, .slice kp2 keys2.length kc2] 30)) hmj0 (by have := hR.out.2.2.1; omega) HYI.out (HBW.out.trans ((Below.refl _ _).alloc HBW.out.size _)) hcr.out)
        go_wp2_with fail
        refine Calls.mono (by exact hcall.out) ?_
        rintro e w2 ⟨r, m', rfl, hr, hb2, hc2⟩
        have hbut2 : Hid (ButAt q W1 w2) := (hR.out.1.trans (ButAt.alloc _ _)).trans hb2
        have HC2 := Lib.hid hc2
        clear hb2 hc2 hcall
        cases r
        · clear hr
          go_wp2_with fail
          go_ret
          exact ⟨false, m', rfl, (fun h => by cases h), hbut.out.trans hbut2.out, HC2.out⟩
        · obtain ⟨r1, r2, r3⟩ := hr rfl
          have R1 := Lib.hid r1
          have R2 := Lib.hid r2
          have R3 := Lib.hid r3
          clear hr r1 r2 r3
          go_wp2_with fail
          go_roundw
          case rel => exact ⟨j + 1, m', by omega, by go_num, R3.out, by have := R2.out; omega, ⟨hbut2.out, HC2.out, by rw [R2.out, hR.out.2.2.1, SV.partsAll_take _ _ _ HY.out]; omega, fun a y ha hy => by
            by_cases haj : a = j
            · subst haj
              rw [HY.out] at hy
              cases hy
              exact R1.out
            · exact hR.out.2.2.2.1 a y (by omega) hy, trivial⟩⟩
          case measure => simp [intOf]; omega
      · have hjn : j = items.length := by omega
        have hR2 := Lib.hid hR.out
        clear hR
        go_wp2_with fail
        go_ret
        obtain ⟨a1, a2, a3, a4, a5⟩ := hR2.out
        refine ⟨true, mj, rfl, (fun _ => ⟨SV.ok_mk ⟨HG.out.1, HG.out.2.1, HG.out.2.2.1, HG.out.2.2.2.1, fun h6 => ⟨HG.out.2.2.2.2 h6, fun a b s ha hb => ?_⟩⟩ (fun a y hy => a4 a y (by have : a < items.length := (List.getElem?_eq_some_iff.1 hy).1; omega) hy), ?_, hmj0⟩), hbut.out.trans a1, a2⟩
        · cases ha
        · rw [a3, SV.parts_eq, hjn, List.take_length]
          show _ = m - ((1 + SV.partsAll items : Nat) : Int)
          omega
  · have E5 := Lib.hid (g5 rfl)
    have e1 : ((keys.length : Int) != (items.length : Int)) = false := by rw [bne_eq_false_iff_eq]; have := E5.out; omega
    clear g4 g5 t5
    go_enter Try.func102, Try.ntmps102
    go_wp2_with fail
    clear c0 f0
    generalize (w.alloc (.cells #[Value.int .i64 6, .int .i64 n, .float .f64 f, .string t, .bool b, .slice ip items.length ic, .slice kp keys.length kc] 30)).setCell ⟨q, 0, none⟩ (.int .i64 (m - 1)) = W1 at *
    go_loopw [67] (fun i wr => ∃ (j : Nat) (mj : Int), j ≤ items.length ∧ i = .int .i64 j ∧ 0 ≤ mj ∧ mj ≤ 100000 ∧ Hid (ButAt q W1 wr ∧ Counter wr q mj ∧ mj = m - 1 - SV.partsAll (items.take j) ∧ (∀ (a : Nat) (y : SV), a < j → items[a]? = some y → SV.Ok y) ∧ Apart keys j)) (fun i _ => items.length - (intOf i).toNat)
    case atStart => exact ⟨0, m - 1, Nat.zero_le _, rfl, hm1, by omega, ⟨ButAt.refl _ _, hone.out, by simp [SV.partsAll], fun a y h => by omega, fun a b s h1 h2 => by omega⟩⟩
    case round =>
      obtain ⟨j, mj, hj, rfl, hmj0, hmj1, hR⟩ := hrel
      have hbw : Below w0.heap.size w0 wr := HB0.out.trans ((hbut.out.trans hR.out.1).below hq0 HB0.out.size)
      have HBW := Lib.hid hbw
      by_cases hlt : j < items.length
      · have hit := SV.in_item (SV.in_later hbw _ HX.out) (show items[j]? = some items[j] from List.getElem?_eq_getElem hlt)
        have HY := Lib.hid (show items[j]? = some items[j] from List.getElem?_eq_getElem hlt)
        have HYI := Lib.hid (SV.in_item HX.out (show items[j]? = some items[j] from List.getElem?_eq_getElem hlt)).2
        obtain ⟨b1, o1, rfl, hcs⟩ := hit.1
        clear hit hbw
        generalize items[j] = y at *
        cases y with
        | mk k2 n2 f2 t2 b2 ip2 ic2 items2 kp2 kc2 keys2 =>
        have c0 := hcs 0 _ rfl
        have c1 := hcs 1 _ rfl
        have c2 := hcs 2 _ rfl
        have c3 := hcs 3 _ rfl
        have c4 := hcs 4 _ rfl
        have c5 := hcs 5 _ rfl
        have c6 := hcs 6 _ rfl
        clear hcs
        simp only [SV.kind, SV.int, SV.fl, SV.text, SV.bool, SV.ip, SV.ic, SV.items, SV.kp, SV.kc, SV.keys, Nat.add_zero] at c0 c1 c2 c3 c4 c5 c6
        have k0 : wr.cell? ⟨w.heap.size, 0, none⟩ = some (.int .i64 6) := box_later hsz.out hbox.out (fun e => hq e.symm) hR.out.1 0 _ rfl
        have k6 : wr.cell? ⟨w.heap.size, 6, none⟩ = some (.slice kp keys.length kc) := box_later hsz.out hbox.out (fun e => hq e.symm) hR.out.1 6 _ rfl
        have hsr : w.heap.size < wr.heap.size := Nat.lt_of_lt_of_le hsz.out hR.out.1.size
        have hcr := Lib.hid (Counter.later (B := wr.heap.size) hR.out.2.1 ((Below.refl _ _).alloc (Nat.le_refl _) (.cells #[Value.int .i64 k2, .int .i64 n2, .float .f64 f2, .string t2, .bool b2, .slice ip2 items2.length ic2, .slice kp2 keys2.length kc2] 30)) hR.out.2.1.lt)
        have hcall := Lib.hid (HIH.out (.mk k2 n2 f2 t2 b2 ip2 ic2 items2 kp2 kc2 keys2) mj (wr.alloc (.cells #[Value.int .i64 k2, .int .i64 n2, .float .f64 f2, .string t2, .bool b2, .slice ip2 items2.length ic2, .slice kp2 keys2.length kc2] 30)) hmj0 (by have := hR.out.2.2.1; omega) HYI.out (HBW.out.trans ((Below.refl _ _).alloc HBW.out.size _)) hcr.out)
        have hjk : j < keys.length := by rw [E5.out]; exact hlt
        have hjk' : (j : Int) ≤ (kc : Int) := by omega
        have HS2 := Lib.hid (strsAt_later HBW.out (strsAt_later (w := w0) (Below.refl _ _) HST.out))
        go_wp2_with fail
        have HJ := Lib.hid (show keys[j]? = some keys[j] from List.getElem?_eq_getElem hjk)
        obtain ⟨hzj, bk, ok, rfl, hcj⟩ := HS2.out j _ HJ.out
        unfold maxLen at hzj
        have cj := hcj 0 _ rfl
        clear hcj
        rw [Nat.add_zero] at cj
        have hbk : bk < wr.heap.size := lt_of_cell cj
        go_loop [80] (fun i => ∃ p : Nat, p ≤ j ∧ i = .int .i64 p ∧ Hid (∀ (a : Nat) (s : ByteArray), a < p → keys[a]? = some s → keys[j]? = some s → False)) (fun i => j - (intOf i).toNat)
        case atStart => exact ⟨0, Nat.zero_le _, rfl, fun a s h => by omega⟩
        case round =>
          obtain ⟨p, hp, rfl, hP⟩ := hrel
          by_cases hlp : p < j
          · have hpk : p < keys.length := by omega
            have HP := Lib.hid (show keys[p]? = some keys[p] from List.getElem?_eq_getElem hpk)
            obtain ⟨hzp, bk', ok', hkp, hcp⟩ := HS2.out p _ HP.out
            unfold maxLen at hzp
            have cp := hcp 0 _ rfl
            clear hcp
            rw [Nat.add_zero] at cp
            cases hkp
            by_cases heq : keys[p] = keys[j]
            · have e1 : (keys[p].toList == keys[j].toList) = true := ba_true heq
              clear heq
              go_wp2_with fail
              go_ret
              exact ⟨false, mj, rfl, (fun h => by cases h), hbut.out.trans (hR.out.1.trans (ButAt.alloc _ _)), hcr.out⟩
            · have e1 : (keys[p].toList == keys[j].toList) = false := ba_false heq
              have HNE := Lib.hid heq
              clear heq
              go_wp2_with fail
              go_round
              case rel => exact ⟨p + 1, by omega, by go_num, fun a s ha h1 h2 => by
                by_cases hap : a = p
                · subst hap
                  rw [HP.out] at h1
                  rw [HJ.out] at h2
                  exact HNE.out (Option.some.inj (h1.trans h2.symm))
                · exact hP.out a s (by omega) h1 h2⟩
              case measure => simp [intOf]; omega
          · have hpj : p = j := by omega
            have HAP : Hid (Apart keys (j + 1)) := fun a b s h1 h2 ha hb => by
              by_cases hbj : b = j
              · subst hbj
                exact hP.out a s (by omega) ha hb
              · exact hR.out.2.2.2.2 a b s h1 (by omega) ha hb
            clear hpj hP
            go_wp2_with fail
            refine Calls.mono (by exact hcall.out) ?_
            rintro e w2 ⟨r, m', rfl, hr, hb2, hc2⟩
            have hbut2 : Hid (ButAt q W1 w2) := (hR.out.1.trans (ButAt.alloc _ _)).trans hb2
            have HC2 := Lib.hid hc2
            clear hb2 hc2 hcall
            cases r
            · clear hr
              go_wp2_with fail
              go_ret
              exact ⟨false, m', rfl, (fun h => by cases h), hbut.out.trans hbut2.out, HC2.out⟩
            · obtain ⟨r1, r2, r3⟩ := hr rfl
              have R1 := Lib.hid r1
              have R2 := Lib.hid r2
              have R3 := Lib.hid r3
              clear hr r1 r2 r3
              go_wp2_with fail
              go_roundw
              case rel => exact ⟨j + 1, m', by omega, by go_num, R3.out, by have := R2.out; omega, ⟨hbut2.out, HC2.out, by rw [R2.out, hR.out.2.2.1, SV.partsAll_take _ _ _ HY.out]; omega, fun a y ha hy => by
                by_cases haj : a = j
                · subst haj
                  rw [HY.out] at hy
                  cases hy
                  exact R1.out
                · exact hR.out.2.2.2.1 a y (by omega) hy, HAP.out⟩⟩
              case measure => simp [intOf]; omega
      · have hjn : j = items.length := by omega
        have hR2 := Lib.hid hR.out
        clear hR
        go_wp2_with fail
        go_ret
        obtain ⟨a1, a2, a3, a4, a5⟩ := hR2.out
        refine ⟨true, mj, rfl, (fun _ => ⟨SV.ok_mk ⟨HG.out.1, HG.out.2.1, HG.out.2.2.1, HG.out.2.2.2.1, fun h6 => ⟨HG.out.2.2.2.2 h6, fun a b s ha hb => ?_⟩⟩ (fun a y hy => a4 a y (by have : a < items.length := (List.getElem?_eq_some_iff.1 hy).1; omega) hy), ?_, hmj0⟩), hbut.out.trans a1, a2⟩
        · have hkk : keys.length = items.length := HG.out.2.2.2.2 h6
          have la : a < keys.length := (List.getElem?_eq_some_iff.1 ha).1
          have lb : b < keys.length := (List.getElem?_eq_some_iff.1 hb).1
          rcases Nat.lt_trichotomy a b with h | h | h
          · exact (a5 a b s h (by omega) ha hb).elim
          · exact h
          · exact (a5 b a s h (by omega) hb ha).elim
        · rw [a3, SV.parts_eq, hjn, List.take_length]
          show _ = m - ((1 + SV.partsAll items : Nat) : Int)
          omega
end Go.Proofs.Ythmogfjmngbamaa
