/-
  'spec.work.equal' at lists of plain values, 'spec.CuEqual', 'laws.cuTwo'.
-/
import Derived.Test.YthmogfjmngbamaaWequ
import Derived.StillTailTactics
namespace Go.Proofs.Ythmogfjmngbamaa
open Go.RowKit
set_option linter.unusedSimpArgs false
set_option linter.unusedVariables false

theorem seven_any {x : SV} (h : SV.Plain x) : (x.kind < 5 → x.items = []) ∧ x.keys = [] := ⟨fun _ => h.items, h.keys⟩

set_option maxHeartbeats 4000000 in
set_option maxRecDepth 100000 in
theorem wequal_lists (g : Nat) (m : Int) (x y : SV) (hkx : x.kind = 5) (hky : y.kind = 5) (ht : x.text.size ≤ 500) (hxk : x.keys = []) (hyk : y.keys = []) (w w0 : World) (h0 : Below w0.heap.size w0 w) (hg : w0.heap.size ≤ g) (hx : SV.In w0 x) (hy : SV.In w0 y)
    (hpx : ∀ z ∈ x.items, SV.Plain z) (hpy : ∀ z ∈ y.items, SV.Plain z) (h : WorkAt w g m) (hcx : x.items.length ≤ 200) (hcy : y.items.length ≤ 200) (h33 : 33 * (x.items.length + 1 : Int) ≤ m) (hm : m ≤ 1048576) :
    Calls Try.prog 60 #[.pointer (some ⟨g, 0, none⟩), x.val, y.val] w (fun e w' => e = .returned (.bool (eqL x.items y.items)) ∧ ButAt g w w') := by
  have N1 := Lib.hid (number_any x)
  have N2 := Lib.hid (number_any y)
  have HLT := Lib.hid h.lt
  have hq : 0 ≤ (x.text.size : Int).tdiv 16 ∧ (x.text.size : Int).tdiv 16 ≤ 31 := by rw [Int.tdiv_eq_ediv_of_nonneg (by omega)]; omega
  have HP := Lib.hid (fun w (h : WorkAt w g m) => step_any g m (1 + (x.text.size : Int).tdiv 16) w h (by omega) (by omega) hm)
  have E1 := Lib.hid (@eqL_len x.items y.items)
  have E2 := Lib.hid (@eqL_at x.items y.items)
  have E3 := Lib.hid (@eqL_all x.items y.items)
  generalize eqL x.items y.items = res at *
  have HX := Lib.hid hx
  have HY := Lib.hid hy
  have H0 := Lib.hid h0
  have HG := Lib.hid hg
  clear hx hy h0 hg
  cases x with
  | mk k n f t b ip ic items kp kc keys =>
  cases y with
  | mk k2 n2 f2 t2 b2 ip2 ic2 items2 kp2 kc2 keys2 =>
  simp only [SV.val, SV.kind, SV.int, SV.fl, SV.text, SV.bool, SV.ip, SV.ic, SV.items, SV.kp, SV.kc, SV.keys] at hkx hky ht hxk hyk hq HP N1 N2 E1 E2 E3 hpx hpy h33 hcx hcy ⊢
  subst hxk
  subst hyk
  subst hkx
  subst hky
  have HPX := Lib.hid hpx
  have HPY := Lib.hid hpy
  clear hpx hpy
  have HW := Lib.hid (h.later (((Below.refl w.heap.size w).alloc (Nat.le_refl _) (.cells #[.int .i64 5, .int .i64 n, .float .f64 f, .string t, .bool b, .slice ip items.length ic, .slice kp 0 kc] 30)).alloc (by simp) (.cells #[.int .i64 5, .int .i64 n2, .float .f64 f2, .string t2, .bool b2, .slice ip2 items2.length ic2, .slice kp2 0 kc2] 30)) HLT.out)
  clear h
  simp only [List.length_nil] at HW N1 N2 HP ⊢
  simp only [SV.nf, SV.isn, SV.num, SV.kind, SV.int, SV.fl, Int.reduceEq, ↓reduceIte, Option.getD_none, Option.isSome_none, Option.getD_some, Option.isSome_some] at N1 N2
  obtain ⟨l1, hl1⟩ : ∃ l, l = items.length := ⟨_, rfl⟩
  obtain ⟨l2, hl2⟩ : ∃ l, l = items2.length := ⟨_, rfl⟩
  rw [← hl1] at HW N1 E1 E3 h33 hcx ⊢
  rw [← hl2] at HW N2 E1 E3 hcy ⊢
  have HL1 := Lib.hid hl1
  have HL2 := Lib.hid hl2
  clear hl1 hl2
  go_enter Try.func60, Try.ntmps60
  go_wp2_with fail
  refine Calls.mono (by exact HP.out _ HW.out) ?_
  rintro e w1 ⟨rfl, hb, hw⟩
  obtain ⟨q1, q2, hsz, hbw⟩ := two_but HLT.out hb
  have Q1 := Lib.hid q1
  have Q2 := Lib.hid q2
  have BW := Lib.hid hbw
  have HW1 := Lib.hid hw
  clear hb q1 q2 hbw hw HP HW
  obtain ⟨a0, a1, a2, a3, a4, a5, a6⟩ := seven Q1.out
  obtain ⟨d0, d1, d2, d3, d4, d5, d6⟩ := seven Q2.out
  obtain ⟨v0, v1, v2, -⟩ := HW1.out.cells
  have hz : (l1 = 0 ∧ l2 = 0) ∨ ((l1 : Int) + l2 == 0) = false := by
    by_cases hh : (l1 : Int) + l2 = 0
    · exact .inl (by omega)
    · exact .inr (by simpa using hh)
  by_cases hll : l1 = l2
  · subst hll
    rcases hz with ⟨rfl, -⟩ | hz
    · go_wp2_with fail
      refine Calls.mono (by exact N1.out _) ?_
      rintro e w2 ⟨rfl, hb⟩
      have Q1' := Lib.hid ((hb.block _ (lt_of_block Q1.out)).trans Q1.out)
      have Q2' := Lib.hid ((hb.block _ (lt_of_block Q2.out)).trans Q2.out)
      have BW' := Lib.hid (BW.out.trans (ButAt.of_below hb))
      have HW1' := Lib.hid (HW1.out.later hb HW1.out.lt)
      clear hb a0 a1 a2 a3 a4 a5 a6 d0 d1 d2 d3 d4 d5 d6 v0 v1 v2 Q1 Q2 BW HW1 N1 hsz
      obtain ⟨a0, a1, a2, a3, a4, a5, a6⟩ := seven Q1'.out
      obtain ⟨d0, d1, d2, d3, d4, d5, d6⟩ := seven Q2'.out
      go_wp2_with fail
      refine Calls.mono (by exact N2.out _) ?_
      rintro e w3 ⟨rfl, hb⟩
      have Q1 := Lib.hid ((hb.block _ (lt_of_block Q1'.out)).trans Q1'.out)
      have Q2 := Lib.hid ((hb.block _ (lt_of_block Q2'.out)).trans Q2'.out)
      have BW := Lib.hid (BW'.out.trans (ButAt.of_below hb))
      have HW1 := Lib.hid (HW1'.out.later hb HW1'.out.lt)
      clear hb a0 a1 a2 a3 a4 a5 a6 d0 d1 d2 d3 d4 d5 d6 Q1' Q2' BW' HW1' N2
      obtain ⟨a0, a1, a2, a3, a4, a5, a6⟩ := seven Q1.out
      obtain ⟨d0, d1, d2, d3, d4, d5, d6⟩ := seven Q2.out
      have h0 := E3.out trivial (fun k X Y hX hY => by have := (List.getElem?_eq_some_iff.1 hX).1; have := HL1.out; omega)
      subst h0
      go_wp2_with fail
      clear a0 a1 a2 a3 a4 a5 a6 d0 d1 d2 d3 d4 d5 d6
      go_loopw [134] (fun i wr => i = .int .i64 0 ∧ wr = w3) (fun _ _ => 0)
      case atStart => exact ⟨rfl, rfl⟩
      case round =>
        obtain ⟨rfl, rfl⟩ := hrel
        go_wp2_with fail
        go_ret
        exact ⟨rfl, BW.out⟩
    · go_wp2_with fail
      refine Calls.mono (by exact N1.out _) ?_
      rintro e w2 ⟨rfl, hb⟩
      have Q1' := Lib.hid ((hb.block _ (lt_of_block Q1.out)).trans Q1.out)
      have Q2' := Lib.hid ((hb.block _ (lt_of_block Q2.out)).trans Q2.out)
      have BW' := Lib.hid (BW.out.trans (ButAt.of_below hb))
      have HW1' := Lib.hid (HW1.out.later hb HW1.out.lt)
      clear hb a0 a1 a2 a3 a4 a5 a6 d0 d1 d2 d3 d4 d5 d6 v0 v1 v2 Q1 Q2 BW HW1 N1 hsz
      obtain ⟨a0, a1, a2, a3, a4, a5, a6⟩ := seven Q1'.out
      obtain ⟨d0, d1, d2, d3, d4, d5, d6⟩ := seven Q2'.out
      go_wp2_with fail
      refine Calls.mono (by exact N2.out _) ?_
      rintro e w3 ⟨rfl, hb⟩
      have Q1 := Lib.hid ((hb.block _ (lt_of_block Q1'.out)).trans Q1'.out)
      have Q2 := Lib.hid ((hb.block _ (lt_of_block Q2'.out)).trans Q2'.out)
      have BW := Lib.hid (BW'.out.trans (ButAt.of_below hb))
      have HW1 := Lib.hid (HW1'.out.later hb HW1'.out.lt)
      clear hb a0 a1 a2 a3 a4 a5 a6 d0 d1 d2 d3 d4 d5 d6 Q1' Q2' BW' HW1' N2
      obtain ⟨a0, a1, a2, a3, a4, a5, a6⟩ := seven Q1.out
      obtain ⟨d0, d1, d2, d3, d4, d5, d6⟩ := seven Q2.out
      have BA := Lib.hid (H0.out.trans (BW.out.below HG.out H0.out.size))
      have hm1 : m - 33 ≤ m - (1 + (t.size : Int).tdiv 16) ∧ m - (1 + (t.size : Int).tdiv 16) ≤ m := by omega
      generalize m - (1 + (t.size : Int).tdiv 16) = m0 at *
      go_wp2_with fail
      clear a0 a1 a2 a3 a4 a5 a6 d0 d1 d2 d3 d4 d5 d6
      go_loopw [134] (fun i wr => ∃ (j : Nat) (mj : Int), j ≤ l1 ∧ i = .int .i64 j ∧ m - 33 * (j + 1) ≤ mj ∧ mj ≤ m ∧ Hid (ButAt g w3 wr) ∧ Hid (WorkAt wr g mj) ∧ Hid (∀ (k : Nat) (X Y : SV), k < j → items[k]? = some X → items2[k]? = some Y → eqP X Y = true)) (fun i _ => l1 - (intOf i).toNat)
      case atStart => exact ⟨0, m0, Nat.zero_le _, rfl, by omega, by omega, ButAt.refl _ _, HW1.out, fun k X Y h => by omega⟩
      case round =>
        obtain ⟨j, mj, hj, rfl, hmj1, hmj2, HB, HWJ, HE⟩ := hrel
        have BR := Lib.hid (BA.out.trans (HB.out.below HG.out BA.out.size))
        by_cases hlt : j < l1
        · have hjx : j < items.length := by have := HL1.out; omega
          have hjy : j < items2.length := by have := HL2.out; omega
          have hX := List.getElem?_eq_getElem hjx
          have hY := List.getElem?_eq_getElem hjy
          have PX := Lib.hid (HPX.out _ (List.mem_iff_getElem?.2 ⟨j, hX⟩))
          have PY := Lib.hid (HPY.out _ (List.mem_iff_getElem?.2 ⟨j, hY⟩))
          obtain ⟨b1, o1, hp1, hcs⟩ := cellsAt_later BR.out (SV.in_item HX.out (by exact hX)).1
          obtain ⟨b2, o2, hp2, hds⟩ := cellsAt_later BR.out (SV.in_item HY.out (by exact hY)).1
          have E2' := Lib.hid (E2.out _ _ _ hX hY)
          have HXJ := Lib.hid hX
          have HYJ := Lib.hid hY
          clear hX hY
          generalize items[j] = X at *
          generalize items2[j] = Y at *
          clear hjx hjy
          have HPE := Lib.hid (fun w mq (h : WorkAt w g mq) (h33 : 33 ≤ mq) (hmq : mq ≤ 1048576) => wequal_plain g mq X Y ⟨PX.out.kind.1, by have := PX.out.kind.2; omega⟩ ⟨PY.out.kind.1, by have := PY.out.kind.2; omega⟩ (fun h => by have := PX.out.kind.2; omega) PX.out.text (fun _ => PX.out.items) (fun _ => PY.out.items) PX.out.keys PY.out.keys w h h33 hmq)
          cases X with
          | mk k3 n3 f3 t3 b3 ip3 ic3 items3 kp3 kc3 keys3 =>
          cases Y with
          | mk k4 n4 f4 t4 b4 ip4 ic4 items4 kp4 kc4 keys4 =>
          obtain ⟨hi3, hk3⟩ : items3 = [] ∧ keys3 = [] := ⟨PX.out.items, PX.out.keys⟩
          obtain ⟨hi4, hk4⟩ : items4 = [] ∧ keys4 = [] := ⟨PY.out.items, PY.out.keys⟩
          subst hi3
          subst hk3
          subst hi4
          subst hk4
          generalize hrr : eqP (.mk k3 n3 f3 t3 b3 ip3 ic3 [] kp3 kc3 []) (.mk k4 n4 f4 t4 b4 ip4 ic4 [] kp4 kc4 []) = r at *
          have HRR := Lib.hid hrr
          clear hrr PX PY
          have c0 := hcs 0 _ rfl
          have c1 := hcs 1 _ rfl
          have c2 := hcs 2 _ rfl
          have c3 := hcs 3 _ rfl
          have c4 := hcs 4 _ rfl
          have c5 := hcs 5 _ rfl
          have c6 := hcs 6 _ rfl
          have e0 := hds 0 _ rfl
          have e1 := hds 1 _ rfl
          have e2 := hds 2 _ rfl
          have e3 := hds 3 _ rfl
          have e4 := hds 4 _ rfl
          have e5 := hds 5 _ rfl
          have e6 := hds 6 _ rfl
          clear hcs hds
          simp only [SV.val, SV.kind, SV.int, SV.fl, SV.text, SV.bool, SV.ip, SV.ic, SV.items, SV.kp, SV.kc, SV.keys, Nat.add_zero, List.length_nil] at c0 c1 c2 c3 c4 c5 c6 e0 e1 e2 e3 e4 e5 e6 HPE hp1 hp2
          subst hp1
          subst hp2
          have QR := Lib.hid ((HB.out.block _ (lt_of_block Q2.out) (by have := HLT.out; omega)).trans Q2.out)
          go_wp2_with fail
          clear c0 c1 c2 c3 c4 c5 c6
          have hb2 : b2 < wr.heap.size := by
            unfold World.cell? at e0
            rcases Nat.lt_or_ge b2 wr.heap.size with h | h
            · exact h
            · simp [Array.getElem?_eq_none h] at e0
          have hq2 := lt_of_block QR.out
          have GA := Lib.hid (heap_alloc_new wr (.cells #[.int .i64 k3, .int .i64 n3, .float .f64 f3, .string t3, .bool b3, .slice ip3 0 ic3, .slice kp3 0 kc3] 30))
          have WA := Lib.hid (HWJ.out.later ((Below.refl wr.heap.size wr).alloc (Nat.le_refl _) (.cells #[.int .i64 k3, .int .i64 n3, .float .f64 f3, .string t3, .bool b3, .slice ip3 0 ic3, .slice kp3 0 kc3] 30)) HWJ.out.lt)
          have BAA : Hid (ButAt g w3 (wr.alloc (.cells #[.int .i64 k3, .int .i64 n3, .float .f64 f3, .string t3, .bool b3, .slice ip3 0 ic3, .slice kp3 0 kc3] 30))) := HB.out.trans (ButAt.alloc _ _)
          have QA := Lib.hid ((Below.heap_alloc wr (.cells #[.int .i64 k3, .int .i64 n3, .float .f64 f3, .string t3, .bool b3, .slice ip3 0 ic3, .slice kp3 0 kc3] 30) _ hq2).trans QR.out)
          have y0 := (World.cell?_alloc_past (.cells #[.int .i64 k3, .int .i64 n3, .float .f64 f3, .string t3, .bool b3, .slice ip3 0 ic3, .slice kp3 0 kc3] 30) _ _ hb2).trans e0
          have y1 := (World.cell?_alloc_past (.cells #[.int .i64 k3, .int .i64 n3, .float .f64 f3, .string t3, .bool b3, .slice ip3 0 ic3, .slice kp3 0 kc3] 30) _ _ hb2).trans e1
          have y2 := (World.cell?_alloc_past (.cells #[.int .i64 k3, .int .i64 n3, .float .f64 f3, .string t3, .bool b3, .slice ip3 0 ic3, .slice kp3 0 kc3] 30) _ _ hb2).trans e2
          have y3 := (World.cell?_alloc_past (.cells #[.int .i64 k3, .int .i64 n3, .float .f64 f3, .string t3, .bool b3, .slice ip3 0 ic3, .slice kp3 0 kc3] 30) _ _ hb2).trans e3
          have y4 := (World.cell?_alloc_past (.cells #[.int .i64 k3, .int .i64 n3, .float .f64 f3, .string t3, .bool b3, .slice ip3 0 ic3, .slice kp3 0 kc3] 30) _ _ hb2).trans e4
          have y5 := (World.cell?_alloc_past (.cells #[.int .i64 k3, .int .i64 n3, .float .f64 f3, .string t3, .bool b3, .slice ip3 0 ic3, .slice kp3 0 kc3] 30) _ _ hb2).trans e5
          have y6 := (World.cell?_alloc_past (.cells #[.int .i64 k3, .int .i64 n3, .float .f64 f3, .string t3, .bool b3, .slice ip3 0 ic3, .slice kp3 0 kc3] 30) _ _ hb2).trans e6
          clear e0 e1 e2 e3 e4 e5 e6 hb2 hq2 QR HB HWJ BR
          obtain ⟨wa, hwa⟩ : ∃ wa, wa = wr.alloc (.cells #[.int .i64 k3, .int .i64 n3, .float .f64 f3, .string t3, .bool b3, .slice ip3 0 ic3, .slice kp3 0 kc3] 30) := ⟨_, rfl⟩
          rw [← hwa] at GA WA BAA QA y0 y1 y2 y3 y4 y5 y6 ⊢
          clear hwa
          generalize wr.heap.size = q at *
          obtain ⟨x0, x1, x2, x3, x4, x5, x6⟩ := seven GA.out
          obtain ⟨d0, d1, d2, d3, d4, d5, d6⟩ := seven QA.out
          go_still_tail 7, (by kernel_rfl)
          change wpList _ _ _ _ _ wa.drew
          have WD : Hid (WorkAt wa.drew g mj) := WA.out
          have BD : Hid (ButAt g w3 wa.drew) := BAA.out.drew
          clear x0 x1 x2 x3 x4 x5 x6 d0 d1 d2 d3 d4 d5 d6 y0 y1 y2 y3 y4 y5 y6 GA WA BAA QA
          generalize wa.drew = wd at *
          go_wp2_with fail
          refine Calls.mono (by exact HPE.out _ mj WD.out (by omega) (by omega)) ?_
          rintro e wz ⟨rfl, hb, m', hm'1, hm'2, hw⟩
          have BZ : Hid (ButAt g w3 wz) := BD.out.trans hb
          have WZ := Lib.hid hw
          clear hb hw BD WD
          cases r
          · have h0 := E2'.out rfl
            subst h0
            go_wp2_with fail
            go_ret
            exact ⟨rfl, BW.out.trans BZ.out⟩
          · go_wp2_with fail
            go_roundw
            case rel => exact ⟨j + 1, m', by omega, by go_num, by omega, by omega, BZ, WZ, fun k X' Y' hk hx' hy' => by
              by_cases hkj : k = j
              · subst hkj
                rw [HXJ.out] at hx'
                rw [HYJ.out] at hy'
                cases hx'
                cases hy'
                exact HRR.out
              · exact HE.out k X' Y' (by omega) hx' hy'⟩
            case measure => simp [intOf]; omega
        · have hjn : j = l1 := by omega
          have h0 := E3.out trivial (fun k X Y hX hY => HE.out k X Y (by have := (List.getElem?_eq_some_iff.1 hX).1; have := HL1.out; omega) hX hY)
          subst h0
          go_wp2_with fail
          go_ret
          exact ⟨rfl, BW.out.trans HB.out⟩
  · rcases hz with ⟨rfl, rfl⟩ | hz
    · exact absurd rfl hll
    · have hll' : ((l1 : Int) == l2) = false := by simpa using (by omega : ¬ (l1 : Int) = l2)
      go_wp2_with fail
      refine Calls.mono (by exact N1.out _) ?_
      rintro e w2 ⟨rfl, hb⟩
      have Q1' := Lib.hid ((hb.block _ (lt_of_block Q1.out)).trans Q1.out)
      have Q2' := Lib.hid ((hb.block _ (lt_of_block Q2.out)).trans Q2.out)
      have BW' := Lib.hid (BW.out.trans (ButAt.of_below hb))
      have HW1' := Lib.hid (HW1.out.later hb HW1.out.lt)
      clear hb a0 a1 a2 a3 a4 a5 a6 d0 d1 d2 d3 d4 d5 d6 v0 v1 v2 Q1 Q2 BW HW1 N1 hsz
      obtain ⟨a0, a1, a2, a3, a4, a5, a6⟩ := seven Q1'.out
      obtain ⟨d0, d1, d2, d3, d4, d5, d6⟩ := seven Q2'.out
      go_wp2_with fail
      refine Calls.mono (by exact N2.out _) ?_
      rintro e w3 ⟨rfl, hb⟩
      have Q1 := Lib.hid ((hb.block _ (lt_of_block Q1'.out)).trans Q1'.out)
      have Q2 := Lib.hid ((hb.block _ (lt_of_block Q2'.out)).trans Q2'.out)
      have BW := Lib.hid (BW'.out.trans (ButAt.of_below hb))
      have HW1 := Lib.hid (HW1'.out.later hb HW1'.out.lt)
      clear hb a0 a1 a2 a3 a4 a5 a6 d0 d1 d2 d3 d4 d5 d6 Q1' Q2' BW' HW1' N2
      obtain ⟨a0, a1, a2, a3, a4, a5, a6⟩ := seven Q1.out
      obtain ⟨d0, d1, d2, d3, d4, d5, d6⟩ := seven Q2.out
      have hr := E1.out hll
      subst hr
      go_wp2_with fail
      go_ret
      exact ⟨rfl, BW.out⟩
end Go.Proofs.Ythmogfjmngbamaa

