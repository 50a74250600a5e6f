/-
  'spec.CuOf' walked at lists.
-/
import Derived.Test.YthmogfjmngbamaaLinv
namespace Go.Proofs.Ythmogfjmngbamaa
open Go.RowKit
set_option linter.unusedSimpArgs false
set_option linter.unusedVariables false

theorem dv_oneCell (d : Dv) : ∀ u ∈ d.cells, u.oneCell' = true := by
  intro u hu
  simp only [Dv.cells, List.mem_cons, List.not_mem_nil, or_false] at hu
  rcases hu with rfl | rfl | rfl | rfl | rfl | rfl | rfl | rfl <;> rfl
theorem add_none (g j : Nat) : (⟨g, 0, none⟩ : Addr).add j = ⟨g, j, none⟩ := by unfold Addr.add; split <;> simp_all

/-- The item of a value in a later world. -/
theorem item_box {w w' : World} {x y : SV} {i : Nat} (hx : SV.In w x) (hb : Below w.heap.size w w') (hy : x.items[i]? = some y) : ∃ b o, x.ip = some ⟨b, o, none⟩ ∧ (∀ j u, y.cells[j]? = some u → w'.cell? ⟨b, o + i * 7 + j, none⟩ = some u) ∧ SV.In w' y := by
  have h := SV.in_item (SV.in_later hb _ hx) hy
  obtain ⟨b, o, h1, h2⟩ := h.1
  exact ⟨b, o, h1, h2, h.2⟩

set_option maxHeartbeats 1000000 in
set_option maxRecDepth 100000 in
theorem cuOf_list (x : SV) (hk : x.kind = 5) (hky : x.keys = []) (hp : x.parts ≤ 200) (w0 w : World) (hx : SV.In w0 x) (hb0 : Below w0.heap.size w0 w)
    (IH : ∀ (i : Nat) (y : SV), x.items[i]? = some y → ∀ w', Below w0.heap.size w0 w' → Calls Try.prog 16 #[y.val] w' (GivesDoor y w')) : Calls Try.prog 16 #[x.val] w (GivesDoor x w) := by
  have HIH := Lib.hid IH
  have HX := Lib.hid hx
  have HB0 := Lib.hid hb0
  have hln := SV.items_parts x
  clear IH hx hb0
  generalize hxx : x = X at *
  cases x with
  | mk k n f t b ip ic items kp kc keys =>
  have e1 : X.kind = k := by rw [← hxx]; rfl
  have e2 : X.keys = keys := by rw [← hxx]; rfl
  have e3 : X.items = items := by rw [← hxx]; rfl
  have vx : X.val = .agg #[.int .i64 k, .int .i64 n, .float .f64 f, .string t, .bool b, .slice ip items.length ic, .slice kp keys.length kc] := by rw [← hxx]; rfl
  have cx : X.cells = [.int .i64 k, .int .i64 n, .float .f64 f, .string t, .bool b, .slice ip items.length ic, .slice kp keys.length kc] := by rw [← hxx]; rfl
  have e4 : X.ip = ip := by rw [← hxx]; rfl
  have hic : items.length ≤ ic ∧ ic ≤ 9223372036854775807 := by have := (SV.in_flat HX.out).items; rw [← hxx] at this; exact this
  have hkx : X.kind = 5 := hk
  rw [vx]
  rw [e1] at hk
  rw [e2] at hky
  rw [e3] at hln
  have hln' : items.length ≤ 200 := by omega
  subst hk hky
  clear vx hxx hln hp e1 e2
  simp only [List.length_nil] at cx ⊢
  go_enter Try.func16, Try.ntmps16
  go_wp2_with fail
  obtain ⟨h0, h1, h2, hsz, hbw⟩ := three_blocks (Below.refl _ (((w.alloc (.cells #[.int .i64 5, .int .i64 n, .float .f64 f, .string t, .bool b, .slice ip items.length ic, .slice kp 0 kc] 30)).alloc (.cells #[.int .i64 0, .int .i64 0, .int .u64 0, .float .f64 0, .string ⟨#[]⟩, .bool false, .slice none 0 0, .slice none 0 0] 35)).alloc (.cells #[.int .i64 15, .int .i64 0, .int .u64 0, .float .f64 0, .string ⟨#[]⟩, .bool false, .slice none 0 0, .slice none 0 0] 35)))
  have L0 : Hid (LInv X w 15 (.slice none 0 0) (.slice none 0 0) 0 0 (fun _ => Dv.plain X) [] (((w.alloc (.cells #[.int .i64 5, .int .i64 n, .float .f64 f, .string t, .bool b, .slice ip items.length ic, .slice kp 0 kc] 30)).alloc (.cells #[.int .i64 0, .int .i64 0, .int .u64 0, .float .f64 0, .string ⟨#[]⟩, .bool false, .slice none 0 0, .slice none 0 0] 35)).alloc (.cells #[.int .i64 15, .int .i64 0, .int .u64 0, .float .f64 0, .string ⟨#[]⟩, .bool false, .slice none 0 0, .slice none 0 0] 35))) :=
    ⟨hbw, by rw [cx]; exact h0, h1, h2, World.ownsRow_nil _ _ _ _, RowOf.nil _ _, ⟨[], by rw [hkx]; exact World.ownsRow_nil _ _ _ _, by rw [hkx]; exact RowOf.nil _ _⟩, .inl rfl, fun i y h => by omega⟩
  clear h0 h1 h2 hsz hbw
  go_loopw [38] (fun i wr => ∃ j : Nat, j ≤ items.length ∧ i = .int .i64 j ∧ Hid (∃ lp lc D xs, LInv X w 15 (.slice none 0 0) (.slice lp j lc) 0 j D xs wr)) (fun i _ => items.length - (intOf i).toNat)
  case atStart => exact ⟨0, Nat.zero_le _, rfl, ⟨none, 0, _, _, L0.out⟩⟩
  case round =>
    obtain ⟨j, hj, rfl, hR⟩ := hrel
    obtain ⟨lp, lc, D, xs, hL⟩ := hR.out
    have LR := Lib.hid hL
    have hrs := hL.size
    clear hR hL L0
    by_cases hlt : j < items.length
    · have HY := Lib.hid (show X.items[j]? = some items[j] by rw [e3]; exact List.getElem?_eq_getElem hlt)
      have hbr : Below w0.heap.size w0 _ := HB0.out.trans (LR.out.below.mono HB0.out.size)
      obtain ⟨bi, oi, hip, hcs, -⟩ := item_box HX.out hbr HY.out
      rw [e4] at hip
      subst hip
      have HCALL0 := Lib.hid (HIH.out j _ HY.out)
      generalize hYY : items[j] = Y at *
      have hbw0 := Lib.hid hbr
      clear hbr
      obtain ⟨k2, n2, f2, t2, b2, ip2, ic2, items2, kp2, kc2, keys2, cy, vy⟩ : ∃ k2 n2 f2 t2 b2 ip2 ic2 items2 kp2 kc2 keys2, Y.cells = [.int .i64 k2, .int .i64 n2, .float .f64 f2, .string t2, .bool b2, .slice ip2 (List.length (α := SV) items2) ic2, .slice kp2 (List.length (α := ByteArray) keys2) kc2] ∧
          Y.val = .agg #[.int .i64 k2, .int .i64 n2, .float .f64 f2, .string t2, .bool b2, .slice ip2 (List.length (α := SV) items2) ic2, .slice kp2 (List.length (α := ByteArray) keys2) kc2] := ⟨_, _, _, _, _, _, _, _, _, _, _, rfl, rfl⟩
      rw [cy] at hcs
      have c0 := hcs 0 _ rfl
      have c1 := hcs 1 _ rfl
      have c2 := hcs 2 _ rfl
      have c3 := hcs 3 _ rfl
      have c4 := hcs 4 _ rfl
      have c5 := hcs 5 _ rfl
      have c6 := hcs 6 _ rfl
      clear hcs hYY
      simp only [Nat.add_zero] at c0
      go_wp2_with fail
      clear c0 c1 c2 c3 c4 c5 c6
      have LA := Lib.hid (LR.out.later ((Below.refl _ _).alloc (Nat.le_refl _) (.cells #[.int .i64 k2, .int .i64 n2, .float .f64 f2, .string t2, .bool b2, .slice ip2 items2.length ic2, .slice kp2 keys2.length kc2] 30)))
      have BX := Lib.hid (heap_alloc_new wr (.cells #[.int .i64 k2, .int .i64 n2, .float .f64 f2, .string t2, .bool b2, .slice ip2 items2.length ic2, .slice kp2 keys2.length kc2] 30))
      have hbx : wr.heap.size < (wr.alloc (.cells #[.int .i64 k2, .int .i64 n2, .float .f64 f2, .string t2, .bool b2, .slice ip2 items2.length ic2, .slice kp2 keys2.length kc2] 30)).heap.size := by simp
      have HBA := Lib.hid (hbw0.out.trans ((Below.refl _ _).alloc hbw0.out.size (.cells #[.int .i64 k2, .int .i64 n2, .float .f64 f2, .string t2, .bool b2, .slice ip2 items2.length ic2, .slice kp2 keys2.length kc2] 30)))
      have hlvlt : ∀ g, (Value.slice lp j lc).ownBlock = some g → g < (wr.alloc (.cells #[.int .i64 k2, .int .i64 n2, .float .f64 f2, .string t2, .bool b2, .slice ip2 items2.length ic2, .slice kp2 keys2.length kc2] 30)).heap.size := fun g hg => (own_lt LA.out.row hg).2
      have hkvlt : ∀ g, (Value.slice none 0 0).ownBlock = some g → g < (wr.alloc (.cells #[.int .i64 k2, .int .i64 n2, .float .f64 f2, .string t2, .bool b2, .slice ip2 items2.length ic2, .slice kp2 keys2.length kc2] 30)).heap.size := fun g hg => by cases hg
      obtain ⟨wa, hwa⟩ : ∃ wa, wa = (wr.alloc (.cells #[.int .i64 k2, .int .i64 n2, .float .f64 f2, .string t2, .bool b2, .slice ip2 items2.length ic2, .slice kp2 keys2.length kc2] 30)) := ⟨_, rfl⟩
      rw [← hwa] at LA BX hbx HBA hlvlt hkvlt ⊢
      have has : w.heap.size + 3 ≤ wa.heap.size := by omega
      clear hwa
      have HCALL : Hid (∀ w5, Below wa.heap.size wa w5 → Calls Try.prog 16 #[.agg #[.int .i64 k2, .int .i64 n2, .float .f64 f2, .string t2, .bool b2, .slice ip2 items2.length ic2, .slice kp2 keys2.length kc2]] w5 (GivesDoor Y w5)) := fun w5 h5 => by
        have := HCALL0.out w5 (HBA.out.trans (h5.mono HBA.out.size))
        rwa [vy] at this
      clear HCALL0 hbw0 HBA LR hrs vy cy
      have H1 := Lib.hid hlvlt
      have H2 := Lib.hid hkvlt
      clear hlvlt hkvlt
      refine wp_region_chain [0, 1, 2, 3, 4] [0] [5, 6, 7] [some 43, some 44, some 45, some 46, some 47] _
        (fun p => match p with | 4 => [4, 3] | p => [p])
        (fun p u w' => match p with
          | 0 => u 0 = .pointer (some ⟨w.heap.size + 1 + 1, 7, none⟩)
          | 1 => u 1 = .slice lp j lc
          | 2 => u 2 = .agg #[.int .i64 k2, .int .i64 n2, .float .f64 f2, .string t2, .bool b2, .slice ip2 items2.length ic2, .slice kp2 keys2.length kc2]
          | 3 => ∃ d : Dv, u 3 = d.val ∧ DoorOf w' (betw wa.heap.size w'.heap.size) Y d
          | 4 => ∃ (d : Dv) (g : Nat), u 3 = d.val ∧ u 4 = .slice (some ⟨g, 0, none⟩) 1 1 ∧ wa.heap.size ≤ g ∧ w'.heap[g]? = some (.cells d.cells.toArray 35 (0, 0))
          | _ => True)
        (by kernel_rfl) (by kernel_rfl) rfl rfl ?mono ?same ?take ?step ?tail
      case mono =>
        intro p u w' w'' hp hF hb
        match p, hF with
        | 0, hF => exact hF
        | 1, hF => exact hF
        | 2, hF => exact hF
        | 3, ⟨d, h1, h2⟩ => exact ⟨d, h1, h2.keep (fun b hB => hb.block b hB.2) (fun b hB => ⟨hB.1, Nat.lt_of_lt_of_le hB.2 hb.size⟩)⟩
        | 4, ⟨d, g, h1, h2, h3, h4⟩ => exact ⟨d, g, h1, h2, h3, (hb.block g (lt_of_block h4)).trans h4⟩
        | p + 5, _ => exact trivial
      case same =>
        intro p u u' w' hp hd hF
        match p, hd, hF with
        | 0, hd, hF => rw [← hd 0 (by simp)]; exact hF
        | 1, hd, hF => rw [← hd 1 (by simp)]; exact hF
        | 2, hd, hF => rw [← hd 2 (by simp)]; exact hF
        | 3, hd, hF => rw [← hd 3 (by simp)]; exact hF
        | 4, hd, hF => rw [← hd 4 (by simp), ← hd 3 (by simp)]; exact hF
        | p + 5, _, _ => exact trivial
      case take =>
        intro p i o hp ht ho u w5 hb hF
        have hpc : p = 0 ∨ p = 1 ∨ p = 2 ∨ p = 3 ∨ p = 4 := by
          have : p < 5 := (List.getElem?_eq_some_iff.1 hp).1
          omega
        rcases hpc with rfl | rfl | rfl | rfl | rfl
        all_goals
          simp only [List.getElem?_cons_zero, List.getElem?_cons_succ, Option.some.injEq] at hp
          subst hp
        case inr.inl => simp at ht
        case inr.inr.inl => simp at ht
        case inr.inr.inr.inl => simp at ht
        case inr.inr.inr.inr => simp at ht
        all_goals
          simp only [List.getElem?_toArray, List.getElem?_cons_zero, List.getElem?_cons_succ, Option.some.injEq] at ho
          subst ho
          refine ⟨.pointer (some ⟨w.heap.size + 1 + 1, 7, none⟩), .inl ⟨by rfl, fun w => ?_⟩, by simp [upd]⟩
          simp only [putAll, Act.put, List.setIfInBounds_toArray, List.set_cons_succ, List.set_cons_zero, Nat.zero_add, Nat.reduceAdd]
          go_simp
      case step =>
        intro p i o hp ht ho u w5 hb hF K hK Q'
        have hpc : p = 0 ∨ p = 1 ∨ p = 2 ∨ p = 3 ∨ p = 4 := by
          have : p < 5 := (List.getElem?_eq_some_iff.1 hp).1
          omega
        rcases hpc with rfl | rfl | rfl | rfl | rfl
        all_goals
          simp only [List.getElem?_cons_zero, List.getElem?_cons_succ, Option.some.injEq] at hp
          subst hp
          simp only [List.getElem?_toArray, List.getElem?_cons_zero, List.getElem?_cons_succ, Option.some.injEq] at ho
          subst ho
          have HF := Lib.hid hF
          clear hF
          simp only [putAll, Act.put, List.setIfInBounds_toArray, List.set_cons_succ, List.set_cons_zero, Nat.zero_add, Nat.reduceAdd] at hK ⊢
        · simp at ht
        · have f0 : u 0 = _ := HF.out 0 0 rfl (by kernel_rfl)
          rw [f0] at hK ⊢
          obtain ⟨o0, o1, o2, o3, o4, o5, o6, o7⟩ := eight ((LA.out.later hb).out)
          have HK := Lib.hid hK
          clear hK f0
          go_simp
          exact HK.out _ _ _ rfl (upd_at _ _ _) (Below.refl _ _)
        · obtain ⟨b0, b1, b2, b3, b4, b5, b6⟩ := seven ((hb.block _ hbx).trans BX.out)
          have HK := Lib.hid hK
          clear hK
          go_simp
          exact HK.out _ _ _ rfl (upd_at _ _ _) (Below.refl _ _)
        · have f2 : u 2 = _ := HF.out 2 2 rfl (by kernel_rfl)
          rw [f2] at hK ⊢
          have HC := Lib.hid (HCALL.out w5 hb)
          have HK := Lib.hid hK
          clear hK f2
          go_simp
          refine Calls.mono (by exact HC.out) ?_
          rintro e w6 ⟨d, rfl, hb6, hd⟩
          exact HK.out _ _ _ rfl ⟨d, upd_at _ _ _, hd.keep (fun _ _ => rfl) (fun b hB => ⟨Nat.le_trans hb.size hB.1, hB.2⟩)⟩ hb6
        · obtain ⟨d, f3, hd⟩ := HF.out 3 3 rfl (by kernel_rfl)
          have f3' := f3
          rw [f3] at hK ⊢
          have HK := Lib.hid hK
          have HU := Lib.hid f3'
          clear hK f3 f3'
          unfold Dv.val
          go_simp
          refine HK.out _ _ _ ?_ ⟨d, w5.heap.size, by rw [upd_far _ _ _ _ (by omega)]; exact HU.out, upd_at _ _ _, hb.size, heap_alloc_new _ _⟩ ((Below.refl _ _).alloc (Nat.le_refl _) _)
          rfl
      case tail =>
        intro u w5 hb hF K HKK
        have f0 : u 0 = _ := hF 0 (by decide)
        have f1 : u 1 = _ := hF 1 (by decide)
        have f2 : u 2 = _ := hF 2 (by decide)
        obtain ⟨d, f3, hd⟩ := hF 3 (by decide)
        obtain ⟨d', g, f3', f4, hg1, hg2⟩ := hF 4 (by decide)
        have hdd : d' = d := Dv.val_inj (f3'.symm.trans f3)
        subst hdd
        clear f3' hF
        have L5 := Lib.hid (LA.out.later hb)
        have HD := Lib.hid hd
        have HG2 := Lib.hid hg2
        have hs5 : wa.heap.size ≤ w5.heap.size := hb.size
        have hsw := L5.out.size
        clear hb hd hg2
        simp only [putAll, Act.put, List.setIfInBounds_toArray, List.set_cons_succ, List.set_cons_zero, Nat.zero_add, Nat.reduceAdd, List.filterMap_cons, List.filterMap_nil, List.getElem?_toArray, List.getElem?_cons_zero, List.getElem?_cons_succ, f0, f1, f2, f3, f4]
        clear f0 f1 f2 f3 f4
        obtain ⟨i0, hi, hz0, hz1, hz2⟩ := info_parts info35
        refine wpList_append_block w5 rfl (.tmp 44) (.tmp 47) 33 rfl (w.heap.size + 3) 35 i0 _ 8 104 Try.underlying33 hi hz0 hz1 hz2 rfl (by decide) (.slice lp j lc) j xs rfl L5.out.row ⟨g, 0, none⟩ 1 1 d'.cells rfl (by decide) rfl
          (fun m u hm => by rw [add_none]; exact cell_at_block HG2.out m u (by simpa using hm)) (dv_oneCell d') (by unfold maxLen; omega) (by omega) (by omega) ?_
        intro v' w6 hown hgrow hv hvn
        have hd' : DoorOf w5 (betw wa.heap.size w5.heap.size) Y d' := HD.out
        have LN := Lib.hid (LInv.next L5.out HY.out (lo := wa.heap.size) (by omega) H1.out H2.out hd' hown hgrow hv)
        have hsl : ∃ p' c', v' = .slice p' (j + 1) c' := by
          rcases hown.2 with ⟨rfl, h⟩ | ⟨g', cap, cur, rfl, _⟩
          · omega
          · exact ⟨_, _, rfl⟩
        obtain ⟨p', c', rfl⟩ := hsl
        have hne : ∀ k, k < w.heap.size + 3 → some k ≠ (Value.slice lp j lc).ownBlock := fun k hk e => by have := (own_lt L5.out.row e.symm).1; omega
        have O6 := (hgrow.block _ (lt_of_block L5.out.out) (hne _ (by omega))).trans L5.out.out
        have X6 := (hgrow.block _ (lt_of_block L5.out.box) (hne _ (by omega))).trans L5.out.box
        rw [cx] at X6
        have q7 := cell_at_block O6 7 _ rfl
        have z7 := free_block O6 7
        have x0 := cell_at_block X6 0 _ rfl
        clear hown hgrow hv hvn hd' HD HG2 O6 X6 hne
        go_wp2_with fail
        refine HKK.out _ _ ?_
        go_wp2_with fail
        go_roundw
        case rel => exact ⟨j + 1, by omega, by go_num, ⟨p', c', _, _, LN.out⟩⟩
        case measure => simp [intOf]; omega
    · have hjn : j = items.length := by omega
      subst hjn
      have LE := Lib.hid (LR.out)
      obtain ⟨o0, o1, o2, o3, o4, o5, o6, o7⟩ := eight LE.out.out
      obtain ⟨r0, r1, r2, r3, r4, r5, r6, r7⟩ := eight LE.out.res
      have zr := free_block LE.out.res
      clear LR
      go_wp2_with fail
      have LE2 : LInv X w 15 (.slice none 0 0) (.slice lp items.length lc) 0 X.items.length D xs wr := by rw [e3]; exact LE.out
      obtain ⟨p, c, hv, hdoor⟩ := LE2.list_done hkx
      rw [e3] at hv hdoor
      cases hv
      have hb := LE.out.below
      refine bodyPost_ret (by simp [results, Try.results16, go_sem, r0, r1, r2, r3, r4, r5, r6, r7, Dv.val, Dv.list]) rfl ⟨Dv.list lp items.length lc, rfl, ?_, ?_⟩
      · repeat (refine Below.setCell ?_ (by simp) _)
        exact hb
      · refine hdoor.keep (fun b hB => ?_) (fun b hB => ⟨by have := hB.1; omega, by simp only [size_setCell]; exact hB.2⟩)
        have hne : b ≠ w.heap.size + 1 := by have := hB.1; omega
        simp only [setCell_block _ ⟨w.heap.size + 1, _, none⟩ _ hne]
end Go.Proofs.Ythmogfjmngbamaa
