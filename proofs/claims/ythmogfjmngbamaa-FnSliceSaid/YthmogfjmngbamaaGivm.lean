/-
  'impl.given2' walked at maps.
-/
import Derived.Test.YthmogfjmngbamaaMinv
import Derived.Test.YthmogfjmngbamaaDrawb
namespace Go.Proofs.Ythmogfjmngbamaa
open Go.RowKit
set_option linter.unusedSimpArgs false
set_option linter.unusedVariables false

/-- A key as a plain value. -/
def SV.ofKey (t : ByteArray) : SV := .mk 3 0 0 t false none 0 [] none 0 []
theorem SV.ofKey_kind (t : ByteArray) : (SV.ofKey t).kind = 3 := rfl
theorem SV.ofKey_text (t : ByteArray) : (SV.ofKey t).text = t := rfl

theorem fin_zero : Fin 0 := by unfold Fin; decide

set_option maxHeartbeats 1000000 in
set_option maxRecDepth 100000 in
theorem given2_map (x : SV) (hk : x.kind = 6) (hkl : x.keys.length = x.items.length) (hdf : Differ x.keys) (hks : ∀ (i : Nat) (s : ByteArray), x.keys[i]? = some s → s.size ≤ 100) (w : World) (B : Nat → Prop) (q : Nat) (hl : Lies w B q) (kp : Option Addr) (kc : Nat) (hkc : x.keys.length ≤ kc ∧ kc ≤ 9223372036854775807) (hkey : ∀ (i : Nat) (s : ByteArray), x.keys[i]? = some s → cellsIn w B kp (i * 8) (Dv.key s).cells) (p : Option Addr) (c : Nat) (D : Nat → Dv) (hc : x.items.length ≤ c ∧ c ≤ 9223372036854775807)
    (hcell : ∀ (i : Nat) (y : SV), x.items[i]? = some y → cellsIn w B p (i * 8) (D i).cells) (hsub : ∀ (i : Nat) (y : SV), x.items[i]? = some y → DoorOf w B y (D i))
    (m lv : Int) (hm : x.parts ≤ m) (hm2 : m ≤ 100000) (hp : x.parts ≤ 200) (hlv : 1 ≤ lv) (hlv2 : lv ≤ 1000) (hcnt : Counter w q m)
    (IH : ∀ (i : Nat) (y : SV), x.items[i]? = some y → ∀ (w' : World) (m' : Int) (d : Dv), Lies w' B q → DoorOf w' B y d → y.parts ≤ m' → m' ≤ 100000 → Counter w' q m' → Calls Try.prog 98 #[d.val, .int .i64 (lv - 1), .pointer (some ⟨q, 0, none⟩)] w' (GivesAny y m' q w')) :
    Calls Try.prog 98 #[(Dv.map kp x.keys.length kc p x.items.length c).val, .int .i64 lv, .pointer (some ⟨q, 0, none⟩)] w (GivesAny x m q w) := by
  have HIH := Lib.hid IH
  have HL := Lib.hid hl
  have HC := Lib.hid hcell
  have HS := Lib.hid hsub
  have hln := SV.items_parts x
  have hln' : x.items.length ≤ 200 := by omega
  have hlnc : (x.items.length : Int) ≤ c := by omega
  have hm0 : 1 ≤ m := by omega
  have hm1 : 0 ≤ m - 1 := by omega
  have hqw : q < w.heap.size := hcnt.lt
  have HM := Lib.hid hm
  have HK := Lib.hid hk
  have hc2 := hc.2
  have c0 : (w.alloc (.cells #[Value.int .i64 21, .int .i64 0, .int .u64 0, .float .f64 0, .string ⟨#[]⟩, .bool false, .slice kp x.keys.length kc, .slice p x.items.length c] 35)).cell? ⟨q, 0, none⟩ = some (.int .i64 m) := by
    rw [World.cell?_alloc_past _ _ _ hcnt.lt]; exact cell_of_one hcnt
  have f0 : (w.alloc (.cells #[Value.int .i64 21, .int .i64 0, .int .u64 0, .float .f64 0, .string ⟨#[]⟩, .bool false, .slice kp x.keys.length kc, .slice p x.items.length c] 35)).frozen? ⟨q, 0, none⟩ = false := by
    rw [World.frozen?_alloc_old _ _ _ (by have := hcnt.lt; simp; omega)]; exact free_of_one hcnt
  have hq : ¬ q = w.heap.size := by omega
  have hq' : ¬ w.heap.size = q := by omega
  have G0 : Hid (GInv x (Dv.map kp x.keys.length kc p x.items.length c) w q m (.slice none 0 0) 0 (fun _ => .nilIface) [] ((w.alloc (.cells #[Value.int .i64 21, .int .i64 0, .int .u64 0, .float .f64 0, .string ⟨#[]⟩, .bool false, .slice kp x.keys.length kc, .slice p x.items.length c] 35)).setCell ⟨q, 0, none⟩ (.int .i64 (m - 1)))) :=
    ⟨(ButAt.alloc _ _).trans (ButAt.setCell _ ⟨q, 0, none⟩ rfl _), by
      have := one_setCell (v := .int .i64 m) (u := .int .i64 (m - 1)) (Counter.later hcnt ((Below.refl _ _).alloc (Nat.le_refl _) (.cells #[Value.int .i64 21, .int .i64 0, .int .u64 0, .float .f64 0, .string ⟨#[]⟩, .bool false, .slice kp x.keys.length kc, .slice p x.items.length c] 35)) hcnt.lt)
      have e : m - 1 - ((SV.partsAll (x.items.take 0) : Nat) : Int) = m - 1 := by simp [SV.partsAll]
      rw [e]
      exact this, by
      rw [setCell_block _ _ _ hq']; exact heap_alloc_new _ _, World.ownsRow_nil _ _ _ _, RowOf.nil _ _, fun i y h => by omega⟩
  have HQW := Lib.hid hqw
  have HKL := Lib.hid hkl
  have HDF := Lib.hid hdf
  have HKS := Lib.hid hks
  have HKEY := Lib.hid hkey
  have hkl1 : x.keys.length ≤ x.items.length := by omega
  have hkl2 : x.items.length ≤ x.keys.length := by omega
  have hkc2 := hkc.2
  have hkn : (x.keys.length : Int) ≤ kc := by omega
  clear hcnt hl hcell hsub IH hm hk hc hqw hkl hdf hks hkey hkc
  simp only [Dv.val, Dv.map]
  have hmm := @run_makeMap Try.prog
  go_enter Try.func98, Try.ntmps98
  go_wp2_with fail
  clear c0 f0
  obtain ⟨W1, hW1⟩ : ∃ W1, W1 = ((w.alloc (.cells #[Value.int .i64 21, .int .i64 0, .int .u64 0, .float .f64 0, .string ⟨#[]⟩, .bool false, .slice kp x.keys.length kc, .slice p x.items.length c] 35)).setCell ⟨q, 0, none⟩ (.int .i64 (m - 1))) := ⟨_, rfl⟩
  rw [← hW1] at G0 ⊢
  clear hW1
  go_loopw [8, 53] (fun l i wr => ∃ (j : Nat) (lp : Option Addr) (lc : Nat), j ≤ x.items.length ∧ i = .int .i64 j ∧ l = .slice lp j lc ∧ Hid ((j = 0 → lp = none ∧ lc = 0) ∧ ∃ A xs, GInv x (Dv.map kp x.keys.length kc p x.items.length c) w q m (.slice lp j lc) j A xs wr)) (fun _ i _ => x.items.length - (intOf i).toNat)
  case atStart => exact ⟨0, none, 0, Nat.zero_le _, rfl, rfl, ⟨fun _ => ⟨rfl, rfl⟩, _, _, G0.out⟩⟩
  case round =>
    obtain ⟨j, lp, lc, hj, rfl, rfl, hR⟩ := hrel
    obtain ⟨hz, A, xs, hG⟩ := hR.out
    have HZ := Lib.hid hz
    clear hz
    have GR := Lib.hid hG
    have hrs := hG.size
    clear hR hG G0
    by_cases hlt : j < x.items.length
    · have HY := Lib.hid (show x.items[j]? = some x.items[j] from List.getElem?_eq_getElem hlt)
      have hlr := HL.out.later GR.out.but
      have hcl := (HC.out j _ HY.out).but HL.out GR.out.but
      have HD := Lib.hid ((HS.out j _ HY.out).but HL.out GR.out.but)
      obtain ⟨bi, oi, hip, hBi, hcs⟩ := hcl
      subst hip
      have c0 := hcs 0 _ rfl
      have c1 := hcs 1 _ rfl
      have c2 := hcs 2 _ rfl
      have c3 := hcs 3 _ rfl
      have c4 := hcs 4 _ rfl
      have c5 := hcs 5 _ rfl
      have c6 := hcs 6 _ rfl
      have c7 := hcs 7 _ rfl
      clear hcs
      simp only [Nat.add_zero] at c0
      generalize hYY : x.items[j] = Y at *
      have hyp := SV.parts_item HY.out
      have hsum : SV.partsAll (x.items.take j) + Y.parts ≤ SV.partsAll x.items := by
        rw [← SV.partsAll_take _ _ _ HY.out]
        exact SV.partsAll_le _ _
      have hxp := SV.parts_eq x
      have HLR := Lib.hid hlr
      have hmm : Y.parts ≤ m - 1 - SV.partsAll (x.items.take j) := by have := HM.out; omega
      have HMM := Lib.hid hmm
      have HBW : Hid (Below wr.heap.size wr (wr.alloc (.cells (D j).cells.toArray 35))) := (Below.refl _ _).alloc (Nat.le_refl _) _
      have HCALL : Hid (Calls Try.prog 98 #[(D j).val, .int .i64 (lv - 1), .pointer (some ⟨q, 0, none⟩)] (wr.alloc (.cells (D j).cells.toArray 35)) (GivesAny Y (m - 1 - SV.partsAll (x.items.take j)) q (wr.alloc (.cells (D j).cells.toArray 35)))) :=
        HIH.out j Y HY.out _ _ (D j) (HLR.out.later (ButAt.of_below HBW.out)) (HD.out.but HLR.out (ButAt.of_below HBW.out)) HMM.out (by omega) (Counter.later GR.out.cnt HBW.out GR.out.q_lt)
      unfold Dv.val Dv.cells at HCALL
      clear hlr hBi hYY hyp hxp hsum hmm HMM
      go_wp2_with fail
      refine Calls.mono (by exact HCALL.out) ?_
      rintro e w5 ⟨a, rfl, hb5, hc5, ha5⟩
      have HB5 := Lib.hid hb5
      have HC5 := Lib.hid hc5
      have HA5 := Lib.hid ha5
      clear hb5 hc5 ha5 c0 c1 c2 c3 c4 c5 c6 c7 HCALL
      have HCA := Lib.hid HA5.out.iface
      obtain ⟨i0, hi, hz0, hz1, hz2⟩ := info_parts info20
      have HI := Lib.hid (And.intro hi (And.intro hz0 (And.intro hz1 hz2)))
      clear hi hz0 hz1 hz2
      have HN : Hid (∀ (m : Nat) (u : Value), [a][m]? = some u → (w5.alloc (.cells #[a] 20)).cell? ((⟨w5.heap.size, 0, none⟩ : Addr).add m) = some u) := fun m u hm => by
        rw [add_none]
        exact cell_at_block (heap_alloc_new w5 (.cells #[a] 20)) m u (by simpa using hm)
      have HO1 : Hid (∀ u ∈ [a], u.oneCell' = true) := fun u hu => by
        rw [List.mem_singleton.1 hu]
        exact HA5.out.oneCell
      have H63 : Hid (j + 1 ≤ maxLen) := by show _ ≤ _; unfold maxLen; omega
      have HBY : Hid ((j + 1) * 16 ≤ 140737488355328) := by show _ ≤ _; omega
      have HBS : Hid (w.heap.size + 1 ≤ (w5.alloc (.cells #[a] 20)).heap.size) := by
        show _ ≤ _
        have h5 := HB5.out.size
        simp only [World.size_alloc] at h5 ⊢
        omega
      have HOWN : Hid ((w5.alloc (.cells #[a] 20)).ownsRow (w.heap.size + 1) 20 1 (.slice lp j lc) j xs) :=
        (ownsRow_but (ownsRow_later GR.out.row HBW.out) HB5.out (by have := HQW.out; omega)).alloc _
      rcases HCA.out with rfl | ⟨ta, va, rfl⟩
      all_goals
        clear HCA
        go_wp2_with (at_builtin; refine wpList_append_block _ rfl _ _ 87 rfl (w.heap.size + 1) 20 i0 .nilIface 1 16 Try.underlying87 HI.out.1 HI.out.2.1 HI.out.2.2.1 HI.out.2.2.2 rfl (by decide) _ j xs rfl HOWN.out ⟨w5.heap.size, 0, none⟩ 1 1 _ rfl (by decide) rfl HN.out HO1.out H63.out HBY.out HBS.out ?_; intro v' w6 hown hgrow hv hvn)
      all_goals
        have hsl : ∃ p' c', v' = .slice p' (j + 1) c' := by
          rcases hown.2 with ⟨rfl, h⟩ | ⟨g', cap, cur, rfl, _⟩
          · omega
          · exact ⟨_, _, rfl⟩
        obtain ⟨p', c', rfl⟩ := hsl
        go_roundw
        case rel => exact ⟨j + 1, p', c', by omega, by go_num, rfl, ⟨fun h => by omega, _, _, GInv.next HQW.out GR.out HY.out HBW.out HB5.out HC5.out HA5.out ((Below.refl _ _).alloc (Nat.le_refl _) _) hown hgrow hv⟩⟩
        case measure => simp [intOf]; omega
    · have hjn : j = x.items.length := by omega
      subst hjn
      obtain ⟨wo, hwo⟩ : ∃ wo : World, wo = wr := ⟨_, rfl⟩
      subst hwo
      have hbx : wo.heap[w.heap.size]? = some (.cells #[.int .i64 21, .int .i64 0, .int .u64 0, .float .f64 0, .string ⟨#[]⟩, .bool false, .slice kp x.keys.length kc, .slice p x.items.length c] 35 (0, 0)) := GR.out.box
      obtain ⟨k0, k1, k2, k3, k4, k5, k6, k7⟩ := eight hbx
      have e1 : ((x.keys.length : Int) != (x.items.length : Int)) = false := by rw [bne_eq_false_iff_eq]; have := HKL.out; omega
      have e2 : (x.keys.length != x.items.length) = false := by rw [bne_eq_false_iff_eq]; exact HKL.out
      have HBX := Lib.hid hbx
      clear hbx
      have n1 : ¬ w.heap.size = wo.heap.size := by omega
      have n2 : ¬ wo.heap.size = w.heap.size := by omega
      have n3 : ¬ w.heap.size = wo.heap.size + 1 := by omega
      have n4 : ¬ wo.heap.size + 1 = w.heap.size := by omega
      have n5 : ¬ w.heap.size = wo.heap.size + 1 + 1 := by omega
      have n6 : ¬ wo.heap.size + 1 + 1 = w.heap.size := by omega
      have k6m : (((wo.alloc (.map #[] 0)).alloc (.map #[] 0)).alloc (.map #[] 0)).cell? ⟨w.heap.size, 6, none⟩ = some (.slice kp x.keys.length kc) := cell_later ((((Below.refl _ _).alloc (Nat.le_refl _) _).alloc (by simp) _).alloc (by simp; omega) _) k6
      go_wp2_with fail
      clear k0 k1 k2 k3 k4 k5 k6 k7 e1 e2 k6m n1 n2 n3 n4 n5 n6
      have hM0 : Hid ((((wo.alloc (.map #[] 0)).alloc (.map #[] 0)).alloc (.map #[] 0)).heap[wo.heap.size]? = some (.map #[] 0) ∧ (((wo.alloc (.map #[] 0)).alloc (.map #[] 0)).alloc (.map #[] 0)).heap[wo.heap.size + 1]? = some (.map #[] 0) ∧ Below wo.heap.size wo (((wo.alloc (.map #[] 0)).alloc (.map #[] 0)).alloc (.map #[] 0))) := by
        obtain ⟨h0, h1, -, -, hbw⟩ := three_blocks (Below.refl _ (((wo.alloc (.map #[] 0)).alloc (.map #[] 0)).alloc (.map #[] 0)))
        exact ⟨h0, h1, hbw⟩
      obtain ⟨wm, hwm⟩ : ∃ wm, wm = (((wo.alloc (.map #[] 0)).alloc (.map #[] 0)).alloc (.map #[] 0)) := ⟨_, rfl⟩
      rw [← hwm] at hM0 ⊢
      clear hwm
      go_loopw [139] (fun i wr => ∃ j : Nat, j ≤ x.keys.length ∧ i = .int .i64 j ∧ Hid (Below wo.heap.size wo wr ∧ Ents wr wo.heap.size (fun k => .string k) x.keys A j ∧ Ents wr (wo.heap.size + 1) (fun k => .iface 9 (.string k)) x.keys A j)) (fun i _ => x.keys.length - (intOf i).toNat)
      case atStart => exact ⟨0, Nat.zero_le _, rfl, ⟨hM0.out.2.2, Ents.nil _ _ _ _ hM0.out.1, Ents.nil _ _ _ _ hM0.out.2.1⟩⟩
      case round =>
        obtain ⟨j, hj, rfl, hR⟩ := hrel
        obtain ⟨hbn, h103, h104⟩ := hR.out
        have HBN := Lib.hid hbn
        have H103 := Lib.hid h103
        have H104 := Lib.hid h104
        have hwn : wo.heap.size + 1 < wr.heap.size := h104.lt
        clear hR hbn h103 h104 hM0
        by_cases hlt : j < x.keys.length
        · have HJ := Lib.hid (show x.keys[j]? = some x.keys[j] from List.getElem?_eq_getElem hlt)
          have hjc : (j : Int) < (x.items.length : Int) := by omega
          have HLW := Lib.hid (HL.out.later GR.out.but)
          obtain ⟨bk, ok, hkp, hBk, hck⟩ := ((HKEY.out j _ HJ.out).but HL.out GR.out.but).keep (w' := wr) (B' := B) (fun b hB => HBN.out.block b (HLW.out.lt b hB)) (fun _ h => h)
          subst hkp
          have c0 := hck 0 _ rfl
          have c1 := hck 1 _ rfl
          have c2 := hck 2 _ rfl
          have c3 := hck 3 _ rfl
          have c4 := hck 4 _ rfl
          have c5 := hck 5 _ rfl
          have c6 := hck 6 _ rfl
          have c7 := hck 7 _ rfl
          clear hck hBk
          simp only [Nat.add_zero] at c0
          have hsz := HKS.out j _ HJ.out
          generalize x.keys[j] = s at *
          simp only [Dv.key] at c0 c1 c2 c3 c4 c5 c6 c7
          rcases GR.out.row.2 with ⟨-, h0⟩ | ⟨g, cap, cur, hv, hbg, hg, hn, hm', hcs, htake⟩
          · omega
          injection hv with h1 h2 h3
          subst h1 h3
          have hgr : g < wo.heap.size := lt_of_block hg
          have HAJ : Hid (wo.cell? ⟨g, j, none⟩ = some (A j)) := by
            have hx := (GR.out.rows.2 j (by omega)).2 0 (by omega)
            simp only [Nat.mul_one, Nat.add_zero, List.getElem?_cons_zero] at hx
            have := GR.out.row.cells (g := g) rfl j _ hx
            rwa [add_none] at this
          clear h2 hbg hg hn hm' hcs htake
          have hpl : SV.Plain (SV.ofKey s) := ⟨by rw [SV.ofKey_kind]; omega, rfl, rfl, by rw [SV.ofKey_text]; omega, by show Fin 0; exact fin_zero⟩
          have HV : Hid (∀ w, Calls Try.prog 115 #[.agg #[.int .i64 13, .int .i64 0, .int .u64 0, .float .f64 0, .string s, .bool false, .slice none 0 0, .slice none 0 0]] w (Gives (.tuple #[.iface 9 (.string s), .bool true]) w)) := vany_plain (SV.ofKey s) hpl
          clear hpl
          have hzo := zero_order
          go_wp2_with fail
          clear c0 c1 c2 c3 c4 c5 c6 c7
          refine Calls.mono (by exact HV.out _) ?_
          rintro e w2 ⟨rfl, hb2⟩
          have HB2 : Hid (Below wr.heap.size wr w2) := ((Below.refl _ _).alloc (Nat.le_refl _) _).trans (hb2.mono (by simp))
          have hkb := (hb2.block wr.heap.size (by simp)).trans (heap_alloc_new wr _)
          have hs2 : wr.heap.size < w2.heap.size := lt_of_block hkb
          clear hb2
          have E103 := Lib.hid (H103.out.keep (HB2.out.block _ (by omega)))
          obtain ⟨hlk0, w3, hup, h104', ht⟩ := (H104.out.keep (HB2.out.block _ (by omega))).store_any HDF.out HJ.out
          have hlk := hlk0 .nilIface zero20
          have E104 := Lib.hid h104'
          have HT := Lib.hid ht
          have hs3 : w3.heap.size = w2.heap.size := ht.size
          clear hlk0 h104' ht
          have hbw := HBN.out.size
          obtain ⟨k0, k1, k2, k3, k4, k5, k6, k7⟩ := eight hkb
          have b0 : w2.cell? ⟨w.heap.size, 0, none⟩ = some (.int .i64 21) := cell_later HB2.out (cell_later HBN.out (cell_at_block HBX.out 0 _ rfl))
          have b1 : w3.cell? ⟨w.heap.size, 0, none⟩ = some (.int .i64 21) := HT.out.cell (by omega) b0
          have a2 : w2.cell? ⟨g, j, none⟩ = some (A j) := cell_later HB2.out (cell_later HBN.out HAJ.out)
          have a3 : w3.cell? ⟨g, j, none⟩ = some (A j) := HT.out.cell (by omega) a2
          have t3 : w3.cell? ⟨wr.heap.size, 4, none⟩ = some (.string s) := HT.out.cell (by omega) k4
          have HS3 := Lib.hid hs3
          have HSL := Lib.hid hsz
          clear hs3 hkb
          go_wp2_with fail
          clear hlk hup b0 a2 k0 k1 k2 k3 k4 k5 k6 k7 hzo
          refine wp_region_chain [0, 1, 2, 3, 4, 5, 6] [0, 1, 3, 4] [7] [some 190, some 191, some 192, some 193, some 194, some 195, some 196] _
            (fun p => [p])
            (fun p u w' => match p with
              | 0 => u 0 = .map (some wo.heap.size)
              | 1 => u 1 = .pointer (some ⟨wr.heap.size, 4, none⟩)
              | 2 => u 2 = .string s
              | 3 => u 3 = .slice (some ⟨g, 0, none⟩) x.items.length lc
              | 4 => u 4 = .int .i64 j
              | 5 => u 5 = .pointer (some ⟨g, j, none⟩)
              | 6 => u 6 = A j
              | _ => True)
            (by kernel_rfl) (by kernel_rfl) rfl rfl ?mono ?same ?take ?step ?tail
          case mono =>
            intro p u w' w'' hp hF hb
            exact hF
          case same =>
            intro p u u' w' hp hd hF
            match p, hd, hF with
            | 0, hd, hF => rw [← hd 0 (by simp)]; exact hF
            | 1, hd, hF => rw [← hd 1 (by simp)]; exact hF
            | 2, hd, hF => rw [← hd 2 (by simp)]; exact hF
            | 3, hd, hF => rw [← hd 3 (by simp)]; exact hF
            | 4, hd, hF => rw [← hd 4 (by simp)]; exact hF
            | 5, hd, hF => rw [← hd 5 (by simp)]; exact hF
            | 6, hd, hF => rw [← hd 6 (by simp)]; exact hF
            | p + 7, _, _ => exact trivial
          case take =>
            intro p i o hp ht ho u w5 hb hF
            have hpc : p = 0 ∨ p = 1 ∨ p = 2 ∨ p = 3 ∨ p = 4 ∨ p = 5 ∨ p = 6 := by
              have : p < 7 := (List.getElem?_eq_some_iff.1 hp).1
              omega
            rcases hpc with rfl | rfl | rfl | rfl | rfl | rfl | rfl
            all_goals
              simp only [List.getElem?_cons_zero, List.getElem?_cons_succ, Option.some.injEq] at hp
              subst hp
            all_goals first
              | (exfalso; simp at ht; done)
              | (simp only [List.getElem?_toArray, List.getElem?_cons_zero, List.getElem?_cons_succ, Option.some.injEq] at ho
                 subst ho
                 refine ⟨_, .inl ⟨by rfl, fun w => ?_⟩, upd_at _ _ _⟩
                 simp only [putAll, Act.put, List.setIfInBounds_toArray, List.set_cons_succ, List.set_cons_zero, Nat.zero_add, Nat.reduceAdd]
                 go_simp)
          case step =>
            intro p i o hp ht ho u w5 hb hF K hK Q'
            have hpc : p = 0 ∨ p = 1 ∨ p = 2 ∨ p = 3 ∨ p = 4 ∨ p = 5 ∨ p = 6 := by
              have : p < 7 := (List.getElem?_eq_some_iff.1 hp).1
              omega
            rcases hpc with rfl | rfl | rfl | rfl | rfl | rfl | rfl
            all_goals
              simp only [List.getElem?_cons_zero, List.getElem?_cons_succ, Option.some.injEq] at hp
              subst hp
              simp only [List.getElem?_toArray, List.getElem?_cons_zero, List.getElem?_cons_succ, Option.some.injEq] at ho
              subst ho
              have HF := Lib.hid hF
              clear hF
              simp only [putAll, Act.put, List.setIfInBounds_toArray, List.set_cons_succ, List.set_cons_zero, Nat.zero_add, Nat.reduceAdd] at hK ⊢
            · simp at ht
            · simp at ht
            · have f0 : u 1 = _ := HF.out 1 1 rfl (by kernel_rfl)
              rw [f0] at hK ⊢
              have hc := cell_later hb t3
              have HK := Lib.hid hK
              clear hK f0
              go_simp
              exact HK.out _ _ _ rfl (upd_at _ _ _) (Below.refl _ _)
            · simp at ht
            · simp at ht
            · have f3 : u 3 = _ := HF.out 3 3 rfl (by kernel_rfl)
              have f4 : u 4 = _ := HF.out 4 4 rfl (by kernel_rfl)
              rw [f3, f4] at hK ⊢
              have HK := Lib.hid hK
              clear hK f3 f4
              go_simp
              exact HK.out _ _ _ rfl (upd_at _ _ _) (Below.refl _ _)
            · have f5 : u 5 = _ := HF.out 5 5 rfl (by kernel_rfl)
              rw [f5] at hK ⊢
              have hc := cell_later hb a3
              have HK := Lib.hid hK
              clear hK f5
              go_simp
              exact HK.out _ _ _ rfl (upd_at _ _ _) (Below.refl _ _)
          case tail =>
            intro u w5 hb hF K HKK
            have f0 : u 0 = _ := hF 0 (by decide)
            have f1 : u 1 = _ := hF 1 (by decide)
            have f2 : u 2 = _ := hF 2 (by decide)
            have f3 : u 3 = _ := hF 3 (by decide)
            have f4 : u 4 = _ := hF 4 (by decide)
            have f5 : u 5 = _ := hF 5 (by decide)
            have f6 : u 6 = _ := hF 6 (by decide)
            clear hF
            have HB5 := Lib.hid hb
            have hs35 := hb.size
            have HSS := HS3.out
            obtain ⟨w6, hup, h103', ht6⟩ := ((E103.out.keep (HT.out.block _ (by omega))).keep (hb.block _ (by have := E103.out.lt; omega))).store_str HDF.out HJ.out
            have E103' := Lib.hid h103'
            have HT6 := Lib.hid ht6
            have b6 : w6.cell? ⟨w.heap.size, 0, none⟩ = some (.int .i64 21) := ht6.cell (by omega) (cell_later hb b1)
            have E104' := Lib.hid ((E104.out.keep (hb.block _ E104.out.lt)).keep (ht6.block _ (by omega)))
            have HBF : Hid (Below wo.heap.size wo w6) := by
              have s1 : Below wo.heap.size wo w2 := HBN.out.trans (HB2.out.mono (by omega))
              have s2 : Below wo.heap.size wo w3 := HT.out.below s1 (by omega)
              have s3 : Below wo.heap.size wo w5 := s2.trans (hb.mono (by have := s2.size; omega))
              exact ht6.below s3 (Nat.le_refl _)
            clear hb h103' ht6 HSS b1 a3 t3
            simp only [putAll, Act.put, List.setIfInBounds_toArray, List.set_cons_succ, List.set_cons_zero, Nat.zero_add, Nat.reduceAdd, List.filterMap_cons, List.filterMap_nil, List.getElem?_toArray, List.getElem?_cons_zero, List.getElem?_cons_succ, f0, f1, f2, f3, f4, f5, f6]
            clear f0 f1 f2 f3 f4 f5 f6
            go_wp2_with fail
            refine HKK.out _ _ ?_
            clear hup HKK
            go_wp2_with fail
            go_roundw
            case rel => exact ⟨j + 1, by omega, by go_num, ⟨HBF.out, E103'.out, E104'.out⟩⟩
            case measure => simp [intOf]; omega
        · have hjn : j = x.keys.length := by omega
          subst hjn
          have b0 : wr.cell? ⟨w.heap.size, 0, none⟩ = some (.int .i64 21) := cell_later HBN.out (cell_at_block HBX.out 0 _ rfl)
          go_wp2_with fail
          go_ret2
          obtain ⟨es, clock, hm1, hm2', hm3⟩ := H103.out
          have hsz := GR.out.size
          refine ⟨_, rfl, GR.out.but.trans (ButAt.of_below HBN.out), ?_, .map x wo.heap.size es clock A HK.out HKL.out ⟨by omega, by omega⟩ hm1 ⟨by rw [hm2'.1, HKL.out], hm2'.2⟩ (fun i s hs => hm3 i s (List.getElem?_eq_some_iff.1 hs).1 hs) fun i y hy => ?_⟩
          · have hc := Counter.later GR.out.cnt HBN.out GR.out.q_lt
            have e : m - 1 - (SV.partsAll (x.items.take x.items.length) : Int) = m - x.parts := by
              rw [List.take_length, SV.parts_eq]
              omega
            rw [e] at hc
            exact hc
          · exact (GR.out.anys i y (List.getElem?_eq_some_iff.1 hy).1 hy).keep (fun b hB => HBN.out.block b hB.2.1) (fun b hB => ⟨by have := hB.1; omega, by have := hB.2.1; omega⟩)
end Go.Proofs.Ythmogfjmngbamaa

