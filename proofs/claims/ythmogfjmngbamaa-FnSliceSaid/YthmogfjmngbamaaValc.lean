/-
  'impl.valued' walked at maps.
-/
import Derived.Test.YthmogfjmngbamaaValb
import Derived.Test.YthmogfjmngbamaaKeysb
import Derived.Test.YthmogfjmngbamaaLookc
namespace Go.Proofs.Ythmogfjmngbamaa
open Go.RowKit
set_option linter.unusedSimpArgs false
set_option linter.unusedVariables false

theorem ents_keys' {es : Array MapEntry} {keys : List ByteArray} {A : Nat → Value} (hs : es.size = keys.length) (hent : ∀ (i : Nat) (s : ByteArray), keys[i]? = some s → ∃ t, es[i]? = some (MapEntry.mk (Value.string s) (A i) t)) :
    es.toList.map (·.key) = keys.map Value.string := by
  refine List.ext_getElem? fun i => ?_
  rw [List.getElem?_map, List.getElem?_map, Array.getElem?_toList]
  cases hk : keys[i]? with
  | none =>
    have h1 := List.getElem?_eq_none_iff.1 hk
    rw [Array.getElem?_eq_none (by omega)]
    rfl
  | some s =>
    obtain ⟨t, ht⟩ := hent i s hk
    rw [ht]
    rfl

theorem keyIdx_at {ks : List ByteArray} (hdf : Differ ks) {i : Nat} {s : ByteArray} (h : ks[i]? = some s) : keyIdx ks s = some i := by
  cases hx : keyIdx ks s with
  | none => exact absurd h (keyIdx_none hx i)
  | some m => rw [hdf m i s (keyIdx_some hx) h]

set_option maxHeartbeats 4000000 in
set_option maxRecDepth 100000 in
theorem valued_map (x : SV) (hk : x.kind = 6) (hkl : x.keys.length = x.items.length) (hdf : Differ x.keys) (hks : ∀ s ∈ x.keys, s.size ≤ 100) (w : World) (B : Nat → Prop) (q : Nat) (hl : Lies w B q) (b : Nat) (es : Array MapEntry) (clock : Nat) (A : Nat → Value)
    (hB : B b) (hb : w.heap[b]? = some (.map es clock)) (hs : es.size = x.items.length ∧ MapKept.Stamped es clock) (hent : ∀ (i : Nat) (s : ByteArray), x.keys[i]? = some s → ∃ t, es[i]? = some (MapEntry.mk (Value.string s) (A i) t)) (hln : x.items.length ≤ 200)
    (hsub : ∀ (i : Nat) (y : SV), x.items[i]? = some y → AnyOf w B y (A i)) (m : Int) (hm : 2 * x.parts ≤ m) (hm2 : m ≤ 100000) (hcnt : Counter w q m)
    (IH : ∀ (i : Nat) (y : SV), x.items[i]? = some y → ∀ (w' : World) (m' : Int) (a : Value), Lies w' B q → AnyOf w' B y a → 2 * y.parts ≤ m' → m' ≤ 100000 → Counter w' q m' → Calls Try.prog 106 #[a, .pointer (some ⟨q, 0, none⟩)] w' (GivesVal y m' q w')) :
    Calls Try.prog 106 #[.iface 103 (.map (some b)), .pointer (some ⟨q, 0, none⟩)] w (GivesVal x m q w) := by
  have hpos := SV.parts_pos x
  have hpe := SV.parts_eq x
  have hm1 : 0 ≤ m - 1 := by omega
  have hmA : 1 ≤ m := by omega
  have HM : Hid (2 * (SV.partsAll x.items : Int) + 1 ≤ m - 1) := by show _ ≤ _; omega
  have HPE := Lib.hid hpe
  have HM2 := Lib.hid hm2
  have hqw : q < w.heap.size := hcnt.lt
  have HQW := Lib.hid hqw
  have c0 : (w.alloc (.cells #[Value.int .i64 0, .int .i64 0, .int .u64 0, .float .f64 0, .string ⟨#[]⟩, .bool false, .slice none 0 0, .slice none 0 0] 35)).cell? ⟨q, 0, none⟩ = some (.int .i64 m) := by
    rw [World.cell?_alloc_past _ _ _ hcnt.lt]; exact cell_of_one hcnt
  have f0 : (w.alloc (.cells #[Value.int .i64 0, .int .i64 0, .int .u64 0, .float .f64 0, .string ⟨#[]⟩, .bool false, .slice none 0 0, .slice none 0 0] 35)).frozen? ⟨q, 0, none⟩ = false := by
    rw [World.frozen?_alloc_old _ _ _ (by have := hcnt.lt; simp; omega)]; exact free_of_one hcnt
  have hq : ¬ q = w.heap.size := by omega
  have hq' : ¬ w.heap.size = q := by omega
  have HB1 : Hid (ButAt q w ((w.alloc (.cells #[Value.int .i64 0, .int .i64 0, .int .u64 0, .float .f64 0, .string ⟨#[]⟩, .bool false, .slice none 0 0, .slice none 0 0] 35)).setCell ⟨q, 0, none⟩ (.int .i64 (m - 1)))) := (ButAt.alloc _ _).trans (ButAt.setCell _ ⟨q, 0, none⟩ rfl _)
  have HC1 : Hid (Counter ((w.alloc (.cells #[Value.int .i64 0, .int .i64 0, .int .u64 0, .float .f64 0, .string ⟨#[]⟩, .bool false, .slice none 0 0, .slice none 0 0] 35)).setCell ⟨q, 0, none⟩ (.int .i64 (m - 1))) q (m - 1)) :=
    one_setCell (v := .int .i64 m) (Counter.later hcnt ((Below.refl _ _).alloc (Nat.le_refl _) _) hcnt.lt)
  have HR1 : Hid (((w.alloc (.cells #[Value.int .i64 0, .int .i64 0, .int .u64 0, .float .f64 0, .string ⟨#[]⟩, .bool false, .slice none 0 0, .slice none 0 0] 35)).setCell ⟨q, 0, none⟩ (.int .i64 (m - 1))).heap[w.heap.size]? = some (.cells #[Value.int .i64 0, .int .i64 0, .int .u64 0, .float .f64 0, .string ⟨#[]⟩, .bool false, .slice none 0 0, .slice none 0 0] 35 (0, 0))) :=
    (setCell_block _ _ _ (by simpa using hq')).trans (heap_alloc_new _ _)
  have HS1 : Hid (((w.alloc (.cells #[Value.int .i64 0, .int .i64 0, .int .u64 0, .float .f64 0, .string ⟨#[]⟩, .bool false, .slice none 0 0, .slice none 0 0] 35)).setCell ⟨q, 0, none⟩ (.int .i64 (m - 1))).heap.size = w.heap.size + 1) := by
    show _ = _
    rw [size_setCell, World.size_alloc]
  have HKEYS := Lib.hid (ents_keys' (by rw [hkl]; exact hs.1) hent)
  have HBM := Lib.hid hb
  have HMBL : Hid (b < w.heap.size ∧ b ≠ q) := ⟨hl.lt b hB, hl.ne b hB⟩
  have HKE := Lib.hid (zzKeys_map ((HB1.out.block b HMBL.out.1 HMBL.out.2).trans hb) hs.2 x.keys HKEYS.out (by omega) hks)
  have HENT := Lib.hid hent
  have HL := Lib.hid hl
  have HIH := Lib.hid IH
  have HS := Lib.hid hsub
  have HKL := Lib.hid hkl
  have HDF := Lib.hid hdf
  have HK := Lib.hid hk
  have HLN := Lib.hid hln
  obtain ⟨i0, hi, hz0, hz1, hz2⟩ := info_parts info35
  have HI := Lib.hid (And.intro hi (And.intro hz0 (And.intro hz1 hz2)))
  clear hsub IH hl hk hkl hdf hks hcnt hm hpos hpe hln hqw hB hb hs hent hi hz0 hz1 hz2
  go_enter Try.func106, Try.ntmps106
  go_wp2_with fail
  clear c0 f0
  obtain ⟨w1, hw1⟩ : ∃ w1, w1 = (w.alloc (.cells #[Value.int .i64 0, .int .i64 0, .int .u64 0, .float .f64 0, .string ⟨#[]⟩, .bool false, .slice none 0 0, .slice none 0 0] 35)).setCell ⟨q, 0, none⟩ (.int .i64 (m - 1)) := ⟨_, rfl⟩
  rw [← hw1] at HB1 HC1 HR1 HKE HS1 ⊢
  clear hw1
  refine Calls.mono (by exact HKE.out) ?_
  rintro e W1 ⟨ts, v, rfl, hperm, hown, hbel⟩
  obtain ⟨qs, Jf, hT⟩ := turn_of HKL.out hperm
  have HT := Lib.hid hT
  have hlt : ts.length = x.items.length := by rw [← hT.keys, List.length_map, hT.length]
  have HROWK := Lib.hid hown
  obtain ⟨kg, kcap, hv, hkc1, hkc2, hkcell⟩ : ∃ (p : Option Addr) (c : Nat), v = .slice p x.items.length c ∧ x.items.length ≤ c ∧ c ≤ 9223372036854775807 ∧ ∀ (i : Nat) (s : ByteArray) (Z : SV), qs[i]? = some (s, Z) → ∃ g, p = some ⟨g, 0, none⟩ ∧ w1.heap.size ≤ g ∧ g < W1.heap.size ∧ W1.cell? ⟨g, i, none⟩ = some (.iface 9 (.string s)) := by
    rcases hown.2 with ⟨h1, h2⟩ | ⟨g, cap, cur, h1, h2, h3, h4, h5, h6, h7⟩
    · exact ⟨none, 0, by rw [h1]; congr 1; omega, by omega, by omega, fun i s Z h => by have := (List.getElem?_eq_some_iff.1 h).1; rw [hT.length] at this; omega⟩
    · refine ⟨some ⟨g, 0, none⟩, cap, by rw [h1, hlt], by omega, by unfold maxLen at h5; exact h5, fun i s Z h => ⟨g, rfl, h2, lt_of_block h3, ?_⟩⟩
      have h9 : ts[i]? = some s.data.toList := by rw [← hT.keys, List.getElem?_map, h]; rfl
      have h8 := hown.cells (g := g) (by rw [h1]; rfl) i (encT s.data.toList) (by rw [List.getElem?_map, h9]; rfl)
      rw [add_none] at h8
      exact h8
  subst hv
  have HKC := Lib.hid hkcell
  have HBEL := Lib.hid hbel
  have HBW1 : Hid (ButAt q w W1) := HB1.out.trans (ButAt.of_below hbel)
  have HQ1 : Hid (q < W1.heap.size) := Nat.lt_of_lt_of_le HQW.out HBW1.out.size
  have HC2 : Hid (Counter W1 q (m - 1)) := Counter.later HC1.out hbel HC1.out.lt
  have HR2 : Hid (W1.heap[w.heap.size]? = some (.cells #[Value.int .i64 0, .int .i64 0, .int .u64 0, .float .f64 0, .string ⟨#[]⟩, .bool false, .slice none 0 0, .slice none 0 0] 35 (0, 0))) := (hbel.block _ (by have := HS1.out; omega)).trans HR1.out
  have HWS : Hid (w.heap.size + 1 ≤ W1.heap.size) := by have := hbel.size; have := HS1.out; show _ ≤ _; omega
  have HEM : Hid (W1.heap[b]? = some (.map es clock)) := (HBW1.out.block b HMBL.out.1 HMBL.out.2).trans HBM.out
  clear hperm hown hT hlt hkcell hbel HKE
  go_wp2_with fail
  obtain ⟨Kf, hKf⟩ : ∃ Kf : Nat → ByteArray, Kf = fun i => (qs.map (·.1)).getD i ⟨#[]⟩ := ⟨_, rfl⟩
  have HKF := Lib.hid hKf
  clear hKf
  have V0 : Hid (VM W1 q #[.int .i64 21, .int .i64 0, .int .u64 0, .float .f64 0, .string ⟨#[]⟩, .bool false, .slice none 0 0, .slice none 0 0] (.slice none 0 0) (.slice none 0 0) 0 0 Kf (fun _ => Dv.plain x) (fun _ => x) [] [] (W1.alloc (.cells #[.int .i64 21, .int .i64 0, .int .u64 0, .float .f64 0, .string ⟨#[]⟩, .bool false, .slice none 0 0, .slice none 0 0] 35))) := V2.start _ _ _ _ _ _ _ _ _ _ _
  have C0 : Hid (Counter (W1.alloc (.cells #[.int .i64 21, .int .i64 0, .int .u64 0, .float .f64 0, .string ⟨#[]⟩, .bool false, .slice none 0 0, .slice none 0 0] 35)) q (m - 1)) := Counter.later HC2.out ((Below.refl _ _).alloc (Nat.le_refl _) _) HQ1.out
  go_loopw [120] (fun i wr => ∃ j : Nat, j ≤ x.items.length ∧ i = .int .i64 j ∧ Hid (∃ (kp : Option Addr) (kc : Nat) (lp : Option Addr) (lc : Nat) (D : Nat → Dv) (Y : Nat → SV) (ys xs : List Value) (m' : Int),
      VM W1 q #[.int .i64 21, .int .i64 0, .int .u64 0, .float .f64 0, .string ⟨#[]⟩, .bool false, .slice kp j kc, .slice lp j lc] (.slice kp j kc) (.slice lp j lc) j j Kf D Y ys xs wr ∧ Counter wr q m' ∧ m - 1 - 2 * SV.partsAll ((qs.map (·.2)).take j) ≤ m' ∧ m' ≤ m ∧ ∀ (i : Nat) (s : ByteArray) (Z : SV), i < j → qs[i]? = some (s, Z) → Like (Y i) Z)) (fun i _ => x.items.length - (intOf i).toNat)
  case atStart => exact ⟨0, Nat.zero_le _, rfl, none, 0, none, 0, _, _, _, _, m - 1, V0.out, C0.out, by simp [SV.partsAll], by omega, fun i s Z h => by omega⟩
  case round =>
    obtain ⟨j, hj, rfl, hR⟩ := hrel
    obtain ⟨kp, kc, lp, lc, D, Y, ys, xs, m', hV, hCn, hm1', hm2', hY⟩ := hR.out
    have VR := Lib.hid hV
    have CR := Lib.hid hCn
    have HY := Lib.hid hY
    have HMA := Lib.hid hm1'
    have HMB := Lib.hid hm2'
    clear hR hV hCn hY hm1' hm2' V0 C0
    by_cases hlt : j < x.items.length
    · have hqj : qs[j]? = some (qs[j]'(by rw [HT.out.length]; exact hlt)) := List.getElem?_eq_getElem _
      obtain ⟨s, Z, hsZ⟩ : ∃ s Z, qs[j]? = some (s, Z) := ⟨_, _, hqj⟩
      clear hqj
      have HQJ := Lib.hid hsZ
      have HKEY := Lib.hid (HT.out.at' j s Z hsZ).1
      have HIT := Lib.hid (HT.out.at' j s Z hsZ).2
      have HQ2 : Hid ((qs.map (·.2))[j]? = some Z) := by show _ = _; rw [List.getElem?_map, hsZ]; rfl
      have HKS : Hid (Kf j = s) := by show _ = _; rw [HKF.out]; simp only [List.getD_eq_getElem?_getD, List.getElem?_map, hsZ, Option.map_some, Option.getD_some]
      have hsum : SV.partsAll ((qs.map (·.2)).take j) + Z.parts ≤ SV.partsAll x.items := by
        rw [← SV.partsAll_take _ _ _ HQ2.out, ← HT.out.parts]
        exact SV.partsAll_le _ _
      have HMZ : Hid (2 * (Z.parts : Int) ≤ m' - 1) := by have := HM.out; have := HMA.out; show _ ≤ _; omega
      have HMQ : Hid (1 ≤ m') := by have := HMZ.out; have := SV.parts_pos Z; show _ ≤ _; omega
      obtain ⟨sg, hsp, hsg1, hsg2, hsc⟩ := HKC.out j s Z hsZ
      subst hsp
      have kcell : wr.cell? ⟨sg, j, none⟩ = some (.iface 9 (.string s)) := (cell_same (VR.out.but.block sg hsg2 (by have := HS1.out; have := HQW.out; omega)) j).trans hsc
      have HEW : Hid (wr.heap[b]? = some (.map es clock)) := (VR.out.but.block b (Nat.lt_of_lt_of_le HMBL.out.1 HBW1.out.size) HMBL.out.2).trans HEM.out
      have HAT := Lib.hid (zzAt_map HEW.out x.keys HKEYS.out s)
      obtain ⟨tt, htt⟩ := HENT.out _ _ HKEY.out
      rw [keyIdx_at HDF.out HKEY.out] at HAT
      simp only [Option.bind_some, Array.getElem?_toList, htt, Option.map_some, Option.getD_some, Option.isSome_some] at HAT
      clear htt hsZ hsum hsc hsg1 hsg2
      have hj2 : (j : Int) < x.items.length := by omega
      have HLN200 := HLN.out
      go_wp2_with fail
      refine Calls.mono (by exact HAT.out) ?_
      rintro e wq ⟨rfl, rfl⟩
      clear HAT
      go_wp2_with fail
      refine wp_region_phase [0, 1, 2, 3, 7, 8, 9, 10, 14] [4, 5, 6, 11, 12, 13] [15, 16, 17] [some 131, some 132, some 133, some 134, some 138, some 139, some 140, some 141, some 145, some 135, some 136, some 137, some 142, some 143, some 144] _
        (fun p => match p with
          | 0 => .pointer (some ⟨W1.heap.size, 6, none⟩)
          | 1 => .slice kp j kc
          | 2 => .iface 9 (.string s)
          | 3 => .pointer (some ⟨q, 0, none⟩)
          | 4 => .pointer (some ⟨W1.heap.size, 7, none⟩)
          | 5 => .slice lp j lc
          | 6 => A (Jf j)
          | 7 => .pointer (some ⟨q, 0, none⟩)
          | 8 => .pointer (some ⟨W1.heap.size, 6, none⟩)
          | _ => .nilIface)
        (fun k v w' => Hid ((w'.heap[W1.heap.size]? = some (.cells #[.int .i64 21, .int .i64 0, .int .u64 0, .float .f64 0, .string ⟨#[]⟩, .bool false, .slice kp j kc, .slice lp j lc] 35 (0, 0))) ∧ match k with
          | 0 => VM W1 q #[.int .i64 21, .int .i64 0, .int .u64 0, .float .f64 0, .string ⟨#[]⟩, .bool false, .slice kp j kc, .slice lp j lc] (.slice kp j kc) (.slice lp j lc) j j Kf D Y ys xs w' ∧ Counter w' q m' ∧ Below wr.heap.size wr w'
          | 1 => v 0 = (Dv.key s).val ∧ VM W1 q #[.int .i64 21, .int .i64 0, .int .u64 0, .float .f64 0, .string ⟨#[]⟩, .bool false, .slice kp j kc, .slice lp j lc] (.slice kp j kc) (.slice lp j lc) j j Kf D Y ys xs w' ∧ Counter w' q (m' - 1) ∧ wr.heap.size ≤ w'.heap.size
          | 2 => ∃ g2 : Nat, v 1 = .slice (some ⟨g2, 0, none⟩) 1 1 ∧ w'.heap[g2]? = some (.cells (Dv.key s).cells.toArray 35 (0, 0)) ∧ VM W1 q #[.int .i64 21, .int .i64 0, .int .u64 0, .float .f64 0, .string ⟨#[]⟩, .bool false, .slice kp j kc, .slice lp j lc] (.slice kp j kc) (.slice lp j lc) j j Kf D Y ys xs w' ∧ Counter w' q (m' - 1) ∧ wr.heap.size ≤ w'.heap.size
          | 3 => ∃ (kp' : Option Addr) (kc' : Nat), v 2 = .slice kp' (j + 1) kc' ∧ VM W1 q #[.int .i64 21, .int .i64 0, .int .u64 0, .float .f64 0, .string ⟨#[]⟩, .bool false, .slice kp j kc, .slice lp j lc] (.slice kp' (j + 1) kc') (.slice lp j lc) (j + 1) j Kf D Y (ys ++ (Dv.key s).cells) xs w' ∧ Counter w' q (m' - 1) ∧ wr.heap.size ≤ w'.heap.size
          | 4 => ∃ (kp' : Option Addr) (kc' : Nat) (d : Dv) (y : SV) (m2 : Int) (lo : Nat), v 2 = .slice kp' (j + 1) kc' ∧ v 3 = d.val ∧ VM W1 q #[.int .i64 21, .int .i64 0, .int .u64 0, .float .f64 0, .string ⟨#[]⟩, .bool false, .slice kp j kc, .slice lp j lc] (.slice kp' (j + 1) kc') (.slice lp j lc) (j + 1) j Kf D Y (ys ++ (Dv.key s).cells) xs w' ∧ Counter w' q m2 ∧ m' - 1 - (2 * Z.parts - 1) ≤ m2 ∧ m2 ≤ m' ∧ DoorOf w' (betw lo w'.heap.size) y d ∧ Like y Z ∧ W1.heap.size + 1 ≤ lo ∧ (∀ g, (Value.slice kp' (j + 1) kc').ownBlock = some g → g < lo) ∧ (∀ g, (Value.slice lp j lc).ownBlock = some g → g < lo)
          | 5 => ∃ (kp' : Option Addr) (kc' : Nat) (d : Dv) (y : SV) (m2 : Int) (lo g3 : Nat), v 2 = .slice kp' (j + 1) kc' ∧ v 4 = .slice (some ⟨g3, 0, none⟩) 1 1 ∧ w'.heap[g3]? = some (.cells d.cells.toArray 35 (0, 0)) ∧ VM W1 q #[.int .i64 21, .int .i64 0, .int .u64 0, .float .f64 0, .string ⟨#[]⟩, .bool false, .slice kp j kc, .slice lp j lc] (.slice kp' (j + 1) kc') (.slice lp j lc) (j + 1) j Kf D Y (ys ++ (Dv.key s).cells) xs w' ∧ Counter w' q m2 ∧ m' - 1 - (2 * Z.parts - 1) ≤ m2 ∧ m2 ≤ m' ∧ DoorOf w' (betw lo w'.heap.size) y d ∧ Like y Z ∧ W1.heap.size + 1 ≤ lo ∧ (∀ g, (Value.slice kp' (j + 1) kc').ownBlock = some g → g < lo) ∧ (∀ g, (Value.slice lp j lc).ownBlock = some g → g < lo)
          | 6 => ∃ (kp' : Option Addr) (kc' : Nat) (d : Dv) (y : SV) (m2 : Int) (lp' : Option Addr) (lc' : Nat), v 2 = .slice kp' (j + 1) kc' ∧ v 5 = .slice lp' (j + 1) lc' ∧ VM W1 q #[.int .i64 21, .int .i64 0, .int .u64 0, .float .f64 0, .string ⟨#[]⟩, .bool false, .slice kp j kc, .slice lp j lc] (.slice kp' (j + 1) kc') (.slice lp' (j + 1) lc') (j + 1) (j + 1) Kf (fun i => if i = j then d else D i) (fun i => if i = j then y else Y i) (ys ++ (Dv.key s).cells) (xs ++ d.cells) w' ∧ Counter w' q m2 ∧ m' - 1 - (2 * Z.parts - 1) ≤ m2 ∧ m2 ≤ m' ∧ Like y Z
          | _ => False))
        (by kernel_rfl) (by kernel_rfl) rfl rfl ?start ?read ?step ?tail
      case start =>
        intro v
        have hdr : Below wr.heap.size wr wr.drew := (Below.refl _ _).drew
        exact ⟨VR.out.out, VR.out.later (keepsDoor D Y) hdr, CR.out, hdr⟩
      case read =>
        intro pp i o hp ho u k w' hJ hF K hK Q'
        have hpc : pp = 0 ∨ pp = 1 ∨ pp = 2 ∨ pp = 3 ∨ pp = 4 ∨ pp = 5 ∨ pp = 6 ∨ pp = 7 ∨ pp = 8 := by
          have : pp < 9 := (List.getElem?_eq_some_iff.1 hp).1
          omega
        rcases hpc with rfl | rfl | rfl | rfl | rfl | rfl | rfl | rfl | rfl
        all_goals
          simp only [List.getElem?_cons_zero, List.getElem?_cons_succ, Option.some.injEq] at hp
          subst hp
          simp only [List.getElem?_toArray, List.getElem?_cons_zero, List.getElem?_cons_succ, Option.some.injEq] at ho
          subst ho
          have HF := Lib.hid hF
          clear hF
          simp only [putAll, Act.put, List.setIfInBounds_toArray, List.set_cons_succ, List.set_cons_zero, Nat.zero_add, Nat.reduceAdd] at hK ⊢
        · have HKK := Lib.hid hK
          clear hK
          go_simp
          exact HKK.out
        · have f0 : u 0 = _ := HF.out 0 0 rfl (by kernel_rfl)
          rw [f0] at hK ⊢
          obtain ⟨o0, o1, o2, o3, o4, o5, o6, o7⟩ := eight hJ.out.1
          have HKK := Lib.hid hK
          clear hK f0
          go_simp
          exact HKK.out
        · have HKK := Lib.hid hK
          clear hK
          go_simp
          exact HKK.out
        · have HKK := Lib.hid hK
          clear hK
          go_simp
          exact HKK.out
        · have HKK := Lib.hid hK
          clear hK
          go_simp
          exact HKK.out
        · have f0 : u 4 = _ := HF.out 4 7 rfl (by kernel_rfl)
          rw [f0] at hK ⊢
          obtain ⟨o0, o1, o2, o3, o4, o5, o6, o7⟩ := eight hJ.out.1
          have HKK := Lib.hid hK
          clear hK f0
          go_simp
          exact HKK.out
        · have HKK := Lib.hid hK
          clear hK
          go_simp
          exact HKK.out
        · have HKK := Lib.hid hK
          clear hK
          go_simp
          exact HKK.out
        · have HKK := Lib.hid hK
          clear hK
          go_simp
          exact HKK.out
      case step =>
        intro qq i o hp ho u w' hJ hF K hK Q'
        have hpc : qq = 0 ∨ qq = 1 ∨ qq = 2 ∨ qq = 3 ∨ qq = 4 ∨ qq = 5 := by
          have : qq < 6 := (List.getElem?_eq_some_iff.1 hp).1
          omega
        rcases hpc with rfl | rfl | rfl | rfl | rfl | rfl
        all_goals
          simp only [List.getElem?_cons_zero, List.getElem?_cons_succ, Option.some.injEq] at hp
          subst hp
          simp only [List.getElem?_toArray, List.getElem?_cons_zero, List.getElem?_cons_succ, Option.some.injEq] at ho
          subst ho
          have HF := Lib.hid hF
          clear hF
          simp only [putAll, Act.put, List.setIfInBounds_toArray, List.set_cons_succ, List.set_cons_zero, Nat.zero_add, Nat.reduceAdd] at hK ⊢
        · have f2 : u 2 = _ := HF.out 2 2 rfl (by kernel_rfl)
          have f3 : u 3 = _ := HF.out 3 3 rfl (by kernel_rfl)
          obtain ⟨hbk, hV, hCw, hbw⟩ := hJ.out
          have HC0 := Lib.hid (valued_plain (keyV s) ⟨(by show (0 : Int) ≤ 3; decide), (by show (3 : Int) < 5; decide)⟩ q m' (by have := HMQ.out; omega) (by have := HMB.out; have := HM2.out; omega) w' hCw)
          rw [keyV_any, keyV_door] at HC0
          have HBK' := Lib.hid hbk
          have HV' := Lib.hid hV
          have HBW := Lib.hid hbw
          rw [f2, f3] at hK ⊢
          have HKK := Lib.hid hK
          clear hK f2 f3 hbk hV hCw hbw hJ
          go_simp
          refine Calls.mono (by exact HC0.out) ?_
          rintro e w7 ⟨rfl, hb7, hc7⟩
          exact HKK.out _ _ _ rfl ⟨(hb7.block _ (lt_of_block HBK'.out) (by have := HQ1.out; omega)).trans HBK'.out, upd_at _ _ _, V2.call (keepsDoor D Y) HV'.out HQ1.out hb7, hc7, Nat.le_trans HBW.out.size hb7.size⟩
        · obtain ⟨hbk, hv, hV, hCw, hsw⟩ := hJ.out
          have hv' : u 9 = (Dv.key s).val := hv
          rw [hv'] at hK ⊢
          have hA : Below w'.heap.size w' (w'.alloc (.cells (Dv.key s).cells.toArray 35)) := (Below.refl _ _).alloc (Nat.le_refl _) _
          have HR : Hid (_ ∧ _ ∧ _ ∧ _) := ⟨(hA.block _ (lt_of_block hbk)).trans hbk, V2.later (keepsDoor D Y) hV hA, Counter.later hCw hA hCw.lt, Nat.le_trans hsw hA.size⟩
          have HG := Lib.hid (heap_alloc_new w' (.cells (Dv.key s).cells.toArray 35))
          have HKK := Lib.hid hK
          clear hK hv hv' hbk hV hCw hsw hA hJ
          unfold Dv.val Dv.key
          go_simp
          exact HKK.out _ _ _ rfl ⟨HR.out.1, w'.heap.size, upd_at _ _ _, HG.out, HR.out.2.1, HR.out.2.2.1, HR.out.2.2.2⟩
        · obtain ⟨hbk, g2, hv, hg2, hV, hCw, hsw⟩ := hJ.out
          have hv' : u 10 = .slice (some ⟨g2, 0, none⟩) 1 1 := hv
          have f1 : u 1 = .slice kp j kc := HF.out 1 1 rfl (by kernel_rfl)
          rw [hv', f1] at hK ⊢
          refine oper_append_block (.tmp 132) (.tmp 136) 33 rfl (W1.heap.size + 1) 35 i0 _ 8 104 Try.underlying33 HI.out.1 HI.out.2.1 HI.out.2.2.1 HI.out.2.2.2 rfl (by decide) (.slice kp j kc) j ys rfl hV.krow ⟨g2, 0, none⟩ 1 1 (Dv.key s).cells rfl (by decide) rfl
            (fun m u hm => by rw [add_none]; exact cell_at_block hg2 m u (by simpa using hm)) (dv_oneCell _) (by unfold maxLen; omega) (by omega) hV.size ?_
          intro v' w6 hown hgrow hvb hvn
          obtain ⟨kp', kc', rfl⟩ := slice_of_own hown
          have hks : Kf j = s := HKS.out
          have hVN := VM.nextKey hV (by rw [hks]; exact hown) hgrow hvb
          rw [hks] at hVN
          have hnl : ∀ k, k < W1.heap.size + 1 → some k ≠ (Value.slice kp j kc).ownBlock := fun k hk e => by have := (own_lt hV.krow e.symm).1; omega
          exact hK _ _ _ rfl ⟨(hgrow.block _ (lt_of_block hbk) (hnl _ (by omega))).trans hbk, kp', kc', upd_at _ _ _, hVN, (hgrow.block q hCw.lt (hnl q (by have := HQ1.out; omega))).trans hCw, Nat.le_trans hsw hgrow.size⟩
        · have f6 : u 6 = _ := HF.out 6 9 rfl (by kernel_rfl)
          have f7 : u 7 = _ := HF.out 7 10 rfl (by kernel_rfl)
          obtain ⟨hbk, kp', kc', hv, hV, hCw, hsw⟩ := hJ.out
          have hbt : ButAt q w w' := HBW1.out.trans hV.but
          have HC0 := Lib.hid (HIH.out _ Z HIT.out w' (m' - 1) (A (Jf j)) (HL.out.later hbt) ((HS.out _ Z HIT.out).but HL.out hbt) (by have := HMZ.out; omega) (by have := HMB.out; have := HM2.out; omega) hCw)
          have HBK' := Lib.hid hbk
          have HV' := Lib.hid hV
          have HVV := Lib.hid hv
          rw [f6, f7] at hK ⊢
          have HKK := Lib.hid hK
          clear hK f6 f7 hbk hV hCw hbt hJ hv hsw
          go_simp
          refine Calls.mono (by exact HC0.out) ?_
          rintro e w7 ⟨d, y, m2, rfl, hb7, hc7, h1, h2, hd, hlk⟩
          refine HKK.out _ _ _ rfl ⟨(hb7.block _ (lt_of_block HBK'.out) (by have := HQ1.out; omega)).trans HBK'.out, kp', kc', d, y, m2, w'.heap.size, ?_, upd_at _ _ _, V2.call (keepsDoor D Y) HV'.out HQ1.out hb7, hc7, h1, by omega, hd, hlk, HV'.out.size, fun g hg => (own_lt HV'.out.krow hg).2, fun g hg => (own_lt HV'.out.row hg).2⟩
          rw [upd_far _ _ _ _ (by omega)]
          exact HVV.out
        · obtain ⟨hbk, kp', kc', d, y, m2, lo, hv2, hv, hV, hCw, h1, h2, hd, hlk, hlo, hlo1, hlo2⟩ := hJ.out
          have hv' : u 12 = d.val := hv
          rw [hv'] at hK ⊢
          have hA : Below w'.heap.size w' (w'.alloc (.cells d.cells.toArray 35)) := (Below.refl _ _).alloc (Nat.le_refl _) _
          have HR : Hid (_ ∧ _ ∧ _ ∧ _) := ⟨(hA.block _ (lt_of_block hbk)).trans hbk, V2.later (keepsDoor D Y) hV hA, Counter.later hCw hA hCw.lt, hd.keep (B' := betw lo (w'.alloc (.cells d.cells.toArray 35)).heap.size) (fun b hB => hA.block b hB.2) (fun b hB => ⟨hB.1, Nat.lt_of_lt_of_le hB.2 hA.size⟩)⟩
          have HG := Lib.hid (heap_alloc_new w' (.cells d.cells.toArray 35))
          have H12 := Lib.hid (And.intro h1 (And.intro h2 (And.intro hlk (And.intro hlo (And.intro hlo1 hlo2)))))
          have HVV := Lib.hid hv2
          have HKK := Lib.hid hK
          clear hK hv hv' hv2 hbk hV hCw h1 h2 hd hlk hlo hlo1 hlo2 hA hJ
          unfold Dv.val
          go_simp
          refine HKK.out _ _ _ rfl ⟨HR.out.1, kp', kc', d, y, m2, lo, w'.heap.size, ?_, upd_at _ _ _, HG.out, HR.out.2.1, HR.out.2.2.1, H12.out.1, H12.out.2.1, HR.out.2.2.2, H12.out.2.2.1, H12.out.2.2.2.1, H12.out.2.2.2.2.1, H12.out.2.2.2.2.2⟩
          rw [upd_far _ _ _ _ (by omega)]
          exact HVV.out
        · obtain ⟨hbk, kp', kc', d, y, m2, lo, g3, hv2, hv, hg3, hV, hCw, h1, h2, hd, hlk, hlo, hlo1, hlo2⟩ := hJ.out
          have hv' : u 13 = .slice (some ⟨g3, 0, none⟩) 1 1 := hv
          have f5 : u 5 = .slice lp j lc := HF.out 5 8 rfl (by kernel_rfl)
          rw [hv', f5] at hK ⊢
          refine oper_append_block (.tmp 139) (.tmp 143) 33 rfl (W1.heap.size + 1) 35 i0 _ 8 104 Try.underlying33 HI.out.1 HI.out.2.1 HI.out.2.2.1 HI.out.2.2.2 rfl (by decide) (.slice lp j lc) j xs rfl hV.row ⟨g3, 0, none⟩ 1 1 d.cells rfl (by decide) rfl
            (fun m u hm => by rw [add_none]; exact cell_at_block hg3 m u (by simpa using hm)) (dv_oneCell d) (by unfold maxLen; omega) (by omega) hV.size ?_
          intro v' w6 hown hgrow hvb hvn
          obtain ⟨lp', lc', rfl⟩ := slice_of_own hown
          have hVN := VM.next hV hlo hlo2 hlo1 hd hown hgrow hvb
          have hnl : ∀ k, k < W1.heap.size + 1 → some k ≠ (Value.slice lp j lc).ownBlock := fun k hk e => by have := (own_lt hV.row e.symm).1; omega
          refine hK _ _ _ rfl ⟨(hgrow.block _ (lt_of_block hbk) (hnl _ (by omega))).trans hbk, kp', kc', d, y, m2, lp', lc', ?_, upd_at _ _ _, hVN, (hgrow.block q hCw.lt (hnl q (by have := HQ1.out; omega))).trans hCw, h1, h2, hlk⟩
          rw [upd_far _ _ _ _ (by omega)]
          exact hv2
      case tail =>
        intro u w' hJ hF K HKK
        obtain ⟨hbk, kp', kc', d, y, m2, lp', lc', hv2, hv5, hV, hCw, h1, h2, hlk⟩ := hJ.out
        have f8 : u 8 = _ := hF 8 (by decide)
        have f11 : u 11 = .slice kp' (j + 1) kc' := hv2
        have f14 : u 14 = .slice lp' (j + 1) lc' := hv5
        have VS : Hid (VM W1 q #[.int .i64 21, .int .i64 0, .int .u64 0, .float .f64 0, .string ⟨#[]⟩, .bool false, .slice kp' (j + 1) kc', .slice lp' (j + 1) lc'] (.slice kp' (j + 1) kc') (.slice lp' (j + 1) lc') (j + 1) (j + 1) Kf (fun i => if i = j then d else D i) (fun i => if i = j then y else Y i) (ys ++ (Dv.key s).cells) (xs ++ d.cells) ((w'.setCell ⟨W1.heap.size, 6, none⟩ (.slice kp' (j + 1) kc')).setCell ⟨W1.heap.size, 7, none⟩ (.slice lp' (j + 1) lc'))) :=
          V2.set (keepsDoor (fun i => if i = j then d else D i) (fun i => if i = j then y else Y i)) (V2.set (keepsDoor (fun i => if i = j then d else D i) (fun i => if i = j then y else Y i)) hV 6 (.slice kp' (j + 1) kc')) 7 (.slice lp' (j + 1) lc')
        have CS : Hid (Counter ((w'.setCell ⟨W1.heap.size, 6, none⟩ (.slice kp' (j + 1) kc')).setCell ⟨W1.heap.size, 7, none⟩ (.slice lp' (j + 1) lc')) q m2) := (setCell_block _ _ _ (by have := HQ1.out; simp; omega)).trans ((setCell_block _ _ _ (by have := HQ1.out; simp; omega)).trans hCw)
        have q6 := cell_at_block hbk 6 _ rfl
        have q7 := cell_at_block hbk 7 _ rfl
        have z6 := free_block hbk 6
        have z7 := free_block hbk 7
        have H12 := Lib.hid (And.intro h1 (And.intro h2 hlk))
        clear hbk hv2 hv5 hV hCw h1 h2 hlk hJ hF
        simp only [putAll, Act.put, List.setIfInBounds_toArray, List.set_cons_succ, List.set_cons_zero, Nat.zero_add, Nat.reduceAdd, List.filterMap_cons, List.filterMap_nil, List.getElem?_toArray, List.getElem?_cons_zero, List.getElem?_cons_succ, f8, f11, f14]
        clear f8 f11 f14
        go_wp2_with fail
        refine HKK.out _ _ ?_
        clear HKK
        go_wp2_with fail
        go_roundw
        case rel =>
          refine ⟨j + 1, by omega, by go_num, kp', kc', lp', lc', _, _, _, _, m2, VS.out, CS.out, ?_, by have := H12.out.2.1; have := HMB.out; omega, fun i s' z hi hz => ?_⟩
          · have hpp := SV.parts_pos Z
            rw [SV.partsAll_take _ _ _ HQ2.out]
            have := H12.out.1
            have := HMA.out
            omega
          · by_cases hij : i = j
            · subst hij
              rw [HQJ.out] at hz
              cases hz
              simpa using H12.out.2.2
            · simpa [hij] using HY.out i s' z (by omega) hz
        case measure => simp [intOf]; omega
    · have hjn : j = x.items.length := by omega
      subst hjn
      have VE := VR.out
      rw [HKF.out] at VE
      obtain ⟨kp2, kc2, p2, c2, y, hkv, hv, hdoor, hlike⟩ := VM.done HK.out HKL.out HT.out VE (fun i s Z h => HY.out i s Z (by have := (List.getElem?_eq_some_iff.1 h).1; rw [HT.out.length] at this; exact this) h)
      cases hv
      cases hkv
      have hres : wr.heap[w.heap.size]? = some (.cells #[Value.int .i64 0, .int .i64 0, .int .u64 0, .float .f64 0, .string ⟨#[]⟩, .bool false, .slice none 0 0, .slice none 0 0] 35 (0, 0)) := (VR.out.but.block _ (by have := HWS.out; omega) hq').trans HR2.out
      obtain ⟨o0, o1, o2, o3, o4, o5, o6, o7⟩ := eight VR.out.out
      obtain ⟨r0, r1, r2, r3, r4, r5, r6, r7⟩ := eight hres
      have zr := free_block hres
      have HD := Lib.hid hdoor
      have HLK := Lib.hid hlike
      clear hdoor hlike hres VE
      go_wp2_with fail
      refine bodyPost_ret (by simp [results, Try.results106, go_sem, r0, r1, r2, r3, r4, r5, r6, r7, Dv.val, Dv.map]) rfl ⟨Dv.map kp x.items.length kc lp x.items.length lc, y, m', rfl, ?_, ?_, ?_, ?_, ?_, HLK.out⟩
      · have hb : ButAt q w wr := HBW1.out.trans VR.out.but
        have hset := store8_below (.int .i64 21) (.int .i64 0) (.int .u64 0) (.float .f64 0) (.string ⟨#[]⟩) (.bool false) (.slice kp x.items.length kc) (.slice lp x.items.length lc) (Below.refl w.heap.size wr) (Nat.le_refl _)
        exact ⟨hset.os.trans hb.os, hset.tape.trans hb.tape, hset.output.trans hb.output, Nat.le_trans hb.size hset.size, fun k hk hne => (hset.block k hk).trans (hb.block k hk hne)⟩
      · exact (@store8_other wr w.heap.size q (.int .i64 21) (.int .i64 0) (.int .u64 0) (.float .f64 0) (.string ⟨#[]⟩) (.bool false) (.slice kp x.items.length kc) (.slice lp x.items.length lc) hq).trans CR.out
      · have h5 := HMA.out
        rw [List.take_of_length_le (by rw [List.length_map, HT.out.length]; exact Nat.le_refl _), HT.out.parts] at h5
        have := HPE.out
        omega
      · have := HMB.out
        omega
      · refine HD.out.keep (fun b hB => ?_) (fun b hB => ⟨by have := hB.1; have := HWS.out; omega, by simp only [size_setCell]; exact hB.2⟩)
        have hne : b ≠ w.heap.size := by have := hB.1; have := HWS.out; omega
        simp only [setCell_block _ ⟨w.heap.size, _, none⟩ _ hne]
end Go.Proofs.Ythmogfjmngbamaa

