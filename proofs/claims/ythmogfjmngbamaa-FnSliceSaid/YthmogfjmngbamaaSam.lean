/-
  'spec.V.at', 'spec.Same' at values that are the same, 'spec.CuSame'.
-/
import Derived.Test.YthmogfjmngbamaaScv
import Derived.Test.YthmogfjmngbamaaCuv
import Derived.Test.YthmogfjmngbamaaLookb
namespace Go.Proofs.Ythmogfjmngbamaa
open Go.RowKit
set_option linter.unusedSimpArgs false
set_option linter.unusedVariables false

theorem keyIdx_first {ks : List ByteArray} {s : ByteArray} {j : Nat} (h : ∀ m, m < j → ks[m]? ≠ some s) (hj : ks[j]? = some s) : keyIdx ks s = some j := by
  induction ks generalizing j with
  | nil => simp at hj
  | cons k r ih =>
    unfold keyIdx
    cases j with
    | zero =>
      have e : k = s := by simpa using hj
      rw [if_pos e.symm]
    | succ j =>
      have hne : ¬ s = k := fun e => h 0 (by omega) (by simp [e])
      rw [if_neg hne, ih (j := j) (fun m hm => by have := h (m + 1) (by omega); simpa using this) (by simpa using hj)]
      rfl
theorem keyIdx_no {ks : List ByteArray} {s : ByteArray} (h : ∀ m, m < ks.length → ks[m]? ≠ some s) : keyIdx ks s = none := by
  cases hx : keyIdx ks s with
  | none => rfl
  | some m =>
    have := keyIdx_some hx
    exact absurd this (h m (List.getElem?_eq_some_iff.1 this).1)
theorem keyIdx_at' {ks : List ByteArray} (hdf : ∀ (i j : Nat) (s : ByteArray), ks[i]? = some s → ks[j]? = some s → i = j) {i : Nat} {s : ByteArray} (h : ks[i]? = some s) : keyIdx ks s = some i := by
  cases hx : keyIdx ks s with
  | none => exact absurd h (keyIdx_none hx i)
  | some m => rw [hdf m i s (keyIdx_some hx) h]

/-- What a map has under a text. -/
def atV (y : SV) (s : ByteArray) : Value := ((keyIdx y.keys s).bind fun m => (y.items[m]?).map SV.val).getD zeroV

set_option maxHeartbeats 1000000 in
set_option maxRecDepth 100000 in
/-- 'spec.V.at'. -/
theorem vat_run (y : SV) (w : World) (hin : SV.In w y) (hkl : y.keys.length = y.items.length) (s : ByteArray) : Calls Try.prog 74 #[y.val, .string s] w (Gives (.tuple #[atV y s, .bool (keyIdx y.keys s).isSome]) w) := by
  have HX := Lib.hid hin
  have HKL := Lib.hid hkl
  obtain ⟨hk, hnn, hf, ht, hi, hky, hst⟩ := SV.in_flat hin
  clear hin hkl
  generalize hyy : y = Y at *
  cases y with
  | mk k n f t b ip ic items kp kc keys =>
  have e2 : Y.keys = keys := by rw [← hyy]; rfl
  have e3 : Y.items = items := by rw [← hyy]; rfl
  have e4 : Y.ip = ip := by rw [← hyy]; rfl
  have vy : Y.val = .agg #[.int .i64 k, .int .i64 n, .float .f64 f, .string t, .bool b, .slice ip items.length ic, .slice kp keys.length kc] := by rw [← hyy]; rfl
  have e5 : Y.kp = kp := by rw [← hyy]; rfl
  have e6 : Y.kc = kc := by rw [← hyy]; rfl
  have e7 : Y.ic = ic := by rw [← hyy]; rfl
  rw [e2, e6] at hky
  rw [e3, e7] at hi
  rw [e2, e3] at HKL
  have HF1 : Hid (∀ j, (∀ m, m < j → keys[m]? ≠ some s) → keys[j]? = some s → keyIdx Y.keys s = some j) := fun j h1 h2 => by rw [e2]; exact keyIdx_first h1 h2
  have HF2 : Hid ((∀ m, m < keys.length → keys[m]? ≠ some s) → keyIdx Y.keys s = none) := fun h1 => by rw [e2]; exact keyIdx_no h1
  have HAT : Hid (∀ j z, keyIdx Y.keys s = some j → items[j]? = some z → atV Y s = z.val ∧ (keyIdx Y.keys s).isSome = true) := fun j z h1 h2 => by
    unfold atV
    rw [h1, e3]
    simp [h2]
  have HNO : Hid (keyIdx Y.keys s = none → atV Y s = zeroV ∧ (keyIdx Y.keys s).isSome = false) := fun h1 => by
    unfold atV
    rw [h1]
    exact ⟨rfl, rfl⟩
  rw [vy]
  generalize atV Y s = av at *
  generalize (keyIdx Y.keys s).isSome = ar at *
  have hkcl : (keys.length : Int) ≤ kc := by omega
  have hicl : (items.length : Int) ≤ ic := by omega
  have hic2 := hi.2
  have hkc2 := hky.2
  clear hk hnn hf ht hi hky hst vy hyy
  go_enter Try.func74, Try.ntmps74
  go_wp2_with fail
  obtain ⟨W2, hW2⟩ : ∃ W2, W2 = (w.alloc (.cells #[.int .i64 k, .int .i64 n, .float .f64 f, .string t, .bool b, .slice ip items.length ic, .slice kp keys.length kc] 30)).alloc (.cells #[Value.int .i64 0, .int .i64 0, .float .f64 0, .string ⟨#[]⟩, .bool false, .slice none 0 0, .slice none 0 0] 30) := ⟨_, rfl⟩
  have HT : Hid (Two w W2 (.cells #[.int .i64 k, .int .i64 n, .float .f64 f, .string t, .bool b, .slice ip items.length ic, .slice kp keys.length kc] 30) (.cells #[Value.int .i64 0, .int .i64 0, .float .f64 0, .string ⟨#[]⟩, .bool false, .slice none 0 0, .slice none 0 0] 30)) := by rw [hW2]; exact Two.mk' (Below.refl _ _)
  rw [← hW2]
  clear hW2
  go_loopw [11] (fun i wr => ∃ j : Nat, j ≤ keys.length ∧ i = .int .i64 j ∧ wr = W2 ∧ Hid (∀ m, m < j → keys[m]? ≠ some s)) (fun i _ => keys.length - (intOf i).toNat)
  case atStart => exact ⟨0, Nat.zero_le _, rfl, rfl, fun m h => by omega⟩
  case round =>
    obtain ⟨j, hj, rfl, rfl, HN⟩ := hrel
    obtain ⟨a0, a1, a2, a3, a4, a5, a6⟩ := seven HT.out.fst
    obtain ⟨d0, d1, d2, d3, d4, d5, d6⟩ := seven HT.out.snd
    have zr := free_block HT.out.snd
    by_cases hlt : j < keys.length
    · have HJ := Lib.hid (show keys[j]? = some keys[j] from List.getElem?_eq_getElem hlt)
      obtain ⟨hsz, kb, ko, hkp, hkc⟩ := strsAt_later HT.out.below (SV.in_flat HX.out).strs j keys[j] (by rw [e2]; exact HJ.out)
      rw [e5] at hkp
      subst hkp
      have kcell := hkc 0 _ rfl
      simp only [Nat.add_zero] at kcell
      clear hkc
      generalize keys[j] = kj at *
      have hj2 : (j : Int) < keys.length := by omega
      by_cases hs : kj = s
      · have hb : (kj.toList == s.toList) = true := ba_true hs
        have hjl : j < items.length := by have := HKL.out; omega
        have hit := SV.in_item (SV.in_later HT.out.below _ HX.out) (show Y.items[j]? = some items[j] by rw [e3]; exact List.getElem?_eq_getElem hjl)
        rw [e4] at hit
        obtain ⟨⟨bi, oi, hip, hcs⟩, -⟩ := hit
        subst hip
        have HZ := Lib.hid (show items[j]? = some items[j] from List.getElem?_eq_getElem hjl)
        generalize items[j] = Z at *
        have hkj : keys[j]? = some s := by rw [HJ.out, hs]
        obtain ⟨rfl, rfl⟩ := HAT.out j Z (HF1.out j HN.out hkj) HZ.out
        have c0 := hcs 0 _ rfl
        have c1 := hcs 1 _ rfl
        have c2 := hcs 2 _ rfl
        have c3 := hcs 3 _ rfl
        have c4 := hcs 4 _ rfl
        have c5 := hcs 5 _ rfl
        have c6 := hcs 6 _ rfl
        clear hcs
        simp only [Nat.add_zero] at c0
        have hj3 : (j : Int) < items.length := by omega
        have HBW := Lib.hid HT.out.below
        go_wp2_with fail
        refine bodyPost_ret (by simp [results, Try.results74, go_sem, d0, d1, d2, d3, d4, d5, d6]; rfl) rfl ⟨rfl, ?_⟩
        repeat (refine Below.setCell ?_ (by simp) _)
        exact HBW.out
      · have hb : (kj.toList == s.toList) = false := ba_false hs
        go_wp2_with fail
        go_roundw
        case rel => exact ⟨j + 1, by omega, by go_num, trivial, fun m hm => by
          by_cases hmj : m = j
          · subst hmj
            rw [HJ.out]
            exact fun e => hs (by cases e; rfl)
          · exact HN.out m (by omega)⟩
        case measure => simp [intOf]; omega
    · have hjn : j = keys.length := by omega
      subst hjn
      obtain ⟨rfl, rfl⟩ := HNO.out (HF2.out HN.out)
      have HBW := Lib.hid HT.out.below
      go_wp2_with fail
      refine bodyPost_ret (by simp [results, Try.results74, go_sem, d0, d1, d2, d3, d4, d5, d6, zeroV]) rfl ⟨rfl, ?_⟩
      repeat (refine Below.setCell ?_ (by simp) _)
      exact HBW.out

set_option maxHeartbeats 2000000 in
set_option maxRecDepth 100000 in
theorem same_list (x y : SV) (hx : x.kind = 5) (hy : y.kind = 5) (hl : x.items.length = y.items.length) (hkx : x.keys = []) (hky : y.keys = []) (IH : ∀ (i : Nat) (a b : SV), x.items[i]? = some a → y.items[i]? = some b → ∀ w, SV.In w a → SV.In w b → Calls Try.prog 76 #[a.val, b.val] w (Gives (.bool true) w)) (w : World) (hin : SV.In w x) (hin2 : SV.In w y) : Calls Try.prog 76 #[x.val, y.val] w (Gives (.bool true) w) := by
  have HX := Lib.hid hin
  have HY := Lib.hid hin2
  have HIH := Lib.hid IH
  clear hin hin2 IH
  generalize hxx : x = X at *
  generalize hyy : y = Y at *
  cases x with
  | mk k n f t b ip ic items kp kc keys =>
  cases y with
  | mk k2 n2 f2 t2 b2 ip2 ic2 items2 kp2 kc2 keys2 =>
  have vx : X.val = .agg #[.int .i64 k, .int .i64 n, .float .f64 f, .string t, .bool b, .slice ip items.length ic, .slice kp keys.length kc] := by rw [← hxx]; rfl
  have vy : Y.val = .agg #[.int .i64 k2, .int .i64 n2, .float .f64 f2, .string t2, .bool b2, .slice ip2 items2.length ic2, .slice kp2 keys2.length kc2] := by rw [← hyy]; rfl
  have e1 : X.kind = k := by rw [← hxx]; rfl
  have e2 : X.keys = keys := by rw [← hxx]; rfl
  have e3 : X.items = items := by rw [← hxx]; rfl
  have e4 : X.ip = ip := by rw [← hxx]; rfl
  have e5 : X.kp = kp := by rw [← hxx]; rfl
  have g1 : Y.kind = k2 := by rw [← hyy]; rfl
  have g2 : Y.keys = keys2 := by rw [← hyy]; rfl
  have g3 : Y.items = items2 := by rw [← hyy]; rfl
  have g4 : Y.ip = ip2 := by rw [← hyy]; rfl
  have hic : items.length ≤ ic ∧ ic ≤ 9223372036854775807 := by have := (SV.in_flat HX.out).items; rw [← hxx] at this; exact this
  have hic2 : items2.length ≤ ic2 ∧ ic2 ≤ 9223372036854775807 := by have := (SV.in_flat HY.out).items; rw [← hyy] at this; exact this
  have hkcc : keys.length ≤ kc ∧ kc ≤ 9223372036854775807 := by have := (SV.in_flat HX.out).keys; rw [← hxx] at this; exact this
  rw [e1] at hx
  rw [g1] at hy
  subst hx
  subst hy
  rw [e3, g3] at hl
  rw [e2] at hkx
  rw [g2] at hky
  rw [vx, vy]
  have HL := Lib.hid hl
  subst hkx
  subst hky
  clear vx hxx hyy
  have hl1 : items.length ≤ items2.length := by omega
  have hicl : (items.length : Int) ≤ ic := by omega
  have hicl2 : (items.length : Int) ≤ ic2 := by omega
  simp only [List.length_nil]
  rw [← hl]
  clear hl
  go_enter Try.func76, Try.ntmps76
  go_wp2_with fail
  have HT0 : Hid (Two w ((w.alloc (.cells #[.int .i64 5, .int .i64 n, .float .f64 f, .string t, .bool b, .slice ip items.length ic, .slice kp 0 kc] 30)).alloc (.cells #[.int .i64 5, .int .i64 n2, .float .f64 f2, .string t2, .bool b2, .slice ip2 items.length ic2, .slice kp2 0 kc2] 30)) (.cells #[.int .i64 5, .int .i64 n, .float .f64 f, .string t, .bool b, .slice ip items.length ic, .slice kp 0 kc] 30) (.cells #[.int .i64 5, .int .i64 n2, .float .f64 f2, .string t2, .bool b2, .slice ip2 items.length ic2, .slice kp2 0 kc2] 30)) := Two.mk' (Below.refl _ _)
  go_loopw [83] (fun i wr => ∃ j : Nat, j ≤ items.length ∧ i = .int .i64 j ∧ Hid (Two w wr (.cells #[.int .i64 5, .int .i64 n, .float .f64 f, .string t, .bool b, .slice ip items.length ic, .slice kp 0 kc] 30) (.cells #[.int .i64 5, .int .i64 n2, .float .f64 f2, .string t2, .bool b2, .slice ip2 items.length ic2, .slice kp2 0 kc2] 30))) (fun i _ => items.length - (intOf i).toNat)
  case atStart => exact ⟨0, Nat.zero_le _, rfl, HT0.out⟩
  case round =>
    obtain ⟨j, hj, rfl, TR⟩ := hrel
    clear HT0
    by_cases hlt : j < items.length
    · have hjy : j < items2.length := by have := HL.out; omega
      have hit := SV.in_item (SV.in_later TR.out.below _ HX.out) (show X.items[j]? = some items[j] by rw [e3]; exact List.getElem?_eq_getElem hlt)
      have hit2 := SV.in_item (SV.in_later TR.out.below _ HY.out) (show Y.items[j]? = some items2[j] by rw [g3]; exact List.getElem?_eq_getElem hjy)
      have HIJ := Lib.hid (HIH.out j items[j] items2[j] (by rw [e3]; exact List.getElem?_eq_getElem hlt) (by rw [g3]; exact List.getElem?_eq_getElem hjy))
      rw [e4] at hit
      rw [g4] at hit2
      obtain ⟨⟨bi, oi, hip, hcs⟩, hina⟩ := hit
      obtain ⟨⟨bj, oj, hip2, hcs2⟩, hinb⟩ := hit2
      subst hip
      subst hip2
      generalize items[j] = Xa at *
      generalize items2[j] = Yb at *
      obtain ⟨k3, n3, f3, t3, b3, ip3, ic3, il3, kp3, kl3, kc3, cx, vxa⟩ : ∃ k3 n3 f3 t3 b3 ip3 ic3 il3 kp3 kl3 kc3, Xa.cells = [.int .i64 k3, .int .i64 n3, .float .f64 f3, .string t3, .bool b3, .slice ip3 il3 ic3, .slice kp3 kl3 kc3] ∧
          Xa.val = .agg #[.int .i64 k3, .int .i64 n3, .float .f64 f3, .string t3, .bool b3, .slice ip3 il3 ic3, .slice kp3 kl3 kc3] := ⟨_, _, _, _, _, _, _, _, _, _, _, rfl, rfl⟩
      obtain ⟨k4, n4, f4, t4, b4, ip4, ic4, il4, kp4, kl4, kc4, cy, vyb⟩ : ∃ k3 n3 f3 t3 b3 ip3 ic3 il3 kp3 kl3 kc3, Yb.cells = [.int .i64 k3, .int .i64 n3, .float .f64 f3, .string t3, .bool b3, .slice ip3 il3 ic3, .slice kp3 kl3 kc3] ∧
          Yb.val = .agg #[.int .i64 k3, .int .i64 n3, .float .f64 f3, .string t3, .bool b3, .slice ip3 il3 ic3, .slice kp3 kl3 kc3] := ⟨_, _, _, _, _, _, _, _, _, _, _, rfl, rfl⟩
      rw [cx] at hcs
      rw [vxa, vyb] at HIJ
      have HCS := Lib.hid hcs
      have HNA := Lib.hid hina
      have HNB := Lib.hid hinb
      rw [cy] at hcs2
      have HCS2 := Lib.hid hcs2
      have c0 := hcs 0 _ rfl
      have c1 := hcs 1 _ rfl
      have c2 := hcs 2 _ rfl
      have c3 := hcs 3 _ rfl
      have c4 := hcs 4 _ rfl
      have c5 := hcs 5 _ rfl
      have c6 := hcs 6 _ rfl
      simp only [Nat.add_zero] at c0
      clear hcs hina hinb hcs2
      obtain ⟨a0, a1, a2, a3, a4, a5, a6⟩ := seven TR.out.fst
      obtain ⟨d0, d1, d2, d3, d4, d5, d6⟩ := seven TR.out.snd
      have hj2 : (j : Int) < items.length := by omega
      clear cx vxa cy vyb
      go_wp2_with fail
      clear c0 c1 c2 c3 c4 c5 c6 a0 a1 a2 a3 a4 a5 a6 d0 d1 d2 d3 d4 d5 d6
      have TA := Lib.hid (TR.out.later ((Below.refl _ _).alloc (Nat.le_refl _) (.cells #[.int .i64 k3, .int .i64 n3, .float .f64 f3, .string t3, .bool b3, .slice ip3 il3 ic3, .slice kp3 kl3 kc3] 30)))
      have BA : Hid (Below wr.heap.size wr (wr.alloc (.cells #[.int .i64 k3, .int .i64 n3, .float .f64 f3, .string t3, .bool b3, .slice ip3 il3 ic3, .slice kp3 kl3 kc3] 30))) := (Below.refl _ _).alloc (Nat.le_refl _) _
      have HGA := Lib.hid (heap_alloc_new wr (.cells #[.int .i64 k3, .int .i64 n3, .float .f64 f3, .string t3, .bool b3, .slice ip3 il3 ic3, .slice kp3 kl3 kc3] 30))
      obtain ⟨W, hW⟩ : ∃ W, W = wr.alloc (.cells #[.int .i64 k3, .int .i64 n3, .float .f64 f3, .string t3, .bool b3, .slice ip3 il3 ic3, .slice kp3 kl3 kc3] 30) := ⟨_, rfl⟩
      rw [← hW] at TA BA HGA ⊢
      clear hW
      refine wp_region_phase [0, 1, 2, 3, 4, 5] [6, 7] [] [some 88, some 89, some 90, some 91, some 92, some 93, some 94, some 95] _
        (fun p => match p with
          | 0 => .agg #[.int .i64 k3, .int .i64 n3, .float .f64 f3, .string t3, .bool b3, .slice ip3 il3 ic3, .slice kp3 kl3 kc3]
          | 1 => .pointer (some ⟨w.heap.size + 1, 5, none⟩)
          | 2 => .slice (some ⟨bj, oj, none⟩) items.length ic2
          | 3 => .int .i64 j
          | 4 => .pointer (some ⟨bj, oj + j * 7, none⟩)
          | 5 => .agg #[.int .i64 k4, .int .i64 n4, .float .f64 f4, .string t4, .bool b4, .slice ip4 il4 ic4, .slice kp4 kl4 kc4]
          | _ => .nilIface)
        (fun k v w' => Hid (Below W.heap.size W w' ∧ match k with
          | 0 => True
          | 1 => v 0 = .bool true
          | 2 => v 1 = .bool false
          | _ => False))
        (by kernel_rfl) (by kernel_rfl) rfl rfl ?start ?read ?step ?tail
      case start =>
        intro v
        exact ⟨(Below.refl _ _).drew, trivial⟩
      case read =>
        intro pp i o hp ho u k w' hJ hF K hK Q'
        have hpc : pp = 0 ∨ pp = 1 ∨ pp = 2 ∨ pp = 3 ∨ pp = 4 ∨ pp = 5 := by
          have : pp < 6 := (List.getElem?_eq_some_iff.1 hp).1
          omega
        rcases hpc with rfl | rfl | rfl | rfl | rfl | rfl
        all_goals
          simp only [List.getElem?_cons_zero, List.getElem?_cons_succ, Option.some.injEq] at hp
          subst hp
          simp only [List.getElem?_toArray, List.getElem?_cons_zero, List.getElem?_cons_succ, Option.some.injEq] at ho
          subst ho
          have HF := Lib.hid hF
          clear hF
          simp only [putAll, Act.put, List.setIfInBounds_toArray, List.set_cons_succ, List.set_cons_zero, Nat.zero_add, Nat.reduceAdd] at hK ⊢
        · obtain ⟨o0, o1, o2, o3, o4, o5, o6⟩ := seven ((hJ.out.1.block _ (lt_of_block HGA.out)).trans HGA.out)
          have HKK := Lib.hid hK
          clear hK
          go_simp
          exact HKK.out
        · have HKK := Lib.hid hK
          clear hK
          go_simp
          exact HKK.out
        · have f1 : u 1 = _ := HF.out 1 1 rfl (by kernel_rfl)
          rw [f1] at hK ⊢
          obtain ⟨o0, o1, o2, o3, o4, o5, o6⟩ := seven (TA.out.later hJ.out.1).snd
          have HKK := Lib.hid hK
          clear hK f1
          go_simp
          exact HKK.out
        · have HKK := Lib.hid hK
          clear hK
          go_simp
          exact HKK.out
        · have f2 : u 2 = _ := HF.out 2 2 rfl (by kernel_rfl)
          have f3 : u 3 = _ := HF.out 3 3 rfl (by kernel_rfl)
          rw [f2, f3] at hK ⊢
          have HKK := Lib.hid hK
          clear hK f2 f3
          go_simp
          exact HKK.out
        · have f4' : u 4 = _ := HF.out 4 4 rfl (by kernel_rfl)
          rw [f4'] at hK ⊢
          have hcc : ∀ m u, ([Value.int .i64 k4, .int .i64 n4, .float .f64 f4, .string t4, .bool b4, .slice ip4 il4 ic4, .slice kp4 kl4 kc4] : List Value)[m]? = some u → w'.cell? ⟨bj, oj + j * 7 + m, none⟩ = some u := fun m u h => by
            have h0 := HCS2.out m u h
            exact cell_later ((BA.out).trans (hJ.out.1.mono BA.out.size)) h0
          have o0 := hcc 0 _ rfl
          have o1 := hcc 1 _ rfl
          have o2 := hcc 2 _ rfl
          have o3 := hcc 3 _ rfl
          have o4 := hcc 4 _ rfl
          have o5 := hcc 5 _ rfl
          have o6 := hcc 6 _ rfl
          simp only [Nat.add_zero] at o0
          have HKK := Lib.hid hK
          clear hK f4' hcc
          go_simp
          exact HKK.out
      case step =>
        intro qq i o hp ho u w' hJ hF K hK Q'
        have hpc : qq = 0 ∨ qq = 1 := by
          have : qq < 2 := (List.getElem?_eq_some_iff.1 hp).1
          omega
        rcases hpc with rfl | rfl
        all_goals
          simp only [List.getElem?_cons_zero, List.getElem?_cons_succ, Option.some.injEq] at hp
          subst hp
          simp only [List.getElem?_toArray, List.getElem?_cons_zero, List.getElem?_cons_succ, Option.some.injEq] at ho
          subst ho
          have HF := Lib.hid hF
          clear hF
          simp only [putAll, Act.put, List.setIfInBounds_toArray, List.set_cons_succ, List.set_cons_zero, Nat.zero_add, Nat.reduceAdd] at hK ⊢
        · have f0 : u 0 = _ := HF.out 0 0 rfl (by kernel_rfl)
          have f5 : u 5 = _ := HF.out 5 5 rfl (by kernel_rfl)
          rw [f0, f5] at hK ⊢
          have hbw := (BA.out).trans (hJ.out.1.mono BA.out.size)
          have HC0 := Lib.hid (HIJ.out w' (SV.in_later hbw _ HNA.out) (SV.in_later hbw _ HNB.out))
          have HKK := Lib.hid hK
          have HJ1 := Lib.hid hJ.out.1
          clear hK f0 f5 hbw hJ
          go_simp
          refine Calls.mono (by exact HC0.out) ?_
          rintro e w7 ⟨rfl, hb7⟩
          exact HKK.out _ _ _ rfl ⟨HJ1.out.trans (hb7.mono HJ1.out.size), upd_at _ _ _⟩
        · have f6 : u 6 = .bool true := hJ.out.2
          rw [f6] at hK ⊢
          have HJ1 := Lib.hid hJ.out.1
          have HKK := Lib.hid hK
          clear hK f6 hJ
          go_simp
          exact HKK.out _ _ _ rfl ⟨HJ1.out, upd_at _ _ _⟩
      case tail =>
        intro u w' hJ hF K HKK
        have f7 : u 7 = .bool false := hJ.out.2
        have TB := Lib.hid (TA.out.later hJ.out.1)
        clear hJ hF
        simp only [putAll, Act.put, List.setIfInBounds_toArray, List.set_cons_succ, List.set_cons_zero, Nat.zero_add, Nat.reduceAdd, List.filterMap_cons, List.filterMap_nil, List.getElem?_toArray, List.getElem?_cons_zero, List.getElem?_cons_succ, f7]
        clear f7
        refine HKK.out _ _ ?_
        clear HKK
        go_wp2_with fail
        go_roundw
        case rel => exact ⟨j + 1, by omega, by go_num, TB.out⟩
        case measure => simp [intOf]; omega
    · have hjn : j = items.length := by omega
      subst hjn
      obtain ⟨a0, a1, a2, a3, a4, a5, a6⟩ := seven TR.out.fst
      go_wp2_with fail
      go_ret
      exact ⟨rfl, TR.out.below⟩

set_option maxHeartbeats 2000000 in
set_option maxRecDepth 100000 in
theorem same_map (x y : SV) (hx : x.kind = 6) (hy : y.kind = 6) (hl : x.items.length = y.items.length) (hkx : x.keys.length = x.items.length) (hky : y.keys.length = y.items.length) (hdf : ∀ (i j : Nat) (s : ByteArray), y.keys[i]? = some s → y.keys[j]? = some s → i = j) (Jf : Nat → Nat) (hj : ∀ (i : Nat) (s : ByteArray), x.keys[i]? = some s → y.keys[Jf i]? = some s) (IH : ∀ (i : Nat) (a b : SV), x.items[i]? = some a → y.items[Jf i]? = some b → ∀ w, SV.In w a → SV.In w b → Calls Try.prog 76 #[a.val, b.val] w (Gives (.bool true) w)) (w : World) (hin : SV.In w x) (hin2 : SV.In w y) : Calls Try.prog 76 #[x.val, y.val] w (Gives (.bool true) w) := by
  have HX := Lib.hid hin
  have HY := Lib.hid hin2
  have HIH := Lib.hid IH
  have HJF := Lib.hid hj
  have HDF := Lib.hid hdf
  have HVA := Lib.hid (vat_run y)
  clear hj hdf
  clear hin hin2 IH
  generalize hxx : x = X at *
  generalize hyy : y = Y at *
  cases x with
  | mk k n f t b ip ic items kp kc keys =>
  cases y with
  | mk k2 n2 f2 t2 b2 ip2 ic2 items2 kp2 kc2 keys2 =>
  have vx : X.val = .agg #[.int .i64 k, .int .i64 n, .float .f64 f, .string t, .bool b, .slice ip items.length ic, .slice kp keys.length kc] := by rw [← hxx]; rfl
  have vy : Y.val = .agg #[.int .i64 k2, .int .i64 n2, .float .f64 f2, .string t2, .bool b2, .slice ip2 items2.length ic2, .slice kp2 keys2.length kc2] := by rw [← hyy]; rfl
  have e1 : X.kind = k := by rw [← hxx]; rfl
  have e2 : X.keys = keys := by rw [← hxx]; rfl
  have e3 : X.items = items := by rw [← hxx]; rfl
  have e4 : X.ip = ip := by rw [← hxx]; rfl
  have e5 : X.kp = kp := by rw [← hxx]; rfl
  have g1 : Y.kind = k2 := by rw [← hyy]; rfl
  have g2 : Y.keys = keys2 := by rw [← hyy]; rfl
  have g3 : Y.items = items2 := by rw [← hyy]; rfl
  have g4 : Y.ip = ip2 := by rw [← hyy]; rfl
  have hic : items.length ≤ ic ∧ ic ≤ 9223372036854775807 := by have := (SV.in_flat HX.out).items; rw [← hxx] at this; exact this
  have hic2 : items2.length ≤ ic2 ∧ ic2 ≤ 9223372036854775807 := by have := (SV.in_flat HY.out).items; rw [← hyy] at this; exact this
  have hkcc : keys.length ≤ kc ∧ kc ≤ 9223372036854775807 := by have := (SV.in_flat HX.out).keys; rw [← hxx] at this; exact this
  rw [e1] at hx
  rw [g1] at hy
  subst hx
  subst hy
  rw [e3, g3] at hl
  rw [e2, e3] at hkx
  rw [g2, g3] at hky
  rw [vx, vy]
  have HL := Lib.hid hl
  have hkk : keys.length = keys2.length := by omega
  have HKX := Lib.hid hkx
  have HKY := Lib.hid hky
  rw [vy] at HVA
  clear hkx hky
  clear vx hxx hyy
  have hl1 : items.length ≤ items2.length := by omega
  have hicl : (items.length : Int) ≤ ic := by omega
  have hicl2 : (items.length : Int) ≤ ic2 := by omega
  have hkcl : (keys.length : Int) ≤ kc := by omega
  rw [← hl, ← hkk]
  rw [← hl, ← hkk] at HVA
  clear hl hkk
  go_enter Try.func76, Try.ntmps76
  go_wp2_with fail
  have HT0 : Hid (Two w ((w.alloc (.cells #[.int .i64 6, .int .i64 n, .float .f64 f, .string t, .bool b, .slice ip items.length ic, .slice kp keys.length kc] 30)).alloc (.cells #[.int .i64 6, .int .i64 n2, .float .f64 f2, .string t2, .bool b2, .slice ip2 items.length ic2, .slice kp2 keys.length kc2] 30)) (.cells #[.int .i64 6, .int .i64 n, .float .f64 f, .string t, .bool b, .slice ip items.length ic, .slice kp keys.length kc] 30) (.cells #[.int .i64 6, .int .i64 n2, .float .f64 f2, .string t2, .bool b2, .slice ip2 items.length ic2, .slice kp2 keys.length kc2] 30)) := Two.mk' (Below.refl _ _)
  go_loopw [102] (fun i wr => ∃ j : Nat, j ≤ keys.length ∧ i = .int .i64 j ∧ Hid (Two w wr (.cells #[.int .i64 6, .int .i64 n, .float .f64 f, .string t, .bool b, .slice ip items.length ic, .slice kp keys.length kc] 30) (.cells #[.int .i64 6, .int .i64 n2, .float .f64 f2, .string t2, .bool b2, .slice ip2 items.length ic2, .slice kp2 keys.length kc2] 30))) (fun i _ => keys.length - (intOf i).toNat)
  case atStart => exact ⟨0, Nat.zero_le _, rfl, HT0.out⟩
  case round =>
    obtain ⟨j, hj, rfl, TR⟩ := hrel
    clear HT0
    by_cases hlt : j < keys.length
    · have hjx : j < items.length := by have := HKX.out; omega
      have HKJ := Lib.hid (show keys[j]? = some keys[j] from List.getElem?_eq_getElem hlt)
      obtain ⟨hsz, kb, ko, hkp, hkc⟩ := strsAt_later TR.out.below (SV.in_flat HX.out).strs j keys[j] (by rw [e2]; exact HKJ.out)
      rw [e5] at hkp
      subst hkp
      have kcell := hkc 0 _ rfl
      simp only [Nat.add_zero] at kcell
      clear hkc hsz
      have hyk := HJF.out j _ (by rw [e2]; exact HKJ.out)
      have hjy : Jf j < items2.length := by have := (List.getElem?_eq_some_iff.1 hyk).1; rw [g2] at this; have := HKY.out; omega
      have hit := SV.in_item (SV.in_later TR.out.below _ HX.out) (show X.items[j]? = some items[j] by rw [e3]; exact List.getElem?_eq_getElem hjx)
      have hit2 := SV.in_item (SV.in_later TR.out.below _ HY.out) (show Y.items[Jf j]? = some items2[Jf j] by rw [g3]; exact List.getElem?_eq_getElem hjy)
      have HIJ := Lib.hid (HIH.out j items[j] items2[Jf j] (by rw [e3]; exact List.getElem?_eq_getElem hjx) (by rw [g3]; exact List.getElem?_eq_getElem hjy))
      have HV0 := HVA.out wr (SV.in_later TR.out.below _ HY.out) (by rw [g2, g3]; exact HKY.out) keys[j]
      have hidx := keyIdx_at' HDF.out hyk
      unfold atV at HV0
      rw [hidx] at HV0
      simp only [Option.bind_some, g3, List.getElem?_eq_getElem hjy, Option.map_some, Option.getD_some, Option.isSome_some] at HV0
      have HVC := Lib.hid HV0
      rw [e4] at hit
      obtain ⟨⟨bi, oi, hip, hcs⟩, hina⟩ := hit
      obtain ⟨-, hinb⟩ := hit2
      subst hip
      clear HV0 hidx hyk
      generalize items[j] = Xa at *
      generalize items2[Jf j] = Yb at *
      generalize keys[j] = kj at *
      obtain ⟨k3, n3, f3, t3, b3, ip3, ic3, il3, kp3, kl3, kc3, cx, vxa⟩ : ∃ k3 n3 f3 t3 b3 ip3 ic3 il3 kp3 kl3 kc3, Xa.cells = [.int .i64 k3, .int .i64 n3, .float .f64 f3, .string t3, .bool b3, .slice ip3 il3 ic3, .slice kp3 kl3 kc3] ∧
          Xa.val = .agg #[.int .i64 k3, .int .i64 n3, .float .f64 f3, .string t3, .bool b3, .slice ip3 il3 ic3, .slice kp3 kl3 kc3] := ⟨_, _, _, _, _, _, _, _, _, _, _, rfl, rfl⟩
      obtain ⟨k4, n4, f4, t4, b4, ip4, ic4, il4, kp4, kl4, kc4, cy, vyb⟩ : ∃ k3 n3 f3 t3 b3 ip3 ic3 il3 kp3 kl3 kc3, Yb.cells = [.int .i64 k3, .int .i64 n3, .float .f64 f3, .string t3, .bool b3, .slice ip3 il3 ic3, .slice kp3 kl3 kc3] ∧
          Yb.val = .agg #[.int .i64 k3, .int .i64 n3, .float .f64 f3, .string t3, .bool b3, .slice ip3 il3 ic3, .slice kp3 kl3 kc3] := ⟨_, _, _, _, _, _, _, _, _, _, _, rfl, rfl⟩
      rw [cx] at hcs
      rw [vxa, vyb] at HIJ
      have HCS := Lib.hid hcs
      have HNA := Lib.hid hina
      have HNB := Lib.hid hinb
      rw [vyb] at HVC
      have c0 := hcs 0 _ rfl
      have c1 := hcs 1 _ rfl
      have c2 := hcs 2 _ rfl
      have c3 := hcs 3 _ rfl
      have c4 := hcs 4 _ rfl
      have c5 := hcs 5 _ rfl
      have c6 := hcs 6 _ rfl
      simp only [Nat.add_zero] at c0
      clear hcs hina hinb
      obtain ⟨a0, a1, a2, a3, a4, a5, a6⟩ := seven TR.out.fst
      obtain ⟨d0, d1, d2, d3, d4, d5, d6⟩ := seven TR.out.snd
      have hj2 : (j : Int) < keys.length := by omega
      clear cx vxa cy vyb
      go_wp2_with fail
      refine Calls.mono (by exact HVC.out) ?_
      rintro e w5 ⟨rfl, hb5⟩
      have HB5 := Lib.hid hb5
      have T5 := Lib.hid (TR.out.later hb5)
      clear hb5 c0 c1 c2 c3 c4 c5 c6 a0 a1 a2 a3 a4 a5 a6 d0 d1 d2 d3 d4 d5 d6 kcell HVC
      go_wp2_with fail
      have TA := Lib.hid (T5.out.later ((Below.refl _ _).alloc (Nat.le_refl _) (.cells #[.int .i64 k4, .int .i64 n4, .float .f64 f4, .string t4, .bool b4, .slice ip4 il4 ic4, .slice kp4 kl4 kc4] 30)))
      have BA : Hid (Below wr.heap.size wr (w5.alloc (.cells #[.int .i64 k4, .int .i64 n4, .float .f64 f4, .string t4, .bool b4, .slice ip4 il4 ic4, .slice kp4 kl4 kc4] 30))) := HB5.out.trans (((Below.refl _ _).alloc (Nat.le_refl _) _).mono HB5.out.size)
      have HGA := Lib.hid (heap_alloc_new w5 (.cells #[.int .i64 k4, .int .i64 n4, .float .f64 f4, .string t4, .bool b4, .slice ip4 il4 ic4, .slice kp4 kl4 kc4] 30))
      obtain ⟨W, hW⟩ : ∃ W, W = w5.alloc (.cells #[.int .i64 k4, .int .i64 n4, .float .f64 f4, .string t4, .bool b4, .slice ip4 il4 ic4, .slice kp4 kl4 kc4] 30) := ⟨_, rfl⟩
      rw [← hW] at TA BA HGA ⊢
      clear hW
      have hjx2 : (j : Int) < items.length := by omega
      refine wp_region_phaseg [0, 1, 2, 3, 4, 5, 6, 7, 8] [9, 10, 11] [] [some 113, some 114, some 115, some 116, some 117, some 118, some 119, some 120, some 121, some 122, some 123, some 124] _
        (fun p => match p with
          | 0 => .bool true
          | 1 => .bool false
          | 2 => .bool false
          | 3 => .pointer (some ⟨w.heap.size, 5, none⟩)
          | 4 => .slice (some ⟨bi, oi, none⟩) items.length ic
          | 5 => .int .i64 j
          | 6 => .pointer (some ⟨bi, oi + j * 7, none⟩)
          | 7 => .agg #[.int .i64 k3, .int .i64 n3, .float .f64 f3, .string t3, .bool b3, .slice ip3 il3 ic3, .slice kp3 kl3 kc3]
          | 8 => .agg #[.int .i64 k4, .int .i64 n4, .float .f64 f4, .string t4, .bool b4, .slice ip4 il4 ic4, .slice kp4 kl4 kc4]
          | _ => .nilIface)
        (fun k v w' => Hid (Below W.heap.size W w' ∧ match k with
          | 0 => True
          | 1 => v 0 = .bool true
          | 2 => v 1 = .bool false
          | 3 => v 2 = .bool false
          | _ => False))
        (by kernel_rfl) (by kernel_rfl) rfl rfl ?want ?start ?read ?step ?tail
      case want =>
        intro i o hi ho u hF
        have hic : i = 0 ∨ i = 1 ∨ i = 2 ∨ i = 3 ∨ i = 4 ∨ i = 5 ∨ i = 6 ∨ i = 7 ∨ i = 8 ∨ i = 9 ∨ i = 10 ∨ i = 11 := by simpa using hi
        rcases hic with rfl | rfl | rfl | rfl | rfl | rfl | rfl | rfl | rfl | rfl | rfl | rfl
        all_goals
          simp only [List.getElem?_toArray, List.getElem?_cons_zero, List.getElem?_cons_succ, Option.some.injEq] at ho
          subst ho
        iterate 3 (· rfl)
        iterate 8 (· exact wanted_of 2 2 115 false rfl rfl rfl rfl (by kernel_rfl) (hF 2 2 rfl (by kernel_rfl)))
        · rfl
      case start =>
        intro v
        exact ⟨(Below.refl _ _).drew, trivial⟩
      case read =>
        intro pp i o hp ho u k w' hJ hF K hK Q'
        have hpc : pp = 0 ∨ pp = 1 ∨ pp = 2 ∨ pp = 3 ∨ pp = 4 ∨ pp = 5 ∨ pp = 6 ∨ pp = 7 ∨ pp = 8 := by
          have : pp < 9 := (List.getElem?_eq_some_iff.1 hp).1
          omega
        rcases hpc with rfl | rfl | rfl | rfl | rfl | rfl | rfl | rfl | rfl
        all_goals
          simp only [List.getElem?_cons_zero, List.getElem?_cons_succ, Option.some.injEq] at hp
          subst hp
          simp only [List.getElem?_toArray, List.getElem?_cons_zero, List.getElem?_cons_succ, Option.some.injEq] at ho
          subst ho
          have HF := Lib.hid hF
          clear hF
          simp only [putAll, Act.put, List.setIfInBounds_toArray, List.set_cons_succ, List.set_cons_zero, Nat.zero_add, Nat.reduceAdd] at hK ⊢
        · have HKK := Lib.hid hK
          clear hK
          go_simp
          exact HKK.out
        · have f0 : u 0 = _ := HF.out 0 0 rfl (by kernel_rfl)
          rw [f0] at hK ⊢
          have HKK := Lib.hid hK
          clear hK f0
          go_simp
          exact HKK.out
        · have f1 : u 1 = _ := HF.out 1 1 rfl (by kernel_rfl)
          rw [f1] at hK ⊢
          have HKK := Lib.hid hK
          clear hK f1
          go_simp
          exact HKK.out
        · have HKK := Lib.hid hK
          clear hK
          go_simp
          exact HKK.out
        · have f3 : u 3 = _ := HF.out 3 3 rfl (by kernel_rfl)
          rw [f3] at hK ⊢
          obtain ⟨o0, o1, o2, o3, o4, o5, o6⟩ := seven (TA.out.later hJ.out.1).fst
          have HKK := Lib.hid hK
          clear hK f3
          go_simp
          exact HKK.out
        · have HKK := Lib.hid hK
          clear hK
          go_simp
          exact HKK.out
        · have f4 : u 4 = _ := HF.out 4 4 rfl (by kernel_rfl)
          have f5 : u 5 = _ := HF.out 5 5 rfl (by kernel_rfl)
          rw [f4, f5] at hK ⊢
          have HKK := Lib.hid hK
          clear hK f4 f5
          go_simp
          exact HKK.out
        · have f6' : u 6 = _ := HF.out 6 6 rfl (by kernel_rfl)
          rw [f6'] at hK ⊢
          have hcc : ∀ m u, ([Value.int .i64 k3, .int .i64 n3, .float .f64 f3, .string t3, .bool b3, .slice ip3 il3 ic3, .slice kp3 kl3 kc3] : List Value)[m]? = some u → w'.cell? ⟨bi, oi + j * 7 + m, none⟩ = some u := fun m u h => by
            have h0 := HCS.out m u h
            exact cell_later ((BA.out).trans (hJ.out.1.mono BA.out.size)) h0
          have o0 := hcc 0 _ rfl
          have o1 := hcc 1 _ rfl
          have o2 := hcc 2 _ rfl
          have o3 := hcc 3 _ rfl
          have o4 := hcc 4 _ rfl
          have o5 := hcc 5 _ rfl
          have o6 := hcc 6 _ rfl
          simp only [Nat.add_zero] at o0
          have HKK := Lib.hid hK
          clear hK f6' hcc
          go_simp
          exact HKK.out
        · obtain ⟨o0, o1, o2, o3, o4, o5, o6⟩ := seven ((hJ.out.1.block _ (lt_of_block HGA.out)).trans HGA.out)
          have HKK := Lib.hid hK
          clear hK
          go_simp
          exact HKK.out
      case step =>
        intro qq i o hp ho u w' hJ hF K hK Q'
        have hpc : qq = 0 ∨ qq = 1 ∨ qq = 2 := by
          have : qq < 3 := (List.getElem?_eq_some_iff.1 hp).1
          omega
        rcases hpc with rfl | rfl | rfl
        all_goals
          simp only [List.getElem?_cons_zero, List.getElem?_cons_succ, Option.some.injEq] at hp
          subst hp
          simp only [List.getElem?_toArray, List.getElem?_cons_zero, List.getElem?_cons_succ, Option.some.injEq] at ho
          subst ho
          have HF := Lib.hid hF
          clear hF
          simp only [putAll, Act.put, List.setIfInBounds_toArray, List.set_cons_succ, List.set_cons_zero, Nat.zero_add, Nat.reduceAdd] at hK ⊢
        · have f7 : u 7 = _ := HF.out 7 7 rfl (by kernel_rfl)
          have f8 : u 8 = _ := HF.out 8 8 rfl (by kernel_rfl)
          rw [f7, f8] at hK ⊢
          have hbw := (BA.out).trans (hJ.out.1.mono BA.out.size)
          have HC0 := Lib.hid (HIJ.out w' (SV.in_later hbw _ HNA.out) (SV.in_later hbw _ HNB.out))
          have HKK := Lib.hid hK
          have HJ1 := Lib.hid hJ.out.1
          clear hK f7 f8 hbw hJ
          go_simp
          refine Calls.mono (by exact HC0.out) ?_
          rintro e w7 ⟨rfl, hb7⟩
          exact HKK.out _ _ _ rfl ⟨HJ1.out.trans (hb7.mono HJ1.out.size), upd_at _ _ _⟩
        · have f9 : u 9 = .bool true := hJ.out.2
          rw [f9] at hK ⊢
          have HJ1 := Lib.hid hJ.out.1
          have HKK := Lib.hid hK
          clear hK f9 hJ
          go_simp
          exact HKK.out _ _ _ rfl ⟨HJ1.out, upd_at _ _ _⟩
        · have f10 : u 10 = .bool false := hJ.out.2
          have f2 : u 2 = .bool false := HF.out 2 2 rfl (by kernel_rfl)
          rw [f10, f2] at hK ⊢
          have HJ1 := Lib.hid hJ.out.1
          have HKK := Lib.hid hK
          clear hK f10 f2 hJ
          go_simp
          exact HKK.out _ _ _ rfl ⟨HJ1.out, upd_at _ _ _⟩
      case tail =>
        intro u w' hJ hF K HKK
        have f11 : u 11 = .bool false := hJ.out.2
        have TB := Lib.hid (TA.out.later hJ.out.1)
        clear hJ hF
        simp only [putAll, Act.put, List.setIfInBounds_toArray, List.set_cons_succ, List.set_cons_zero, Nat.zero_add, Nat.reduceAdd, List.filterMap_cons, List.filterMap_nil, List.getElem?_toArray, List.getElem?_cons_zero, List.getElem?_cons_succ, f11]
        clear f11
        refine HKK.out _ _ ?_
        clear HKK
        go_wp2_with fail
        go_roundw
        case rel => exact ⟨j + 1, by omega, by go_num, TB.out⟩
        case measure => simp [intOf]; omega
    · have hjn : j = keys.length := by omega
      subst hjn
      obtain ⟨a0, a1, a2, a3, a4, a5, a6⟩ := seven TR.out.fst
      go_wp2_with fail
      go_ret
      exact ⟨rfl, TR.out.below⟩

/-- 'spec.Same' at values that are the same. -/
theorem same_like {x y : SV} (h : Like x y) : ∀ w : World, SV.In w x → SV.In w y → SV.Ok y → Calls Try.prog 76 #[x.val, y.val] w (Gives (.bool true) w) := by
  induction h with
  | plain x y hk he hi hks h1 h2 h3 h4 =>
    intro w _ _ _
    have := same_plain x.kind x.int y.int hk x.fl y.fl x.text y.text x.bool y.bool x.ip y.ip x.kp y.kp x.ic y.ic x.kc y.kc h1 (fun e => by
      rw [h2 e]
      rcases order_itself y.fl with h | h
      · exact .inr ⟨by rw [h]; rfl, by rw [h]; rfl, by rw [h]; rfl⟩
      · exact .inl (by rw [h]; rfl)) h3 h4 w
    unfold SV.val
    rw [hi.1, hi.2, hks.1, hks.2, ← he]
    exact this
  | list x y hx hy hks hl h ih =>
    intro w h1 h2 hok
    exact same_list x y hx hy hl hks.1 hks.2 (fun i a b ha hb w ia ib => ih i a b ha hb w ia ib (SV.ok_item hok hb)) w h1 h2
  | map x y hx hy hl hkx hky J hj h ih =>
    intro w h1 h2 hok
    exact same_map x y hx hy hl hkx hky ((SV.ok_shape hok).2.2.2.2 hy).2 J hj (fun i a b ha hb w ia ib => ih i a b ha hb w ia ib (SV.ok_item hok hb)) w h1 h2

/-- 'spec.CuV' at every value at the door. -/
theorem cuV_any : ∀ (y : SV) (w : World) (B : Nat → Prop) (d : Dv), (∀ b, B b → b < w.heap.size) → DoorOf w B y d → Nice y → Calls Try.prog 75 #[d.val] w (GivesV y w) := by
  refine SV.ind fun y ih w B d hB hd hn => ?_
  cases hn with
  | mk _ nk ni nf nt nl nkk nke np n5 nsub =>
  have IH : ∀ (i : Nat) (z : SV), y.items[i]? = some z → ∀ (w' : World) (d : Dv), (∀ b, B b → b < w'.heap.size) → DoorOf w' B z d → Calls Try.prog 75 #[d.val] w' (GivesV z w') := fun i z hz w' d' hB' hd' => ih i z hz w' B d' hB' hd' (nsub i z hz)
  cases hd with
  | plain _ hk =>
    refine (cuV_plain y hk w).mono ?_
    rintro e w' ⟨rfl, hb⟩
    obtain ⟨hi, hks⟩ := np hk.2
    refine ⟨y.bare, rfl, hb, .mk _ ⟨?_, ?_, ?_, ?_, ?_, ?_⟩ (fun i s hs => by cases hs) (fun i z hz => by cases hz) (fun i z hz => by cases hz), .plain _ _ hk rfl ⟨rfl, hi⟩ ⟨rfl, hks⟩ (fun e => ?_) (fun e => ?_) (fun e => ?_) (fun e => ?_)⟩
    · show -9223372036854775808 ≤ y.kind ∧ y.kind ≤ 9223372036854775807
      omega
    · show -9223372036854775808 ≤ y.dn ∧ y.dn ≤ 9223372036854775807
      unfold SV.dn
      split
      · rename_i e; exact ni e
      · omega
    · show y.df < 18446744073709551616
      unfold SV.df
      split
      · rename_i e; exact nf e
      · omega
    · show y.dt.size ≤ 9223372036854775807
      unfold SV.dt
      split
      · rename_i e; have := nt e; omega
      · decide
    · show (0 : Nat) ≤ 0 ∧ 0 ≤ 9223372036854775807
      omega
    · show (0 : Nat) ≤ 0 ∧ 0 ≤ 9223372036854775807
      omega
    · have e' : y.kind = 1 := e
      show y.dn = y.int
      unfold SV.dn
      rw [if_pos e']
    · have e' : y.kind = 2 := e
      show y.df = y.fl
      unfold SV.df
      rw [if_pos e']
    · have e' : y.kind = 3 := e
      show y.dt = y.text
      unfold SV.dt
      rw [if_pos e']
    · have e' : y.kind = 4 := e
      show y.db = y.bool
      unfold SV.db
      rw [if_pos e']
  | list _ p c D hk hc hcell hsub => exact cuV_list y hk (n5 hk) nkk nl w B hB p c D hc hcell hsub IH
  | map _ kp kc p c D hk hc hkc hkey hcell hsub =>
    have hkl := nke hk
    rw [hkl]
    exact cuV_map y hk hkl nkk nl w B hB kp kc (by rw [← hkl]; exact hkc) hkey p c D hc hcell hsub IH

set_option maxHeartbeats 1000000 in
set_option maxRecDepth 100000 in
/-- 'spec.CuSame' at a value at the door that is the same as one of the reference. -/
theorem cuSame_like (y x : SV) (w : World) (B : Nat → Prop) (d : Dv) (hB : ∀ b, B b → b < w.heap.size) (hd : DoorOf w B y d) (hn : Nice y) (hl : Like y x) (hx : SV.In w x) (hok : SV.Ok x) : Calls Try.prog 33 #[d.val, x.val] w (Gives (.bool true) w) := by
  have HX := Lib.hid hx
  have HOK := Lib.hid hok
  have HL := Lib.hid hl
  have B2 : Below w.heap.size w ((w.alloc (.cells d.cells.toArray 35)).alloc (.cells x.cells.toArray 30)) := ((Below.refl _ _).alloc (Nat.le_refl _) _).alloc (by simp) _
  have HC := Lib.hid (cuV_any y ((w.alloc (.cells d.cells.toArray 35)).alloc (.cells x.cells.toArray 30)) B d (fun b h => Nat.lt_of_lt_of_le (hB b h) B2.size) (hd.keep (fun b h => B2.block b (hB b h)) (fun _ h => h)) hn)
  have HSL := Lib.hid (fun (x y : SV) (h : Like x y) => same_like h)
  clear hd hn hl hx hok hB B2
  unfold Dv.val Dv.cells at HC
  unfold Dv.val
  obtain ⟨k3, n3, f3, t3, b3, ip3, ic3, il3, kp3, kl3, kc3, cx, vx⟩ : ∃ k3 n3 f3 t3 b3 ip3 ic3 il3 kp3 kl3 kc3, x.cells = [.int .i64 k3, .int .i64 n3, .float .f64 f3, .string t3, .bool b3, .slice ip3 il3 ic3, .slice kp3 kl3 kc3] ∧
      x.val = .agg #[.int .i64 k3, .int .i64 n3, .float .f64 f3, .string t3, .bool b3, .slice ip3 il3 ic3, .slice kp3 kl3 kc3] := ⟨_, _, _, _, _, _, _, _, _, _, _, rfl, rfl⟩
  rw [vx]
  rw [cx] at HC
  have VX := Lib.hid vx
  clear vx cx
  go_enter Try.func33, Try.ntmps33
  go_wp2_with fail
  refine Calls.mono (by exact HC.out) ?_
  rintro e w1 ⟨z, rfl, hb, hz, hlk⟩
  have T1 := Lib.hid (Two.mk' hb)
  obtain ⟨k4, n4, f4, t4, b4, ip4, ic4, il4, kp4, kl4, kc4, cz, vz⟩ : ∃ k3 n3 f3 t3 b3 ip3 ic3 il3 kp3 kl3 kc3, z.cells = [.int .i64 k3, .int .i64 n3, .float .f64 f3, .string t3, .bool b3, .slice ip3 il3 ic3, .slice kp3 kl3 kc3] ∧
      z.val = .agg #[.int .i64 k3, .int .i64 n3, .float .f64 f3, .string t3, .bool b3, .slice ip3 il3 ic3, .slice kp3 kl3 kc3] := ⟨_, _, _, _, _, _, _, _, _, _, _, rfl, rfl⟩
  have BA : Below w1.heap.size w1 (w1.alloc (.cells #[.int .i64 k4, .int .i64 n4, .float .f64 f4, .string t4, .bool b4, .slice ip4 il4 ic4, .slice kp4 kl4 kc4] 30)) := (Below.refl _ _).alloc (Nat.le_refl _) _
  have T2 := Lib.hid (T1.out.later BA)
  have HS := HSL.out _ _ (hlk.trans HL.out) (w1.alloc (.cells #[.int .i64 k4, .int .i64 n4, .float .f64 f4, .string t4, .bool b4, .slice ip4 il4 ic4, .slice kp4 kl4 kc4] 30)) (SV.in_later BA _ hz.lies) (SV.in_later T2.out.below _ HX.out) HOK.out
  rw [vz, VX.out] at HS
  have HSS := Lib.hid HS
  rw [vz]
  obtain ⟨d0, d1, d2, d3, d4, d5, d6⟩ := seven T2.out.snd
  clear HS hb hz hlk BA cz vz HC HSL
  go_wp2_with fail
  refine Calls.mono (by exact HSS.out) ?_
  rintro e w2 ⟨rfl, hb⟩
  have T3 := Lib.hid (T2.out.later hb)
  clear hb d0 d1 d2 d3 d4 d5 d6
  go_wp2_with fail
  go_ret
  exact ⟨rfl, T3.out.below⟩
end Go.Proofs.Ythmogfjmngbamaa

