/-
  'runtime.ZzKeys' at a map keyed by texts: its keys, in some order that is theirs alone.
-/
import Derived.Test.YthmogfjmngbamaaKeysa
import Derived.Test.YthmogfjmngbamaaApp
import Derived.BigQuiet
namespace Go.Proofs.Ythmogfjmngbamaa
open Go.RowKit Go.ChangeMaps
set_option linter.unusedSimpArgs false
set_option linter.unusedVariables false

/-- How an element reads where nobody looks. -/
def blank (_ : Value) : Option (DataW Unit × List MemPlace) := some (.lit (.bool false), [])

theorem fit_blank {es : Array MapEntry} {clock : Nat} {ks : List ByteArray} (hst : MapKept.Stamped es clock) (hk : es.toList.map (·.key) = ks.map Value.string) (hlen : ks.length ≤ 200) (hsz : ∀ s ∈ ks, s.size ≤ 100) :
    Go.WideElems.Fit Try.prog 9 blank es clock := by
  have hl : es.size = ks.length := by
    have := congrArg List.length hk
    simpa using this
  refine ⟨by unfold maxLen; omega, hst, fun x hx => ?_⟩
  have hm : x.key ∈ ks.map Value.string := by rw [← hk]; exact List.mem_map.2 ⟨x, hx, rfl⟩
  obtain ⟨s, hs, he⟩ := List.mem_map.1 hm
  have hkey : keyOf Try.prog 9 x.key = some (.string s.data.toList) := by
    rw [← he]
    exact Go.WideMaps.keyOf_string_mk Try.underlying9 (by have := hsz s hs; unfold maxLen; omega)
  obtain ⟨key, val, born⟩ := x
  exact ⟨_, Go.WideElems.rd_mk hkey (show blank val = some _ from rfl)⟩

theorem keys_blank {es : Array MapEntry} {clock : Nat} {ks : List ByteArray} (F : Go.WideElems.Fit Try.prog 9 blank es clock) (hk : es.toList.map (·.key) = ks.map Value.string) :
    (strKeys (.map ((es.toList.map (Go.WideElems.rg Try.prog 9 blank)).foldr DataW.insert []))).Perm (ks.map (·.data.toList)) := by
  have h1 : (strKeys (.map ((es.toList.map (Go.WideElems.rg Try.prog 9 blank)).foldr DataW.insert []))).Perm ((es.toList.map (Go.WideElems.rg Try.prog 9 blank)).map fun p => strOf p.1) := (Go.WideShapes.sorted_perm _).map _
  refine h1.trans (List.Perm.of_eq ?_)
  rw [List.map_map]
  refine List.ext_getElem? fun i => ?_
  rw [List.getElem?_map, List.getElem?_map]
  have hi := congrArg (fun l => l[i]?) hk
  simp only [List.getElem?_map] at hi
  cases he : es.toList[i]? with
  | none =>
    rw [he] at hi
    cases hs : ks[i]? with
    | none => rfl
    | some s => rw [hs] at hi; cases hi
  | some x =>
    rw [he] at hi
    cases hs : ks[i]? with
    | none => rw [hs] at hi; cases hi
    | some s =>
      rw [hs] at hi
      have hkx : x.key = .string s := by simpa using hi
      obtain ⟨y, hy⟩ := F.reads x (List.mem_of_getElem? he)
      have h2 := Go.WideElems.rd_key hy
      rw [hkx] at h2
      obtain ⟨l, e1, e2, _⟩ := Maps.keyOf_str Try.underlying9 h2
      have e3 : s = ⟨l.toArray⟩ := by simpa [encStr] using e1
      simp only [Option.map_some, Function.comp, Go.WideElems.rg_of hy, e2, strOf, e3]

/-- It returned a map's keys. -/
def GivesKeys (ks : List ByteArray) (w : World) (e : Ending) (w' : World) : Prop :=
  ∃ (ts : List (List UInt8)) (v : Value), e = .returned (.tuple #[v, .bool true]) ∧ ts.Perm (ks.map (·.data.toList)) ∧ w'.ownsRow w.heap.size 20 1 v ts.length (ts.map encT) ∧ Below w.heap.size w w'

theorem encT_oneCell (ss : List (List UInt8)) : ∀ u ∈ ss.map encT, u.oneCell' = true := fun u hu => by
  obtain ⟨l, _, rfl⟩ := List.mem_map.1 hu
  rfl
theorem encT_inj {x y : List UInt8} (h : encT x = encT y) : x = y := by
  have h1 : encStr x = encStr y := by unfold encT at h; injection h
  exact encStr_inj h1

theorem add_none' (g j : Nat) : (⟨g, 0, none⟩ : Addr).add j = ⟨g, j, none⟩ := by unfold Addr.add; split <;> simp_all
theorem below_drewN {B : Nat} {w w' : World} (h : Below B w w') (n : Nat) : Below B w (w'.drewN n) := ⟨h.os, h.tape, h.output, h.size, h.block⟩

set_option maxHeartbeats 2000000 in
set_option maxRecDepth 100000 in
theorem zzKeys_map {w : World} {b : Nat} {es : Array MapEntry} {clock : Nat} (hb : w.heap[b]? = some (.map es clock)) (hst : MapKept.Stamped es clock) (ks : List ByteArray) (hk : es.toList.map (·.key) = ks.map Value.string) (hlen : ks.length ≤ 200)
    (hsz : ∀ s ∈ ks, s.size ≤ 100) : Calls Try.prog 125 #[.iface 103 (.map (some b))] w (GivesKeys ks w) := by
  have F := fit_blank hst hk hlen hsz
  have HP := Lib.hid (keys_blank F hk)
  have hl : es.size = ks.length := by
    have := congrArg List.length hk
    simpa using this
  obtain ⟨D0, hD⟩ : ∃ D0, D0 = DataW.map ((es.toList.map (Go.WideElems.rg Try.prog 9 blank)).foldr DataW.insert []) := ⟨_, rfl⟩
  have hown : w.ownsMap Try.prog 9 blank b ks.length D0 := ⟨es, clock, hb, F, by omega, hD⟩
  have HD : Hid (Maps.size D0 ≤ 200) := by
    show _ ≤ _
    rw [hD, Maps.size_eq, length_sorted, List.length_map, Array.length_toList]
    omega
  rw [← hD] at HP
  have HO := Lib.hid hown
  have HBL := Lib.hid hown.lt
  generalize hn : ks.length = n at *
  clear hD F hb hst hk hlen hsz hl hn
  obtain ⟨i0, hi, hz0, hz1, hz2⟩ := info_parts info20
  have HI := Lib.hid (And.intro hi (And.intro hz0 (And.intro hz1 hz2)))
  clear hi hz0 hz1 hz2
  go_enter Try.func125, Try.ntmps125
  go_wp2_with (at_range; refine wpList_range_own _ rfl _ 103 rfl 9 20 (Maps.string_keyed Try.underlying9) Try.underlying103 _ b n _ rfl hown ?_; intro w0 hrg0 hg0 hs0)
  go_frame
  have HRG0 := Lib.hid hrg0
  have HG0 := Lib.hid hg0
  clear hrg0 hg0 hs0 hown
  go_loopw [4] (fun v wr => Hid (∃ (left : Lit → Bool) (cnt : Nat) (ss : List (List UInt8)), wr.ranges Try.prog 9 blank b w.heap.size n D0 left cnt ∧ ss.length + cnt ≤ Maps.size D0 ∧
      wr.ownsRow w.heap.size 20 1 v ss.length (ss.map encT) ∧ Collected D0 left ss ∧ Below w.heap.size w wr))
    (fun _ wr => wr.rangeLeft b w.heap.size)
  case atStart =>
    exact ⟨_, _, [], HRG0.out, by simp, World.ownsRow_nil _ _ _ _, Collected.start D0, (Below.refl _ _).grown HG0.out (Nat.le_refl _) (fun j hj => by cases hj)⟩
  case round =>
    obtain ⟨left, cnt, ss, hrg, hcs, hrow, hC, hnx⟩ := hrel.out
    clear hrel
    go_wp2_with (at_next; refine wpList_next_ranges _ rfl _ rfl 9 (Maps.string_keyed Try.underlying9) blank encStr id (fun key kl h => by obtain ⟨x, hx, _⟩ := Maps.keyOf_str Try.underlying9 h; exact ⟨x, hx⟩) (fun v y _ => ⟨v, rfl⟩) b w.heap.size n D0 left cnt rfl hrg ?_ ?_)
    · intro hc0 hl0
      have HPM := Lib.hid ((hC.perm HO.out (Maps.string_keyed Try.underlying9) Try.underlying9 hl0).trans HP.out)
      have HND := Lib.hid hC.1
      have hss : ss.length ≤ 1000 := by have := HD.out; omega
      have HLS := Lib.hid hss
      have HROW := Lib.hid hrow
      have HNX := Lib.hid hnx
      have HS := Lib.hid (sort_texts w.heap.size _ ss wr hrow hss)
      clear hrg hcs hrow hC hnx hl0 hc0 hss
      obtain ⟨wq, rfl⟩ : ∃ wq, wq = wr := ⟨_, rfl⟩
      go_wp2_with fail
      refine Calls.mono (by exact HS.out) ?_
      rintro e w3 ⟨rfl, ts, hp, hown3, hg3⟩
      have B3 : Hid (Below w.heap.size w w3) := HNX.out.grown hg3 HNX.out.size (fun j hj => (HROW.out.lt j hj).1)
      have HTP := Lib.hid (hp.trans HPM.out)
      have HTN : Hid ts.Nodup := hp.nodup_iff.2 HND.out
      have hln := hp.length_eq
      have hlt2 : ts.length ≤ 1000 := by have := HLS.out; omega
      rw [← hln] at hown3
      have HOW := Lib.hid hown3
      obtain ⟨p, c, hv, hpc, hpm, hpb⟩ : ∃ p c, u4 = Value.slice p ts.length c ∧ ts.length ≤ c ∧ c ≤ 9223372036854775807 ∧ ∀ (m : Nat) (l : List UInt8), ts[m]? = some l → ∃ g, p = some ⟨g, 0, none⟩ ∧ w3.cell? ⟨g, m, none⟩ = some (encT l) := by
        rcases hown3.2 with ⟨h1, h2⟩ | ⟨g, cap, cur, h1, h2, h3, h4, h5, h6, h7⟩
        · exact ⟨none, 0, by rw [h1, h2], by omega, by omega, fun m l hm => by have := (List.getElem?_eq_some_iff.1 hm).1; omega⟩
        · refine ⟨some ⟨g, 0, none⟩, cap, h1, h4, by unfold maxLen at h5; exact h5, fun m l hm => ⟨g, rfl, ?_⟩⟩
          have h8 := hown3.cells (g := g) (by rw [h1]; rfl) m (encT l) (by rw [List.getElem?_map, hm]; rfl)
          rwa [add_none'] at h8
      subst hv
      have HPB := Lib.hid hpb
      clear hpb hown3 hg3 hp HS HROW HNX HPM HND HLS HO HP HD HRG0 HG0 HBL hln
      go_wp2_with fail
      go_loopw [12] (fun x wr => ∃ i : Nat, (i = 0 ∨ i + 1 ≤ ts.length) ∧ x = .int .i64 ((i : Int) + 1) ∧ Hid (Below w.heap.size w wr ∧ wr.heap = w3.heap)) (fun x _ => ts.length + 1 - (intOf x).toNat)
      case atStart => exact ⟨0, .inl rfl, rfl, B3.out, rfl⟩
      case round =>
        obtain ⟨i, hi, rfl, HB⟩ := hrel
        by_cases hlt : i + 1 < ts.length
        · have HX := Lib.hid (show ts[i]? = some ts[i] from List.getElem?_eq_getElem (by omega))
          have HY := Lib.hid (show ts[i + 1]? = some ts[i + 1] from List.getElem?_eq_getElem hlt)
          have hne : ts[i] ≠ ts[i + 1] := fun e => by
            have := (List.getElem_inj (h₀ := by omega) (h₁ := hlt) HTN.out).1 e
            omega
          have hc0 : (cmpL ts[i] ts[i + 1] == 0) = false := by
            have := cmpL_ne hne
            simpa using this
          have HC : Hid (∀ k, Calls Try.prog 132 #[encT ts[i], encT ts[i + 1]] (wr.drewN k) fun e w' => e = .returned (.int .i64 (cmpL ts[i] ts[i + 1])) ∧ w' = wr.drewN k) := fun k =>
            (zzOrder_text ⟨ts[i].toArray⟩ ⟨ts[i + 1].toArray⟩ _).mono fun e w' h => ⟨h.1, h.2.symm⟩
          obtain ⟨g, rfl, c1⟩ := HPB.out _ _ HX.out
          obtain ⟨g', hg', c2⟩ := HPB.out _ _ HY.out
          cases hg'
          have cc : ∀ (m : Nat) (u : Value), w3.cell? ⟨g, m, none⟩ = some u → wr.cell? ⟨g, m, none⟩ = some u := fun m u h => (cell_same (by rw [HB.out.2]) m).trans h
          have c1' := cc _ _ c1
          have c2' := cc _ _ c2
          clear c1 c2 cc hne
          generalize cmpL ts[i] ts[i + 1] = cr at *
          generalize encT ts[i] = ea at *
          generalize encT ts[i + 1] = eb at *
          have hlt' : (i : Int) + 1 < ts.length := by omega
          have hlt'' : (i : Int) < ts.length := by omega
          go_wp2_with fail
          go_quiet ((go_at_call 132; exact Calls.quiet_of_same (HC.out _)))
          go_wp2_with fail
          go_roundw
          case rel => exact ⟨i + 1, .inr (by omega), by go_num, below_drewN HB.out.1 _, HB.out.2⟩
          case measure => simp [intOf]; omega
        · go_wp2_with fail
          go_ret2
          refine ⟨ts, _, rfl, HTP.out, ?_, HB.out.1⟩
          obtain ⟨q1, q2⟩ := HOW.out
          exact ⟨q1, by rw [HB.out.2]; exact q2⟩
    · intro x c kl yd yp w2 cnt2 hkey hlk hv hat hrg2 hlt hg2 hs2 hen
      obtain ⟨x', ex, rfl, _⟩ := Maps.keyOf_str Try.underlying9 hkey
      obtain rfl : x = x' := encStr_inj ex
      have hrow2 := hrow.kept hg2 (Or.inr (row_ne_iter hrow hrg).symm)
      clear hs2
      have HDD := HD.out
      have h63 : ss.length + 1 ≤ maxLen := by unfold maxLen; omega
      have hby : (ss.length + 1) * 16 ≤ 140737488355328 := by omega
      have hbs : w.heap.size ≤ (w2.alloc (.cells #[encT x] 20)).heap.size := by have := hnx.size; have := hg2.size; simp; omega
      have HEN := hen
      go_wp2_with (at_builtin; refine wpList_append_block _ rfl _ _ 87 rfl w.heap.size 20 i0 .nilIface 1 16 Try.underlying87 HI.out.1 HI.out.2.1 HI.out.2.2.1 HI.out.2.2.2 rfl (by decide) _ ss.length (ss.map encT) rfl (hrow2.alloc _) ⟨w2.heap.size, 0, none⟩ 1 1 [encT x] rfl (by decide) rfl (cell_one_new _ _ _) (encT_oneCell [x]) h63 hby hbs ?_; intro v' w3 hown' hg3 hv3 hvn3; go_frame)
      have hrg3 := (hrg2.alloc _).kept hg3 (row_ne_low hrow2 HBL.out) (row_ne_iter hrow2 hrg2)
      go_roundw
      case rel =>
        refine ⟨_, cnt2, ss ++ [x], hrg3, by simp; omega, by simpa using hown', hC.step hlk hat, ?_⟩
        exact ((hnx.grown hg2 hnx.size (fun j hj => by cases hj; exact Nat.le_refl _)).alloc (by have := hnx.size; have := hg2.size; omega) _).grown hg3 (by have := hnx.size; have := hg2.size; simp; omega) (fun j hj => (hrow2.lt j hj).1)
      case measure => rw [hrg3.left_eq, hrg.left_eq]; exact hlt
end Go.Proofs.Ythmogfjmngbamaa
