/-
  'impl.listOf' and 'impl.valued' walked at lists.
-/
import Derived.Test.YthmogfjmngbamaaGivl
import Derived.Test.YthmogfjmngbamaaVrow
import Derived.Test.YthmogfjmngbamaaLike
import Derived.Test.YthmogfjmngbamaaPhase
import Derived.Test.YthmogfjmngbamaaTold
namespace Go.Proofs.Ythmogfjmngbamaa
open Go.RowKit
set_option linter.unusedSimpArgs false
set_option linter.unusedVariables false

theorem AnyOf.but {w w' : World} {B : Nat → Prop} {q : Nat} {x : SV} {a : Value} (h : AnyOf w B x a) (hl : Lies w B q) (hb : ButAt q w w') : AnyOf w' B x a :=
  h.keep (fun b hB => hb.block b (hl.lt b hB) (hl.ne b hB)) (fun _ hB => hB)

/-- It returned a value at the door that is the same as x, in new memory; the counter went down by no more than twice the parts. -/
def GivesVal (x : SV) (m : Int) (q : Nat) (w : World) (e : Ending) (w' : World) : Prop :=
  ∃ (d : Dv) (y : SV) (m' : Int), e = .returned d.val ∧ ButAt q w w' ∧ Counter w' q m' ∧ m - (2 * x.parts - 1) ≤ m' ∧ m' ≤ m ∧ DoorOf w' (betw w.heap.size w'.heap.size) y d ∧ Like y x

theorem keepsDoor (D : Nat → Dv) (Y : Nat → SV) (i : Nat) : Keeps (fun w B => DoorOf w B (Y i) (D i)) := fun _ _ _ _ h hk hB => h.keep hk hB
theorem keepsOne (d : Dv) (y : SV) : Keeps (fun w B => DoorOf w B y d) := fun _ _ _ _ h hk hB => h.keep hk hB

/-- The rows of a door's list that is being made. -/
abbrev VL (W1 : World) (q : Nat) (oc : Array Value) (lv : Value) (j : Nat) (D : Nat → Dv) (Y : Nat → SV) (xs : List Value) (wr : World) : Prop :=
  V2 35 8 35 8 35 (fun i => (D i).cells) (fun _ => []) (fun i w B => DoorOf w B (Y i) (D i)) W1 q oc (.slice none 0 0) lv 0 j [] xs wr

theorem VL.next {W1 : World} {q : Nat} {oc : Array Value} {lv v' : Value} {j lo : Nat} {D : Nat → Dv} {Y : Nat → SV} {xs : List Value} {wr w6 : World} {d : Dv} {y : SV} (h : VL W1 q oc lv j D Y xs wr) (hlo : W1.heap.size + 1 ≤ lo)
    (hlv : ∀ g, lv.ownBlock = some g → g < lo) (hd : DoorOf wr (betw lo wr.heap.size) y d) (hown : w6.ownsRow (W1.heap.size + 1) 35 8 v' (j + 1) (xs ++ d.cells)) (hg : wr.grownBy w6 lv.ownBlock)
    (hv : v'.ownBlock = lv.ownBlock ∨ v'.ownBlock = some wr.heap.size) : VL W1 q oc v' (j + 1) (fun i => if i = j then d else D i) (fun i => if i = j then y else Y i) (xs ++ d.cells) w6 := by
  refine (V2.next (S0 := fun w B => DoorOf w B y d) (keepsDoor D Y) (keepsOne d y) h hlo hlv (fun g hg => by cases hg) hd rfl hown hg hv).congr (fun i _ => ?_) (fun _ _ => rfl) (fun i _ w B h => ?_)
  · by_cases hij : i = j <;> simp [hij]
  · by_cases hij : i = j <;> simpa [hij] using h

/-- A list, whole, at the end. -/
theorem VL.done {W1 : World} {q : Nat} {oc : Array Value} {lv : Value} {D : Nat → Dv} {Y : Nat → SV} {xs : List Value} {wr : World} {x : SV} (hk : x.kind = 5) (hky : x.keys = []) (h : VL W1 q oc lv x.items.length D Y xs wr)
    (hL : ∀ (i : Nat) (y : SV), x.items[i]? = some y → Like (Y i) y) :
    ∃ (p : Option Addr) (c : Nat) (y : SV), lv = .slice p x.items.length c ∧ DoorOf wr (betw (W1.heap.size + 1) wr.heap.size) y (Dv.list p x.items.length c) ∧ Like y x := by
  obtain ⟨p, c, hv, h1, h2, h3⟩ := cells_of_row h.row h.rof (betw (W1.heap.size + 1) wr.heap.size) (fun g hg => own_lt h.row hg)
  have hlen : ((List.range x.items.length).map Y).length = x.items.length := by simp
  have hat : ∀ (i : Nat) (z : SV), ((List.range x.items.length).map Y)[i]? = some z → i < x.items.length ∧ z = Y i := fun i z hz => by
    have hi : i < x.items.length := by have := (List.getElem?_eq_some_iff.1 hz).1; omega
    refine ⟨hi, ?_⟩
    rw [List.getElem?_map, List.getElem?_range hi] at hz
    simpa using hz.symm
  have hd : DoorOf wr (betw (W1.heap.size + 1) wr.heap.size) (.mk 5 0 0 ⟨#[]⟩ false none 0 ((List.range x.items.length).map Y) none 0 []) (Dv.list p ((List.range x.items.length).map Y).length c) := by
    refine .list (.mk 5 0 0 ⟨#[]⟩ false none 0 ((List.range x.items.length).map Y) none 0 []) p c D rfl ⟨by show ((List.range x.items.length).map Y).length ≤ c; omega, h2⟩ (fun i z hz => h3 i (hat i z hz).1) fun i z hz => ?_
    obtain ⟨hi, rfl⟩ := hat i z hz
    exact (h.subs i hi).keep (fun _ _ => rfl) (fun b hB => ⟨hB.1, hB.2.1⟩)
  rw [hlen] at hd
  refine ⟨p, c, _, hv, hd, .list _ _ rfl hk ⟨rfl, hky⟩ hlen fun i a b ha hb => ?_⟩
  obtain ⟨hi, rfl⟩ := hat i a ha
  exact hL i b hb

/-- An append as one operation of a region. -/
theorem oper_append_block {P : Program} {o : Oper} {a : Act} {w : World} {K : Act → World → Prop} {Q : Exit → Act → World → Prop} (s x : Operand) (t : TypeId)
    (ho : o.op = .call { callee := .builtin .append, args := #[s, x], argTypes := #[t, t] })
    (base : Nat) (e : TypeId) (i : TypeInfo) (z : Value) (size bytes : Nat) (ht : P.underlying t = some (.slice e)) (hi : P.info? e = some i) (hz : i.zero = some z)
    (hsize : i.size = size) (hby : i.bytes = bytes) (hzs : z.cells.size = size) (hsz : 0 < size)
    (v : Value) (n : Nat) (xs : List Value) (hs : a.eval s = v) (hown : w.ownsRow base e size v n xs)
    (ad : Addr) (m c : Nat) (news : List Value) (hx : a.eval x = .slice (some ad) m c) (hm : 0 < m) (hl : news.length = m * size) (hnews : ∀ j u, news[j]? = some u → w.cell? (ad.add j) = some u) (h1 : ∀ u ∈ news, u.oneCell' = true)
    (h63 : n + m ≤ maxLen) (hbytes : (n + m) * bytes ≤ 140737488355328) (hbase : base ≤ w.heap.size)
    (h : ∀ v' w', w'.ownsRow base e size v' (n + m) (xs ++ news) → w.grownBy w' v.ownBlock → (v'.ownBlock = v.ownBlock ∨ v'.ownBlock = some w.heap.size) → v'.ownBlock ≠ none → K (a.put o.dst v') w') : o.wp P a w K Q := by
  obtain ⟨v', w', hr, h2, h3, h4, h5⟩ := run_append_block (P := P) w base t o.type e i z size bytes ht hi hz hsize hby hzs hsz v n xs hown ad m c news hm hl hnews h1 h63 hbytes hbase
  unfold Oper.wp
  simp [execOp, ho, resolve, invoke, builtin, hs, hx, hr, Result.andThen]
  exact h v' w' h2 h3 h4 h5

theorem slice_of_own {w : World} {base e s n : Nat} {v : Value} {xs : List Value} (h : w.ownsRow base e s v (n + 1) xs) : ∃ p c, v = .slice p (n + 1) c := by
  rcases h.2 with ⟨rfl, h⟩ | ⟨g', cap, cur, rfl, _⟩
  · omega
  · exact ⟨_, _, rfl⟩

set_option maxHeartbeats 2000000 in
set_option maxRecDepth 100000 in
theorem listOf_any (x : SV) (hk : x.kind = 5) (hky : x.keys = []) (w : World) (B : Nat → Prop) (q : Nat) (hl : Lies w B q) (p : Option Addr) (c : Nat) (A : Nat → Value) (hc : x.items.length ≤ c ∧ c ≤ 9223372036854775807) (hln : x.items.length ≤ 200)
    (hcell : ∀ (i : Nat) (y : SV), x.items[i]? = some y → cellsIn w B p i [A i]) (hsub : ∀ (i : Nat) (y : SV), x.items[i]? = some y → AnyOf w B y (A i))
    (m : Int) (hm : 2 * SV.partsAll x.items + 1 ≤ m) (hm2 : m ≤ 100000) (hcnt : Counter w q m)
    (IH : ∀ (i : Nat) (y : SV), x.items[i]? = some y → ∀ (w' : World) (m' : Int) (a : Value), Lies w' B q → AnyOf w' B y a → 2 * y.parts ≤ m' → m' ≤ 100000 → Counter w' q m' → Calls Try.prog 106 #[a, .pointer (some ⟨q, 0, none⟩)] w' (GivesVal y m' q w')) :
    Calls Try.prog 120 #[.int .i64 15, .slice p x.items.length c, .pointer (some ⟨q, 0, none⟩)] w (GivesVal x (m + 1) q w) := by
  have HIH := Lib.hid IH
  have HL := Lib.hid hl
  have HC := Lib.hid hcell
  have HS := Lib.hid hsub
  have hlnc : (x.items.length : Int) ≤ c := by omega
  have hqw : q < w.heap.size := hcnt.lt
  have HQW := Lib.hid hqw
  have HM := Lib.hid hm
  have HM2 := Lib.hid hm2
  have HK := Lib.hid hk
  have HKY := Lib.hid hky
  have HCN := Lib.hid hcnt
  have hc2 := hc.2
  have hc1 := hc.1
  obtain ⟨i0, hi, hz0, hz1, hz2⟩ := info_parts info35
  have HI := Lib.hid (And.intro hi (And.intro hz0 (And.intro hz1 hz2)))
  clear hcnt hl hcell hsub IH hk hky hc hqw hm hm2 hi hz0 hz1 hz2
  go_enter Try.func120, Try.ntmps120
  go_wp2_with fail
  obtain ⟨W1, hW1⟩ : ∃ W1, W1 = w.alloc (.cells #[.int .i64 0, .int .i64 0, .int .u64 0, .float .f64 0, .string ⟨#[]⟩, .bool false, .slice none 0 0, .slice none 0 0] 35) := ⟨_, rfl⟩
  have hs1 : W1.heap.size = w.heap.size + 1 := by rw [hW1, World.size_alloc]
  have HR1 : Hid (W1.heap[w.heap.size]? = some (.cells #[.int .i64 0, .int .i64 0, .int .u64 0, .float .f64 0, .string ⟨#[]⟩, .bool false, .slice none 0 0, .slice none 0 0] 35 (0, 0))) := by rw [hW1]; exact heap_alloc_new _ _
  have HB1 : Hid (Below w.heap.size w W1) := by rw [hW1]; exact (Below.refl _ _).alloc (Nat.le_refl _) _
  rw [← hW1]
  clear hW1
  have V0 : Hid (VL W1 q #[.int .i64 15, .int .i64 0, .int .u64 0, .float .f64 0, .string ⟨#[]⟩, .bool false, .slice none 0 0, .slice none 0 0] (.slice none 0 0) 0 (fun _ => Dv.plain x) (fun _ => x) []
      (W1.alloc (.cells #[.int .i64 15, .int .i64 0, .int .u64 0, .float .f64 0, .string ⟨#[]⟩, .bool false, .slice none 0 0, .slice none 0 0] 35))) := V2.start _ _ _ _ _ _ _ _ _ _ _
  have C0 : Hid (Counter (W1.alloc (.cells #[.int .i64 15, .int .i64 0, .int .u64 0, .float .f64 0, .string ⟨#[]⟩, .bool false, .slice none 0 0, .slice none 0 0] 35)) q m) :=
    Counter.later (Counter.later HCN.out HB1.out HQW.out) ((Below.refl _ _).alloc (Nat.le_refl _) _) (by have := HQW.out; omega)
  go_loopw [13] (fun i wr => ∃ j : Nat, j ≤ x.items.length ∧ i = .int .i64 j ∧ Hid (∃ (lp : Option Addr) (lc : Nat) (D : Nat → Dv) (Y : Nat → SV) (xs : List Value) (m' : Int),
      VL W1 q #[.int .i64 15, .int .i64 0, .int .u64 0, .float .f64 0, .string ⟨#[]⟩, .bool false, .slice none 0 0, .slice lp j lc] (.slice lp j lc) j D Y xs wr ∧ Counter wr q m' ∧ m - 2 * SV.partsAll (x.items.take j) ≤ m' ∧ m' ≤ m ∧
      ∀ (i : Nat) (y : SV), i < j → x.items[i]? = some y → Like (Y i) y)) (fun i _ => x.items.length - (intOf i).toNat)
  case atStart => exact ⟨0, Nat.zero_le _, rfl, none, 0, _, _, _, m, V0.out, C0.out, by simp [SV.partsAll], Int.le_refl _, fun i y h => by omega⟩
  case round =>
    obtain ⟨j, hj, rfl, hR⟩ := hrel
    obtain ⟨lp, lc, D, Y, xs, m', hV, hCn, hm1', hm2', hY⟩ := hR.out
    have VR := Lib.hid hV
    have CR := Lib.hid hCn
    have HY := Lib.hid hY
    have HMA := Lib.hid hm1'
    have HMB := Lib.hid hm2'
    clear hR hV hCn hY hm1' hm2' V0 C0
    have hb1 := VR.out.out
    rw [hs1] at hb1
    have HBK := Lib.hid hb1
    have ctr := cell_of_one CR.out
    have hle := SV.partsAll_le x.items j
    have hm0 : 0 ≤ m' := by have := HM.out; have := HMA.out; omega
    clear hb1 hle
    by_cases hlt : j < x.items.length
    · have HJ := Lib.hid (show x.items[j]? = some x.items[j] from List.getElem?_eq_getElem hlt)
      generalize x.items[j] = Z at *
      have hsum : SV.partsAll (x.items.take j) + Z.parts ≤ SV.partsAll x.items := by
        rw [← SV.partsAll_take _ _ _ HJ.out]
        exact SV.partsAll_le _ _
      have hmz : 2 * Z.parts ≤ m' := by have := HM.out; have := HMA.out; omega
      have HMZ := Lib.hid hmz
      have HSUM := Lib.hid hsum
      obtain ⟨sb, so, hsp, hsB, hsc⟩ := HC.out j _ HJ.out
      subst hsp
      have HSB := Lib.hid hsB
      have HSC := Lib.hid (show w.cell? ⟨sb, so + j, none⟩ = some (A j) by have := hsc 0 _ rfl; simpa using this)
      clear hsB hsc hsum hmz
      have hj2 : (j : Int) < x.items.length := by omega
      go_wp2_with fail
      refine wp_region_phase [0, 1, 2, 3, 4, 5, 6] [7, 8, 9] [10, 11] [some 21, some 22, some 23, some 24, some 25, some 26, some 27, some 28, some 29, some 30] _
        (fun p => match p with
          | 0 => .pointer (some ⟨w.heap.size + 1, 7, none⟩)
          | 1 => .slice lp j lc
          | 2 => .slice (some ⟨sb, so, none⟩) x.items.length c
          | 3 => .int .i64 j
          | 4 => .pointer (some ⟨sb, so + j, none⟩)
          | 5 => A j
          | 6 => .pointer (some ⟨q, 0, none⟩)
          | _ => .nilIface)
        (fun k v w' => Hid ((w'.heap[w.heap.size + 1]? = some (.cells #[.int .i64 15, .int .i64 0, .int .u64 0, .float .f64 0, .string ⟨#[]⟩, .bool false, .slice none 0 0, .slice lp j lc] 35 (0, 0)) ∧ w'.cell? ⟨sb, so + j, none⟩ = some (A j)) ∧ match k with
          | 0 => VL W1 q #[.int .i64 15, .int .i64 0, .int .u64 0, .float .f64 0, .string ⟨#[]⟩, .bool false, .slice none 0 0, .slice lp j lc] (.slice lp j lc) j D Y xs w' ∧ Counter w' q m' ∧ Below wr.heap.size wr w'
          | 1 => ∃ (d : Dv) (y : SV) (m2 : Int), v 0 = d.val ∧ VL W1 q #[.int .i64 15, .int .i64 0, .int .u64 0, .float .f64 0, .string ⟨#[]⟩, .bool false, .slice none 0 0, .slice lp j lc] (.slice lp j lc) j D Y xs w' ∧ Counter w' q m2 ∧
              m' - (2 * Z.parts - 1) ≤ m2 ∧ m2 ≤ m' ∧ DoorOf w' (betw wr.heap.size w'.heap.size) y d ∧ Like y Z ∧ wr.heap.size ≤ w'.heap.size
          | 2 => ∃ (d : Dv) (y : SV) (m2 : Int) (g2 : Nat), v 1 = .slice (some ⟨g2, 0, none⟩) 1 1 ∧ w'.heap[g2]? = some (.cells d.cells.toArray 35 (0, 0)) ∧ VL W1 q #[.int .i64 15, .int .i64 0, .int .u64 0, .float .f64 0, .string ⟨#[]⟩, .bool false, .slice none 0 0, .slice lp j lc] (.slice lp j lc) j D Y xs w' ∧ Counter w' q m2 ∧
              m' - (2 * Z.parts - 1) ≤ m2 ∧ m2 ≤ m' ∧ DoorOf w' (betw wr.heap.size w'.heap.size) y d ∧ Like y Z ∧ wr.heap.size ≤ w'.heap.size
          | 3 => ∃ (d : Dv) (y : SV) (m2 : Int) (lp' : Option Addr) (lc' : Nat), v 2 = .slice lp' (j + 1) lc' ∧ VL W1 q #[.int .i64 15, .int .i64 0, .int .u64 0, .float .f64 0, .string ⟨#[]⟩, .bool false, .slice none 0 0, .slice lp j lc] (.slice lp' (j + 1) lc') (j + 1) (fun i => if i = j then d else D i) (fun i => if i = j then y else Y i) (xs ++ d.cells) w' ∧ Counter w' q m2 ∧
              m' - (2 * Z.parts - 1) ≤ m2 ∧ m2 ≤ m' ∧ Like y Z
          | _ => False))
        (by kernel_rfl) (by kernel_rfl) rfl rfl ?start ?read ?step ?tail
      case start =>
        intro v
        have hdr : Below wr.heap.size wr wr.drew := (Below.refl _ _).drew
        refine ⟨⟨HBK.out, ?_⟩, VR.out.later (keepsDoor D Y) hdr, CR.out, hdr⟩
        have := HL.out.lt sb HSB.out
        have hk1 : wr.heap[sb]? = w.heap[sb]? := (VR.out.but.block sb (by omega) (HL.out.ne sb HSB.out)).trans (HB1.out.block sb this)
        exact (cell_same (w := w) (w' := wr.drew) hk1 _).trans HSC.out
      case read =>
        intro pp i o hp ho u k w' hJ hF K hK Q'
        have hpc : pp = 0 ∨ pp = 1 ∨ pp = 2 ∨ pp = 3 ∨ pp = 4 ∨ pp = 5 ∨ pp = 6 := by
          have : pp < 7 := (List.getElem?_eq_some_iff.1 hp).1
          omega
        rcases hpc with rfl | rfl | rfl | rfl | rfl | rfl | rfl
        all_goals
          simp only [List.getElem?_cons_zero, List.getElem?_cons_succ, Option.some.injEq] at hp
          subst hp
          simp only [List.getElem?_toArray, List.getElem?_cons_zero, List.getElem?_cons_succ, Option.some.injEq] at ho
          subst ho
          have HF := Lib.hid hF
          have HJ0 := Lib.hid hJ.out.1
          clear hF hJ
          simp only [putAll, Act.put, List.setIfInBounds_toArray, List.set_cons_succ, List.set_cons_zero, Nat.zero_add, Nat.reduceAdd] at hK ⊢
        · have HK := Lib.hid hK
          clear hK
          go_simp
          exact HK.out
        · have f0 : u 0 = _ := HF.out 0 0 rfl (by kernel_rfl)
          rw [f0] at hK ⊢
          obtain ⟨o0, o1, o2, o3, o4, o5, o6, o7⟩ := eight HJ0.out.1
          have HK := Lib.hid hK
          clear hK f0
          go_simp
          exact HK.out
        · have HK := Lib.hid hK
          clear hK
          go_simp
          exact HK.out
        · have HK := Lib.hid hK
          clear hK
          go_simp
          exact HK.out
        · have f2 : u 2 = _ := HF.out 2 2 rfl (by kernel_rfl)
          have f3 : u 3 = _ := HF.out 3 3 rfl (by kernel_rfl)
          rw [f2, f3] at hK ⊢
          have HK := Lib.hid hK
          clear hK f2 f3
          go_simp
          exact HK.out
        · have f4 : u 4 = _ := HF.out 4 4 rfl (by kernel_rfl)
          rw [f4] at hK ⊢
          have hcl := HJ0.out.2
          have HK := Lib.hid hK
          clear hK f4
          go_simp
          exact HK.out
        · have HK := Lib.hid hK
          clear hK
          go_simp
          exact HK.out
      case step =>
        intro qq i o hp ho u w' hJ hF K hK Q'
        have hpc : qq = 0 ∨ qq = 1 ∨ qq = 2 := by
          have : qq < 3 := (List.getElem?_eq_some_iff.1 hp).1
          omega
        rcases hpc with rfl | rfl | rfl
        all_goals
          simp only [List.getElem?_cons_zero, List.getElem?_cons_succ, Option.some.injEq] at hp
          subst hp
          simp only [List.getElem?_toArray, List.getElem?_cons_zero, List.getElem?_cons_succ, Option.some.injEq] at ho
          subst ho
          have HF := Lib.hid hF
          clear hF
          simp only [putAll, Act.put, List.setIfInBounds_toArray, List.set_cons_succ, List.set_cons_zero, Nat.zero_add, Nat.reduceAdd] at hK ⊢
        · have f5 : u 5 = _ := HF.out 5 5 rfl (by kernel_rfl)
          have f6 : u 6 = _ := HF.out 6 6 rfl (by kernel_rfl)
          obtain ⟨⟨hbk, hcl⟩, hV, hCw, hbw⟩ := hJ.out
          have hbt : ButAt q w w' := (ButAt.of_below HB1.out).trans hV.but
          have HC0 := Lib.hid (HIH.out j Z HJ.out w' m' (A j) (HL.out.later hbt) ((HS.out j Z HJ.out).but HL.out hbt) HMZ.out (by have := HMB.out; have := HM2.out; omega) hCw)
          have HBK' := Lib.hid hbk
          have HCL' := Lib.hid hcl
          have HV' := Lib.hid hV
          have HBW := Lib.hid hbw
          have HBT := Lib.hid hbt
          rw [f5, f6] at hK ⊢
          have HKK := Lib.hid hK
          clear hK f5 f6 hbk hcl hV hCw hbw hbt hJ
          go_simp
          refine Calls.mono (by exact HC0.out) ?_
          rintro e w7 ⟨d, y, m2, rfl, hb7, hc7, h1, h2, hd, hlk⟩
          refine HKK.out _ _ _ rfl ⟨⟨(hb7.block _ (lt_of_block HBK'.out) (by have := HQW.out; omega)).trans HBK'.out, ?_⟩, d, y, m2, upd_at _ _ _, V2.call (keepsDoor D Y) HV'.out (by have := HQW.out; omega) hb7, hc7, h1, h2, hd.keep (fun _ _ => rfl) (fun b hB => ⟨Nat.le_trans HBW.out.size hB.1, hB.2⟩), hlk, Nat.le_trans HBW.out.size hb7.size⟩
          exact (cell_same (hb7.block sb (Nat.lt_of_lt_of_le (HL.out.lt sb HSB.out) HBT.out.size) (HL.out.ne sb HSB.out)) _).trans HCL'.out
        · obtain ⟨⟨hbk, hcl⟩, d, y, m2, hv, hV, hCw, h1, h2, hd, hlk, hsw⟩ := hJ.out
          have hv' : u 7 = d.val := hv
          rw [hv'] at hK ⊢
          have hA : Below w'.heap.size w' (w'.alloc (.cells d.cells.toArray 35)) := (Below.refl _ _).alloc (Nat.le_refl _) _
          have HR : Hid (_ ∧ _ ∧ _ ∧ _ ∧ _ ∧ _) := ⟨(hA.block _ (lt_of_block hbk)).trans hbk, (cell_later hA hcl), V2.later (keepsDoor D Y) hV hA, Counter.later hCw hA hCw.lt, hd.keep (B' := betw wr.heap.size (w'.alloc (.cells d.cells.toArray 35)).heap.size) (fun b hB => hA.block b hB.2) (fun b hB => ⟨hB.1, Nat.lt_of_lt_of_le hB.2 hA.size⟩), Nat.le_trans hsw hA.size⟩
          have HG := Lib.hid (heap_alloc_new w' (.cells d.cells.toArray 35))
          have H12 := Lib.hid (And.intro h1 (And.intro h2 hlk))
          have HKK := Lib.hid hK
          clear hK hv hv' hbk hcl hV hCw h1 h2 hd hlk hsw hA hJ
          unfold Dv.val
          go_simp
          refine HKK.out _ _ _ rfl ⟨⟨HR.out.1, HR.out.2.1⟩, d, y, m2, w'.heap.size, upd_at _ _ _, HG.out, HR.out.2.2.1, HR.out.2.2.2.1, H12.out.1, H12.out.2.1, HR.out.2.2.2.2.1, H12.out.2.2, HR.out.2.2.2.2.2⟩
        · obtain ⟨⟨hbk, hcl⟩, d, y, m2, g2, hv, hg2, hV, hCw, h1, h2, hd, hlk, hsw⟩ := hJ.out
          have hv' : u 8 = .slice (some ⟨g2, 0, none⟩) 1 1 := hv
          have f1 : u 1 = .slice lp j lc := HF.out 1 1 rfl (by kernel_rfl)
          rw [hv', f1] at hK ⊢
          refine oper_append_block (.tmp 22) (.tmp 29) 33 rfl (W1.heap.size + 1) 35 i0 _ 8 104 Try.underlying33 HI.out.1 HI.out.2.1 HI.out.2.2.1 HI.out.2.2.2 rfl (by decide) (.slice lp j lc) j xs rfl hV.row ⟨g2, 0, none⟩ 1 1 d.cells rfl (by decide) rfl
            (fun m u hm => by rw [add_none]; exact cell_at_block hg2 m u (by simpa using hm)) (dv_oneCell d) (by unfold maxLen; omega) (by omega) hV.size ?_
          intro v' w6 hown hgrow hvb hvn
          obtain ⟨lp', lc', rfl⟩ := slice_of_own hown
          have hVN := VL.next hV (lo := wr.heap.size) (by have := VR.out.size; omega) (fun g hg => (own_lt VR.out.row hg).2) hd hown hgrow hvb
          have hnl : ∀ k, k < W1.heap.size + 1 → some k ≠ (Value.slice lp j lc).ownBlock := fun k hk e => by have := (own_lt hV.row e.symm).1; omega
          refine hK _ _ _ rfl ⟨⟨(hgrow.block _ (lt_of_block hbk) (hnl _ (by omega))).trans hbk, ?_⟩, d, y, m2, lp', lc', upd_at _ _ _, hVN, ?_, h1, h2, hlk⟩
          · have hsb := HL.out.lt sb HSB.out
            exact (cell_same (hgrow.block sb (lt_of_cell hcl) (hnl sb (by omega))) _).trans hcl
          · exact (hgrow.block q hCw.lt (hnl q (by have := HQW.out; omega))).trans hCw
      case tail =>
        intro u w' hJ hF K HKK
        obtain ⟨⟨hbk, hcl⟩, d, y, m2, lp', lc', hv, hV, hCw, h1, h2, hlk⟩ := hJ.out
        have f9 : u 9 = .slice lp' (j + 1) lc' := hv
        have VS : Hid (VL W1 q #[.int .i64 15, .int .i64 0, .int .u64 0, .float .f64 0, .string ⟨#[]⟩, .bool false, .slice none 0 0, .slice lp' (j + 1) lc'] (.slice lp' (j + 1) lc') (j + 1) (fun i => if i = j then d else D i) (fun i => if i = j then y else Y i) (xs ++ d.cells) (w'.setCell ⟨w.heap.size + 1, 7, none⟩ (.slice lp' (j + 1) lc'))) := by
          have := V2.set (keepsDoor (fun i => if i = j then d else D i) (fun i => if i = j then y else Y i)) hV 7 (.slice lp' (j + 1) lc')
          rw [hs1] at this
          exact this
        have CS : Hid (Counter (w'.setCell ⟨w.heap.size + 1, 7, none⟩ (.slice lp' (j + 1) lc')) q m2) := (setCell_block _ _ _ (by have := HQW.out; simp; omega)).trans hCw
        have q7 := cell_at_block hbk 7 _ rfl
        have z7 := free_block hbk 7
        have H12 := Lib.hid (And.intro h1 (And.intro h2 hlk))
        clear hbk hcl hv hV hCw h1 h2 hlk hJ hF
        simp only [putAll, Act.put, List.setIfInBounds_toArray, List.set_cons_succ, List.set_cons_zero, Nat.zero_add, Nat.reduceAdd, List.filterMap_cons, List.filterMap_nil, List.getElem?_toArray, List.getElem?_cons_zero, List.getElem?_cons_succ, f9]
        clear f9
        go_wp2_with fail
        refine HKK.out _ _ ?_
        clear HKK
        go_wp2_with fail
        go_roundw
        case rel =>
          refine ⟨j + 1, by omega, by go_num, lp', lc', _, _, _, m2, VS.out, CS.out, ?_, by have := H12.out.2.1; have := HMB.out; omega, fun i z hi hz => ?_⟩
          · have hpp := SV.parts_pos Z
            rw [SV.partsAll_take _ _ _ HJ.out]
            have := H12.out.1
            have := HMA.out
            omega
          · by_cases hij : i = j
            · subst hij
              rw [HJ.out] at hz
              cases hz
              simpa using H12.out.2.2
            · simpa [hij] using HY.out i z (by omega) hz
        case measure => simp [intOf]; omega
    · have hjn : j = x.items.length := by omega
      subst hjn
      obtain ⟨p2, c2, y, hv, hdoor, hlike⟩ := VL.done HK.out HKY.out VR.out (fun i y hy => HY.out i y (List.getElem?_eq_some_iff.1 hy).1 hy)
      cases hv
      have hres : wr.heap[w.heap.size]? = some (.cells #[.int .i64 0, .int .i64 0, .int .u64 0, .float .f64 0, .string ⟨#[]⟩, .bool false, .slice none 0 0, .slice none 0 0] 35 (0, 0)) := (VR.out.but.block _ (by omega) (by have := HQW.out; omega)).trans HR1.out
      obtain ⟨o0, o1, o2, o3, o4, o5, o6, o7⟩ := eight HBK.out
      obtain ⟨r0, r1, r2, r3, r4, r5, r6, r7⟩ := eight hres
      have zr := free_block hres
      have HD := Lib.hid hdoor
      have HLK := Lib.hid hlike
      have hsz := VR.out.size
      clear hdoor hlike hres
      go_wp2_with fail
      refine bodyPost_ret (by simp [results, Try.results120, go_sem, r0, r1, r2, r3, r4, r5, r6, r7, Dv.val, Dv.list]) rfl ⟨Dv.list lp x.items.length lc, y, m', rfl, ?_, ?_, ?_, ?_, ?_, HLK.out⟩
      · have hb : ButAt q w wr := (ButAt.of_below HB1.out).trans VR.out.but
        have hset := store8_below (.int .i64 15) (.int .i64 0) (.int .u64 0) (.float .f64 0) (.string ⟨#[]⟩) (.bool false) (.slice none 0 0) (.slice lp x.items.length lc) (Below.refl w.heap.size wr) (Nat.le_refl _)
        exact ⟨hset.os.trans hb.os, hset.tape.trans hb.tape, hset.output.trans hb.output, Nat.le_trans hb.size hset.size, fun k hk hne => (hset.block k hk).trans (hb.block k hk hne)⟩
      · have hset := @store8_other wr w.heap.size q (.int .i64 15) (.int .i64 0) (.int .u64 0) (.float .f64 0) (.string ⟨#[]⟩) (.bool false) (.slice none 0 0) (.slice lp x.items.length lc) (by have := HQW.out; omega)
        exact hset.trans CR.out
      · have := HMA.out
        rw [List.take_length] at this
        have := SV.parts_eq x
        omega
      · have := HMB.out
        omega
      · refine HD.out.keep (fun b hB => ?_) (fun b hB => ⟨by have := hB.1; omega, by simp only [size_setCell]; exact hB.2⟩)
        have hne : b ≠ w.heap.size := by have := hB.1; omega
        simp only [setCell_block _ ⟨w.heap.size, _, none⟩ _ hne]
end Go.Proofs.Ythmogfjmngbamaa
