/-
  'impl.given2' walked at lists.
-/
import Derived.Test.YthmogfjmngbamaaGinv
namespace Go.Proofs.Ythmogfjmngbamaa
open Go.RowKit
set_option linter.unusedSimpArgs false
set_option linter.unusedVariables false

/-- What is handed to 'given2' lies in blocks that are there, and the counter's is none of them. -/
structure Lies (w : World) (B : Nat → Prop) (q : Nat) : Prop where
  lt : ∀ b, B b → b < w.heap.size
  ne : ∀ b, B b → b ≠ q
theorem Lies.later {w w' : World} {B : Nat → Prop} {q : Nat} (h : Lies w B q) (hb : ButAt q w w') : Lies w' B q := ⟨fun b hB => Nat.lt_of_lt_of_le (h.lt b hB) hb.size, h.ne⟩
theorem DoorOf.but {w w' : World} {B : Nat → Prop} {q : Nat} {x : SV} {d : Dv} (h : DoorOf w B x d) (hl : Lies w B q) (hb : ButAt q w w') : DoorOf w' B x d :=
  h.keep (fun b hB => hb.block b (hl.lt b hB) (hl.ne b hB)) (fun _ hB => hB)
theorem cellsIn.but {w w' : World} {B : Nat → Prop} {q : Nat} {p : Option Addr} {i : Nat} {cs : List Value} (h : cellsIn w B p i cs) (hl : Lies w B q) (hb : ButAt q w w') : cellsIn w' B p i cs :=
  h.keep (fun b hB => hb.block b (hl.lt b hB) (hl.ne b hB)) (fun _ hB => hB)

theorem AnyOf.iface {w : World} {B : Nat → Prop} {x : SV} {v : Value} (h : AnyOf w B x v) : v = .nilIface ∨ ∃ t u, v = .iface t u := by
  cases h with
  | plain x hk =>
    unfold SV.any
    repeat' split
    all_goals first | exact .inl rfl | exact .inr ⟨_, _, rfl⟩
  | list => exact .inr ⟨_, _, rfl⟩
  | map => exact .inr ⟨_, _, rfl⟩
theorem SV.partsAll_le : ∀ (l : List SV) (j : Nat), SV.partsAll (l.take j) ≤ SV.partsAll l := by
  intro l
  induction l with
  | nil => intro j; simp
  | cons x r ih =>
    intro j
    cases j with
    | zero => simp [SV.partsAll]
    | succ j =>
      have := ih j
      simp only [List.take_succ_cons, SV.partsAll]
      omega

set_option maxHeartbeats 1000000 in
set_option maxRecDepth 100000 in
theorem given2_list (x : SV) (hk : x.kind = 5) (w : World) (B : Nat → Prop) (q : Nat) (hl : Lies w B q) (p : Option Addr) (c : Nat) (D : Nat → Dv) (hc : x.items.length ≤ c ∧ c ≤ 9223372036854775807)
    (hcell : ∀ (i : Nat) (y : SV), x.items[i]? = some y → cellsIn w B p (i * 8) (D i).cells) (hsub : ∀ (i : Nat) (y : SV), x.items[i]? = some y → DoorOf w B y (D i))
    (m lv : Int) (hm : x.parts ≤ m) (hm2 : m ≤ 100000) (hp : x.parts ≤ 200) (hlv : 1 ≤ lv) (hlv2 : lv ≤ 1000) (hcnt : Counter w q m)
    (IH : ∀ (i : Nat) (y : SV), x.items[i]? = some y → ∀ (w' : World) (m' : Int) (d : Dv), Lies w' B q → DoorOf w' B y d → y.parts ≤ m' → m' ≤ 100000 → Counter w' q m' → Calls Try.prog 98 #[d.val, .int .i64 (lv - 1), .pointer (some ⟨q, 0, none⟩)] w' (GivesAny y m' q w')) :
    Calls Try.prog 98 #[(Dv.list p x.items.length c).val, .int .i64 lv, .pointer (some ⟨q, 0, none⟩)] w (GivesAny x m q w) := by
  have HIH := Lib.hid IH
  have HL := Lib.hid hl
  have HC := Lib.hid hcell
  have HS := Lib.hid hsub
  have hln := SV.items_parts x
  have hln' : x.items.length ≤ 200 := by omega
  have hlnc : (x.items.length : Int) ≤ c := by omega
  have hm0 : 1 ≤ m := by omega
  have hm1 : 0 ≤ m - 1 := by omega
  have hqw : q < w.heap.size := hcnt.lt
  have HM := Lib.hid hm
  have HK := Lib.hid hk
  have hc2 := hc.2
  have c0 : (w.alloc (.cells #[Value.int .i64 15, .int .i64 0, .int .u64 0, .float .f64 0, .string ⟨#[]⟩, .bool false, .slice none 0 0, .slice p x.items.length c] 35)).cell? ⟨q, 0, none⟩ = some (.int .i64 m) := by
    rw [World.cell?_alloc_past _ _ _ hcnt.lt]; exact cell_of_one hcnt
  have f0 : (w.alloc (.cells #[Value.int .i64 15, .int .i64 0, .int .u64 0, .float .f64 0, .string ⟨#[]⟩, .bool false, .slice none 0 0, .slice p x.items.length c] 35)).frozen? ⟨q, 0, none⟩ = false := by
    rw [World.frozen?_alloc_old _ _ _ (by have := hcnt.lt; simp; omega)]; exact free_of_one hcnt
  have hq : ¬ q = w.heap.size := by omega
  have hq' : ¬ w.heap.size = q := by omega
  have G0 : Hid (GInv x (Dv.list p x.items.length c) w q m (.slice none 0 0) 0 (fun _ => .nilIface) [] ((w.alloc (.cells #[Value.int .i64 15, .int .i64 0, .int .u64 0, .float .f64 0, .string ⟨#[]⟩, .bool false, .slice none 0 0, .slice p x.items.length c] 35)).setCell ⟨q, 0, none⟩ (.int .i64 (m - 1)))) :=
    ⟨(ButAt.alloc _ _).trans (ButAt.setCell _ ⟨q, 0, none⟩ rfl _), by
      have := one_setCell (v := .int .i64 m) (u := .int .i64 (m - 1)) (Counter.later hcnt ((Below.refl _ _).alloc (Nat.le_refl _) (.cells #[Value.int .i64 15, .int .i64 0, .int .u64 0, .float .f64 0, .string ⟨#[]⟩, .bool false, .slice none 0 0, .slice p x.items.length c] 35)) hcnt.lt)
      have e : m - 1 - ((SV.partsAll (x.items.take 0) : Nat) : Int) = m - 1 := by simp [SV.partsAll]
      rw [e]
      exact this, by
      rw [setCell_block _ _ _ hq']; exact heap_alloc_new _ _, World.ownsRow_nil _ _ _ _, RowOf.nil _ _, fun i y h => by omega⟩
  have HQW := Lib.hid hqw
  clear hcnt hl hcell hsub IH hm hk hc hqw
  simp only [Dv.val, Dv.list]
  go_enter Try.func98, Try.ntmps98
  go_wp2_with fail
  clear c0 f0
  obtain ⟨W1, hW1⟩ : ∃ W1, W1 = ((w.alloc (.cells #[Value.int .i64 15, .int .i64 0, .int .u64 0, .float .f64 0, .string ⟨#[]⟩, .bool false, .slice none 0 0, .slice p x.items.length c] 35)).setCell ⟨q, 0, none⟩ (.int .i64 (m - 1))) := ⟨_, rfl⟩
  rw [← hW1] at G0 ⊢
  clear hW1
  go_loopw [8, 53] (fun l i wr => ∃ (j : Nat) (lp : Option Addr) (lc : Nat), j ≤ x.items.length ∧ i = .int .i64 j ∧ l = .slice lp j lc ∧ Hid ((j = 0 → lp = none ∧ lc = 0) ∧ ∃ A xs, GInv x (Dv.list p x.items.length c) w q m (.slice lp j lc) j A xs wr)) (fun _ i _ => x.items.length - (intOf i).toNat)
  case atStart => exact ⟨0, none, 0, Nat.zero_le _, rfl, rfl, ⟨fun _ => ⟨rfl, rfl⟩, _, _, G0.out⟩⟩
  case round =>
    obtain ⟨j, lp, lc, hj, rfl, rfl, hR⟩ := hrel
    obtain ⟨hz, A, xs, hG⟩ := hR.out
    have HZ := Lib.hid hz
    clear hz
    have GR := Lib.hid hG
    have hrs := hG.size
    clear hR hG G0
    by_cases hlt : j < x.items.length
    · have HY := Lib.hid (show x.items[j]? = some x.items[j] from List.getElem?_eq_getElem hlt)
      have hlr := HL.out.later GR.out.but
      have hcl := (HC.out j _ HY.out).but HL.out GR.out.but
      have HD := Lib.hid ((HS.out j _ HY.out).but HL.out GR.out.but)
      obtain ⟨bi, oi, hip, hBi, hcs⟩ := hcl
      subst hip
      have c0 := hcs 0 _ rfl
      have c1 := hcs 1 _ rfl
      have c2 := hcs 2 _ rfl
      have c3 := hcs 3 _ rfl
      have c4 := hcs 4 _ rfl
      have c5 := hcs 5 _ rfl
      have c6 := hcs 6 _ rfl
      have c7 := hcs 7 _ rfl
      clear hcs
      simp only [Nat.add_zero] at c0
      generalize hYY : x.items[j] = Y at *
      have hyp := SV.parts_item HY.out
      have hsum : SV.partsAll (x.items.take j) + Y.parts ≤ SV.partsAll x.items := by
        rw [← SV.partsAll_take _ _ _ HY.out]
        exact SV.partsAll_le _ _
      have hxp := SV.parts_eq x
      have HLR := Lib.hid hlr
      have hmm : Y.parts ≤ m - 1 - SV.partsAll (x.items.take j) := by have := HM.out; omega
      have HMM := Lib.hid hmm
      have HBW : Hid (Below wr.heap.size wr (wr.alloc (.cells (D j).cells.toArray 35))) := (Below.refl _ _).alloc (Nat.le_refl _) _
      have HCALL : Hid (Calls Try.prog 98 #[(D j).val, .int .i64 (lv - 1), .pointer (some ⟨q, 0, none⟩)] (wr.alloc (.cells (D j).cells.toArray 35)) (GivesAny Y (m - 1 - SV.partsAll (x.items.take j)) q (wr.alloc (.cells (D j).cells.toArray 35)))) :=
        HIH.out j Y HY.out _ _ (D j) (HLR.out.later (ButAt.of_below HBW.out)) (HD.out.but HLR.out (ButAt.of_below HBW.out)) HMM.out (by omega) (Counter.later GR.out.cnt HBW.out GR.out.q_lt)
      unfold Dv.val Dv.cells at HCALL
      clear hlr hBi hYY hyp hxp hsum hmm HMM
      go_wp2_with fail
      refine Calls.mono (by exact HCALL.out) ?_
      rintro e w5 ⟨a, rfl, hb5, hc5, ha5⟩
      have HB5 := Lib.hid hb5
      have HC5 := Lib.hid hc5
      have HA5 := Lib.hid ha5
      clear hb5 hc5 ha5 c0 c1 c2 c3 c4 c5 c6 c7 HCALL
      have HCA := Lib.hid HA5.out.iface
      obtain ⟨i0, hi, hz0, hz1, hz2⟩ := info_parts info20
      have HI := Lib.hid (And.intro hi (And.intro hz0 (And.intro hz1 hz2)))
      clear hi hz0 hz1 hz2
      have HN : Hid (∀ (m : Nat) (u : Value), [a][m]? = some u → (w5.alloc (.cells #[a] 20)).cell? ((⟨w5.heap.size, 0, none⟩ : Addr).add m) = some u) := fun m u hm => by
        rw [add_none]
        exact cell_at_block (heap_alloc_new w5 (.cells #[a] 20)) m u (by simpa using hm)
      have HO1 : Hid (∀ u ∈ [a], u.oneCell' = true) := fun u hu => by
        rw [List.mem_singleton.1 hu]
        exact HA5.out.oneCell
      have H63 : Hid (j + 1 ≤ maxLen) := by show _ ≤ _; unfold maxLen; omega
      have HBY : Hid ((j + 1) * 16 ≤ 140737488355328) := by show _ ≤ _; omega
      have HBS : Hid (w.heap.size + 1 ≤ (w5.alloc (.cells #[a] 20)).heap.size) := by
        show _ ≤ _
        have h5 := HB5.out.size
        simp only [World.size_alloc] at h5 ⊢
        omega
      have HOWN : Hid ((w5.alloc (.cells #[a] 20)).ownsRow (w.heap.size + 1) 20 1 (.slice lp j lc) j xs) :=
        (ownsRow_but (ownsRow_later GR.out.row HBW.out) HB5.out (by have := HQW.out; omega)).alloc _
      rcases HCA.out with rfl | ⟨ta, va, rfl⟩
      all_goals
        clear HCA
        go_wp2_with (at_builtin; refine wpList_append_block _ rfl _ _ 87 rfl (w.heap.size + 1) 20 i0 .nilIface 1 16 Try.underlying87 HI.out.1 HI.out.2.1 HI.out.2.2.1 HI.out.2.2.2 rfl (by decide) _ j xs rfl HOWN.out ⟨w5.heap.size, 0, none⟩ 1 1 _ rfl (by decide) rfl HN.out HO1.out H63.out HBY.out HBS.out ?_; intro v' w6 hown hgrow hv hvn)
      all_goals
        have hsl : ∃ p' c', v' = .slice p' (j + 1) c' := by
          rcases hown.2 with ⟨rfl, h⟩ | ⟨g', cap, cur, rfl, _⟩
          · omega
          · exact ⟨_, _, rfl⟩
        obtain ⟨p', c', rfl⟩ := hsl
        go_roundw
        case rel => exact ⟨j + 1, p', c', by omega, by go_num, rfl, ⟨fun h => by omega, _, _, GInv.next HQW.out GR.out HY.out HBW.out HB5.out HC5.out HA5.out ((Below.refl _ _).alloc (Nat.le_refl _) _) hown hgrow hv⟩⟩
        case measure => simp [intOf]; omega
    · have hjn : j = x.items.length := by omega
      subst hjn
      have k0 : wr.cell? ⟨w.heap.size, 0, none⟩ = some (.int .i64 15) := cell_at_block GR.out.box 0 _ rfl
      obtain ⟨i0, hi, hz0, hz1, hz2⟩ := info_parts info20
      have HI := Lib.hid (And.intro hi (And.intro hz0 (And.intro hz1 hz2)))
      clear hi hz0 hz1 hz2
      have HO0 : Hid ((wr.alloc (.cells #[] 20)).ownsRow wr.heap.size 20 1 (.slice (some ⟨wr.heap.size, 0, none⟩) 0 0) 0 []) := World.ownsRow_made wr #[] 0 (Nat.le_refl _) (by unfold maxLen; omega) rfl
      by_cases hn0 : x.items.length = 0
      · obtain ⟨rfl, rfl⟩ := HZ.out hn0
        have HG : Hid (GInv x (Dv.list p x.items.length c) w q m (.slice none x.items.length 0) x.items.length A xs wr) := GR.out
        have hxs : xs = [] := List.eq_nil_of_length_eq_zero (by have := GR.out.rows.1; omega)
        have HXS := Lib.hid hxs
        have HN0 := Lib.hid hn0
        have e0 : Hid (Value.slice none x.items.length 0 = .slice none 0 0) := by show _ = _; rw [hn0]
        clear hn0 hxs
        rw [e0.out]
        go_wp2_with (at_builtin; refine wpList_append_own_none rfl _ _ 87 rfl wr.heap.size 20 i0 1 Try.underlying87 HI.out.1 (.slice (some ⟨wr.heap.size, 0, none⟩) 0 0) 0 [] rfl HO0.out rfl ?_)
        go_ret2
        obtain ⟨r1, r2, r3⟩ := GInv.done (w6 := wr.alloc (.cells #[] 20)) (v' := .slice (some ⟨wr.heap.size, 0, none⟩) 0 0) HQW.out HK.out HG.out ((Below.refl _ _).alloc (Nat.le_refl _) _) (by rw [HN0.out, HXS.out]; exact HO0.out) (by simp [Value.ownBlock])
        exact ⟨_, rfl, r1, r2, r3⟩
      · rcases GR.out.row.2 with ⟨h, h0⟩ | ⟨g, cap, cur, hv, hbg, hg, hn, hm', hcs, htake⟩
        · exact (hn0 h0).elim
        · injection hv with h1 h2 h3
          subst h1 h3
          have HN : Hid (∀ (m : Nat) (u : Value), xs[m]? = some u → (wr.alloc (.cells #[] 20)).cell? ((⟨g, 0, none⟩ : Addr).add m) = some u) := (GR.out.row.alloc _).cells (g := g) rfl
          have HO1 := Lib.hid (GR.out.oneCell (Nat.le_refl _))
          have HM0 : Hid (0 < x.items.length) := by show _ < _; omega
          have HLX : Hid (xs.length = x.items.length * 1) := GR.out.rows.1
          have H63 : Hid (0 + x.items.length ≤ maxLen) := by show _ ≤ _; unfold maxLen; omega
          have HBY : Hid ((0 + x.items.length) * 16 ≤ 140737488355328) := by show _ ≤ _; omega
          have HBS : Hid (wr.heap.size ≤ (wr.alloc (.cells #[] 20)).heap.size) := by show _ ≤ _; simp
          clear h2 hbg hg hn hm' hcs htake hn0
          go_wp2_with (at_builtin; refine wpList_append_block _ rfl _ _ 87 rfl wr.heap.size 20 i0 .nilIface 1 16 Try.underlying87 HI.out.1 HI.out.2.1 HI.out.2.2.1 HI.out.2.2.2 rfl (by decide) (.slice (some ⟨wr.heap.size, 0, none⟩) 0 0) 0 [] rfl HO0.out ⟨g, 0, none⟩ x.items.length _ xs rfl HM0.out HLX.out HN.out HO1.out H63.out HBY.out HBS.out ?_; intro v' w6 hown hgrow hv hvn)
          go_ret2
          simp only [Nat.zero_add, List.nil_append] at hown
          obtain ⟨r1, r2, r3⟩ := GInv.done HQW.out HK.out GR.out (below_grown hgrow) hown hvn
          exact ⟨_, rfl, r1, r2, r3⟩
end Go.Proofs.Ythmogfjmngbamaa
