/-
  'spec.CuV' walked at every value at the door.
-/
import Derived.Test.YthmogfjmngbamaaVrow
import Derived.Test.YthmogfjmngbamaaLike
import Derived.Test.YthmogfjmngbamaaPhase
import Derived.Test.YthmogfjmngbamaaVala
namespace Go.Proofs.Ythmogfjmngbamaa
open Go.RowKit
set_option linter.unusedSimpArgs false
set_option linter.unusedVariables false

/-- A value's bounds, to its bottom. -/
inductive Nice : SV → Prop
  | mk (x : SV) (hk : 0 ≤ x.kind ∧ x.kind ≤ 6) (hi : x.kind = 1 → -9223372036854775808 ≤ x.int ∧ x.int ≤ 9223372036854775807) (hf : x.kind = 2 → x.fl < 18446744073709551616) (ht : x.kind = 3 → x.text.size ≤ 500) (hl : x.items.length ≤ 200)
      (hkk : ∀ s ∈ x.keys, s.size ≤ 100) (hke : x.kind = 6 → x.keys.length = x.items.length) (hp : x.kind < 5 → x.items = [] ∧ x.keys = []) (h5 : x.kind = 5 → x.keys = []) (hsub : ∀ (i : Nat) (y : SV), x.items[i]? = some y → Nice y) : Nice x

theorem Nice.like {x y : SV} (h : Like y x) : Nice x → Nice y := by
  induction h with
  | plain y x hk he hi hks h1 h2 h3 h4 =>
    intro hn
    cases hn with
    | mk _ nk ni nf nt nl nkk nke np n5 nsub =>
      refine .mk y ⟨hk.1, by omega⟩ (fun e => by rw [h1 e]; exact ni (he ▸ e)) (fun e => by rw [h2 e]; exact nf (he ▸ e)) (fun e => by rw [h3 e]; exact nt (he ▸ e)) (by rw [hi.1]; simp) (by rw [hks.1]; simp) (fun e => by omega) (fun _ => ⟨hi.1, hks.1⟩) (fun _ => hks.1) (fun i z hz => by rw [hi.1] at hz; simp at hz)
  | list y x hy hx hks hl h ih =>
    intro hn
    cases hn with
    | mk _ nk ni nf nt nl nkk nke np n5 nsub =>
      refine .mk y (by omega) (fun e => by omega) (fun e => by omega) (fun e => by omega) (by omega) (by rw [hks.1]; simp) (fun e => by omega) (fun e => by omega) (fun _ => hks.1) fun i z hz => ?_
      have hi := (List.getElem?_eq_some_iff.1 hz).1
      have hb : x.items[i]? = some (x.items[i]'(by omega)) := List.getElem?_eq_getElem _
      exact ih i z _ hz hb (nsub i _ hb)
  | map y x hy hx hl hky hkx J hj h ih =>
    intro hn
    cases hn with
    | mk _ nk ni nf nt nl nkk nke np n5 nsub =>
      refine .mk y (by omega) (fun e => by omega) (fun e => by omega) (fun e => by omega) (by omega) (fun s hs => ?_) (fun _ => hky) (fun e => by omega) (fun e => by omega) fun i z hz => ?_
      · obtain ⟨i, hi⟩ := List.mem_iff_getElem?.1 hs
        exact nkk s (List.mem_of_getElem? (hj i s hi))
      · have hi := (List.getElem?_eq_some_iff.1 hz).1
        have hs : y.keys[i]? = some (y.keys[i]'(by omega)) := List.getElem?_eq_getElem _
        have hJ := (List.getElem?_eq_some_iff.1 (hj i _ hs)).1
        have hb : x.items[J i]? = some (x.items[J i]'(by omega)) := List.getElem?_eq_getElem _
        exact ih i z _ hz hb (nsub _ _ hb)

theorem nice_of {w : World} : ∀ (x : SV) (n : Nat), SV.In w x → SV.Ok x → SV.Small n x → x.parts ≤ 200 → Nice x := by
  refine SV.ind fun x ih n hin hok hs hp => ?_
  obtain ⟨k1, k2, k3, k4, k5⟩ := SV.ok_shape hok
  have hf := SV.in_flat hin
  have hln := SV.items_parts x
  cases n with
  | zero => exact hs.elim
  | succ n =>
    refine .mk x ⟨k1, k2⟩ (fun _ => hf.int) (fun _ => hf.fl) (fun _ => hs.1) (by omega) (fun s hks => ?_) (fun e => (k5 e).1) (fun e => ⟨k3 e, k4 (by omega)⟩) (fun e => k4 (by omega)) fun i y hy => ?_
    · obtain ⟨i, hi⟩ := List.mem_iff_getElem?.1 hks
      exact hs.2.2.2 i s hi
    · exact ih i y hy n (SV.in_item hin hy).2 (SV.ok_item hok hy) (hs.2.2.1 i y hy) (by have := SV.parts_item hy; omega)

/-- It returned a value of the reference that is the same as y, in new memory. -/
def GivesV (y : SV) (w : World) (e : Ending) (w' : World) : Prop :=
  ∃ z : SV, e = .returned (.tuple #[z.val, .bool true]) ∧ Below w.heap.size w w' ∧ VOf w' (betw w.heap.size w'.heap.size) z ∧ Like z y

theorem keepsV (Z : Nat → SV) (i : Nat) : Keeps (fun w B => VOf w B (Z i)) := fun _ _ _ _ h hk hB => h.keep hk hB
theorem keepsV1 (z : SV) : Keeps (fun w B => VOf w B z) := fun _ _ _ _ h hk hB => h.keep hk hB

/-- The rows of a value that is being made. -/
abbrev VC (W1 : World) (oc : Array Value) (kv lv : Value) (jk jl : Nat) (Kf : Nat → ByteArray) (Zf : Nat → SV) (ys xs : List Value) (wr : World) : Prop :=
  V2 30 7 9 1 30 (fun i => (Zf i).cells) (fun i => [.string (Kf i)]) (fun i w B => VOf w B (Zf i)) W1 W1.heap.size oc kv lv jk jl ys xs wr

theorem VC.next {W1 : World} {oc : Array Value} {kv lv v' : Value} {jk jl lo : Nat} {Kf : Nat → ByteArray} {Zf : Nat → SV} {ys xs : List Value} {wr w6 : World} {z : SV} (h : VC W1 oc kv lv jk jl Kf Zf ys xs wr)
    (hlo : W1.heap.size + 1 ≤ lo) (hlv : ∀ g, lv.ownBlock = some g → g < lo) (hkv : ∀ g, kv.ownBlock = some g → g < lo) (hd : VOf wr (betw lo wr.heap.size) z) (hown : w6.ownsRow (W1.heap.size + 1) 30 7 v' (jl + 1) (xs ++ z.cells))
    (hg : wr.grownBy w6 lv.ownBlock) (hv : v'.ownBlock = lv.ownBlock ∨ v'.ownBlock = some wr.heap.size) : VC W1 oc kv v' jk (jl + 1) Kf (fun i => if i = jl then z else Zf i) ys (xs ++ z.cells) w6 := by
  refine (V2.next (S0 := fun w B => VOf w B z) (keepsV Zf) (keepsV1 z) h hlo hlv hkv hd rfl hown hg hv).congr (fun i _ => ?_) (fun _ _ => rfl) (fun i _ w B h => ?_)
  · by_cases hij : i = jl <;> simp [hij]
  · by_cases hij : i = jl <;> simpa [hij] using h

theorem VC.nextKey {W1 : World} {oc : Array Value} {kv lv v' : Value} {jk jl : Nat} {Kf : Nat → ByteArray} {Zf : Nat → SV} {ys xs : List Value} {wr w6 : World} (h : VC W1 oc kv lv jk jl Kf Zf ys xs wr)
    (hown : w6.ownsRow (W1.heap.size + 1) 9 1 v' (jk + 1) (ys ++ [.string (Kf jk)])) (hg : wr.grownBy w6 kv.ownBlock) (hv : v'.ownBlock = kv.ownBlock ∨ v'.ownBlock = some wr.heap.size) :
    VC W1 oc v' lv (jk + 1) jl Kf Zf (ys ++ [.string (Kf jk)]) xs w6 := by
  refine (V2.nextKey (keepsV Zf) h rfl hown hg hv).congr (fun _ _ => rfl) (fun i _ => ?_) (fun _ _ _ _ h => h)
  by_cases hij : i = jk <;> simp [hij]

/-- A value, whole, at the end. -/
theorem VC.done {W1 : World} {oc : Array Value} {kv lv : Value} {jk : Nat} {Zf : Nat → SV} {ys xs : List Value} {wr : World} {y : SV} (hk : y.kind = 5 ∧ y.keys = [] ∧ jk = 0 ∨ y.kind = 6 ∧ y.keys.length = y.items.length ∧ jk = y.items.length)
    (hks : ∀ s ∈ y.keys, s.size ≤ 100) (h : VC W1 oc kv lv jk y.items.length (fun i => y.keys.getD i ⟨#[]⟩) Zf ys xs wr) (hL : ∀ (i : Nat) (z : SV), y.items[i]? = some z → Like (Zf i) z) :
    ∃ (kp : Option Addr) (kc : Nat) (p : Option Addr) (c : Nat) (z : SV), kv = .slice kp jk kc ∧ lv = .slice p y.items.length c ∧ z.val = .agg #[.int .i64 y.kind, .int .i64 0, .float .f64 0, .string ⟨#[]⟩, .bool false, .slice p y.items.length c, .slice kp jk kc] ∧
      VOf wr (betw (W1.heap.size + 1) wr.heap.size) z ∧ Like z y := by
  obtain ⟨p, c, hv, h1, h2, h3⟩ := cells_of_row h.row h.rof (betw (W1.heap.size + 1) wr.heap.size) (fun g hg => own_lt h.row hg)
  obtain ⟨kp, kc, hkv, k1, k2, k3⟩ := cells_of_row h.krow h.krof (betw (W1.heap.size + 1) wr.heap.size) (fun g hg => own_lt h.krow hg)
  have hlen : ((List.range y.items.length).map Zf).length = y.items.length := by simp
  have hkl : y.keys.length = jk := by
    rcases hk with ⟨_, e, e2⟩ | ⟨_, e, e2⟩
    · rw [e, e2]; rfl
    · rw [e, e2]
  have hat : ∀ (i : Nat) (z : SV), ((List.range y.items.length).map Zf)[i]? = some z → i < y.items.length ∧ z = Zf i := fun i z hz => by
    have hi : i < y.items.length := by have := (List.getElem?_eq_some_iff.1 hz).1; omega
    refine ⟨hi, ?_⟩
    rw [List.getElem?_map, List.getElem?_range hi] at hz
    simpa using hz.symm
  refine ⟨kp, kc, p, c, .mk y.kind 0 0 ⟨#[]⟩ false p c ((List.range y.items.length).map Zf) kp kc y.keys, hkv, hv, ?_, ?_, ?_⟩
  · show Value.agg #[.int .i64 y.kind, .int .i64 0, .float .f64 0, .string ⟨#[]⟩, .bool false, .slice p ((List.range y.items.length).map Zf).length c, .slice kp y.keys.length kc] = _
    rw [hlen, hkl]
  · refine .mk _ ⟨by show -9223372036854775808 ≤ y.kind ∧ y.kind ≤ 9223372036854775807; rcases hk with ⟨e, _⟩ | ⟨e, _⟩ <;> omega, by show (-9223372036854775808 : Int) ≤ 0 ∧ (0 : Int) ≤ 9223372036854775807; decide, by show 0 < 18446744073709551616; decide, by show (⟨#[]⟩ : ByteArray).size ≤ 9223372036854775807; decide,
      by show ((List.range y.items.length).map Zf).length ≤ c ∧ c ≤ 9223372036854775807; omega, by show y.keys.length ≤ kc ∧ kc ≤ 9223372036854775807; omega⟩ (fun i s hs => ?_) (fun i z hz => ?_) fun i z hz => ?_
    · have hs' : y.keys[i]? = some s := hs
      have hi := (List.getElem?_eq_some_iff.1 hs').1
      refine ⟨by have := hks s (List.mem_of_getElem? hs'); unfold maxLen; omega, ?_⟩
      have := k3 i (by omega)
      simp only [List.getD_eq_getElem?_getD, hs', Option.getD_some, Nat.mul_one] at this
      exact this
    · obtain ⟨hi, rfl⟩ := hat i z hz
      exact h3 i hi
    · obtain ⟨hi, rfl⟩ := hat i z hz
      exact (h.subs i hi).keep (fun _ _ => rfl) (fun b hB => ⟨hB.1, hB.2.1⟩)
  · rcases hk with ⟨e, e2, _⟩ | ⟨e, e2, _⟩
    · refine .list _ _ e e ⟨e2, e2⟩ hlen fun i a b ha hb => ?_
      obtain ⟨hi, rfl⟩ := hat i a ha
      exact hL i b hb
    · refine .map _ _ e e hlen (e2.trans hlen.symm) e2 id (fun i s hs => hs) fun i a b ha hb => ?_
      obtain ⟨hi, rfl⟩ := hat i a ha
      exact hL i b hb

set_option maxHeartbeats 4000000 in
set_option maxRecDepth 100000 in
theorem cuV_list (y : SV) (hk : y.kind = 5) (hky : y.keys = []) (hks : ∀ s ∈ y.keys, s.size ≤ 100) (hln : y.items.length ≤ 200) (w : World) (B : Nat → Prop) (hB : ∀ b, B b → b < w.heap.size) (p : Option Addr) (c : Nat) (D : Nat → Dv) (hc : y.items.length ≤ c ∧ c ≤ 9223372036854775807)
    (hcell : ∀ (i : Nat) (z : SV), y.items[i]? = some z → cellsIn w B p (i * 8) (D i).cells) (hsub : ∀ (i : Nat) (z : SV), y.items[i]? = some z → DoorOf w B z (D i))
    (IH : ∀ (i : Nat) (z : SV), y.items[i]? = some z → ∀ (w' : World) (d : Dv), (∀ b, B b → b < w'.heap.size) → DoorOf w' B z d → Calls Try.prog 75 #[d.val] w' (GivesV z w')) :
    Calls Try.prog 75 #[(Dv.list p y.items.length c).val] w (GivesV y w) := by
  have HIH := Lib.hid IH
  have HBB := Lib.hid hB
  have HC := Lib.hid hcell
  have HS := Lib.hid hsub
  have HK := Lib.hid hk
  have HKY := Lib.hid hky
  have HKS := Lib.hid hks
  have HLN := Lib.hid hln
  have hlnc : (y.items.length : Int) ≤ c := by omega
  have hc2 := hc.2
  have hc1 := hc.1
  obtain ⟨i0, hi, hz0, hz1, hz2⟩ := info_parts info30
  have HI := Lib.hid (And.intro hi (And.intro hz0 (And.intro hz1 hz2)))
  clear hcell hsub IH hk hky hks hB hc hi hz0 hz1 hz2 hln
  unfold Dv.val Dv.list
  go_enter Try.func75, Try.ntmps75
  go_wp2_with fail
  obtain ⟨W1, hW1⟩ : ∃ W1, W1 = (w.alloc (.cells #[Value.int .i64 15, .int .i64 0, .int .u64 0, .float .f64 0, .string ⟨#[]⟩, .bool false, .slice none 0 0, .slice p y.items.length c] 35)).alloc (.cells #[Value.int .i64 0, .int .i64 0, .float .f64 0, .string ⟨#[]⟩, .bool false, .slice none 0 0, .slice none 0 0] 30) := ⟨_, rfl⟩
  have hs1 : W1.heap.size = w.heap.size + 1 + 1 := by rw [hW1]; simp
  have HB1 : Hid (Below w.heap.size w W1) := by rw [hW1]; exact ((Below.refl _ _).alloc (Nat.le_refl _) _).alloc (by simp) _
  have HX1 : Hid (W1.heap[w.heap.size]? = some (.cells #[Value.int .i64 15, .int .i64 0, .int .u64 0, .float .f64 0, .string ⟨#[]⟩, .bool false, .slice none 0 0, .slice p y.items.length c] 35 (0, 0)) ∧ W1.heap[w.heap.size + 1]? = some (.cells #[Value.int .i64 0, .int .i64 0, .float .f64 0, .string ⟨#[]⟩, .bool false, .slice none 0 0, .slice none 0 0] 30 (0, 0))) := by
    rw [hW1]
    have h0 := heap_alloc_new w (.cells #[Value.int .i64 15, .int .i64 0, .int .u64 0, .float .f64 0, .string ⟨#[]⟩, .bool false, .slice none 0 0, .slice p y.items.length c] 35)
    have h1 := heap_alloc_new (w.alloc (.cells #[Value.int .i64 15, .int .i64 0, .int .u64 0, .float .f64 0, .string ⟨#[]⟩, .bool false, .slice none 0 0, .slice p y.items.length c] 35)) (.cells #[Value.int .i64 0, .int .i64 0, .float .f64 0, .string ⟨#[]⟩, .bool false, .slice none 0 0, .slice none 0 0] 30)
    rw [World.size_alloc] at h1
    exact ⟨by rw [Below.heap_alloc _ _ _ (by simp only [World.size_alloc]; omega)]; exact h0, h1⟩
  rw [← hW1]
  clear hW1
  obtain ⟨Kf, hKf⟩ : ∃ Kf : Nat → ByteArray, Kf = fun i => y.keys.getD i ⟨#[]⟩ := ⟨_, rfl⟩
  have HKF := Lib.hid hKf
  clear hKf
  have V0 : Hid (VC W1 #[.int .i64 5, .int .i64 0, .float .f64 0, .string ⟨#[]⟩, .bool false, .slice none 0 0, .slice none 0 0] (.slice none 0 0) (.slice none 0 0) 0 0 Kf (fun _ => y) [] [] (W1.alloc (.cells #[.int .i64 5, .int .i64 0, .float .f64 0, .string ⟨#[]⟩, .bool false, .slice none 0 0, .slice none 0 0] 30))) := V2.start _ _ _ _ _ _ _ _ _ _ _
  go_loopw [48] (fun i wr => ∃ j : Nat, j ≤ y.items.length ∧ i = .int .i64 j ∧ Hid (∃ (lp : Option Addr) (lc : Nat) (Zf : Nat → SV) (ys xs : List Value), VC W1 #[.int .i64 5, .int .i64 0, .float .f64 0, .string ⟨#[]⟩, .bool false, .slice lp j lc, .slice none 0 0] (.slice none 0 0) (.slice lp j lc) 0 j Kf Zf ys xs wr ∧
      ∀ (i : Nat) (z : SV), i < j → y.items[i]? = some z → Like (Zf i) z)) (fun i _ => y.items.length - (intOf i).toNat)
  case atStart => exact ⟨0, Nat.zero_le _, rfl, none, 0, _, _, _, V0.out, fun i z h => by omega⟩
  case round =>
    obtain ⟨j, hj, rfl, hR⟩ := hrel
    obtain ⟨lp, lc, Zf, ys, xs, hV, hY⟩ := hR.out
    have VR := Lib.hid hV
    have HY := Lib.hid hY
    clear hR hV hY V0
    by_cases hlt : j < y.items.length
    · have HJ := Lib.hid (show y.items[j]? = some y.items[j] from List.getElem?_eq_getElem hlt)
      generalize y.items[j] = Y' at *
      have hbt : Below w.heap.size w wr := ⟨VR.out.but.os.trans HB1.out.os, VR.out.but.tape.trans HB1.out.tape, VR.out.but.output.trans HB1.out.output, Nat.le_trans HB1.out.size VR.out.but.size, fun k hk => (VR.out.but.block k (by have := HB1.out.size; omega) (by omega)).trans (HB1.out.block k hk)⟩
      have HBT := Lib.hid hbt
      obtain ⟨sb, so, hsp, hsB, hsc⟩ := HC.out j _ HJ.out
      subst hsp
      have hsc' : ∀ m u, (D j).cells[m]? = some u → wr.cell? ⟨sb, so + j * 8 + m, none⟩ = some u := fun m u hm => (cell_same (HBT.out.block sb (HBB.out sb hsB)) _).trans (hsc m u hm)
      have c0 := hsc' 0 _ rfl
      have c1 := hsc' 1 _ rfl
      have c2 := hsc' 2 _ rfl
      have c3 := hsc' 3 _ rfl
      have c4 := hsc' 4 _ rfl
      have c5 := hsc' 5 _ rfl
      have c6 := hsc' 6 _ rfl
      have c7 := hsc' 7 _ rfl
      simp only [Nat.add_zero] at c0
      have HWA : Hid (Below wr.heap.size wr (wr.alloc (.cells (D j).cells.toArray 35))) := (Below.refl _ _).alloc (Nat.le_refl _) _
      have HCALL := Lib.hid (HIH.out j Y' HJ.out (wr.alloc (.cells (D j).cells.toArray 35)) (D j) (fun b hb => Nat.lt_of_lt_of_le (HBB.out b hb) (Nat.le_trans HBT.out.size HWA.out.size)) ((HS.out j Y' HJ.out).keep (fun b hb => (HWA.out.block b (Nat.lt_of_lt_of_le (HBB.out b hb) HBT.out.size)).trans (HBT.out.block b (HBB.out b hb))) (fun _ h => h)))
      have HSB := Lib.hid hsB
      clear hsc hsc' hsB hbt
      unfold Dv.cells at HWA
      unfold Dv.val Dv.cells at HCALL
      have hj2 : (j : Int) < y.items.length := by omega
      go_wp2_with fail
      refine Calls.mono (by exact HCALL.out) ?_
      rintro e w5 ⟨z, rfl, hb5, hz, hlk⟩
      have HB5 : Hid (Below wr.heap.size wr w5) := HWA.out.trans (hb5.mono HWA.out.size)
      have HZ : Hid (VOf w5 (betw wr.heap.size w5.heap.size) z) := hz.keep (fun _ _ => rfl) (fun b h => ⟨Nat.le_trans HWA.out.size h.1, h.2⟩)
      have HLK := Lib.hid hlk
      clear hb5 hz hlk c0 c1 c2 c3 c4 c5 c6 c7 HCALL
      have HWB : Hid (Below w5.heap.size w5 (w5.alloc (.cells z.cells.toArray 30))) := (Below.refl _ _).alloc (Nat.le_refl _) _
      have HWC : Hid (Below (w5.alloc (.cells z.cells.toArray 30)).heap.size (w5.alloc (.cells z.cells.toArray 30)) ((w5.alloc (.cells z.cells.toArray 30)).alloc (.cells z.cells.toArray 30))) := (Below.refl _ _).alloc (Nat.le_refl _) _
      have V6 := Lib.hid ((VR.out.later (keepsV Zf) HB5.out).later (keepsV Zf) HWB.out)
      have V7 := Lib.hid (V6.out.later (keepsV Zf) HWC.out)
      have HG := Lib.hid (heap_alloc_new (w5.alloc (.cells z.cells.toArray 30)) (.cells z.cells.toArray 30))
      have HZ7 : Hid (VOf ((w5.alloc (.cells z.cells.toArray 30)).alloc (.cells z.cells.toArray 30)) (betw wr.heap.size ((w5.alloc (.cells z.cells.toArray 30)).alloc (.cells z.cells.toArray 30)).heap.size) z) :=
        HZ.out.keep (fun b h => (HWC.out.block b (Nat.lt_of_lt_of_le h.2 HWB.out.size)).trans (HWB.out.block b h.2)) (fun b h => ⟨h.1, Nat.lt_of_lt_of_le h.2 (Nat.le_trans HWB.out.size HWC.out.size)⟩)
      have HOC : Hid (∀ u ∈ z.cells, u.oneCell' = true) := fun u hu => by
        unfold SV.cells at hu
        simp only [List.mem_cons, List.not_mem_nil, or_false] at hu
        rcases hu with rfl | rfl | rfl | rfl | rfl | rfl | rfl <;> rfl
      have HNW : Hid (∀ (m : Nat) (u : Value), z.cells[m]? = some u → ((w5.alloc (.cells z.cells.toArray 30)).alloc (.cells z.cells.toArray 30)).cell? ((⟨(w5.alloc (.cells z.cells.toArray 30)).heap.size, 0, none⟩ : Addr).add m) = some u) := fun m u hm => by
        rw [add_none]
        exact cell_at_block HG.out m u (by rw [List.getElem?_toArray]; exact hm)
      have H63 : Hid (j + 1 ≤ maxLen) := by show _ ≤ _; unfold maxLen; have := HLN.out; omega
      have HBY : Hid ((j + 1) * 96 ≤ 140737488355328) := by show _ ≤ _; have := HLN.out; omega
      obtain ⟨o0, o1, o2, o3, o4, o5, o6⟩ := seven V6.out.out
      rw [hs1] at o0 o1 o2 o3 o4 o5 o6
      have HVO := Lib.hid V7.out.row
      have HVS := Lib.hid V7.out.size
      obtain ⟨k3, n3, f3, t3, b3, ip3, ic3, il3, kp3, kl3, kc3, cz, vz⟩ : ∃ k3 n3 f3 t3 b3 ip3 ic3 il3 kp3 kl3 kc3, z.cells = [.int .i64 k3, .int .i64 n3, .float .f64 f3, .string t3, .bool b3, .slice ip3 il3 ic3, .slice kp3 kl3 kc3] ∧
          z.val = .agg #[.int .i64 k3, .int .i64 n3, .float .f64 f3, .string t3, .bool b3, .slice ip3 il3 ic3, .slice kp3 kl3 kc3] := ⟨_, _, _, _, _, _, _, _, _, _, _, rfl, rfl⟩
      rw [vz]
      rw [cz] at o0 o1 o2 o3 o4 o5 o6 HNW HVO HVS HOC
      rw [World.size_alloc] at HNW
      go_wp2_with (at_builtin; refine wpList_append_block _ rfl _ _ 27 rfl (W1.heap.size + 1) 30 i0 _ 7 96 Try.underlying27 HI.out.1 HI.out.2.1 HI.out.2.2.1 HI.out.2.2.2 rfl (by decide) (.slice lp j lc) j xs rfl HVO.out ⟨w5.heap.size + 1, 0, none⟩ 1 1 _ rfl (by decide) rfl HNW.out HOC.out H63.out HBY.out HVS.out ?_; intro v' w6 hown hgrow hv hvn)
      have hown' := hown
      rw [← cz] at hown' hgrow hv
      obtain ⟨lp', lc', rfl⟩ := slice_of_own hown'
      have VN := Lib.hid (VC.next V7.out (lo := wr.heap.size) (by have := VR.out.size; omega) (fun g hg => (own_lt VR.out.row hg).2) (fun g hg => (own_lt VR.out.krow hg).2) HZ7.out hown' hgrow hv)
      have VS0 := Lib.hid (V2.set (keepsV (fun i => if i = j then z else Zf i)) VN.out 5 (.slice lp' (j + 1) lc'))
      have hb6 := VN.out.out
      rw [hs1] at hb6
      have z5 := free_block hb6 5
      obtain ⟨q0, q1, q2, q3, q4, q5, q6⟩ := seven hb6
      have HVN := Lib.hid VN.out.but
      clear hown hown' hgrow hv hvn o0 o1 o2 o3 o4 o5 o6 hb6 HWA HB5 HWB HWC V6 V7 HG HZ7 HZ HOC HNW H63 HBY HVO HVS VN
      go_wp2_with fail
      have VS : Hid (VC W1 #[.int .i64 5, .int .i64 0, .float .f64 0, .string ⟨#[]⟩, .bool false, .slice lp' (j + 1) lc', .slice none 0 0] (.slice none 0 0) (.slice lp' (j + 1) lc') 0 (j + 1) Kf (fun i => if i = j then z else Zf i) ys (xs ++ z.cells) (w6.setCell ⟨w.heap.size + 1 + 1, 5, none⟩ (.slice lp' (j + 1) lc'))) := by
        have h := VS0.out
        rw [show (⟨W1.heap.size, 5, none⟩ : Addr) = ⟨w.heap.size + 1 + 1, 5, none⟩ by rw [hs1]] at h
        exact h
      go_roundw
      case rel => exact ⟨j + 1, by omega, by go_num, lp', lc', (fun i => if i = j then z else Zf i), _, _, VS.out, fun i z' hi hz' => by
        by_cases hij : i = j
        · subst hij
          rw [HJ.out] at hz'
          cases hz'
          simpa using HLK.out
        · simpa [hij] using HY.out i z' (by omega) hz'⟩
      case measure => simp [intOf]; omega
    · have hjn : j = y.items.length := by omega
      subst hjn
      have VE := VR.out
      rw [HKF.out] at VE
      obtain ⟨kp2, kc2, p2, c2, z, hkv, hv, hzv, hvof, hlike⟩ := VC.done (.inl ⟨HK.out, HKY.out, rfl⟩) HKS.out VE (fun i z h => HY.out i z (List.getElem?_eq_some_iff.1 h).1 h)
      cases hv
      cases hkv
      rw [HK.out] at hzv
      have hres : wr.heap[w.heap.size + 1]? = some (.cells #[Value.int .i64 0, .int .i64 0, .float .f64 0, .string ⟨#[]⟩, .bool false, .slice none 0 0, .slice none 0 0] 30 (0, 0)) := (VR.out.but.block _ (by omega) (by omega)).trans HX1.out.2
      have hbx := VR.out.out
      rw [hs1] at hbx
      obtain ⟨o0, o1, o2, o3, o4, o5, o6⟩ := seven hbx
      obtain ⟨r0, r1, r2, r3, r4, r5, r6⟩ := seven hres
      have zr := free_block hres
      have HVF := Lib.hid hvof
      have HLK := Lib.hid hlike
      have HBT : Hid (Below w.heap.size w wr) := ⟨VR.out.but.os.trans HB1.out.os, VR.out.but.tape.trans HB1.out.tape, VR.out.but.output.trans HB1.out.output, Nat.le_trans HB1.out.size VR.out.but.size, fun k hk => (VR.out.but.block k (by have := HB1.out.size; omega) (by omega)).trans (HB1.out.block k hk)⟩
      clear hvof hlike hres hbx VE
      go_wp2_with fail
      refine bodyPost_ret (by simp [results, Try.results75, go_sem, r0, r1, r2, r3, r4, r5, r6, hzv]) rfl ⟨z, rfl, ?_, ?_, HLK.out⟩
      · repeat (refine Below.setCell ?_ (by simp) _)
        exact HBT.out
      · refine HVF.out.keep (fun b hB => ?_) (fun b hB => ⟨by have := hB.1; omega, by simp only [size_setCell]; exact hB.2⟩)
        have hne : b ≠ w.heap.size + 1 := by have := hB.1; omega
        simp only [setCell_block _ ⟨w.heap.size + 1, _, none⟩ _ hne]

set_option maxHeartbeats 4000000 in
set_option maxRecDepth 100000 in
theorem cuV_map (y : SV) (hk : y.kind = 6) (hky : y.keys.length = y.items.length) (hks : ∀ s ∈ y.keys, s.size ≤ 100) (hln : y.items.length ≤ 200) (w : World) (B : Nat → Prop) (hB : ∀ b, B b → b < w.heap.size) (kpd : Option Addr) (kcd : Nat) (hkcd : y.items.length ≤ kcd ∧ kcd ≤ 9223372036854775807) (hkey : ∀ (i : Nat) (s : ByteArray), y.keys[i]? = some s → cellsIn w B kpd (i * 8) (Dv.key s).cells) (p : Option Addr) (c : Nat) (D : Nat → Dv) (hc : y.items.length ≤ c ∧ c ≤ 9223372036854775807)
    (hcell : ∀ (i : Nat) (z : SV), y.items[i]? = some z → cellsIn w B p (i * 8) (D i).cells) (hsub : ∀ (i : Nat) (z : SV), y.items[i]? = some z → DoorOf w B z (D i))
    (IH : ∀ (i : Nat) (z : SV), y.items[i]? = some z → ∀ (w' : World) (d : Dv), (∀ b, B b → b < w'.heap.size) → DoorOf w' B z d → Calls Try.prog 75 #[d.val] w' (GivesV z w')) :
    Calls Try.prog 75 #[(Dv.map kpd y.items.length kcd p y.items.length c).val] w (GivesV y w) := by
  have HIH := Lib.hid IH
  have HBB := Lib.hid hB
  have HC := Lib.hid hcell
  have HS := Lib.hid hsub
  have HK := Lib.hid hk
  have HKY := Lib.hid hky
  have HKS := Lib.hid hks
  have HLN := Lib.hid hln
  have hlnc : (y.items.length : Int) ≤ c := by omega
  have hc2 := hc.2
  have hc1 := hc.1
  have HKEY := Lib.hid hkey
  have hkc1 := hkcd.1
  have hkc2 := hkcd.2
  have hlnk : (y.items.length : Int) ≤ kcd := by omega
  obtain ⟨i0, hi, hz0, hz1, hz2⟩ := info_parts info30
  have HI := Lib.hid (And.intro hi (And.intro hz0 (And.intro hz1 hz2)))
  obtain ⟨i9, hi9, hz09, hz19, hz29⟩ := info_parts info9
  have HI9 := Lib.hid (And.intro hi9 (And.intro hz09 (And.intro hz19 hz29)))
  clear hi9 hz09 hz19 hz29 hkey hkcd
  clear hcell hsub IH hk hky hks hB hc hi hz0 hz1 hz2 hln
  unfold Dv.val Dv.map
  go_enter Try.func75, Try.ntmps75
  go_wp2_with fail
  obtain ⟨W1, hW1⟩ : ∃ W1, W1 = (w.alloc (.cells #[Value.int .i64 21, .int .i64 0, .int .u64 0, .float .f64 0, .string ⟨#[]⟩, .bool false, .slice kpd y.items.length kcd, .slice p y.items.length c] 35)).alloc (.cells #[Value.int .i64 0, .int .i64 0, .float .f64 0, .string ⟨#[]⟩, .bool false, .slice none 0 0, .slice none 0 0] 30) := ⟨_, rfl⟩
  have hs1 : W1.heap.size = w.heap.size + 1 + 1 := by rw [hW1]; simp
  have HB1 : Hid (Below w.heap.size w W1) := by rw [hW1]; exact ((Below.refl _ _).alloc (Nat.le_refl _) _).alloc (by simp) _
  have HX1 : Hid (W1.heap[w.heap.size]? = some (.cells #[Value.int .i64 21, .int .i64 0, .int .u64 0, .float .f64 0, .string ⟨#[]⟩, .bool false, .slice kpd y.items.length kcd, .slice p y.items.length c] 35 (0, 0)) ∧ W1.heap[w.heap.size + 1]? = some (.cells #[Value.int .i64 0, .int .i64 0, .float .f64 0, .string ⟨#[]⟩, .bool false, .slice none 0 0, .slice none 0 0] 30 (0, 0))) := by
    rw [hW1]
    have h0 := heap_alloc_new w (.cells #[Value.int .i64 21, .int .i64 0, .int .u64 0, .float .f64 0, .string ⟨#[]⟩, .bool false, .slice kpd y.items.length kcd, .slice p y.items.length c] 35)
    have h1 := heap_alloc_new (w.alloc (.cells #[Value.int .i64 21, .int .i64 0, .int .u64 0, .float .f64 0, .string ⟨#[]⟩, .bool false, .slice kpd y.items.length kcd, .slice p y.items.length c] 35)) (.cells #[Value.int .i64 0, .int .i64 0, .float .f64 0, .string ⟨#[]⟩, .bool false, .slice none 0 0, .slice none 0 0] 30)
    rw [World.size_alloc] at h1
    exact ⟨by rw [Below.heap_alloc _ _ _ (by simp only [World.size_alloc]; omega)]; exact h0, h1⟩
  rw [← hW1]
  clear hW1
  obtain ⟨Kf, hKf⟩ : ∃ Kf : Nat → ByteArray, Kf = fun i => y.keys.getD i ⟨#[]⟩ := ⟨_, rfl⟩
  have HKF := Lib.hid hKf
  clear hKf
  have V0 : Hid (VC W1 #[.int .i64 6, .int .i64 0, .float .f64 0, .string ⟨#[]⟩, .bool false, .slice none 0 0, .slice none 0 0] (.slice none 0 0) (.slice none 0 0) 0 0 Kf (fun _ => y) [] [] (W1.alloc (.cells #[.int .i64 6, .int .i64 0, .float .f64 0, .string ⟨#[]⟩, .bool false, .slice none 0 0, .slice none 0 0] 30))) := V2.start _ _ _ _ _ _ _ _ _ _ _
  go_loopw [48] (fun i wr => ∃ j : Nat, j ≤ y.items.length ∧ i = .int .i64 j ∧ Hid (∃ (kq : Option Addr) (kqc : Nat) (lp : Option Addr) (lc : Nat) (Zf : Nat → SV) (ys xs : List Value), VC W1 #[.int .i64 6, .int .i64 0, .float .f64 0, .string ⟨#[]⟩, .bool false, .slice lp j lc, .slice kq j kqc] (.slice kq j kqc) (.slice lp j lc) j j Kf Zf ys xs wr ∧
      ∀ (i : Nat) (z : SV), i < j → y.items[i]? = some z → Like (Zf i) z)) (fun i _ => y.items.length - (intOf i).toNat)
  case atStart => exact ⟨0, Nat.zero_le _, rfl, none, 0, none, 0, _, _, _, V0.out, fun i z h => by omega⟩
  case round =>
    obtain ⟨j, hj, rfl, hR⟩ := hrel
    obtain ⟨kq, kqc, lp, lc, Zf, ys, xs, hV, hY⟩ := hR.out
    have VR := Lib.hid hV
    have HY := Lib.hid hY
    clear hR hV hY V0
    by_cases hlt : j < y.items.length
    · have HJ := Lib.hid (show y.items[j]? = some y.items[j] from List.getElem?_eq_getElem hlt)
      generalize y.items[j] = Y' at *
      have hbt : Below w.heap.size w wr := ⟨VR.out.but.os.trans HB1.out.os, VR.out.but.tape.trans HB1.out.tape, VR.out.but.output.trans HB1.out.output, Nat.le_trans HB1.out.size VR.out.but.size, fun k hk => (VR.out.but.block k (by have := HB1.out.size; omega) (by omega)).trans (HB1.out.block k hk)⟩
      have HBT := Lib.hid hbt
      obtain ⟨sb, so, hsp, hsB, hsc⟩ := HC.out j _ HJ.out
      subst hsp
      have hsc' : ∀ m u, (D j).cells[m]? = some u → wr.cell? ⟨sb, so + j * 8 + m, none⟩ = some u := fun m u hm => (cell_same (HBT.out.block sb (HBB.out sb hsB)) _).trans (hsc m u hm)
      have c0 := hsc' 0 _ rfl
      have c1 := hsc' 1 _ rfl
      have c2 := hsc' 2 _ rfl
      have c3 := hsc' 3 _ rfl
      have c4 := hsc' 4 _ rfl
      have c5 := hsc' 5 _ rfl
      have c6 := hsc' 6 _ rfl
      have c7 := hsc' 7 _ rfl
      simp only [Nat.add_zero] at c0
      have HWA : Hid (Below wr.heap.size wr (wr.alloc (.cells (D j).cells.toArray 35))) := (Below.refl _ _).alloc (Nat.le_refl _) _
      have HCALL := Lib.hid (HIH.out j Y' HJ.out (wr.alloc (.cells (D j).cells.toArray 35)) (D j) (fun b hb => Nat.lt_of_lt_of_le (HBB.out b hb) (Nat.le_trans HBT.out.size HWA.out.size)) ((HS.out j Y' HJ.out).keep (fun b hb => (HWA.out.block b (Nat.lt_of_lt_of_le (HBB.out b hb) HBT.out.size)).trans (HBT.out.block b (HBB.out b hb))) (fun _ h => h)))
      have HSB := Lib.hid hsB
      clear hsc hsc' hsB hbt
      unfold Dv.cells at HWA
      unfold Dv.val Dv.cells at HCALL
      have hj2 : (j : Int) < y.items.length := by omega
      go_wp2_with fail
      refine Calls.mono (by exact HCALL.out) ?_
      rintro e w5 ⟨z, rfl, hb5, hz, hlk⟩
      have HB5 : Hid (Below wr.heap.size wr w5) := HWA.out.trans (hb5.mono HWA.out.size)
      have HZ : Hid (VOf w5 (betw wr.heap.size w5.heap.size) z) := hz.keep (fun _ _ => rfl) (fun b h => ⟨Nat.le_trans HWA.out.size h.1, h.2⟩)
      have HLK := Lib.hid hlk
      clear hb5 hz hlk c0 c1 c2 c3 c4 c5 c6 c7 HCALL
      have HWB : Hid (Below w5.heap.size w5 (w5.alloc (.cells z.cells.toArray 30))) := (Below.refl _ _).alloc (Nat.le_refl _) _
      have HWC : Hid (Below (w5.alloc (.cells z.cells.toArray 30)).heap.size (w5.alloc (.cells z.cells.toArray 30)) ((w5.alloc (.cells z.cells.toArray 30)).alloc (.cells z.cells.toArray 30))) := (Below.refl _ _).alloc (Nat.le_refl _) _
      have V6 := Lib.hid ((VR.out.later (keepsV Zf) HB5.out).later (keepsV Zf) HWB.out)
      have V7 := Lib.hid (V6.out.later (keepsV Zf) HWC.out)
      have HG := Lib.hid (heap_alloc_new (w5.alloc (.cells z.cells.toArray 30)) (.cells z.cells.toArray 30))
      have HZ7 : Hid (VOf ((w5.alloc (.cells z.cells.toArray 30)).alloc (.cells z.cells.toArray 30)) (betw wr.heap.size ((w5.alloc (.cells z.cells.toArray 30)).alloc (.cells z.cells.toArray 30)).heap.size) z) :=
        HZ.out.keep (fun b h => (HWC.out.block b (Nat.lt_of_lt_of_le h.2 HWB.out.size)).trans (HWB.out.block b h.2)) (fun b h => ⟨h.1, Nat.lt_of_lt_of_le h.2 (Nat.le_trans HWB.out.size HWC.out.size)⟩)
      have HOC : Hid (∀ u ∈ z.cells, u.oneCell' = true) := fun u hu => by
        unfold SV.cells at hu
        simp only [List.mem_cons, List.not_mem_nil, or_false] at hu
        rcases hu with rfl | rfl | rfl | rfl | rfl | rfl | rfl <;> rfl
      have HNW : Hid (∀ (m : Nat) (u : Value), z.cells[m]? = some u → ((w5.alloc (.cells z.cells.toArray 30)).alloc (.cells z.cells.toArray 30)).cell? ((⟨(w5.alloc (.cells z.cells.toArray 30)).heap.size, 0, none⟩ : Addr).add m) = some u) := fun m u hm => by
        rw [add_none]
        exact cell_at_block HG.out m u (by rw [List.getElem?_toArray]; exact hm)
      have H63 : Hid (j + 1 ≤ maxLen) := by show _ ≤ _; unfold maxLen; have := HLN.out; omega
      have HBY : Hid ((j + 1) * 96 ≤ 140737488355328) := by show _ ≤ _; have := HLN.out; omega
      obtain ⟨o0, o1, o2, o3, o4, o5, o6⟩ := seven V6.out.out
      rw [hs1] at o0 o1 o2 o3 o4 o5 o6
      have HVO := Lib.hid V7.out.row
      have HVS := Lib.hid V7.out.size
      obtain ⟨k3, n3, f3, t3, b3, ip3, ic3, il3, kp3, kl3, kc3, cz, vz⟩ : ∃ k3 n3 f3 t3 b3 ip3 ic3 il3 kp3 kl3 kc3, z.cells = [.int .i64 k3, .int .i64 n3, .float .f64 f3, .string t3, .bool b3, .slice ip3 il3 ic3, .slice kp3 kl3 kc3] ∧
          z.val = .agg #[.int .i64 k3, .int .i64 n3, .float .f64 f3, .string t3, .bool b3, .slice ip3 il3 ic3, .slice kp3 kl3 kc3] := ⟨_, _, _, _, _, _, _, _, _, _, _, rfl, rfl⟩
      rw [vz]
      rw [cz] at o0 o1 o2 o3 o4 o5 o6 HNW HVO HVS HOC
      rw [World.size_alloc] at HNW
      go_wp2_with (at_builtin; refine wpList_append_block _ rfl _ _ 27 rfl (W1.heap.size + 1) 30 i0 _ 7 96 Try.underlying27 HI.out.1 HI.out.2.1 HI.out.2.2.1 HI.out.2.2.2 rfl (by decide) (.slice lp j lc) j xs rfl HVO.out ⟨w5.heap.size + 1, 0, none⟩ 1 1 _ rfl (by decide) rfl HNW.out HOC.out H63.out HBY.out HVS.out ?_; intro v' w6 hown hgrow hv hvn)
      have hown' := hown
      rw [← cz] at hown' hgrow hv
      obtain ⟨lp', lc', rfl⟩ := slice_of_own hown'
      have VN := Lib.hid (VC.next V7.out (lo := wr.heap.size) (by have := VR.out.size; omega) (fun g hg => (own_lt VR.out.row hg).2) (fun g hg => (own_lt VR.out.krow hg).2) HZ7.out hown' hgrow hv)
      have VS0 := Lib.hid (V2.set (keepsV (fun i => if i = j then z else Zf i)) VN.out 5 (.slice lp' (j + 1) lc'))
      have hb6 := VN.out.out
      rw [hs1] at hb6
      have z5 := free_block hb6 5
      obtain ⟨q0, q1, q2, q3, q4, q5, q6⟩ := seven hb6
      have HVN := Lib.hid VN.out.but
      clear hown hown' hgrow hv hvn o0 o1 o2 o3 o4 o5 o6 hb6 HWA HB5 HWB HWC V6 V7 HG HZ7 HZ HOC HNW H63 HBY HVO HVS VN
      have HJK : Hid (y.keys[j]? = some (y.keys[j]'(by have := HKY.out; omega))) := List.getElem?_eq_getElem _
      generalize y.keys[j]'(by have := HKY.out; omega) = s at *
      have HKS' : Hid (Kf j = s) := by show _ = _; rw [HKF.out]; simp only [List.getD_eq_getElem?_getD, HJK.out, Option.getD_some]
      obtain ⟨kb, ko, hkp, hkB, hkc⟩ := HKEY.out j _ HJK.out
      subst hkp
      have hbt6 : Below w.heap.size w w6 := ⟨HVN.out.os.trans HB1.out.os, HVN.out.tape.trans HB1.out.tape, HVN.out.output.trans HB1.out.output, Nat.le_trans HB1.out.size HVN.out.size, fun k hk => (HVN.out.block k (by have := HB1.out.size; omega) (by omega)).trans (HB1.out.block k hk)⟩
      have hx6 := (HVN.out.block w.heap.size (by omega) (by omega)).trans HX1.out.1
      have hkc0 : w6.cell? ⟨kb, ko + j * 8, none⟩ = some (.int .i64 13) := (cell_same (hbt6.block kb (HBB.out kb hkB)) _).trans (by have := hkc 0 _ rfl; rw [Nat.add_zero] at this; exact this)
      have hkc4 : w6.cell? ⟨kb, ko + j * 8 + 4, none⟩ = some (.string s) := (cell_same (hbt6.block kb (HBB.out kb hkB)) _).trans (hkc 4 _ rfl)
      obtain ⟨x0, x1, x2, x3, x4, x5, x6, x7⟩ := eight hx6
      have hkw := HBB.out kb hkB
      have hn1 : ¬ kb = w.heap.size + 1 + 1 := by omega
      have hn2 : ¬ w.heap.size + 1 + 1 = kb := by omega
      have HX6 := Lib.hid hx6
      have HK4 := Lib.hid hkc4
      have HN1 := Lib.hid hn1
      clear hkc hbt6 hkw hx6
      have hjn2 : decide (y.items.length ≤ j) = false := decide_eq_false (by omega)
      have HLN200 := HLN.out
      go_wp2_with fail
      have VS : Hid (VC W1 #[.int .i64 6, .int .i64 0, .float .f64 0, .string ⟨#[]⟩, .bool false, .slice lp' (j + 1) lc', .slice kq j kqc] (.slice kq j kqc) (.slice lp' (j + 1) lc') j (j + 1) Kf (fun i => if i = j then z else Zf i) ys (xs ++ z.cells) (w6.setCell ⟨w.heap.size + 1 + 1, 5, none⟩ (.slice lp' (j + 1) lc'))) := by
        have h := VS0.out
        rw [show (⟨W1.heap.size, 5, none⟩ : Addr) = ⟨w.heap.size + 1 + 1, 5, none⟩ by rw [hs1]] at h
        exact h
      obtain ⟨w7, hw7⟩ : ∃ w7, w7 = w6.setCell ⟨w.heap.size + 1 + 1, 5, none⟩ (.slice lp' (j + 1) lc') := ⟨_, rfl⟩
      have HB7 := Lib.hid VS.out.out
      have HX7 := Lib.hid ((setCell_block w6 ⟨w.heap.size + 1 + 1, 5, none⟩ (.slice lp' (j + 1) lc') (k := w.heap.size) (by simp; omega)).trans HX6.out)
      have HK7 : Hid ((w6.setCell ⟨w.heap.size + 1 + 1, 5, none⟩ (.slice lp' (j + 1) lc')).cell? ⟨kb, ko + j * 8 + 4, none⟩ = some (.string s)) := (cell_same (setCell_block w6 ⟨w.heap.size + 1 + 1, 5, none⟩ (.slice lp' (j + 1) lc') (k := kb) HN1.out) _).trans HK4.out
      rw [← hw7] at VS HB7 HX7 HK7 ⊢
      rw [hs1] at HB7
      clear hw7 VS0 q0 q1 q2 q3 q4 q5 q6 z5 x0 x1 x2 x3 x4 x5 x6 x7 hkc0 hkc4 HX6 HK4 HVN
      refine wp_region_phase [0, 1, 2, 3, 4, 5, 6, 7] [8, 9] [10, 11] [some 90, some 91, some 92, some 93, some 94, some 95, some 96, some 97, some 98, some 99] _
        (fun p => match p with
          | 0 => .pointer (some ⟨w.heap.size + 1 + 1, 6, none⟩)
          | 1 => .slice kq j kqc
          | 2 => .pointer (some ⟨w.heap.size, 6, none⟩)
          | 3 => .slice (some ⟨kb, ko, none⟩) y.items.length kcd
          | 4 => .int .i64 j
          | 5 => .pointer (some ⟨kb, ko + j * 8, none⟩)
          | 6 => .pointer (some ⟨kb, ko + j * 8 + 4, none⟩)
          | 7 => .string s
          | _ => .nilIface)
        (fun k v w' => Hid ((w'.heap[w.heap.size + 1 + 1]? = some (.cells #[.int .i64 6, .int .i64 0, .float .f64 0, .string ⟨#[]⟩, .bool false, .slice lp' (j + 1) lc', .slice kq j kqc] 30 (0, 0)) ∧ w'.cell? ⟨w.heap.size, 6, none⟩ = some (.slice (some ⟨kb, ko, none⟩) y.items.length kcd) ∧ w'.cell? ⟨kb, ko + j * 8 + 4, none⟩ = some (.string s)) ∧ match k with
          | 0 => VC W1 #[.int .i64 6, .int .i64 0, .float .f64 0, .string ⟨#[]⟩, .bool false, .slice lp' (j + 1) lc', .slice kq j kqc] (.slice kq j kqc) (.slice lp' (j + 1) lc') j (j + 1) Kf (fun i => if i = j then z else Zf i) ys (xs ++ z.cells) w'
          | 1 => ∃ g2 : Nat, v 0 = .slice (some ⟨g2, 0, none⟩) 1 1 ∧ w'.heap[g2]? = some (.cells #[.string s] 9 (0, 0)) ∧ VC W1 #[.int .i64 6, .int .i64 0, .float .f64 0, .string ⟨#[]⟩, .bool false, .slice lp' (j + 1) lc', .slice kq j kqc] (.slice kq j kqc) (.slice lp' (j + 1) lc') j (j + 1) Kf (fun i => if i = j then z else Zf i) ys (xs ++ z.cells) w'
          | 2 => ∃ (kq2 : Option Addr) (kqc2 : Nat), v 1 = .slice kq2 (j + 1) kqc2 ∧ VC W1 #[.int .i64 6, .int .i64 0, .float .f64 0, .string ⟨#[]⟩, .bool false, .slice lp' (j + 1) lc', .slice kq j kqc] (.slice kq2 (j + 1) kqc2) (.slice lp' (j + 1) lc') (j + 1) (j + 1) Kf (fun i => if i = j then z else Zf i) (ys ++ [.string s]) (xs ++ z.cells) w'
          | _ => False))
        (by kernel_rfl) (by kernel_rfl) rfl rfl ?start ?read ?step ?tail
      case start =>
        intro v
        have hdr : Below w7.heap.size w7 w7.drew := (Below.refl _ _).drew
        exact ⟨⟨HB7.out, cell_at_block HX7.out 6 _ rfl, HK7.out⟩, VS.out.later (keepsV (fun i => if i = j then z else Zf i)) hdr⟩
      case read =>
        intro pp i o hp ho u k w' hJ hF K hK Q'
        have hpc : pp = 0 ∨ pp = 1 ∨ pp = 2 ∨ pp = 3 ∨ pp = 4 ∨ pp = 5 ∨ pp = 6 ∨ pp = 7 := by
          have : pp < 8 := (List.getElem?_eq_some_iff.1 hp).1
          omega
        rcases hpc with rfl | rfl | rfl | rfl | rfl | rfl | rfl | rfl
        all_goals
          simp only [List.getElem?_cons_zero, List.getElem?_cons_succ, Option.some.injEq] at hp
          subst hp
          simp only [List.getElem?_toArray, List.getElem?_cons_zero, List.getElem?_cons_succ, Option.some.injEq] at ho
          subst ho
          have HF := Lib.hid hF
          clear hF
          simp only [putAll, Act.put, List.setIfInBounds_toArray, List.set_cons_succ, List.set_cons_zero, Nat.zero_add, Nat.reduceAdd] at hK ⊢
        · have HKK := Lib.hid hK
          clear hK
          go_simp
          exact HKK.out
        · have f0 : u 0 = _ := HF.out 0 0 rfl (by kernel_rfl)
          rw [f0] at hK ⊢
          obtain ⟨o0, o1, o2, o3, o4, o5, o6⟩ := seven hJ.out.1.1
          have HKK := Lib.hid hK
          clear hK f0
          go_simp
          exact HKK.out
        · have HKK := Lib.hid hK
          clear hK
          go_simp
          exact HKK.out
        · have f0 : u 2 = _ := HF.out 2 2 rfl (by kernel_rfl)
          rw [f0] at hK ⊢
          have o6 := hJ.out.1.2.1
          have HKK := Lib.hid hK
          clear hK f0
          go_simp
          exact HKK.out
        · have HKK := Lib.hid hK
          clear hK
          go_simp
          exact HKK.out
        · have f3 : u 3 = _ := HF.out 3 3 rfl (by kernel_rfl)
          have f4 : u 4 = _ := HF.out 4 4 rfl (by kernel_rfl)
          rw [f3, f4] at hK ⊢
          have HKK := Lib.hid hK
          clear hK f3 f4
          go_simp
          exact HKK.out
        · have f5 : u 5 = _ := HF.out 5 5 rfl (by kernel_rfl)
          rw [f5] at hK ⊢
          have HKK := Lib.hid hK
          clear hK f5
          go_simp
          exact HKK.out
        · have f6 : u 6 = _ := HF.out 6 6 rfl (by kernel_rfl)
          rw [f6] at hK ⊢
          have o4 := hJ.out.1.2.2
          have HKK := Lib.hid hK
          clear hK f6
          go_simp
          exact HKK.out
      case step =>
        intro qq i o hp ho u w' hJ hF K hK Q'
        have hpc : qq = 0 ∨ qq = 1 := by
          have : qq < 2 := (List.getElem?_eq_some_iff.1 hp).1
          omega
        rcases hpc with rfl | rfl
        all_goals
          simp only [List.getElem?_cons_zero, List.getElem?_cons_succ, Option.some.injEq] at hp
          subst hp
          simp only [List.getElem?_toArray, List.getElem?_cons_zero, List.getElem?_cons_succ, Option.some.injEq] at ho
          subst ho
          have HF := Lib.hid hF
          clear hF
          simp only [putAll, Act.put, List.setIfInBounds_toArray, List.set_cons_succ, List.set_cons_zero, Nat.zero_add, Nat.reduceAdd] at hK ⊢
        · have f7 : u 7 = _ := HF.out 7 7 rfl (by kernel_rfl)
          obtain ⟨⟨hbk, hcx, hck⟩, hV⟩ := hJ.out
          rw [f7] at hK ⊢
          have hA : Below w'.heap.size w' (w'.alloc (.cells #[.string s] 9)) := (Below.refl _ _).alloc (Nat.le_refl _) _
          have HR : Hid (_ ∧ _ ∧ _ ∧ _) := ⟨(hA.block _ (lt_of_block hbk)).trans hbk, cell_later hA hcx, cell_later hA hck, V2.later (keepsV (fun i => if i = j then z else Zf i)) hV hA⟩
          have HG := Lib.hid (heap_alloc_new w' (.cells #[.string s] 9))
          have HKK := Lib.hid hK
          clear hK f7 hbk hcx hck hV hA hJ
          go_simp
          exact HKK.out _ _ _ rfl ⟨⟨HR.out.1, HR.out.2.1, HR.out.2.2.1⟩, w'.heap.size, upd_at _ _ _, HG.out, HR.out.2.2.2⟩
        · obtain ⟨⟨hbk, hcx, hck⟩, g2, hv, hg2, hV⟩ := hJ.out
          have hv' : u 8 = .slice (some ⟨g2, 0, none⟩) 1 1 := hv
          have f1 : u 1 = .slice kq j kqc := HF.out 1 1 rfl (by kernel_rfl)
          rw [hv', f1] at hK ⊢
          refine oper_append_block (.tmp 91) (.tmp 98) 28 rfl (W1.heap.size + 1) 9 i9 _ 1 16 Try.underlying28 HI9.out.1 HI9.out.2.1 HI9.out.2.2.1 HI9.out.2.2.2 rfl (by decide) (.slice kq j kqc) j ys rfl hV.krow ⟨g2, 0, none⟩ 1 1 [.string s] rfl (by decide) rfl
            (fun m u hm => by rw [add_none]; exact cell_at_block hg2 m u (by simpa using hm)) (fun u hu => by rw [List.mem_singleton.1 hu]; rfl) (by unfold maxLen; omega) (by omega) hV.size ?_
          intro v' w8 hown hgrow hvb hvn
          obtain ⟨kq2, kqc2, rfl⟩ := slice_of_own hown
          have hks : Kf j = s := HKS'.out
          have hVN := VC.nextKey hV (by rw [hks]; exact hown) hgrow hvb
          rw [hks] at hVN
          have hnl : ∀ k, k < W1.heap.size + 1 → some k ≠ (Value.slice kq j kqc).ownBlock := fun k hk e => by have := (own_lt hV.krow e.symm).1; omega
          refine hK _ _ _ rfl ⟨⟨(hgrow.block _ (lt_of_block hbk) (hnl _ (by omega))).trans hbk, (cell_same (hgrow.block _ (lt_of_cell hcx) (hnl _ (by omega))) _).trans hcx, (cell_same (hgrow.block _ (lt_of_cell hck) (hnl _ (by have := HBB.out kb hkB; omega))) _).trans hck⟩, kq2, kqc2, upd_at _ _ _, hVN⟩
      case tail =>
        intro u w' hJ hF K HKK
        obtain ⟨⟨hbk, hcx, hck⟩, kq2, kqc2, hv, hV⟩ := hJ.out
        have f9 : u 9 = .slice kq2 (j + 1) kqc2 := hv
        have VE : Hid (VC W1 #[.int .i64 6, .int .i64 0, .float .f64 0, .string ⟨#[]⟩, .bool false, .slice lp' (j + 1) lc', .slice kq2 (j + 1) kqc2] (.slice kq2 (j + 1) kqc2) (.slice lp' (j + 1) lc') (j + 1) (j + 1) Kf (fun i => if i = j then z else Zf i) (ys ++ [.string s]) (xs ++ z.cells) (w'.setCell ⟨w.heap.size + 1 + 1, 6, none⟩ (.slice kq2 (j + 1) kqc2))) := by
          have h := V2.set (keepsV (fun i => if i = j then z else Zf i)) hV 6 (.slice kq2 (j + 1) kqc2)
          rw [show (⟨W1.heap.size, 6, none⟩ : Addr) = ⟨w.heap.size + 1 + 1, 6, none⟩ by rw [hs1]] at h
          exact h
        have q6 := cell_at_block hbk 6 _ rfl
        have z6 := free_block hbk 6
        clear hbk hcx hck hv hV hJ hF
        simp only [putAll, Act.put, List.setIfInBounds_toArray, List.set_cons_succ, List.set_cons_zero, Nat.zero_add, Nat.reduceAdd, List.filterMap_cons, List.filterMap_nil, List.getElem?_toArray, List.getElem?_cons_zero, List.getElem?_cons_succ, f9]
        clear f9
        go_wp2_with fail
        refine HKK.out _ _ ?_
        clear HKK
        go_wp2_with fail
        go_roundw
        case rel => exact ⟨j + 1, by omega, by go_num, kq2, kqc2, lp', lc', (fun i => if i = j then z else Zf i), _, _, VE.out, fun i z' hi hz' => by
          by_cases hij : i = j
          · subst hij
            rw [HJ.out] at hz'
            cases hz'
            simpa using HLK.out
          · simpa [hij] using HY.out i z' (by omega) hz'⟩
        case measure => simp [intOf]; omega
    · have hjn : j = y.items.length := by omega
      subst hjn
      have VE := VR.out
      rw [HKF.out] at VE
      obtain ⟨kp2, kc2, p2, c2, z, hkv, hv, hzv, hvof, hlike⟩ := VC.done (.inr ⟨HK.out, HKY.out, rfl⟩) HKS.out VE (fun i z h => HY.out i z (List.getElem?_eq_some_iff.1 h).1 h)
      cases hv
      cases hkv
      rw [HK.out] at hzv
      have hres : wr.heap[w.heap.size + 1]? = some (.cells #[Value.int .i64 0, .int .i64 0, .float .f64 0, .string ⟨#[]⟩, .bool false, .slice none 0 0, .slice none 0 0] 30 (0, 0)) := (VR.out.but.block _ (by omega) (by omega)).trans HX1.out.2
      have hbx := VR.out.out
      rw [hs1] at hbx
      obtain ⟨o0, o1, o2, o3, o4, o5, o6⟩ := seven hbx
      obtain ⟨r0, r1, r2, r3, r4, r5, r6⟩ := seven hres
      have zr := free_block hres
      have HVF := Lib.hid hvof
      have HLK := Lib.hid hlike
      have HBT : Hid (Below w.heap.size w wr) := ⟨VR.out.but.os.trans HB1.out.os, VR.out.but.tape.trans HB1.out.tape, VR.out.but.output.trans HB1.out.output, Nat.le_trans HB1.out.size VR.out.but.size, fun k hk => (VR.out.but.block k (by have := HB1.out.size; omega) (by omega)).trans (HB1.out.block k hk)⟩
      clear hvof hlike hres hbx VE
      go_wp2_with fail
      refine bodyPost_ret (by simp [results, Try.results75, go_sem, r0, r1, r2, r3, r4, r5, r6, hzv]) rfl ⟨z, rfl, ?_, ?_, HLK.out⟩
      · repeat (refine Below.setCell ?_ (by simp) _)
        exact HBT.out
      · refine HVF.out.keep (fun b hB => ?_) (fun b hB => ⟨by have := hB.1; omega, by simp only [size_setCell]; exact hB.2⟩)
        have hne : b ≠ w.heap.size + 1 := by have := hB.1; omega
        simp only [setCell_block _ ⟨w.heap.size + 1, _, none⟩ _ hne]

end Go.Proofs.Ythmogfjmngbamaa
