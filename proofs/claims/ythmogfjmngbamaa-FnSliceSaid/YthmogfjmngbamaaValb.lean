/-
  'impl.valued' walked at lists; the order in which a map's keys come, and its rows.
-/
import Derived.Test.YthmogfjmngbamaaVala
import Derived.Test.YthmogfjmngbamaaMinv
namespace Go.Proofs.Ythmogfjmngbamaa
open Go.RowKit
set_option linter.unusedSimpArgs false
set_option linter.unusedVariables false

set_option maxHeartbeats 2000000 in
set_option maxRecDepth 100000 in
theorem valued_list (x : SV) (hk : x.kind = 5) (hky : x.keys = []) (w : World) (B : Nat → Prop) (q : Nat) (hl : Lies w B q) (a : Addr) (c : Nat) (A : Nat → Value) (hc : x.items.length ≤ c ∧ c ≤ 9223372036854775807) (hln : x.items.length ≤ 200)
    (hcell : ∀ (i : Nat) (y : SV), x.items[i]? = some y → cellsIn w B (some a) i [A i]) (hsub : ∀ (i : Nat) (y : SV), x.items[i]? = some y → AnyOf w B y (A i))
    (m : Int) (hm : 2 * x.parts ≤ m) (hm2 : m ≤ 100000) (hcnt : Counter w q m)
    (IH : ∀ (i : Nat) (y : SV), x.items[i]? = some y → ∀ (w' : World) (m' : Int) (a : Value), Lies w' B q → AnyOf w' B y a → 2 * y.parts ≤ m' → m' ≤ 100000 → Counter w' q m' → Calls Try.prog 106 #[a, .pointer (some ⟨q, 0, none⟩)] w' (GivesVal y m' q w')) :
    Calls Try.prog 106 #[.iface 87 (.slice (some a) x.items.length c), .pointer (some ⟨q, 0, none⟩)] w (GivesVal x m q w) := by
  have hpos := SV.parts_pos x
  have hpe := SV.parts_eq x
  have hm1 : 0 ≤ m - 1 := by omega
  have hmA : 1 ≤ m := by omega
  have hqw : q < w.heap.size := hcnt.lt
  have HQW := Lib.hid hqw
  have c0 : (w.alloc (.cells #[Value.int .i64 0, .int .i64 0, .int .u64 0, .float .f64 0, .string ⟨#[]⟩, .bool false, .slice none 0 0, .slice none 0 0] 35)).cell? ⟨q, 0, none⟩ = some (.int .i64 m) := by
    rw [World.cell?_alloc_past _ _ _ hcnt.lt]; exact cell_of_one hcnt
  have f0 : (w.alloc (.cells #[Value.int .i64 0, .int .i64 0, .int .u64 0, .float .f64 0, .string ⟨#[]⟩, .bool false, .slice none 0 0, .slice none 0 0] 35)).frozen? ⟨q, 0, none⟩ = false := by
    rw [World.frozen?_alloc_old _ _ _ (by have := hcnt.lt; simp; omega)]; exact free_of_one hcnt
  have hq : ¬ q = w.heap.size := by omega
  have hq' : ¬ w.heap.size = q := by omega
  have HB1 : Hid (ButAt q w ((w.alloc (.cells #[Value.int .i64 0, .int .i64 0, .int .u64 0, .float .f64 0, .string ⟨#[]⟩, .bool false, .slice none 0 0, .slice none 0 0] 35)).setCell ⟨q, 0, none⟩ (.int .i64 (m - 1)))) := (ButAt.alloc _ _).trans (ButAt.setCell _ ⟨q, 0, none⟩ rfl _)
  have HC1 : Hid (Counter ((w.alloc (.cells #[Value.int .i64 0, .int .i64 0, .int .u64 0, .float .f64 0, .string ⟨#[]⟩, .bool false, .slice none 0 0, .slice none 0 0] 35)).setCell ⟨q, 0, none⟩ (.int .i64 (m - 1))) q (m - 1)) :=
    one_setCell (v := .int .i64 m) (Counter.later hcnt ((Below.refl _ _).alloc (Nat.le_refl _) _) hcnt.lt)
  have HR1 : Hid (((w.alloc (.cells #[Value.int .i64 0, .int .i64 0, .int .u64 0, .float .f64 0, .string ⟨#[]⟩, .bool false, .slice none 0 0, .slice none 0 0] 35)).setCell ⟨q, 0, none⟩ (.int .i64 (m - 1))).heap[w.heap.size]? = some (.cells #[Value.int .i64 0, .int .i64 0, .int .u64 0, .float .f64 0, .string ⟨#[]⟩, .bool false, .slice none 0 0, .slice none 0 0] 35 (0, 0))) :=
    (setCell_block _ _ _ (by simpa using hq')).trans (heap_alloc_new _ _)
  have HCL := Lib.hid (listOf_any x hk hky _ B q (hl.later HB1.out) (some a) c A hc hln (fun i y hy => (hcell i y hy).but hl HB1.out) (fun i y hy => (hsub i y hy).but hl HB1.out) (m - 1) (by omega) (by omega) HC1.out IH)
  have HS1 : Hid (((w.alloc (.cells #[Value.int .i64 0, .int .i64 0, .int .u64 0, .float .f64 0, .string ⟨#[]⟩, .bool false, .slice none 0 0, .slice none 0 0] 35)).setCell ⟨q, 0, none⟩ (.int .i64 (m - 1))).heap.size = w.heap.size + 1) := by
    show _ = _
    rw [size_setCell, World.size_alloc]
  clear hcell hsub IH hl hk hky hc hcnt hm hpos hpe hln hqw
  go_enter Try.func106, Try.ntmps106
  go_wp2_with fail
  clear c0 f0
  obtain ⟨w1, hw1⟩ : ∃ w1, w1 = (w.alloc (.cells #[Value.int .i64 0, .int .i64 0, .int .u64 0, .float .f64 0, .string ⟨#[]⟩, .bool false, .slice none 0 0, .slice none 0 0] 35)).setCell ⟨q, 0, none⟩ (.int .i64 (m - 1)) := ⟨_, rfl⟩
  rw [← hw1] at HB1 HC1 HR1 HCL HS1 ⊢
  clear hw1
  refine Calls.mono (by exact HCL.out) ?_
  rintro e w2 ⟨d, y, m', rfl, hb, hc, h1, h2, hd, hlk⟩
  have hres : w2.heap[w.heap.size]? = some (.cells #[Value.int .i64 0, .int .i64 0, .int .u64 0, .float .f64 0, .string ⟨#[]⟩, .bool false, .slice none 0 0, .slice none 0 0] 35 (0, 0)) := (hb.block _ (by have := HS1.out; omega) hq').trans HR1.out
  obtain ⟨r0, r1, r2, r3, r4, r5, r6, r7⟩ := eight hres
  have zr := free_block hres
  have HB2 := Lib.hid (HB1.out.trans hb)
  have HC2 := Lib.hid hc
  have H12 := Lib.hid (And.intro h1 (And.intro h2 hlk))
  have HD := Lib.hid hd
  have HSZ := Lib.hid hb.size
  clear hb hc h1 h2 hlk hd hres HCL
  unfold Dv.val
  go_wp2_with fail
  refine bodyPost_ret (by simp [results, Try.results106, go_sem, r0, r1, r2, r3, r4, r5, r6, r7, Dv.val]) rfl ⟨d, y, m', rfl, ?_, ?_, by have := H12.out.1; omega, by have := H12.out.2.1; omega, ?_, H12.out.2.2⟩
  · have hset := store8_below (.int .i64 d.k) (.int .i64 d.n) (.int .u64 0) (.float .f64 d.f) (.string d.t) (.bool d.b) (.slice d.kp d.kl d.kc) (.slice d.ip d.il d.ic) (Below.refl w.heap.size w2) (Nat.le_refl _)
    have hb := HB2.out
    exact ⟨hset.os.trans hb.os, hset.tape.trans hb.tape, hset.output.trans hb.output, Nat.le_trans hb.size hset.size, fun k hk hne => (hset.block k hk).trans (hb.block k hk hne)⟩
  · exact (@store8_other w2 w.heap.size q (.int .i64 d.k) (.int .i64 d.n) (.int .u64 0) (.float .f64 d.f) (.string d.t) (.bool d.b) (.slice d.kp d.kl d.kc) (.slice d.ip d.il d.ic) hq).trans HC2.out
  · refine HD.out.keep (fun b hB => ?_) (fun b hB => ⟨by have := hB.1; have := HS1.out; omega, by simp only [size_setCell]; exact hB.2⟩)
    have hne : b ≠ w.heap.size := by have := hB.1; have := HS1.out; omega
    simp only [setCell_block _ ⟨w.heap.size, _, none⟩ _ hne]

theorem perm_of_map {α β : Type} (f : α → β) : ∀ (ts : List β) (ps : List α), ts.Perm (ps.map f) → ∃ qs : List α, qs.Perm ps ∧ qs.map f = ts := by
  intro ts
  induction ts with
  | nil =>
    intro ps h
    have := h.length_eq
    rw [List.length_map] at this
    obtain rfl : ps = [] := List.eq_nil_of_length_eq_zero this.symm
    exact ⟨[], List.Perm.refl _, rfl⟩
  | cons t r ih =>
    intro ps h
    obtain ⟨p, hp, hpt⟩ := List.mem_map.1 (h.mem_iff.1 (List.mem_cons_self ..))
    obtain ⟨s, u, rfl⟩ := List.append_of_mem hp
    have hm : (s ++ p :: u).Perm (p :: (s ++ u)) := List.perm_middle
    have h2 : (t :: r).Perm (t :: (s ++ u).map f) := by
      have := h.trans (hm.map f)
      rwa [List.map_cons, hpt] at this
    obtain ⟨qs, hq, he⟩ := ih (s ++ u) (List.Perm.cons_inv h2)
    exact ⟨p :: qs, (hq.cons p).trans hm.symm, by rw [List.map_cons, hpt, he]⟩

theorem SV.partsAll_perm {l l' : List SV} (h : l.Perm l') : SV.partsAll l = SV.partsAll l' := by
  induction h with
  | nil => rfl
  | cons x _ ih => simp only [SV.partsAll, ih]
  | swap x y l => simp only [SV.partsAll]; omega
  | trans _ _ h1 h2 => exact h1.trans h2

/-- A map's keys in another order, each with its element. -/
structure Turn (x : SV) (ts : List (List UInt8)) (qs : List (ByteArray × SV)) (J : Nat → Nat) : Prop where
  length : qs.length = x.items.length
  keys : qs.map (fun p => p.1.data.toList) = ts
  at' : ∀ (i : Nat) (s : ByteArray) (Z : SV), qs[i]? = some (s, Z) → x.keys[J i]? = some s ∧ x.items[J i]? = some Z
  parts : SV.partsAll (qs.map (·.2)) = SV.partsAll x.items

theorem turn_of {x : SV} (hkl : x.keys.length = x.items.length) {ts : List (List UInt8)} (hp : ts.Perm (x.keys.map (·.data.toList))) : ∃ qs J, Turn x ts qs J := by
  have hz : x.keys.map (·.data.toList) = (x.keys.zip x.items).map (fun p => p.1.data.toList) := by
    have := List.map_fst_zip (l₁ := x.keys) (l₂ := x.items) (by omega)
    rw [show (fun p : ByteArray × SV => p.1.data.toList) = (fun s : ByteArray => s.data.toList) ∘ Prod.fst from rfl, ← List.map_map, this]
  rw [hz] at hp
  obtain ⟨qs, hq, he⟩ := perm_of_map _ ts _ hp
  have hex : ∀ i : Nat, ∃ j : Nat, ∀ (s : ByteArray) (Z : SV), qs[i]? = some (s, Z) → x.keys[j]? = some s ∧ x.items[j]? = some Z := by
    intro i
    cases hqi : qs[i]? with
    | none => exact ⟨0, fun s Z h => by cases h⟩
    | some p =>
      obtain ⟨j, hj⟩ := List.mem_iff_getElem?.1 (hq.mem_iff.1 (List.mem_of_getElem? hqi))
      refine ⟨j, fun s Z h => ?_⟩
      cases h
      exact List.getElem?_zip_eq_some.1 hj
  refine ⟨qs, fun i => Classical.choose (hex i), ?_, he, fun i s Z h => Classical.choose_spec (hex i) s Z h, ?_⟩
  · rw [hq.length_eq, List.length_zip]
    omega
  · rw [SV.partsAll_perm (hq.map (·.2))]
    have := List.map_snd_zip (l₁ := x.keys) (l₂ := x.items) (by omega)
    rw [this]

/-- A key as a plain value. -/
def keyV (s : ByteArray) : SV := .mk 3 0 0 s false none 0 [] none 0 []
theorem keyV_any (s : ByteArray) : (keyV s).any = .iface 9 (.string s) := by simp [keyV, SV.any, SV.kind, SV.text]
theorem keyV_door (s : ByteArray) : (keyV s).door = (Dv.key s).val := rfl

/-- The rows of a door's map that is being made. -/
abbrev VM (W1 : World) (q : Nat) (oc : Array Value) (kv lv : Value) (jk jl : Nat) (K : Nat → ByteArray) (D : Nat → Dv) (Y : Nat → SV) (ys xs : List Value) (wr : World) : Prop :=
  V2 35 8 35 8 35 (fun i => (D i).cells) (fun i => (Dv.key (K i)).cells) (fun i w B => DoorOf w B (Y i) (D i)) W1 q oc kv lv jk jl ys xs wr

theorem VM.next {W1 : World} {q : Nat} {oc : Array Value} {kv lv v' : Value} {jk jl lo : Nat} {K : Nat → ByteArray} {D : Nat → Dv} {Y : Nat → SV} {ys xs : List Value} {wr w6 : World} {d : Dv} {y : SV} (h : VM W1 q oc kv lv jk jl K D Y ys xs wr)
    (hlo : W1.heap.size + 1 ≤ lo) (hlv : ∀ g, lv.ownBlock = some g → g < lo) (hkv : ∀ g, kv.ownBlock = some g → g < lo) (hd : DoorOf wr (betw lo wr.heap.size) y d) (hown : w6.ownsRow (W1.heap.size + 1) 35 8 v' (jl + 1) (xs ++ d.cells))
    (hg : wr.grownBy w6 lv.ownBlock) (hv : v'.ownBlock = lv.ownBlock ∨ v'.ownBlock = some wr.heap.size) : VM W1 q oc kv v' jk (jl + 1) K (fun i => if i = jl then d else D i) (fun i => if i = jl then y else Y i) ys (xs ++ d.cells) w6 := by
  refine (V2.next (S0 := fun w B => DoorOf w B y d) (keepsDoor D Y) (keepsOne d y) h hlo hlv hkv hd rfl hown hg hv).congr (fun i _ => ?_) (fun _ _ => rfl) (fun i _ w B h => ?_)
  · by_cases hij : i = jl <;> simp [hij]
  · by_cases hij : i = jl <;> simpa [hij] using h

theorem VM.nextKey {W1 : World} {q : Nat} {oc : Array Value} {kv lv v' : Value} {jk jl : Nat} {K : Nat → ByteArray} {D : Nat → Dv} {Y : Nat → SV} {ys xs : List Value} {wr w6 : World} (h : VM W1 q oc kv lv jk jl K D Y ys xs wr)
    (hown : w6.ownsRow (W1.heap.size + 1) 35 8 v' (jk + 1) (ys ++ (Dv.key (K jk)).cells)) (hg : wr.grownBy w6 kv.ownBlock) (hv : v'.ownBlock = kv.ownBlock ∨ v'.ownBlock = some wr.heap.size) :
    VM W1 q oc v' lv (jk + 1) jl K D Y (ys ++ (Dv.key (K jk)).cells) xs w6 := by
  refine (V2.nextKey (keepsDoor D Y) h rfl hown hg hv).congr (fun _ _ => rfl) (fun i _ => ?_) (fun _ _ _ _ h => h)
  by_cases hij : i = jk <;> simp [hij]

/-- A map, whole, at the end. -/
theorem VM.done {W1 : World} {q : Nat} {oc : Array Value} {kv lv : Value} {D : Nat → Dv} {Y : Nat → SV} {ys xs : List Value} {wr : World} {x : SV} {ts : List (List UInt8)} {qs : List (ByteArray × SV)} {J : Nat → Nat} (hk : x.kind = 6) (hkl : x.keys.length = x.items.length)
    (hT : Turn x ts qs J) (h : VM W1 q oc kv lv x.items.length x.items.length (fun i => (qs.map (·.1)).getD i ⟨#[]⟩) D Y ys xs wr) (hL : ∀ (i : Nat) (s : ByteArray) (Z : SV), qs[i]? = some (s, Z) → Like (Y i) Z) :
    ∃ (kp : Option Addr) (kc : Nat) (p : Option Addr) (c : Nat) (y : SV), kv = .slice kp x.items.length kc ∧ lv = .slice p x.items.length c ∧ DoorOf wr (betw (W1.heap.size + 1) wr.heap.size) y (Dv.map kp x.items.length kc p x.items.length c) ∧ Like y x := by
  obtain ⟨p, c, hv, h1, h2, h3⟩ := cells_of_row h.row h.rof (betw (W1.heap.size + 1) wr.heap.size) (fun g hg => own_lt h.row hg)
  obtain ⟨kp, kc, hkv, k1, k2, k3⟩ := cells_of_row h.krow h.krof (betw (W1.heap.size + 1) wr.heap.size) (fun g hg => own_lt h.krow hg)
  have hlen : ((List.range x.items.length).map Y).length = x.items.length := by simp
  have hqk : (qs.map (·.1)).length = x.items.length := by rw [List.length_map, hT.length]
  have hat : ∀ (i : Nat) (z : SV), ((List.range x.items.length).map Y)[i]? = some z → i < x.items.length ∧ z = Y i := fun i z hz => by
    have hi : i < x.items.length := by have := (List.getElem?_eq_some_iff.1 hz).1; omega
    refine ⟨hi, ?_⟩
    rw [List.getElem?_map, List.getElem?_range hi] at hz
    simpa using hz.symm
  have hd : DoorOf wr (betw (W1.heap.size + 1) wr.heap.size) (.mk 6 0 0 ⟨#[]⟩ false none 0 ((List.range x.items.length).map Y) none 0 (qs.map (·.1))) (Dv.map kp (qs.map (·.1)).length kc p ((List.range x.items.length).map Y).length c) := by
    refine .map (.mk 6 0 0 ⟨#[]⟩ false none 0 ((List.range x.items.length).map Y) none 0 (qs.map (·.1))) kp kc p c D rfl ⟨by show ((List.range x.items.length).map Y).length ≤ c; omega, h2⟩ ⟨by show (qs.map (·.1)).length ≤ kc; omega, k2⟩ (fun i s hs => ?_)
      (fun i z hz => h3 i (hat i z hz).1) fun i z hz => ?_
    · have hs' : (qs.map (·.1))[i]? = some s := hs
      have hi := (List.getElem?_eq_some_iff.1 hs').1
      have := k3 i (by omega)
      simp only [List.getD_eq_getElem?_getD, hs', Option.getD_some] at this
      exact this
    · obtain ⟨hi, rfl⟩ := hat i z hz
      exact (h.subs i hi).keep (fun _ _ => rfl) (fun b hB => ⟨hB.1, hB.2.1⟩)
  rw [hlen, hqk] at hd
  refine ⟨kp, kc, p, c, _, hkv, hv, hd, .map _ _ rfl hk hlen (hqk.trans hlen.symm) hkl J (fun i s hs => ?_) fun i a b ha hb => ?_⟩
  · have hs' : (qs.map (·.1))[i]? = some s := hs
    rw [List.getElem?_map] at hs'
    cases hq : qs[i]? with
    | none => rw [hq] at hs'; cases hs'
    | some p =>
      rw [hq] at hs'
      obtain ⟨s', Z⟩ := p
      cases hs'
      exact (hT.at' i s' Z hq).1
  · obtain ⟨hi, rfl⟩ := hat i a ha
    have hq : qs[i]? = some (qs[i]'(by rw [hT.length]; exact hi)) := List.getElem?_eq_getElem _
    have h4 := (hT.at' i _ _ hq).2
    rw [hb] at h4
    cases h4
    exact hL i _ _ hq
end Go.Proofs.Ythmogfjmngbamaa
