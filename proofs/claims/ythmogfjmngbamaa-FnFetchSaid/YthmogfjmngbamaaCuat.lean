/-
  'spec.CuAt' at a list and a whole number, and at a map and a text.
-/
import Derived.Test.YthmogfjmngbamaaFdoor
import Derived.Test.YthmogfjmngbamaaSam
namespace Go.Proofs.Ythmogfjmngbamaa
open Go.RowKit
set_option linter.unusedSimpArgs false
set_option linter.unusedVariables false

set_option maxHeartbeats 2000000 in
set_option maxRecDepth 100000 in
theorem cuat_found (x y z : SV) (hk : x.kind = 6) (hk2 : y.kind = 3) (w : World) (HV : ∀ w', Below w.heap.size w w' → Calls Try.prog 74 #[x.val, .string y.text] w' (Gives (.tuple #[z.val, .bool true]) w')) : Calls Try.prog 32 #[x.val, y.val] w (Gives (.tuple #[z.val, .bool true]) w) := by
  have W3 := (((Below.refl w.heap.size w).alloc (Nat.le_refl _) (.cells x.cells.toArray 30)).alloc (by simp) (.cells y.cells.toArray 30)).alloc (by simp; omega) (.cells #[Value.int .i64 0, .int .i64 0, .float .f64 0, .string ⟨#[]⟩, .bool false, .slice none 0 0, .slice none 0 0] 30)
  have HC := Lib.hid (HV _ W3)
  unfold SV.val SV.cells at *
  rw [hk] at HC ⊢
  rw [hk2] at HC ⊢
  clear HV W3 hk hk2
  go_enter Try.func32, Try.ntmps32
  go_wp2_with fail
  refine Calls.mono (by exact HC.out) ?_
  rintro e w4 ⟨rfl, hb⟩
  obtain ⟨k0, k1, k2, h3, hB⟩ := three_blocks hb
  have HB := Lib.hid hB
  obtain ⟨d0, d1, d2, d3, d4, d5, d6⟩ := seven k2
  have zr := free_block k2
  have hl := lt_of_block k2
  have HW := Lib.hid hB.size
  have HE : Hid (∀ (W' : World) (j : Nat) (o : Obj), W'.heap.size = w4.heap.size → (W'.alloc o).cell? ⟨w.heap.size + 1 + 1, j, none⟩ = W'.cell? ⟨w.heap.size + 1 + 1, j, none⟩) := fun W' j o e => World.cell?_alloc_past _ _ _ (by show w.heap.size + 1 + 1 < W'.heap.size; omega)
  clear hb k0 k1 hB h3
  go_wp2_with fail
  refine bodyPost_ret (by simp [results, Try.results32, go_sem, HE.out, size_setCell, d0, d1, d2, d3, d4, d5, d6]) rfl ⟨rfl, ?_⟩
  refine Below.alloc ?_ (by simp only [size_setCell]; exact HW.out) _
  iterate 7 (refine Below.setCell ?_ (show _ ≤ w.heap.size + 1 + 1 by omega) _)
  exact HB.out

set_option maxHeartbeats 2000000 in
set_option maxRecDepth 100000 in
theorem cuat_none (x y : SV) (hk : x.kind = 6) (hk2 : y.kind = 3) (w : World) (HV : ∀ w', Below w.heap.size w w' → Calls Try.prog 74 #[x.val, .string y.text] w' (Gives (.tuple #[zeroV, .bool false]) w')) : Calls Try.prog 32 #[x.val, y.val] w (Gives (.tuple #[zeroV, .bool true]) w) := by
  have W3 := (((Below.refl w.heap.size w).alloc (Nat.le_refl _) (.cells x.cells.toArray 30)).alloc (by simp) (.cells y.cells.toArray 30)).alloc (by simp; omega) (.cells #[Value.int .i64 0, .int .i64 0, .float .f64 0, .string ⟨#[]⟩, .bool false, .slice none 0 0, .slice none 0 0] 30)
  have HC := Lib.hid (HV _ W3)
  unfold SV.val SV.cells zeroV at *
  rw [hk] at HC ⊢
  rw [hk2] at HC ⊢
  clear HV W3 hk hk2
  go_enter Try.func32, Try.ntmps32
  go_wp2_with fail
  refine Calls.mono (by exact HC.out) ?_
  rintro e w4 ⟨rfl, hb⟩
  obtain ⟨k0, k1, k2, h3, hB⟩ := three_blocks hb
  have HB := Lib.hid hB
  obtain ⟨d0, d1, d2, d3, d4, d5, d6⟩ := seven k2
  have zr := free_block k2
  have hl := lt_of_block k2
  have HW := Lib.hid hB.size
  have HE : Hid (∀ (W' : World) (j : Nat) (o : Obj), W'.heap.size = w4.heap.size → (W'.alloc o).cell? ⟨w.heap.size + 1 + 1, j, none⟩ = W'.cell? ⟨w.heap.size + 1 + 1, j, none⟩) := fun W' j o e => World.cell?_alloc_past _ _ _ (by show w.heap.size + 1 + 1 < W'.heap.size; omega)
  clear hb k0 k1 hB h3
  go_wp2_with fail
  refine bodyPost_ret (by simp [results, Try.results32, go_sem, HE.out, size_setCell, d0, d1, d2, d3, d4, d5, d6]) rfl ⟨rfl, ?_⟩
  refine Below.alloc ?_ (by simp only [size_setCell]; exact HW.out) _
  iterate 7 (refine Below.setCell ?_ (show _ ≤ w.heap.size + 1 + 1 by omega) _)
  exact HB.out

set_option maxHeartbeats 2000000 in
set_option maxRecDepth 100000 in
theorem cuat_in (x y z : SV) (hk : x.kind = 5) (hk2 : y.kind = 1) (w : World) (hx : SV.In w x) (k : Nat) (hn : x.items.length ≤ 200) (hi : -9223372036854775808 ≤ y.int ∧ y.int ≤ 9223372036854775807) (hki : idxI x.items.length y.int = k) (hz : x.items[k]? = some z) :
    Calls Try.prog 32 #[x.val, y.val] w (Gives (.tuple #[z.val, .bool true]) w) := by
  have W3 := (((Below.refl w.heap.size w).alloc (Nat.le_refl _) (.cells x.cells.toArray 30)).alloc (by simp) (.cells y.cells.toArray 30)).alloc (by simp; omega) (.cells #[Value.int .i64 0, .int .i64 0, .float .f64 0, .string ⟨#[]⟩, .bool false, .slice none 0 0, .slice none 0 0] 30)
  obtain ⟨b, o, hip, hcs, -⟩ := item_box hx W3 hz
  have hkn := (List.getElem?_eq_some_iff.1 hz).1
  have hkn2 : (k : Int) < x.items.length := by omega
  have hlc := (SV.in_flat hx).items
  have hlc1 : (x.items.length : Int) ≤ x.ic := by omega
  have hlc2 := hlc.2
  unfold SV.val SV.cells at *
  rw [hip] at hcs ⊢
  rw [hk, hk2] at hcs
  rw [hk, hk2]
  obtain ⟨i, hii⟩ : ∃ i, i = y.int := ⟨_, rfl⟩
  rw [← hii] at hcs hi hki ⊢
  have c0 := hcs 0 _ rfl
  have c1 := hcs 1 _ rfl
  have c2 := hcs 2 _ rfl
  have c3 := hcs 3 _ rfl
  have c4 := hcs 4 _ rfl
  have c5 := hcs 5 _ rfl
  have c6 := hcs 6 _ rfl
  simp only [Nat.add_zero] at c0
  have HB := Lib.hid W3
  obtain ⟨n, hnn⟩ : ∃ n, n = x.items.length := ⟨_, rfl⟩
  clear W3 hcs hk hk2 hz hx hii hip hlc hnn
  unfold idxI at hki
  by_cases hneg : i < 0
  · rw [if_pos hneg, Int.add_comm] at hki
    have hd : decide (i < 0) = true := decide_eq_true hneg
    clear hi
    go_enter Try.func32, Try.ntmps32
    go_wp2_with fail
    refine bodyPost_ret (by simp [results, Try.results32, go_sem]) rfl ⟨rfl, ?_⟩
    exact (((Below.refl w.heap.size w).alloc (Nat.le_refl _) _).alloc (by simp) _).alloc (by simp; omega) _
  · rw [if_neg hneg] at hki
    subst hki
    clear hi
    go_enter Try.func32, Try.ntmps32
    go_wp2_with fail
    refine bodyPost_ret (by simp [results, Try.results32, go_sem]) rfl ⟨rfl, ?_⟩
    exact (((Below.refl w.heap.size w).alloc (Nat.le_refl _) _).alloc (by simp) _).alloc (by simp; omega) _
set_option maxHeartbeats 2000000 in
set_option maxRecDepth 100000 in
theorem cuat_out (x y : SV) (hk : x.kind = 5) (hk2 : y.kind = 1) (w : World) (hx : SV.In w x) (hn : x.items.length ≤ 200) (hi : -9223372036854775808 ≤ y.int ∧ y.int ≤ 9223372036854775807) (hki : ¬ (0 ≤ idxI x.items.length y.int ∧ idxI x.items.length y.int < x.items.length)) :
    Calls Try.prog 32 #[x.val, y.val] w (Gives (.tuple #[zeroV, .bool false]) w) := by
  have W3 := (((Below.refl w.heap.size w).alloc (Nat.le_refl _) (.cells x.cells.toArray 30)).alloc (by simp) (.cells y.cells.toArray 30)).alloc (by simp; omega) (.cells #[Value.int .i64 0, .int .i64 0, .float .f64 0, .string ⟨#[]⟩, .bool false, .slice none 0 0, .slice none 0 0] 30)
  unfold SV.val SV.cells zeroV at *
  rw [hk, hk2]
  obtain ⟨i, hii⟩ : ∃ i, i = y.int := ⟨_, rfl⟩
  rw [← hii] at hi hki ⊢
  have hlc := (SV.in_flat hx).items
  clear W3 hk hk2 hx hii
  unfold idxI at hki
  by_cases hneg : i < 0
  · rw [if_pos hneg] at hki
    have hd : decide (i < 0) = true := decide_eq_true hneg
    obtain ⟨z, hz⟩ : ∃ z, z = i + x.items.length := ⟨_, rfl⟩
    have hzz : i + x.items.length = z := hz.symm
    have hz1 : z < 0 := by omega
    have hz2 : decide (z < 0) = true := decide_eq_true hz1
    have hzw : IntKind.i64.wrap z = z := by simp [IntKind.wrap, IntKind.bits, IntKind.signed]; omega
    clear hki hz hlc
    go_enter Try.func32, Try.ntmps32
    go_wp2_with fail
    refine bodyPost_ret (by simp [results, Try.results32, go_sem]) rfl ⟨rfl, ?_⟩
    exact (((Below.refl w.heap.size w).alloc (Nat.le_refl _) _).alloc (by simp) _).alloc (by simp; omega) _
  · rw [if_neg hneg] at hki
    have hd : decide (i < 0) = false := decide_eq_false hneg
    have hd2 : decide ((x.items.length : Int) ≤ i) = true := decide_eq_true (by omega)
    clear hki hlc
    go_enter Try.func32, Try.ntmps32
    go_wp2_with fail
    refine bodyPost_ret (by simp [results, Try.results32, go_sem]) rfl ⟨rfl, ?_⟩
    exact (((Below.refl w.heap.size w).alloc (Nat.le_refl _) _).alloc (by simp) _).alloc (by simp; omega) _

/-- What 'spec.CuAt' returns. -/
def atR (o : Option SV) : Value := match o with
  | some z => .tuple #[z.val, .bool true]
  | none => .tuple #[zeroV, .bool false]

/-- 'spec.CuAt'. -/
theorem cuat_run (x y : SV) (w : World) (hx : SV.In w x) (h : Pair x y) : Calls Try.prog 32 #[x.val, y.val] w (Gives (atR (fetO x y)) w) := by
  have hln := SV.items_parts x
  have hp := h.parts
  unfold fetO
  rcases h.way with ⟨h5, h1⟩ | ⟨h6, h3⟩
  · rw [if_pos h5]
    unfold atI
    by_cases hin : 0 ≤ idxI x.items.length y.int ∧ idxI x.items.length y.int < x.items.length
    · rw [if_pos hin]
      obtain ⟨k, hk2⟩ : ∃ k : Nat, idxI x.items.length y.int = k := ⟨(idxI x.items.length y.int).toNat, by omega⟩
      have hkn : k < x.items.length := by omega
      have hz : x.items[k]? = some x.items[k] := List.getElem?_eq_getElem hkn
      rw [hk2, Int.toNat_natCast, hz]
      exact cuat_in x y _ h5 h1 w hx k (by omega) h.int hk2 hz
    · rw [if_neg hin]
      exact cuat_out x y h5 h1 w hx (by omega) h.int hin
  · rw [if_neg (by omega)]
    obtain ⟨-, -, -, -, k5⟩ := SV.ok_shape h.ok
    have hkl := (k5 h6).1
    cases hi : keyIdx x.keys y.text with
    | none =>
      have e : atV x y.text = zeroV := by unfold atV; rw [hi]; rfl
      refine cuat_none x y h6 h3 w fun w' hb => ?_
      have := vat_run x w' (SV.in_later hb _ hx) hkl y.text
      rw [e, hi] at this
      exact this
    | some m =>
      have hm : m < x.items.length := by have := (List.getElem?_eq_some_iff.1 (keyIdx_some hi)).1; omega
      have hz : x.items[m]? = some x.items[m] := List.getElem?_eq_getElem hm
      have e : atV x y.text = x.items[m].val := by unfold atV; rw [hi]; simp [hz]
      simp only [Option.bind_some, hz, Option.getD_some]
      refine cuat_found x y x.items[m] h6 h3 w fun w' hb => ?_
      have := vat_run x w' (SV.in_later hb _ hx) hkl y.text
      rw [e, hi] at this
      exact this
end Go.Proofs.Ythmogfjmngbamaa
