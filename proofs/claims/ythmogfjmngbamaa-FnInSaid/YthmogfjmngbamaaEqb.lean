/-
  'runtime.Equal' at plain values, and at lists of them.
-/
import Derived.Test.YthmogfjmngbamaaEqa
import Derived.Test.YthmogfjmngbamaaGiven
import Derived.Deep.QuietTactic
import Derived.BigQuiet
namespace Go.Proofs.Ythmogfjmngbamaa
open Go.RowKit
set_option linter.unusedSimpArgs false
set_option linter.unusedVariables false

/-- Are two plain values equal? -/
def eqP (x y : SV) : Bool :=
  if x.kind = 1 ∧ y.kind = 1 then x.int == y.int
  else if x.isn && y.isn then FloatKind.f64.format.order x.nf y.nf == some .eq
  else if x.kind = y.kind then (if x.kind = 3 then x.text.toList == y.text.toList else if x.kind = 4 then x.bool == y.bool else true) else false
/-- Are two rows of them? -/
def eqL (xs ys : List SV) : Bool := decide (xs.length = ys.length) && (xs.zip ys).all fun p => eqP p.1 p.2
/-- Are two values, plain or rows of plain ones? -/
def eqV (x y : SV) : Bool := if x.kind = 5 ∧ y.kind = 5 then eqL x.items y.items else if x.kind = 5 ∨ y.kind = 5 then false else eqP x y

theorem eqL_len {xs ys : List SV} (h : xs.length ≠ ys.length) : eqL xs ys = false := by simp [eqL, h]
theorem eqL_at {xs ys : List SV} (j : Nat) (X Y : SV) (hx : xs[j]? = some X) (hy : ys[j]? = some Y) (h : eqP X Y = false) : eqL xs ys = false := by
  have hm : (X, Y) ∈ xs.zip ys := List.mem_iff_getElem?.2 ⟨j, by rw [List.getElem?_zip_eq_some]; exact ⟨hx, hy⟩⟩
  have : (xs.zip ys).all (fun p => eqP p.1 p.2) = false := List.all_eq_false.2 ⟨_, hm, by simp [h]⟩
  simp [eqL, this]
theorem eqL_all {xs ys : List SV} (hl : xs.length = ys.length) (h : ∀ (j : Nat) (X Y : SV), xs[j]? = some X → ys[j]? = some Y → eqP X Y = true) : eqL xs ys = true := by
  have : (xs.zip ys).all (fun p => eqP p.1 p.2) = true := List.all_eq_true.2 fun p hp => by
    obtain ⟨j, hj⟩ := List.mem_iff_getElem?.1 hp
    rw [List.getElem?_zip_eq_some] at hj
    exact h j _ _ hj.1 hj.2
  simp [eqL, this, hl]
theorem below_drewN {B : Nat} {w w' : World} (h : Below B w w') (n : Nat) : Below B w (w'.drewN n) := ⟨h.os, h.tape, h.output, h.size, h.block⟩
theorem AnyOf.plain_eq {w : World} {B : Nat → Prop} {x : SV} {v : Value} (h : AnyOf w B x v) (hk : x.kind < 5) : v = x.any := by
  cases h with
  | plain _ _ => rfl
  | list _ p c A h _ _ _ => omega
  | map _ b es clock A h _ _ _ _ _ _ => omega

/-- 'runtime.Equal' at plain values. -/
theorem equal_plain (x y : SV) (hx : SV.Plain x) (hy : SV.Plain y) (w : World) : Calls Try.prog 59 #[x.any, y.any] w (Tells (.bool (eqP x y)) w) := by
  rcases kinds hx.kind with h | h | h | h | h <;> rcases kinds hy.kind with g | g | g | g | g
  · rw [SV.any_0 h, SV.any_0 g]
    have hr := equal_nil_nil w
    simpa [eqP, SV.isn, SV.nf, SV.num, h, g] using hr
  · rw [SV.any_0 h, SV.any_1 g]
    have hr := equal_nil_int y.int w
    simpa [eqP, SV.isn, SV.nf, SV.num, h, g] using hr
  · rw [SV.any_0 h, SV.any_2 g]
    have hr := equal_nil_flo y.fl w
    simpa [eqP, SV.isn, SV.nf, SV.num, h, g] using hr
  · rw [SV.any_0 h, SV.any_3 g]
    have hr := equal_nil_txt y.text w
    simpa [eqP, SV.isn, SV.nf, SV.num, h, g] using hr
  · rw [SV.any_0 h, SV.any_4 g]
    have hr := equal_nil_tru y.bool w
    simpa [eqP, SV.isn, SV.nf, SV.num, h, g] using hr
  · rw [SV.any_1 h, SV.any_0 g]
    have hr := equal_int_nil x.int w
    simpa [eqP, SV.isn, SV.nf, SV.num, h, g] using hr
  · rw [SV.any_1 h, SV.any_1 g]
    have hr := equal_int_int x.int y.int w
    simpa [eqP, SV.isn, SV.nf, SV.num, h, g] using hr
  · rw [SV.any_1 h, SV.any_2 g]
    have hr := equal_int_flo x.int y.fl w
    simpa [eqP, SV.isn, SV.nf, SV.num, h, g] using hr
  · rw [SV.any_1 h, SV.any_3 g]
    have hr := equal_int_txt x.int y.text w
    simpa [eqP, SV.isn, SV.nf, SV.num, h, g] using hr
  · rw [SV.any_1 h, SV.any_4 g]
    have hr := equal_int_tru x.int y.bool w
    simpa [eqP, SV.isn, SV.nf, SV.num, h, g] using hr
  · rw [SV.any_2 h, SV.any_0 g]
    have hr := equal_flo_nil x.fl w
    simpa [eqP, SV.isn, SV.nf, SV.num, h, g] using hr
  · rw [SV.any_2 h, SV.any_1 g]
    have hr := equal_flo_int x.fl y.int w
    simpa [eqP, SV.isn, SV.nf, SV.num, h, g] using hr
  · rw [SV.any_2 h, SV.any_2 g]
    have hr := equal_flo_flo x.fl y.fl w
    simpa [eqP, SV.isn, SV.nf, SV.num, h, g] using hr
  · rw [SV.any_2 h, SV.any_3 g]
    have hr := equal_flo_txt x.fl y.text w
    simpa [eqP, SV.isn, SV.nf, SV.num, h, g] using hr
  · rw [SV.any_2 h, SV.any_4 g]
    have hr := equal_flo_tru x.fl y.bool w
    simpa [eqP, SV.isn, SV.nf, SV.num, h, g] using hr
  · rw [SV.any_3 h, SV.any_0 g]
    have hr := equal_txt_nil x.text w
    simpa [eqP, SV.isn, SV.nf, SV.num, h, g] using hr
  · rw [SV.any_3 h, SV.any_1 g]
    have hr := equal_txt_int x.text y.int w
    simpa [eqP, SV.isn, SV.nf, SV.num, h, g] using hr
  · rw [SV.any_3 h, SV.any_2 g]
    have hr := equal_txt_flo x.text y.fl w
    simpa [eqP, SV.isn, SV.nf, SV.num, h, g] using hr
  · rw [SV.any_3 h, SV.any_3 g]
    have hr := equal_txt_txt x.text y.text w
    simpa [eqP, SV.isn, SV.nf, SV.num, h, g] using hr
  · rw [SV.any_3 h, SV.any_4 g]
    have hr := equal_txt_tru x.text y.bool w
    simpa [eqP, SV.isn, SV.nf, SV.num, h, g] using hr
  · rw [SV.any_4 h, SV.any_0 g]
    have hr := equal_tru_nil x.bool w
    simpa [eqP, SV.isn, SV.nf, SV.num, h, g] using hr
  · rw [SV.any_4 h, SV.any_1 g]
    have hr := equal_tru_int x.bool y.int w
    simpa [eqP, SV.isn, SV.nf, SV.num, h, g] using hr
  · rw [SV.any_4 h, SV.any_2 g]
    have hr := equal_tru_flo x.bool y.fl w
    simpa [eqP, SV.isn, SV.nf, SV.num, h, g] using hr
  · rw [SV.any_4 h, SV.any_3 g]
    have hr := equal_tru_txt x.bool y.text w
    simpa [eqP, SV.isn, SV.nf, SV.num, h, g] using hr
  · rw [SV.any_4 h, SV.any_4 g]
    have hr := equal_tru_tru x.bool y.bool w
    simpa [eqP, SV.isn, SV.nf, SV.num, h, g] using hr

set_option maxHeartbeats 1000000 in
set_option maxRecDepth 100000 in
/-- 'runtime.Equal' at lists of plain values. -/
theorem equal_lists {x y : SV} {a b : Value} {w : World} {B B' : Nat → Prop} (hx : AnyOf w B x a) (hy : AnyOf w B' y b) (hkx : x.kind = 5) (hky : y.kind = 5)
    (hB : ∀ k, B k → k < w.heap.size) (hB' : ∀ k, B' k → k < w.heap.size) (hpx : ∀ z ∈ x.items, SV.Plain z) (hpy : ∀ z ∈ y.items, SV.Plain z) :
    Calls Try.prog 59 #[a, b] w (Gives (.bool (eqL x.items y.items)) w) := by
  cases hx with
  | plain _ hk => omega
  | map _ b es clock A h _ _ _ _ _ _ => omega
  | list _ p c A hk hc hcell hsub =>
  cases hy with
  | plain _ hk => omega
  | map _ b es clock A h _ _ _ _ _ _ => omega
  | list _ q d A2 hk2 hc2 hcell2 hsub2 =>
  have HA : Hid (∀ (j : Nat) (X : SV), x.items[j]? = some X → SV.Plain X ∧ ∃ b o, p = ⟨b, o, none⟩ ∧ b < w.heap.size ∧ w.cell? ⟨b, o + j, none⟩ = some X.any) := fun j X hX => by
    have hP := hpx X (List.mem_iff_getElem?.2 ⟨j, hX⟩)
    obtain ⟨b, o, hp, hb, hv⟩ := hcell j X hX
    have he := (hsub j X hX).plain_eq hP.kind.2
    exact ⟨hP, b, o, by simpa using hp, hB b hb, by have := hv 0 _ rfl; rw [he] at this; simpa using this⟩
  have HA2 : Hid (∀ (j : Nat) (X : SV), y.items[j]? = some X → SV.Plain X ∧ ∃ b o, q = ⟨b, o, none⟩ ∧ b < w.heap.size ∧ w.cell? ⟨b, o + j, none⟩ = some X.any) := fun j X hX => by
    have hP := hpy X (List.mem_iff_getElem?.2 ⟨j, hX⟩)
    obtain ⟨b, o, hp, hb, hv⟩ := hcell2 j X hX
    have he := (hsub2 j X hX).plain_eq hP.kind.2
    exact ⟨hP, b, o, by simpa using hp, hB' b hb, by have := hv 0 _ rfl; rw [he] at this; simpa using this⟩
  clear hcell hsub hcell2 hsub2 hpx hpy hB hB' hk hk2 hkx hky
  obtain ⟨hc, hcm⟩ := hc
  obtain ⟨hc2, hcm2⟩ := hc2
  have E1 := Lib.hid (@eqL_len x.items y.items)
  have E2 := Lib.hid (@eqL_at x.items y.items)
  have E3 := Lib.hid (@eqL_all x.items y.items)
  generalize eqL x.items y.items = res at *
  obtain ⟨n, hn⟩ : ∃ n, n = x.items.length := ⟨_, rfl⟩
  obtain ⟨m, hm⟩ : ∃ m, m = y.items.length := ⟨_, rfl⟩
  rw [← hn] at hc E1 E3 ⊢
  rw [← hm] at hc2 E1 E3 ⊢
  by_cases hnm : n = m
  · have HN := Lib.hid hn
    have HM := Lib.hid hm
    clear hn hm
    subst hnm
    go_enter Try.func59, Try.ntmps59
    go_wp2_with fail
    go_loopw [206] (fun i wr => ∃ j : Nat, j ≤ n ∧ i = .int .i64 j ∧ Hid (Below w.heap.size w wr) ∧ Hid (∀ (k : Nat) (X Y : SV), k < j → x.items[k]? = some X → y.items[k]? = some Y → eqP X Y = true)) (fun i _ => n - (intOf i).toNat)
    case atStart => exact ⟨0, Nat.zero_le _, rfl, Below.refl _ _, fun k X Y h => by omega⟩
    case round =>
      obtain ⟨j, hj, rfl, hb, HE⟩ := hrel
      by_cases hlt : j < n
      · have hjx : j < x.items.length := by have := HN.out; omega
        have hjy : j < y.items.length := by have := HM.out; omega
        have hX := List.getElem?_eq_getElem hjx
        have hY := List.getElem?_eq_getElem hjy
        obtain ⟨PX, b1, o1, rfl, hb1, c1⟩ := HA.out j _ hX
        obtain ⟨PY, b2, o2, rfl, hb2, c2⟩ := HA2.out j _ hY
        have HX := Lib.hid hX
        have HY := Lib.hid hY
        clear hX hY
        generalize x.items[j] = X at *
        generalize y.items[j] = Y at *
        clear hjx hjy
        have HC : Hid (∀ k, Calls Try.prog 59 #[X.any, Y.any] (wr.drewN k) fun e w' => e = .returned (.bool (eqP X Y)) ∧ w' = wr.drewN k) := fun k => (equal_plain X Y PX PY _).mono fun e w' h => ⟨h.1, h.2.symm⟩
        have E2' := Lib.hid (E2.out _ _ _ HX.out HY.out)
        replace c1 := (cell_same (hb.out.block b1 hb1) (o1 + j)).trans c1
        replace c2 := (cell_same (hb.out.block b2 hb2) (o2 + j)).trans c2
        clear PX PY hb1 hb2
        generalize X.any = xa at *
        generalize Y.any = ya at *
        generalize hr : eqP X Y = r at *
        cases r
        · have h0 := E2'.out rfl
          subst h0
          go_wp2_with fail
          go_quiet ((go_at_call 59; exact Calls.quiet_of_same (HC.out _)))
          go_wp2_with fail
          go_ret
          exact ⟨rfl, below_drewN hb.out _⟩
        · have HR := Lib.hid hr
          clear hr
          go_wp2_with fail
          go_quiet ((go_at_call 59; exact Calls.quiet_of_same (HC.out _)))
          go_wp2_with fail
          go_roundw
          case rel => exact ⟨j + 1, by omega, by go_num, below_drewN hb.out _, fun k X' Y' hk hx' hy' => by
            by_cases hkj : k = j
            · subst hkj
              rw [HX.out] at hx'
              rw [HY.out] at hy'
              cases hx'
              cases hy'
              exact HR.out
            · exact HE.out k X' Y' (by omega) hx' hy'⟩
          case measure => simp [intOf]; omega
      · have hjn : j = n := by omega
        have h0 := E3.out trivial (fun k X Y hX hY => HE.out k X Y (by have := (List.getElem?_eq_some_iff.1 hX).1; have := HN.out; omega) hX hY)
        subst h0
        go_wp2_with fail
        go_ret
        exact ⟨rfl, hb.out⟩
  · have h0 := E1.out hnm
    subst h0
    go_enter Try.func59, Try.ntmps59
    go_wp2_with fail
    go_ret
    exact ⟨rfl, Below.refl _ _⟩
end Go.Proofs.Ythmogfjmngbamaa

