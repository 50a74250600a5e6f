/-
  'spec.work.step' and 'spec.work.equal' walked where the work suffices, at plain values and at lists of them; 'spec.CuEqual'.
-/
import Derived.Test.YthmogfjmngbamaaEqb
import Derived.Test.YthmogfjmngbamaaHasm
namespace Go.Proofs.Ythmogfjmngbamaa
open Go.RowKit
set_option linter.unusedSimpArgs false
set_option linter.unusedVariables false

/-- The work's block: what is left, not over, plain. -/
def WorkAt (w : World) (g : Nat) (m : Int) : Prop := w.heap[g]? = some (.cells #[.int .i64 m, .bool false, .bool true] 70 (0, 0))
theorem WorkAt.lt {w : World} {g : Nat} {m : Int} (h : WorkAt w g m) : g < w.heap.size := lt_of_block h
theorem WorkAt.later {w w' : World} {g B : Nat} {m : Int} (h : WorkAt w g m) (hb : Below B w w') (hg : g < B) : WorkAt w' g m := (hb.block g hg).trans h
theorem WorkAt.cells {w : World} {g : Nat} {m : Int} (h : WorkAt w g m) : w.cell? ⟨g, 0, none⟩ = some (.int .i64 m) ∧ w.cell? ⟨g, 1, none⟩ = some (.bool false) ∧ w.cell? ⟨g, 2, none⟩ = some (.bool true) ∧ ∀ j, w.frozen? ⟨g, j, none⟩ = false :=
  ⟨cell_at_block h 0 _ rfl, cell_at_block h 1 _ rfl, cell_at_block h 2 _ rfl, free_block h⟩
theorem WorkAt.set {w : World} {g : Nat} {m : Int} (h : WorkAt w g m) (n : Int) : WorkAt (w.setCell ⟨g, 0, none⟩ (.int .i64 n)) g n := by
  unfold WorkAt at h ⊢
  unfold World.setCell
  simp [Array.getElem?_modify, h]

set_option maxHeartbeats 400000 in
set_option maxRecDepth 100000 in
theorem step_any (g : Nat) (m n : Int) (w : World) (h : WorkAt w g m) (hn : 0 ≤ n) (hmn : n ≤ m) (hm : m ≤ 1048576) :
    Calls Try.prog 101 #[.pointer (some ⟨g, 0, none⟩), .int .i64 n] w (fun e w' => e = .returned (.bool true) ∧ ButAt g w w' ∧ WorkAt w' g (m - n)) := by
  obtain ⟨c0, c1, c2, z⟩ := h.cells
  have HW := Lib.hid (h.set (m - n))
  have HB := Lib.hid (ButAt.setCell w ⟨g, 0, none⟩ rfl (.int .i64 (m - n)))
  obtain ⟨d0, d1, d2, z'⟩ := (h.set (m - n)).cells
  clear h
  go_enter Try.func101, Try.ntmps101
  go_wp2_with fail
  go_ret
  exact ⟨rfl, HB.out, HW.out⟩
/-- What 'equal' does with the work. -/
def WEq (g : Nat) (m : Int) (r : Bool) (w : World) (e : Ending) (w' : World) : Prop := e = .returned (.bool r) ∧ ButAt g w w' ∧ ∃ m', m - 33 ≤ m' ∧ m' ≤ m ∧ WorkAt w' g m'

theorem SV.plain_or {x : SV} (h1 : SV.Ok x) (h2 : SV.Small 10 x) (hl : SV.Level x) : x.kind = 0 ∨ x.kind = 1 ∨ x.kind = 2 ∨ x.kind = 3 ∨ x.kind = 4 ∨ x.kind = 5 := by
  obtain ⟨a, b, _⟩ := SV.ok_shape h1
  have := hl.1
  omega

theorem two_but {w w1 : World} {o0 o1 : Obj} {g : Nat} (hg : g < w.heap.size) (hb : ButAt g ((w.alloc o0).alloc o1) w1) :
    w1.heap[w.heap.size]? = some o0 ∧ w1.heap[w.heap.size + 1]? = some o1 ∧ w.heap.size + 2 ≤ w1.heap.size ∧ ButAt g w w1 := by
  refine ⟨?_, ?_, by have := hb.size; simpa using this, ((ButAt.alloc _ _).trans (ButAt.alloc _ _)).trans hb⟩
  · rw [hb.block _ (by simp; omega) (by omega), Below.heap_alloc _ _ _ (by simp)]
    exact heap_alloc_new w o0
  · rw [hb.block _ (by simp) (by omega)]
    have := heap_alloc_new (w.alloc o0) o1
    rw [World.size_alloc] at this
    exact this

set_option maxHeartbeats 4000000 in
set_option maxRecDepth 100000 in
theorem wequal_plain (g : Nat) (m : Int) (x y : SV) (hkx : 0 ≤ x.kind ∧ x.kind < 6) (hky : 0 ≤ y.kind ∧ y.kind < 6) (hn : ¬ (x.kind = 5 ∧ y.kind = 5)) (ht : x.text.size ≤ 500) (hxi : x.kind < 5 → x.items = []) (hyi : y.kind < 5 → y.items = [])
    (hxk : x.keys = []) (hyk : y.keys = []) (w : World)
    (h : WorkAt w g m) (h33 : 33 ≤ m) (hm : m ≤ 1048576) : Calls Try.prog 60 #[.pointer (some ⟨g, 0, none⟩), x.val, y.val] w (WEq g m (eqP x y) w) := by
  have N1 := Lib.hid (number_any x)
  have N2 := Lib.hid (number_any y)
  have hlt := h.lt
  have hq : 0 ≤ (x.text.size : Int).tdiv 16 ∧ (x.text.size : Int).tdiv 16 ≤ 31 := by rw [Int.tdiv_eq_ediv_of_nonneg (by omega)]; omega
  have HP := Lib.hid (fun w (h : WorkAt w g m) => step_any g m (1 + (x.text.size : Int).tdiv 16) w h (by omega) (by omega) hm)
  obtain ⟨r, hr⟩ : ∃ r, r = eqP x y := ⟨_, rfl⟩
  rw [← hr]
  have HR := Lib.hid hr
  clear hr
  cases x with
  | mk k n f t b ip ic items kp kc keys =>
  cases y with
  | mk k2 n2 f2 t2 b2 ip2 ic2 items2 kp2 kc2 keys2 =>
  simp only [SV.val, SV.kind, SV.int, SV.fl, SV.text, SV.bool, SV.ip, SV.ic, SV.items, SV.kp, SV.kc, SV.keys] at hkx hky hn ht hxi hyi hxk hyk hq HP N1 N2 ⊢
  subst hxk
  subst hyk
  have HW := Lib.hid (h.later (((Below.refl w.heap.size w).alloc (Nat.le_refl _) (.cells #[.int .i64 k, .int .i64 n, .float .f64 f, .string t, .bool b, .slice ip items.length ic, .slice kp 0 kc] 30)).alloc (by simp) (.cells #[.int .i64 k2, .int .i64 n2, .float .f64 f2, .string t2, .bool b2, .slice ip2 items2.length ic2, .slice kp2 0 kc2] 30)) hlt)
  clear h
  have hk1 : k = 0 ∨ k = 1 ∨ k = 2 ∨ k = 3 ∨ k = 4 ∨ k = 5 := by omega
  have hk2 : k2 = 0 ∨ k2 = 1 ∨ k2 = 2 ∨ k2 = 3 ∨ k2 = 4 ∨ k2 = 5 := by omega
  have HLT := Lib.hid hlt
  clear hkx hky hlt
  rcases hk1 with rfl | rfl | rfl | rfl | rfl | rfl <;> rcases hk2 with rfl | rfl | rfl | rfl | rfl | rfl
  all_goals first
    | exact absurd ⟨rfl, rfl⟩ hn
    | skip
  all_goals
    clear hn
    try (have hi1 := hxi (by decide); subst hi1)
    try (have hi2 := hyi (by decide); subst hi2)
    clear hxi hyi
    simp only [List.length_nil] at HW N1 N2 HP ⊢
    simp only [SV.nf, SV.isn, SV.num, SV.kind, SV.int, SV.fl, Int.reduceEq, ↓reduceIte, Option.getD_none, Option.isSome_none, Option.getD_some, Option.isSome_some] at N1 N2
    go_enter Try.func60, Try.ntmps60
    go_wp2_with fail
    refine Calls.mono (by exact HP.out _ HW.out) ?_
    rintro e w1 ⟨rfl, hb, hw⟩
    obtain ⟨q1, q2, hsz, hbw⟩ := two_but HLT.out hb
    have Q1 := Lib.hid q1
    have Q2 := Lib.hid q2
    have BW := Lib.hid hbw
    have HW1 := Lib.hid hw
    clear hb q1 q2 hbw hw HP HW
    obtain ⟨a0, a1, a2, a3, a4, a5, a6⟩ := seven Q1.out
    obtain ⟨d0, d1, d2, d3, d4, d5, d6⟩ := seven Q2.out
    go_wp2_with fail
    refine Calls.mono (by exact N1.out _) ?_
    rintro e w2 ⟨rfl, hb⟩
    have Q1' := Lib.hid ((hb.block _ (lt_of_block Q1.out)).trans Q1.out)
    have Q2' := Lib.hid ((hb.block _ (lt_of_block Q2.out)).trans Q2.out)
    have BW' := Lib.hid (BW.out.trans (ButAt.of_below hb))
    have HW1' := Lib.hid (HW1.out.later hb HW1.out.lt)
    clear hb a0 a1 a2 a3 a4 a5 a6 d0 d1 d2 d3 d4 d5 d6 Q1 Q2 BW HW1 N1 hsz
    obtain ⟨a0, a1, a2, a3, a4, a5, a6⟩ := seven Q1'.out
    obtain ⟨d0, d1, d2, d3, d4, d5, d6⟩ := seven Q2'.out
    go_wp2_with fail
    refine Calls.mono (by exact N2.out _) ?_
    rintro e w3 ⟨rfl, hb⟩
    have Q1 := Lib.hid ((hb.block _ (lt_of_block Q1'.out)).trans Q1'.out)
    have Q2 := Lib.hid ((hb.block _ (lt_of_block Q2'.out)).trans Q2'.out)
    have BW := Lib.hid (BW'.out.trans (ButAt.of_below hb))
    have HW1 := Lib.hid (HW1'.out.later hb HW1'.out.lt)
    clear hb a0 a1 a2 a3 a4 a5 a6 d0 d1 d2 d3 d4 d5 d6 Q1' Q2' BW' HW1' N2
    obtain ⟨a0, a1, a2, a3, a4, a5, a6⟩ := seven Q1.out
    obtain ⟨d0, d1, d2, d3, d4, d5, d6⟩ := seven Q2.out
    go_wp2_with fail
    clear a0 a1 a2 a3 a4 a5 a6 d0 d1 d2 d3 d4 d5 d6
    go_ret
    have hr := HR.out
    simp [eqP, SV.isn, SV.num, SV.nf, SV.kind, SV.int, SV.fl, SV.text, SV.bool] at hr
    subst hr
    exact ⟨rfl, BW.out, _, by omega, by omega, HW1.out⟩
end Go.Proofs.Ythmogfjmngbamaa
