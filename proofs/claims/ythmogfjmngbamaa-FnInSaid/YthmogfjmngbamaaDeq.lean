/-
  'runtime.Equal' at two values of FnEqual's kind, and the door 'impl.Equal'.
-/
import Derived.Test.YthmogfjmngbamaaCueq
import Derived.Test.YthmogfjmngbamaaTyp
namespace Go.Proofs.Ythmogfjmngbamaa
open Go.RowKit
set_option linter.unusedSimpArgs false
set_option linter.unusedVariables false

theorem gives_of_tells {f : FuncId} {args : Array Value} {v : Value} {w : World} (h : Calls Try.prog f args w (Tells v w)) : Calls Try.prog f args w (Gives v w) :=
  h.mono fun e w' ht => ⟨ht.1, ht.2 ▸ Below.refl _ _⟩

theorem SV.Eqd.plain {x : SV} (h : SV.Eqd x) (hk : x.kind ≠ 5) : SV.Plain x := SV.plain_of h.ok h.small (by have := h.kind; omega)

theorem quad_blocks {w w1 : World} {o0 o1 o2 o3 : Obj} (hb : Below ((((w.alloc o0).alloc o1).alloc o2).alloc o3).heap.size ((((w.alloc o0).alloc o1).alloc o2).alloc o3) w1) :
    w1.heap[w.heap.size + 1]? = some o1 ∧ w1.heap[w.heap.size + 1 + 1]? = some o2 ∧ w1.heap[w.heap.size + 1 + 1 + 1]? = some o3 ∧ w.heap.size + 4 ≤ w1.heap.size := by
  have h1 := heap_alloc_new (w.alloc o0) o1
  have h2 := heap_alloc_new ((w.alloc o0).alloc o1) o2
  have h3 := heap_alloc_new (((w.alloc o0).alloc o1).alloc o2) o3
  simp only [World.size_alloc] at h1 h2 h3 hb
  refine ⟨?_, ?_, ?_, ?_⟩
  · rw [hb.block _ (by omega), Below.heap_alloc _ _ _ (by simp only [World.size_alloc]; omega), Below.heap_alloc _ _ _ (by simp only [World.size_alloc]; omega)]; exact h1
  · rw [hb.block _ (by omega), Below.heap_alloc _ _ _ (by simp only [World.size_alloc]; omega)]; exact h2
  · rw [hb.block _ (by omega)]; exact h3
  · have := hb.size; simp only [World.size_alloc] at this; omega

/-- 'runtime.Equal' at two such values. -/
theorem equal_eqd {x y : SV} {a b : Value} {w : World} {B B' : Nat → Prop} (hx : AnyOf w B x a) (hy : AnyOf w B' y b) (ex : SV.Eqd x) (ey : SV.Eqd y)
    (hB : ∀ k, B k → k < w.heap.size) (hB' : ∀ k, B' k → k < w.heap.size) : Calls Try.prog 59 #[a, b] w (Gives (.bool (eqV x y)) w) := by
  unfold eqV
  by_cases h5 : x.kind = 5 ∧ y.kind = 5
  · rw [if_pos h5]
    exact equal_lists hx hy h5.1 h5.2 hB hB' ex.items ey.items
  · rw [if_neg h5]
    by_cases hx5 : x.kind = 5
    · have hy5 : y.kind ≠ 5 := fun h => h5 ⟨hx5, h⟩
      rw [if_pos (.inl hx5)]
      have hp := (ey.plain hy5).kind
      rw [hy.plain_eq hp.2]
      refine gives_of_tells ?_
      cases hx with
      | plain _ hk => omega
      | map _ b es clock A h _ _ _ _ _ _ => omega
      | list _ p c A hk hc hcell hsub =>
        rcases kinds hp with g | g | g | g | g
        · rw [SV.any_0 g]; exact equal_lis_nil _ _ _ w
        · rw [SV.any_1 g]; exact equal_lis_int _ _ _ y.int w
        · rw [SV.any_2 g]; exact equal_lis_flo _ _ _ y.fl w
        · rw [SV.any_3 g]; exact equal_lis_txt _ _ _ y.text w
        · rw [SV.any_4 g]; exact equal_lis_tru _ _ _ y.bool w
    · by_cases hy5 : y.kind = 5
      · rw [if_pos (.inr hy5)]
        have hp := (ex.plain hx5).kind
        rw [hx.plain_eq hp.2]
        refine gives_of_tells ?_
        cases hy with
        | plain _ hk => omega
        | map _ b es clock A h _ _ _ _ _ _ => omega
        | list _ p c A hk hc hcell hsub =>
          rcases kinds hp with g | g | g | g | g
          · rw [SV.any_0 g]; exact equal_nil_lis _ _ _ w
          · rw [SV.any_1 g]; exact equal_int_lis x.int _ _ _ w
          · rw [SV.any_2 g]; exact equal_flo_lis x.fl _ _ _ w
          · rw [SV.any_3 g]; exact equal_txt_lis x.text _ _ _ w
          · rw [SV.any_4 g]; exact equal_tru_lis x.bool _ _ _ w
      · rw [if_neg (fun h => h.elim hx5 hy5)]
        have px := ex.plain hx5
        have py := ey.plain hy5
        rw [hx.plain_eq px.kind.2, hy.plain_eq py.kind.2]
        exact gives_of_tells (equal_plain x y px py w)

set_option maxHeartbeats 4000000 in
set_option maxRecDepth 100000 in
theorem equal_idle (p q : Addr) (w : World) :
    CallsD Try.prog 58 #[.pointer (some p), .pointer (some q)] .returning w fun e u' w' => e = .returned (.tuple #[]) ∧ u' = .returning ∧ w' = w := by
  refine callsD_of_wpS Try.func58 rfl fun c₀ cs hu => ?_
  apply wpS_seq
  apply wpS_region
  simp [wpOpsS, go_sem, recoverD, hu, Try.ntmps58, Exit.thenS]
  refine wpS_of_wp ?_
  go_wp2_with fail
  cases c₀
  simp_all [bodyPostS, results, Try.results58]

set_option maxHeartbeats 4000000 in
set_option maxRecDepth 100000 in
/-- 'impl.Equal'. -/
theorem implEqual (x y : SV) (w : World) (B B2 : Nat → Prop) (d d2 : Dv) (hB : ∀ b, B b → b < w.heap.size) (hB2 : ∀ b, B2 b → b < w.heap.size) (hd : DoorOf w B x d) (hd2 : DoorOf w B2 y d2) (ex : SV.Eqd x) (ey : SV.Eqd y) :
    Calls Try.prog 23 #[d.val, d2.val] w (Gives (.tuple #[.bool (eqV x y), .int .i64 0]) w) := by
  have HEQ := Lib.hid (fun a b w B B' hx hy hB hB' => @equal_eqd x y a b w B B' hx hy ex ey hB hB')
  have W4 := ((((Below.refl w.heap.size w).alloc (Nat.le_refl _) (.cells d.cells.toArray 35)).alloc (by simp) (.cells d2.cells.toArray 35)).alloc (by simp; omega) (.cells #[Value.bool false] 4)).alloc (by simp; omega) (.cells #[Value.int .i64 0] 3)
  have G1 := Lib.hid (fun w' (h : Below w.heap.size w w') => given_any x w' B d (fun b hb => by have := hB b hb; have := h.size; omega) (hd.later hB h) ex.ok ex.parts ex.small)
  have G2 := Lib.hid (fun w' (h : Below w.heap.size w w') => given_any y w' B2 d2 (fun b hb => by have := hB2 b hb; have := h.size; omega) (hd2.later hB2 h) ey.ok ey.parts ey.small)
  have HW4 := Lib.hid W4
  have hmf : ∀ (fn : Fn) (first cap : Array Value) (w : World), (Instr.makeFunc fn first cap).run Try.prog w = .ok (.func fn first cap) w := fun _ _ _ _ => rfl
  generalize eqV x y = r at *
  clear W4 hB hB2 hd hd2 ex ey
  unfold Dv.val at G1 G2
  unfold Dv.cells at HW4
  unfold Dv.val
  go_enter_defers Try.func23, Try.ntmps23
  go_wp2_with fail
  refine Calls.mono (by exact G1.out _ HW4.out) ?_
  rintro e w1 ⟨a, rfl, hb, ha⟩
  obtain ⟨k1, k2, k3, hsz⟩ := quad_blocks hb
  have K1 := Lib.hid k1
  have K2 := Lib.hid k2
  have K3 := Lib.hid k3
  have B1 := Lib.hid (HW4.out.trans (hb.mono HW4.out.size))
  have HA := Lib.hid ha
  have HSZ := Lib.hid hsz
  clear hb k1 k2 k3 ha hsz HW4 G1
  obtain ⟨a0, a1, a2, a3, a4, a5, a6, a7⟩ := eight K1.out
  go_wp2_with fail
  refine Calls.mono (by exact G2.out _ B1.out) ?_
  rintro e w2 ⟨c, rfl, hb, hc⟩
  have K2' := Lib.hid ((hb.block _ (lt_of_block K2.out)).trans K2.out)
  have K3' := Lib.hid ((hb.block _ (lt_of_block K3.out)).trans K3.out)
  have B2' := Lib.hid (B1.out.trans (hb.mono B1.out.size))
  have HR := Lib.hid (HEQ.out a c w2 _ _ (HA.out.keep (fun b h => hb.block b h.2) (fun b h => h)) hc (fun k h => by have := h.2; have := hb.size; omega) (fun k h => h.2))
  have HSZ2 : Hid (w.heap.size + 4 ≤ w2.heap.size) := Nat.le_trans HSZ.out hb.size
  clear hb hc HA K1 K2 K3 B1 a0 a1 a2 a3 a4 a5 a6 a7 G2 HEQ HSZ
  go_wp2_with fail
  refine Calls.mono (by exact HR.out) ?_
  rintro e w3 ⟨rfl, hb⟩
  have K2 := Lib.hid ((hb.block _ (lt_of_block K2'.out)).trans K2'.out)
  have K3 := Lib.hid ((hb.block _ (lt_of_block K3'.out)).trans K3'.out)
  have B3 := Lib.hid (B2'.out.trans (hb.mono B2'.out.size))
  clear hb K2' K3' B2' HR
  have o1 := cell_of_one K2.out
  have o2 := cell_of_one K3.out
  have z1 := free_of_one K2.out
  have z2 := free_of_one K3.out
  have hs3 : w.heap.size + 3 < w3.heap.size := lt_of_block K3.out
  go_wp2_with fail
  refine leaves_cons (f := 58) (args := #[.pointer (some ⟨w.heap.size + 1 + 1, 0, none⟩), .pointer (some ⟨w.heap.size + 1 + 1 + 1, 0, none⟩)]) (by simp) (by simp [go_sem]) ?_
  refine (equal_idle ⟨w.heap.size + 1 + 1, 0, none⟩ ⟨w.heap.size + 1 + 1 + 1, 0, none⟩ _).mono ?_
  rintro e u' w'' ⟨rfl, rfl, rfl⟩
  have hB : Below w.heap.size w ((w3.setCell ⟨w.heap.size + 1 + 1, 0, none⟩ (.bool r)).setCell ⟨w.heap.size + 1 + 1 + 1, 0, none⟩ (.int .i64 0)) := (B3.out.setCell (by simp <;> omega) _).setCell (by simp <;> omega) _
  have hG : Gives (.tuple #[.bool r, .int .i64 0]) w (.returned (.tuple #[.bool r, .int .i64 0])) _ := ⟨rfl, hB⟩
  simp [Leaves, settle, results, Try.results23, go_sem, o1, o2, hG]
end Go.Proofs.Ythmogfjmngbamaa

