/-
  'impl.told' walked at plain values.
-/
import Derived.Test.YthmogfjmngbamaaTold
namespace Go.Proofs.Ythmogfjmngbamaa
open Go.RowKit
set_option linter.unusedSimpArgs false

set_option maxHeartbeats 4000000 in
set_option maxRecDepth 100000 in
theorem told_idle (p q : Addr) (w : World) :
    CallsD Try.prog 105 #[.pointer (some p), .pointer (some q)] .returning w fun e u' w' => e = .returned (.tuple #[]) ∧ u' = .returning ∧ w' = w := by
  refine callsD_of_wpS Try.func105 rfl fun c₀ cs hu => ?_
  apply wpS_seq
  apply wpS_region
  simp [wpOpsS, go_sem, recoverD, hu, Try.ntmps105, Exit.thenS]
  refine wpS_of_wp ?_
  go_wp2_with fail
  cases c₀
  simp_all [bodyPostS, results, Try.results105]

/-- Three new blocks, of which the third has turned, and what of them a later world holds. -/
theorem told_mid {w w1 : World} {o0 o1 o2 : Obj} (hb : ButAt (w.heap.size + 1 + 1) (((w.alloc o0).alloc o1).alloc o2) w1) :
    w1.heap[w.heap.size]? = some o0 ∧ w1.heap[w.heap.size + 1]? = some o1 ∧ w.heap.size + 3 ≤ w1.heap.size ∧ Below w.heap.size w w1 := by
  have h0 := heap_alloc_new w o0
  have h1 := heap_alloc_new (w.alloc o0) o1
  have hs := hb.size
  simp only [World.size_alloc] at h1 hs
  refine ⟨?_, ?_, by omega, ?_⟩
  · rw [hb.block _ (by simp only [World.size_alloc]; omega) (by omega), Below.heap_alloc _ _ _ (by simp only [World.size_alloc]; omega), Below.heap_alloc _ _ _ (by simp only [World.size_alloc]; omega)]; exact h0
  · rw [hb.block _ (by simp only [World.size_alloc]; omega) (by omega), Below.heap_alloc _ _ _ (by simp only [World.size_alloc]; omega)]; exact h1
  · exact ((((Below.refl _ _).alloc (Nat.le_refl _) _).alloc (by simp) _).alloc (by simp; omega) _).trans (hb.below (by omega) (by simp only [World.size_alloc]; omega))

set_option maxHeartbeats 1000000 in
set_option maxRecDepth 100000 in
/-- 'impl.told' at a plain value. -/
theorem told_plain (x : SV) (hk : 0 ≤ x.kind ∧ x.kind < 5) (w : World) : Calls Try.prog 66 #[x.any] w (Gives (.tuple #[x.door, .int .i64 0]) w) := by
  have HV := Lib.hid (valued_plain x hk)
  have hmf : ∀ (fn : Fn) (first cap : Array Value) (w : World), (Instr.makeFunc fn first cap).run Try.prog w = .ok (.func fn first cap) w := fun _ _ _ _ => rfl
  clear hk
  unfold SV.door at *
  generalize x.any = xa at *
  go_enter_defers Try.func66, Try.ntmps66
  go_wp2_with fail
  refine Calls.mono (by exact HV.out (w.heap.size + 1 + 1) 40000 (by omega) (by omega) _ (by
    have h := heap_alloc_new ((w.alloc (.cells #[Value.int .i64 0, .int .i64 0, .int .u64 0, .float .f64 0, .string ⟨#[]⟩, .bool false, .slice none 0 0, .slice none 0 0] 35)).alloc (.cells #[.int .i64 0] 3)) (.cells #[.int .i64 40000] 3)
    simp only [World.size_alloc] at h
    exact h)) ?_
  rintro e w1 ⟨rfl, hb, hc⟩
  obtain ⟨b0, b1, hs, hbw⟩ := told_mid hb
  have HBW := Lib.hid hbw
  have hW : ∀ k, k < w1.heap.size → (w1.alloc (.cells #[.int .i64 x.dk, .int .i64 x.dn, .int .u64 0, .float .f64 x.df, .string x.dt, .bool x.db, .slice none 0 0, .slice none 0 0] 35)).heap[k]? = w1.heap[k]? := fun k hk => Below.heap_alloc _ _ _ hk
  have b0' := (hW _ (by omega)).trans b0
  have b1' := (hW _ (by omega)).trans b1
  have b2' := (hW _ (by omega)).trans hc
  have hB' : Hid (Below w.heap.size w (w1.alloc (.cells #[.int .i64 x.dk, .int .i64 x.dn, .int .u64 0, .float .f64 x.df, .string x.dt, .bool x.db, .slice none 0 0, .slice none 0 0] 35))) := HBW.out.alloc (by omega) _
  obtain ⟨a0, a1, a2, a3, a4, a5, a6, a7⟩ := eight b0'
  have z0 := free_block b0'
  have o1 := cell_of_one b1'
  have z1 := free_of_one b1'
  have o2 := cell_of_one b2'
  have n1 : ¬ w.heap.size = w1.heap.size := by omega
  have n2 : ¬ w.heap.size + 1 = w1.heap.size := by omega
  have n3 : ¬ w1.heap.size = w.heap.size := by omega
  have n4 : ¬ w1.heap.size = w.heap.size + 1 := by omega
  clear hb hbw b0 b1 hc hW b0' b1' b2'
  go_wp2_with fail
  refine leaves_cons (f := 105) (args := #[.pointer (some ⟨w.heap.size, 0, none⟩), .pointer (some ⟨w.heap.size + 1, 0, none⟩)]) (by simp) (by simp [go_sem]) ?_
  refine (told_idle ⟨w.heap.size, 0, none⟩ ⟨w.heap.size + 1, 0, none⟩ _).mono ?_
  rintro e u' w'' ⟨rfl, rfl, rfl⟩
  have hB : Below w.heap.size w ((store8 (w1.alloc (.cells #[.int .i64 x.dk, .int .i64 x.dn, .int .u64 0, .float .f64 x.df, .string x.dt, .bool x.db, .slice none 0 0, .slice none 0 0] 35)) w.heap.size (.int .i64 x.dk) (.int .i64 x.dn) (.int .u64 0) (.float .f64 x.df) (.string x.dt) (.bool x.db) (.slice none 0 0) (.slice none 0 0)).setCell ⟨w.heap.size + 1, 0, none⟩ (.int .i64 0)) :=
    (store8_below _ _ _ _ _ _ _ _ hB'.out (Nat.le_refl _)).setCell (by simp) _
  unfold store8 at hB
  simp [Leaves, settle, results, Try.results66, go_sem, a0, a1, a2, a3, a4, a5, a6, a7, o1, Gives, hB]
end Go.Proofs.Ythmogfjmngbamaa
