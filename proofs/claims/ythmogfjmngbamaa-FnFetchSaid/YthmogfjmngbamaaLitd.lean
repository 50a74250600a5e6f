/-
  The door 'impl.Fetch' at FnFetch's own example.
-/
import Derived.Test.YthmogfjmngbamaaLit
namespace Go.Proofs.Ythmogfjmngbamaa
open Go.RowKit
set_option linter.unusedSimpArgs false
set_option linter.unusedVariables false

/-- The whole number -1. -/
def minus : SV := .mk 1 (-1) 0 ⟨#[]⟩ false none 0 [] none 0 []
theorem minus_plain : SV.Plain minus := SV.plain_small (SV.ok_mk ⟨by decide, by decide, fun _ => rfl, fun _ => rfl, fun h => absurd h (by decide)⟩ (fun i y hy => by cases hy)) (n := 1) ⟨by decide, fin_zero, fun i y hy => (by cases hy), fun i s hs => (by cases hs)⟩ (by decide)

set_option maxHeartbeats 4000000 in
set_option maxRecDepth 100000 in
theorem implFetchLit (w : World) (b : Nat) (hb : w.heap[b]? = some (.cells #[Value.int .i64 1, .int .i64 5, .int .u64 0, .float .f64 0, .string ⟨#[]⟩, .bool false, .slice none 0 0, .slice none 0 0] 35 (0, 0))) :
    Calls Try.prog 31 #[.agg #[Value.int .i64 16, .int .i64 0, .int .u64 0, .float .f64 0, .string ⟨#[]⟩, .bool false, .slice none 0 0, .slice (some ⟨b, 0, none⟩) 1 1], .agg #[Value.int .i64 1, .int .i64 (-1), .int .u64 0, .float .f64 0, .string ⟨#[]⟩, .bool false, .slice none 0 0, .slice none 0 0]] w (Gives (.tuple #[.agg #[Value.int .i64 1, .int .i64 5, .int .u64 0, .float .f64 0, .string ⟨#[]⟩, .bool false, .slice none 0 0, .slice none 0 0], .int .i64 0]) w) := by
  have hbl := lt_of_block hb
  have W4 := ((((Below.refl w.heap.size w).alloc (Nat.le_refl _) (.cells #[Value.int .i64 16, .int .i64 0, .int .u64 0, .float .f64 0, .string ⟨#[]⟩, .bool false, .slice none 0 0, .slice (some ⟨b, 0, none⟩) 1 1] 35)).alloc (by simp) (.cells #[Value.int .i64 1, .int .i64 (-1), .int .u64 0, .float .f64 0, .string ⟨#[]⟩, .bool false, .slice none 0 0, .slice none 0 0] 35)).alloc (by simp; omega) (.cells #[Value.int .i64 0, .int .i64 0, .int .u64 0, .float .f64 0, .string ⟨#[]⟩, .bool false, .slice none 0 0, .slice none 0 0] 35)).alloc (by simp; omega) (.cells #[Value.int .i64 0] 3)
  have G1 := Lib.hid (fun w' (h' : Below w.heap.size w w') => given_lit w' b ((h'.block b hbl).trans hb))
  have G2 := Lib.hid (fun w' => given_plain minus minus_plain w')
  have HT := Lib.hid (fun w' => told_plain five (by decide) w')
  have HW4 := Lib.hid W4
  have HF := Lib.hid fetch_lit
  have e1 : minus.door = .agg #[Value.int .i64 1, .int .i64 (-1), .int .u64 0, .float .f64 0, .string ⟨#[]⟩, .bool false, .slice none 0 0, .slice none 0 0] := rfl
  have e2 : minus.any = .iface 3 (.int .i64 (-1)) := rfl
  have e3 : five.any = .iface 3 (.int .i64 5) := rfl
  rw [e1, e2] at G2
  rw [e3, five_door] at HT
  have hmf : ∀ (fn : Fn) (first cap : Array Value) (w : World), (Instr.makeFunc fn first cap).run Try.prog w = .ok (.func fn first cap) w := fun _ _ _ _ => rfl
  clear W4 hb hbl e1 e2 e3
  go_enter_defers Try.func31, Try.ntmps31
  go_wp2_with fail
  refine Calls.mono (by exact G1.out _ HW4.out) ?_
  rintro e w1 ⟨a, g, c, rfl, ha, hb, hcl, hcc⟩
  obtain ⟨k1, k2, k3, hsz⟩ := five_blocks hb
  have K1 := Lib.hid k1
  have K2 := Lib.hid k2
  have K3 := Lib.hid k3
  have B1 := Lib.hid (HW4.out.trans (hb.mono HW4.out.size))
  have HCL := Lib.hid hcl
  have HCC := Lib.hid hcc
  have HEA := Lib.hid ha
  have HSZ := Lib.hid hsz
  clear hb k1 k2 k3 hcl hsz hcc ha HW4 G1
  obtain ⟨a0, a1, a2, a3, a4, a5, a6, a7⟩ := eight K1.out
  go_wp2_with fail
  refine Calls.mono (by exact G2.out _) ?_
  rintro e w2 ⟨rfl, hb⟩
  have K2' := Lib.hid ((hb.block _ (lt_of_block K2.out)).trans K2.out)
  have K3' := Lib.hid ((hb.block _ (lt_of_block K3.out)).trans K3.out)
  have B2' := Lib.hid (B1.out.trans (hb.mono B1.out.size))
  have HR := Lib.hid (HF.out g c w2 ((cell_same (hb.block _ (lt_of_cell HCL.out)) _).trans HCL.out) HCC.out)
  have HSZ2 : Hid (w.heap.size + 4 ≤ w2.heap.size) := Nat.le_trans HSZ.out hb.size
  rw [← HEA.out] at HR
  clear hb K1 K2 K3 B1 a0 a1 a2 a3 a4 a5 a6 a7 G2 HSZ HF HCL HCC HEA
  go_wp2_with fail
  refine Calls.mono (by exact HR.out) ?_
  rintro e w3 ⟨rfl, ho⟩
  have K2'' := Lib.hid ((ho.block _ (lt_of_block K2'.out)).trans K2'.out)
  have K3'' := Lib.hid ((ho.block _ (lt_of_block K3'.out)).trans K3'.out)
  have B3 := Lib.hid (B2'.out.trans (ho.mono B2'.out.size))
  clear HR ho K2' K3' B2'
  go_wp2_with fail
  refine Calls.mono (by exact HT.out _) ?_
  rintro e w4 ⟨rfl, hb⟩
  have k2 := (hb.block _ (lt_of_block K2''.out)).trans K2''.out
  have k3 := (hb.block _ (lt_of_block K3''.out)).trans K3''.out
  have HB4 := Lib.hid (B3.out.trans (hb.mono B3.out.size))
  have HW3 := Lib.hid (lt_of_block k3)
  obtain ⟨a0, a1, a2, a3, a4, a5, a6, a7⟩ := eight k2
  have z0 := free_block k2
  have o1 := cell_of_one k3
  have z1 := free_of_one k3
  clear hb k2 k3 K2'' K3'' B3 HT
  go_wp2_with fail
  refine leaves_cons (f := 72) (args := #[.pointer (some ⟨w.heap.size + 1 + 1, 0, none⟩), .pointer (some ⟨w.heap.size + 1 + 1 + 1, 0, none⟩)]) (by simp) (by simp [go_sem]) ?_
  refine (fetch_idle ⟨w.heap.size + 1 + 1, 0, none⟩ ⟨w.heap.size + 1 + 1 + 1, 0, none⟩ _).mono ?_
  rintro e u' w'' ⟨rfl, rfl, rfl⟩
  have hB : Below w.heap.size w ((store8 w4 (w.heap.size + 1 + 1) (.int .i64 1) (.int .i64 5) (.int .u64 0) (.float .f64 0) (.string ⟨#[]⟩) (.bool false) (.slice none 0 0) (.slice none 0 0)).setCell ⟨w.heap.size + 1 + 1 + 1, 0, none⟩ (.int .i64 0)) :=
    (store8_below _ _ _ _ _ _ _ _ HB4.out (by omega)).setCell (by simp; omega) _
  have hG : Gives (.tuple #[.agg #[Value.int .i64 1, .int .i64 5, .int .u64 0, .float .f64 0, .string ⟨#[]⟩, .bool false, .slice none 0 0, .slice none 0 0], .int .i64 0]) w (.returned (.tuple #[.agg #[Value.int .i64 1, .int .i64 5, .int .u64 0, .float .f64 0, .string ⟨#[]⟩, .bool false, .slice none 0 0, .slice none 0 0], .int .i64 0])) _ := ⟨rfl, hB⟩
  unfold store8 at hG
  simp [Leaves, settle, results, Try.results31, go_sem, a0, a1, a2, a3, a4, a5, a6, a7, o1, hG]
end Go.Proofs.Ythmogfjmngbamaa

