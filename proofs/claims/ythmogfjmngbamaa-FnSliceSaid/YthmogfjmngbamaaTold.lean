/-
  'impl.valued' and 'impl.told' walked at plain values.
-/
import Derived.Test.YthmogfjmngbamaaUn
namespace Go.Proofs.Ythmogfjmngbamaa
open Go.RowKit
set_option linter.unusedSimpArgs false

/-- It returned a value, and the counter went one down. -/
def GivesCount (q : Nat) (m : Int) (v : Value) (w : World) (e : Ending) (w' : World) : Prop := e = .returned v ∧ ButAt q w w' ∧ Counter w' q m

/-- The zero value of the door's type, cell by cell. -/
def zeroD : Array Value := #[Value.int .i64 0, .int .i64 0, .int .u64 0, .float .f64 0, .string ⟨#[]⟩, .bool false, .slice none 0 0, .slice none 0 0]

theorem valued_end (w : World) (q : Nat) (m n : Int) (c0 c1 c2 c3 c4 c5 c6 c7 : Value) (hc : Counter w q m) :
    ButAt q w (store8 ((w.alloc (.cells zeroD 35)).setCell ⟨q, 0, none⟩ (.int .i64 n)) w.heap.size c0 c1 c2 c3 c4 c5 c6 c7) ∧
    Counter (store8 ((w.alloc (.cells zeroD 35)).setCell ⟨q, 0, none⟩ (.int .i64 n)) w.heap.size c0 c1 c2 c3 c4 c5 c6 c7) q n := by
  have hq : q ≠ w.heap.size := by have := hc.lt; omega
  have h1 : ButAt q w ((w.alloc (.cells zeroD 35)).setCell ⟨q, 0, none⟩ (.int .i64 n)) := (ButAt.alloc _ _).trans (ButAt.setCell _ ⟨q, 0, none⟩ rfl _)
  refine ⟨?_, ?_⟩
  · have hb := store8_below c0 c1 c2 c3 c4 c5 c6 c7 (Below.refl w.heap.size ((w.alloc (.cells zeroD 35)).setCell ⟨q, 0, none⟩ (.int .i64 n))) (Nat.le_refl _)
    exact ⟨hb.os.trans h1.os, hb.tape.trans h1.tape, hb.output.trans h1.output, Nat.le_trans h1.size hb.size, fun k hk hkq => by rw [store8_other _ _ _ _ _ _ _ _ (by omega)]; exact h1.block k hk hkq⟩
  · unfold Counter
    rw [store8_other _ _ _ _ _ _ _ _ hq]
    exact one_setCell (v := .int .i64 m) (Counter.later hc ((Below.refl _ _).alloc (Nat.le_refl _) _) hc.lt)

set_option maxHeartbeats 400000 in
set_option maxRecDepth 100000 in
theorem valued_plain (x : SV) (hk : 0 ≤ x.kind ∧ x.kind < 5) (q : Nat) (m : Int) (hm : 1 ≤ m) (hm2 : m ≤ 100000) (w : World) (hc : Counter w q m) :
    Calls Try.prog 106 #[x.any, .pointer (some ⟨q, 0, none⟩)] w (GivesCount q (m - 1) x.door w) := by
  have hm1 : 0 ≤ m - 1 := by omega
  have c0 : (w.alloc (.cells #[Value.int .i64 0, .int .i64 0, .int .u64 0, .float .f64 0, .string ⟨#[]⟩, .bool false, .slice none 0 0, .slice none 0 0] 35)).cell? ⟨q, 0, none⟩ = some (.int .i64 m) := by
    rw [World.cell?_alloc_past _ _ _ hc.lt]; exact cell_of_one hc
  have f0 : (w.alloc (.cells #[Value.int .i64 0, .int .i64 0, .int .u64 0, .float .f64 0, .string ⟨#[]⟩, .bool false, .slice none 0 0, .slice none 0 0] 35)).frozen? ⟨q, 0, none⟩ = false := by
    rw [World.frozen?_alloc_old _ _ _ (by have := hc.lt; simp; omega)]; exact free_of_one hc
  have hq : ¬ q = w.heap.size := by have := hc.lt; omega
  have hq' : ¬ w.heap.size = q := fun h => hq h.symm
  have HE : Hid (∀ c0 c1 c2 c3 c4 c5 c6 c7 : Value, ButAt q w (((((((((((w.alloc (.cells #[Value.int .i64 0, .int .i64 0, .int .u64 0, .float .f64 0, .string ⟨#[]⟩, .bool false, .slice none 0 0, .slice none 0 0] 35)).setCell ⟨q, 0, none⟩ (.int .i64 (m - 1))).setCell ⟨w.heap.size, 0, none⟩ c0).setCell ⟨w.heap.size, 1, none⟩ c1).setCell ⟨w.heap.size, 2, none⟩ c2).setCell ⟨w.heap.size, 3, none⟩ c3).setCell ⟨w.heap.size, 4, none⟩ c4).setCell ⟨w.heap.size, 5, none⟩ c5).setCell ⟨w.heap.size, 6, none⟩ c6).setCell ⟨w.heap.size, 7, none⟩ c7)) ∧
      Counter (((((((((((w.alloc (.cells #[Value.int .i64 0, .int .i64 0, .int .u64 0, .float .f64 0, .string ⟨#[]⟩, .bool false, .slice none 0 0, .slice none 0 0] 35)).setCell ⟨q, 0, none⟩ (.int .i64 (m - 1))).setCell ⟨w.heap.size, 0, none⟩ c0).setCell ⟨w.heap.size, 1, none⟩ c1).setCell ⟨w.heap.size, 2, none⟩ c2).setCell ⟨w.heap.size, 3, none⟩ c3).setCell ⟨w.heap.size, 4, none⟩ c4).setCell ⟨w.heap.size, 5, none⟩ c5).setCell ⟨w.heap.size, 6, none⟩ c6).setCell ⟨w.heap.size, 7, none⟩ c7)) q (m - 1)) :=
    fun c0 c1 c2 c3 c4 c5 c6 c7 => valued_end w q m (m - 1) c0 c1 c2 c3 c4 c5 c6 c7 hc
  clear hc
  cases x with
  | mk k n f t b ip ic items kp kc keys =>
  simp only [SV.door, SV.dk, SV.dn, SV.df, SV.dt, SV.db, SV.any, SV.kind, SV.int, SV.fl, SV.text, SV.bool] at hk ⊢
  rcases kinds hk with rfl | rfl | rfl | rfl | rfl
  all_goals
    simp only [Int.reduceEq, ↓reduceIte]
    go_enter Try.func106, Try.ntmps106
    go_wp2_with fail
  all_goals
    refine bodyPost_ret (by simp [results, Try.results106, go_sem]) rfl ⟨rfl, ?_, ?_⟩
  all_goals with_reducible first | exact (HE.out _ _ _ _ _ _ _ _).1 | exact (HE.out _ _ _ _ _ _ _ _).2

end Go.Proofs.Ythmogfjmngbamaa
