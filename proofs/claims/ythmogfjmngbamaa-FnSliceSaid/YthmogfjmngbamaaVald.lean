/-
  'impl.valued' at every value that is in order, and 'impl.told'.
-/
import Derived.Test.YthmogfjmngbamaaValc
import Derived.Test.YthmogfjmngbamaaTolb
namespace Go.Proofs.Ythmogfjmngbamaa
open Go.RowKit
set_option linter.unusedSimpArgs false
set_option linter.unusedVariables false

theorem valued_any : ∀ (x : SV) (n : Nat) (w : World) (B : Nat → Prop) (q : Nat) (m : Int) (a : Value), Lies w B q → AnyOf w B x a → SV.Ok x → x.parts ≤ 200 → SV.Small n x → 2 * (x.parts : Int) ≤ m → m ≤ 100000 → Counter w q m →
    Calls Try.prog 106 #[a, .pointer (some ⟨q, 0, none⟩)] w (GivesVal x m q w) := by
  refine SV.ind fun x ih n w B q m a hl ha hok hp hs hm hm2 hc => ?_
  have hpos := SV.parts_pos x
  have hln := SV.items_parts x
  have IH : ∀ (i : Nat) (y : SV), x.items[i]? = some y → ∀ (w' : World) (m' : Int) (a : Value), Lies w' B q → AnyOf w' B y a → 2 * (y.parts : Int) ≤ m' → m' ≤ 100000 → Counter w' q m' → Calls Try.prog 106 #[a, .pointer (some ⟨q, 0, none⟩)] w' (GivesVal y m' q w') :=
    fun i y hy w' m' a' hl' ha' h1 h2 hc' => ih i y hy (n - 1) w' B q m' a' hl' ha' (SV.ok_item hok hy) (by have := SV.parts_item hy; omega) (SV.small_item hs hy) h1 h2 hc'
  obtain ⟨k1, k2, k3, k4, k5⟩ := SV.ok_shape hok
  cases ha with
  | plain _ hk =>
    refine (valued_plain x hk q m (by omega) hm2 w hc).mono ?_
    rintro e w' ⟨rfl, hb, hcc⟩
    exact ⟨Dv.plain x, x, m - 1, rfl, hb, hcc, by omega, by omega, .plain x hk, .plain x x hk rfl ⟨k3 hk.2, k3 hk.2⟩ ⟨k4 (by omega), k4 (by omega)⟩ (fun _ => rfl) (fun _ => rfl) (fun _ => rfl) (fun _ => rfl)⟩
  | list _ p c A hk hcc hcell hsub => exact valued_list x hk (k4 (by omega)) w B q hl p c A hcc (by omega) hcell hsub m hm hm2 hc IH
  | map _ b es clock A hk hkl hB hb hs' hent hsub =>
    refine valued_map x hk hkl (k5 hk).2 ?_ w B q hl b es clock A hB hb hs' hent (by omega) hsub m hm hm2 hc IH
    intro s hks
    obtain ⟨i, hi⟩ := List.mem_iff_getElem?.1 hks
    cases n with
    | zero => exact hs.elim
    | succ n => exact hs.2.2.2 i s hi

/-- It told a value that is the same as x, and no fault. -/
def GivesTold (x : SV) (w : World) (e : Ending) (w' : World) : Prop :=
  ∃ (d : Dv) (y : SV), e = .returned (.tuple #[d.val, .int .i64 0]) ∧ Below w.heap.size w w' ∧ DoorOf w' (betw w.heap.size w'.heap.size) y d ∧ Like y x

set_option maxHeartbeats 1000000 in
set_option maxRecDepth 100000 in
/-- 'impl.told'. -/
theorem told_any (x : SV) (n : Nat) (w : World) (B : Nat → Prop) (a : Value) (hB : ∀ b, B b → b < w.heap.size) (ha : AnyOf w B x a) (hok : SV.Ok x) (hp : x.parts ≤ 200) (hs : SV.Small n x) : Calls Try.prog 66 #[a] w (GivesTold x w) := by
  have W3 := (((Below.refl w.heap.size w).alloc (Nat.le_refl _) (.cells #[Value.int .i64 0, .int .i64 0, .int .u64 0, .float .f64 0, .string ⟨#[]⟩, .bool false, .slice none 0 0, .slice none 0 0] 35)).alloc (by simp) (.cells #[.int .i64 0] 3)).alloc (by simp; omega) (.cells #[.int .i64 40000] 3)
  have HV := Lib.hid (valued_any x n (((w.alloc (.cells #[Value.int .i64 0, .int .i64 0, .int .u64 0, .float .f64 0, .string ⟨#[]⟩, .bool false, .slice none 0 0, .slice none 0 0] 35)).alloc (.cells #[.int .i64 0] 3)).alloc (.cells #[.int .i64 40000] 3)) B (w.heap.size + 1 + 1) 40000 a
    ⟨fun b h => by have := hB b h; simp only [World.size_alloc]; omega, fun b h => by have := hB b h; omega⟩ (ha.keep (fun b h => W3.block b (hB b h)) (fun _ h => h)) hok hp hs (by omega) (by omega) (by
      have h := heap_alloc_new ((w.alloc (.cells #[Value.int .i64 0, .int .i64 0, .int .u64 0, .float .f64 0, .string ⟨#[]⟩, .bool false, .slice none 0 0, .slice none 0 0] 35)).alloc (.cells #[.int .i64 0] 3)) (.cells #[.int .i64 40000] 3)
      simp only [World.size_alloc] at h
      exact h))
  have HP := Lib.hid hp
  have hmf : ∀ (fn : Fn) (first cap : Array Value) (w : World), (Instr.makeFunc fn first cap).run Try.prog w = .ok (.func fn first cap) w := fun _ _ _ _ => rfl
  clear W3 hB ha hok hp hs
  go_enter_defers Try.func66, Try.ntmps66
  go_wp2_with fail
  refine Calls.mono (by exact HV.out) ?_
  rintro e w1 ⟨d, y, m', rfl, hb, hc, h1, h2, hd, hlk⟩
  obtain ⟨b0, b1, hs, hbw⟩ := told_mid hb
  have HBW := Lib.hid hbw
  have hm0 : 0 ≤ m' := by have := HP.out; omega
  have hW : ∀ k, k < w1.heap.size → (w1.alloc (.cells d.cells.toArray 35)).heap[k]? = w1.heap[k]? := fun k hk => Below.heap_alloc _ _ _ hk
  have b0' := (hW _ (by omega)).trans b0
  have b1' := (hW _ (by omega)).trans b1
  have b2' := (hW _ hc.lt).trans hc
  have hB' : Hid (Below w.heap.size w (w1.alloc (.cells d.cells.toArray 35))) := HBW.out.alloc (by omega) _
  have HD : Hid (DoorOf (w1.alloc (.cells d.cells.toArray 35)) (betw (w.heap.size + 3) w1.heap.size) y d) := hd.keep (fun b hB => hW b hB.2) (fun b hB => ⟨by have := hB.1; simp only [World.size_alloc] at this; omega, hB.2⟩)
  have HLK := Lib.hid hlk
  unfold Dv.cells at b0' b1' b2' hB' HD
  obtain ⟨a0, a1, a2, a3, a4, a5, a6, a7⟩ := eight b0'
  have z0 := free_block b0'
  have o1 := cell_of_one b1'
  have z1 := free_of_one b1'
  have o2 := cell_of_one b2'
  have n1 : ¬ w.heap.size = w1.heap.size := by omega
  have n2 : ¬ w.heap.size + 1 = w1.heap.size := by omega
  have n3 : ¬ w1.heap.size = w.heap.size := by omega
  have n4 : ¬ w1.heap.size = w.heap.size + 1 := by omega
  have HSZ := Lib.hid hs
  clear hb hbw b0 b1 hc hW b0' b1' b2' hd hlk h1 h2 hs HV
  unfold Dv.val
  go_wp2_with fail
  refine leaves_cons (f := 105) (args := #[.pointer (some ⟨w.heap.size, 0, none⟩), .pointer (some ⟨w.heap.size + 1, 0, none⟩)]) (by simp) (by simp [go_sem]) ?_
  refine (told_idle ⟨w.heap.size, 0, none⟩ ⟨w.heap.size + 1, 0, none⟩ _).mono ?_
  rintro e u' w'' ⟨rfl, rfl, rfl⟩
  have hB : Below w.heap.size w ((store8 (w1.alloc (.cells #[.int .i64 d.k, .int .i64 d.n, .int .u64 0, .float .f64 d.f, .string d.t, .bool d.b, .slice d.kp d.kl d.kc, .slice d.ip d.il d.ic] 35)) w.heap.size (.int .i64 d.k) (.int .i64 d.n) (.int .u64 0) (.float .f64 d.f) (.string d.t) (.bool d.b) (.slice d.kp d.kl d.kc) (.slice d.ip d.il d.ic)).setCell ⟨w.heap.size + 1, 0, none⟩ (.int .i64 0)) :=
    (store8_below _ _ _ _ _ _ _ _ hB'.out (Nat.le_refl _)).setCell (by simp) _
  have hdo : DoorOf ((store8 (w1.alloc (.cells #[.int .i64 d.k, .int .i64 d.n, .int .u64 0, .float .f64 d.f, .string d.t, .bool d.b, .slice d.kp d.kl d.kc, .slice d.ip d.il d.ic] 35)) w.heap.size (.int .i64 d.k) (.int .i64 d.n) (.int .u64 0) (.float .f64 d.f) (.string d.t) (.bool d.b) (.slice d.kp d.kl d.kc) (.slice d.ip d.il d.ic)).setCell ⟨w.heap.size + 1, 0, none⟩ (.int .i64 0))
      (betw w.heap.size ((store8 (w1.alloc (.cells #[.int .i64 d.k, .int .i64 d.n, .int .u64 0, .float .f64 d.f, .string d.t, .bool d.b, .slice d.kp d.kl d.kc, .slice d.ip d.il d.ic] 35)) w.heap.size (.int .i64 d.k) (.int .i64 d.n) (.int .u64 0) (.float .f64 d.f) (.string d.t) (.bool d.b) (.slice d.kp d.kl d.kc) (.slice d.ip d.il d.ic)).setCell ⟨w.heap.size + 1, 0, none⟩ (.int .i64 0)).heap.size) y d := by
    refine HD.out.keep (fun b hB => ?_) (fun b hB => ⟨by have := hB.1; omega, by rw [size_setCell, store8_size, World.size_alloc]; have := hB.2; omega⟩)
    have h1 := hB.1
    rw [setCell_block _ _ _ (by simp; omega), store8_other _ _ _ _ _ _ _ _ (by omega)]
  have hG : GivesTold x w (.returned (.tuple #[d.val, .int .i64 0])) _ := ⟨d, y, rfl, hB, hdo, HLK.out⟩
  unfold store8 Dv.val at hG
  simp [Leaves, settle, results, Try.results66, go_sem, a0, a1, a2, a3, a4, a5, a6, a7, o1, hG]
end Go.Proofs.Ythmogfjmngbamaa
