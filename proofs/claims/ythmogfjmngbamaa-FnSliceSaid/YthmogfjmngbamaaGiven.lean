/-
  'impl.given2' and 'impl.given' at every value that is in order.
-/
import Derived.Test.YthmogfjmngbamaaGivm
namespace Go.Proofs.Ythmogfjmngbamaa
open Go.RowKit
set_option linter.unusedSimpArgs false
set_option linter.unusedVariables false

theorem given2_any : ∀ (x : SV) (n : Nat) (w : World) (B : Nat → Prop) (q : Nat) (m lv : Int) (d : Dv), Lies w B q → DoorOf w B x d → SV.Ok x → x.parts ≤ 200 → SV.Small n x → x.parts ≤ m → m ≤ 100000 → n ≤ lv → lv ≤ 1000 → Counter w q m →
    Calls Try.prog 98 #[d.val, .int .i64 lv, .pointer (some ⟨q, 0, none⟩)] w (GivesAny x m q w) := by
  refine SV.ind fun x ih n w B q m lv d hl hd hok hp hs hm hm2 hlv hlv2 hc => ?_
  have hn : 0 < n := by
    cases n with
    | zero => exact hs.elim
    | succ n => omega
  have hpos := SV.parts_pos x
  have IH : ∀ (i : Nat) (y : SV), x.items[i]? = some y → ∀ (w' : World) (m' : Int) (d : Dv), Lies w' B q → DoorOf w' B y d → y.parts ≤ m' → m' ≤ 100000 → Counter w' q m' → Calls Try.prog 98 #[d.val, .int .i64 (lv - 1), .pointer (some ⟨q, 0, none⟩)] w' (GivesAny y m' q w') :=
    fun i y hy w' m' d' hl' hd' h1 h2 hc' => ih i y hy (n - 1) w' B q m' (lv - 1) d' hl' hd' (SV.ok_item hok hy) (by have := SV.parts_item hy; omega) (SV.small_item hs hy) h1 h2 (by omega) (by omega) hc'
  obtain ⟨k1, k2, k3, k4, k5⟩ := SV.ok_shape hok
  cases hd with
  | plain _ hk => exact given2_plainc x (SV.plain_small hok hs hk.2) q m lv (by omega) hm2 (by omega) w hc
  | list _ p c D hk hcc hcell hsub => exact given2_list x hk w B q hl p c D hcc hcell hsub m lv hm hm2 hp (by omega) hlv2 hc IH
  | map _ kp kc p c D hk hcc hkc hkey hcell hsub =>
    refine given2_map x hk (k5 hk).1 (k5 hk).2 ?_ w B q hl kp kc hkc hkey p c D hcc hcell hsub m lv hm hm2 hp (by omega) hlv2 hc IH
    intro i s hks
    cases n with
    | zero => exact hs.elim
    | succ n => exact hs.2.2.2 i s hks

/-- It returned a value as Go's any, whole, and made new memory alone. -/
def GivesAnyB (x : SV) (w : World) (e : Ending) (w' : World) : Prop :=
  ∃ a : Value, e = .returned (.tuple #[a, .bool true]) ∧ Below w.heap.size w w' ∧ AnyOf w' (betw w.heap.size w'.heap.size) x a

set_option maxHeartbeats 400000 in
set_option maxRecDepth 100000 in
/-- 'impl.given' at a value that lies in blocks that are there. -/
theorem given_any (x : SV) (w : World) (B : Nat → Prop) (d : Dv) (hB : ∀ b, B b → b < w.heap.size) (hd : DoorOf w B x d) (hok : SV.Ok x) (hp : x.parts ≤ 200) (hs : SV.Small 10 x) :
    Calls Try.prog 49 #[d.val] w (GivesAnyB x w) := by
  have W2 := ((Below.refl w.heap.size w).alloc (Nat.le_refl _) (.cells d.cells.toArray 35)).alloc (by simp) (.cells #[Value.int .i64 3000] 3)
  have HG := Lib.hid (given2_any x 10 ((w.alloc (.cells d.cells.toArray 35)).alloc (.cells #[Value.int .i64 3000] 3)) B (w.heap.size + 1) 3000 30 d
    ⟨fun b h => by have := hB b h; simp only [World.size_alloc]; omega, fun b h => by have := hB b h; omega⟩ (hd.keep (fun b h => W2.block b (hB b h)) (fun _ h => h)) hok hp hs (by omega) (by omega) (by omega) (by omega) (by
      have h := heap_alloc_new (w.alloc (.cells d.cells.toArray 35)) (.cells #[Value.int .i64 3000] 3)
      rw [World.size_alloc] at h
      exact h))
  clear W2 hB hd hok hp hs
  unfold Dv.val Dv.cells at HG
  unfold Dv.val
  go_enter Try.func49, Try.ntmps49
  go_wp2_with fail
  refine Calls.mono (by exact HG.out) ?_
  rintro e w1 ⟨a, rfl, hb, hc, ha⟩
  have hB : Hid (Below w.heap.size w w1) := (((Below.refl _ _).alloc (Nat.le_refl _) _).alloc (by simp) _).trans (hb.below (by omega) (by simp; omega))
  have HA := Lib.hid ha
  clear hb hc ha
  go_wp2_with fail
  go_ret2
  exact ⟨a, rfl, hB.out, HA.out.keep (fun _ _ => rfl) (fun b h => ⟨by have := h.1; simp only [World.size_alloc] at this; omega, h.2⟩)⟩
end Go.Proofs.Ythmogfjmngbamaa
