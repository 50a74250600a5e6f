/-
  FnFetch's own example: the list of ints [5], from 'impl.given' to 'runtime.Fetch'.
-/
import Derived.Test.YthmogfjmngbamaaFdoor
import Derived.Laws.MakeOwn
namespace Go.Proofs.Ythmogfjmngbamaa
open Go.RowKit
set_option linter.unusedSimpArgs false
set_option linter.unusedVariables false

theorem info3 : (Try.prog.info? 3).map (fun i => (i.zero, i.size, i.bytes)) = some (some (.int .i64 0), 1, 8) := by kernel_rfl

/-- It returned a list of the one int 5, in new memory. -/
def GivesInts (w : World) (e : Ending) (w' : World) : Prop :=
  ∃ g c, e = .returned (.tuple #[.iface 22 (.slice (some ⟨g, 0, none⟩) 1 c), .bool true]) ∧ Below w.heap.size w w' ∧ w'.cell? ⟨g, 0, none⟩ = some (.int .i64 5) ∧ 1 ≤ c

set_option maxHeartbeats 1000000 in
set_option maxRecDepth 100000 in
/-- 'impl.cast[int]' at one int. -/
theorem cast_lit (b c : Nat) (w : World) (hc : w.cell? ⟨b, 0, none⟩ = some (.iface 3 (.int .i64 5))) (hcc : 1 ≤ c) : Calls Try.prog 116 #[.slice (some ⟨b, 0, none⟩) 1 c] w (GivesInts w) := by
  obtain ⟨i0, hi, hz0, hz1, hz2⟩ := info_parts info3
  have HI := Lib.hid (And.intro hi (And.intro hz0 (And.intro hz1 hz2)))
  have hbl : b < w.heap.size := lt_of_cell hc
  have C1 : (w.alloc (.cells #[] 3)).cell? ⟨b, 0, none⟩ = some (.iface 3 (.int .i64 5)) := by rw [World.cell?_alloc_past _ _ _ hbl]; exact hc
  have HW1 : Hid (Below w.heap.size w (w.alloc (.cells #[] 3))) := (Below.refl _ _).alloc (Nat.le_refl _) _
  have HO0 : Hid ((w.alloc (.cells #[] 3)).ownsRow w.heap.size 3 1 (.slice (some ⟨w.heap.size, 0, none⟩) 0 0) 0 []) := World.ownsRow_made w #[] 0 (Nat.le_refl _) (by unfold maxLen; omega) rfl
  clear hi hz0 hz1 hz2 hc
  have HBL := Lib.hid hbl
  clear hbl
  go_enter Try.func116, Try.ntmps116
  go_wp2_with fail
  go_loopw [4, 12] (fun l i wr => (i = .int .i64 0 ∧ l = .slice (some ⟨w.heap.size, 0, none⟩) 0 0 ∧ wr = w.alloc (.cells #[] 3)) ∨ (i = .int .i64 1 ∧ Hid (∃ g' c', l = .slice (some ⟨g', 0, none⟩) 1 c' ∧ Below w.heap.size w wr ∧ wr.cell? ⟨g', 0, none⟩ = some (.int .i64 5) ∧ 1 ≤ c'))) (fun _ i _ => 1 - (intOf i).toNat)
  case atStart => exact .inl ⟨rfl, rfl, rfl⟩
  case round =>
    rcases hrel with ⟨rfl, rfl, rfl⟩ | ⟨rfl, h⟩
    · have HN : Hid (∀ (m : Nat) (u : Value), [Value.int .i64 5][m]? = some u → ((w.alloc (.cells #[] 3)).alloc (.cells #[Value.int .i64 5] 3)).cell? ((⟨(w.alloc (.cells #[] 3)).heap.size, 0, none⟩ : Addr).add m) = some u) := fun m u hm => by
        rw [add_none]
        exact cell_at_block (heap_alloc_new (w.alloc (.cells #[] 3)) (.cells #[Value.int .i64 5] 3)) m u (by simpa using hm)
      have HO1 : Hid (∀ u ∈ [Value.int .i64 5], u.oneCell' = true) := fun u hu => by
        rw [List.mem_singleton.1 hu]
        rfl
      have H63 : Hid (0 + 1 ≤ maxLen) := by show _ ≤ _; unfold maxLen; omega
      have HBY : Hid ((0 + 1) * 8 ≤ 140737488355328) := by show _ ≤ _; omega
      have HBS : Hid (w.heap.size ≤ ((w.alloc (.cells #[] 3)).alloc (.cells #[Value.int .i64 5] 3)).heap.size) := by show _ ≤ _; simp; omega
      have HOWN : Hid (((w.alloc (.cells #[] 3)).alloc (.cells #[Value.int .i64 5] 3)).ownsRow w.heap.size 3 1 (.slice (some ⟨w.heap.size, 0, none⟩) 0 0) 0 []) := HO0.out.alloc _
      simp only [World.size_alloc] at HN
      go_wp2_with (at_builtin; refine wpList_append_block _ rfl _ _ 22 rfl w.heap.size 3 i0 (.int .i64 0) 1 8 Try.underlying22 HI.out.1 HI.out.2.1 HI.out.2.2.1 HI.out.2.2.2 rfl (by decide) _ 0 [] rfl HOWN.out ⟨w.heap.size + 1, 0, none⟩ 1 1 _ rfl (by decide) rfl HN.out HO1.out H63.out HBY.out HBS.out ?_; intro v' w6 hown hgrow hv hvn)
      rcases hown.2 with ⟨rfl, h⟩ | ⟨g', cap, cur, rfl, hbg, hg, hn, hm', hcs, htake⟩
      · omega
      · have hcell : w6.cell? ⟨g', 0, none⟩ = some (.int .i64 5) := by
          have := hown.cells (g := g') rfl 0 (.int .i64 5) rfl
          rwa [add_none] at this
        have hB : Below w.heap.size w w6 := by
          refine ⟨hgrow.os, hgrow.tape, hgrow.output, by have := hgrow.size; simp only [World.size_alloc] at this; omega, fun k hk => ?_⟩
          refine (hgrow.block k (by simp only [World.size_alloc]; omega) (fun e => by have e2 : k = w.heap.size := Option.some.inj e; omega)).trans ?_
          rw [Below.heap_alloc _ _ _ (by simp only [World.size_alloc]; omega), Below.heap_alloc _ _ _ hk]
        have HR := Lib.hid (And.intro hB (And.intro hcell (show 1 ≤ cap by omega)))
        clear hown hgrow hv hvn hbg hg hn hm' hcs htake hcell hB
        go_roundw
        case rel => exact .inr ⟨rfl, ⟨_, _, rfl, HR.out⟩⟩
        case measure => simp [intOf]
    · obtain ⟨g', c', rfl, hB, hcl, hc1⟩ := h.out
      have HB := Lib.hid hB
      have HC := Lib.hid hcl
      have HC1 := Lib.hid hc1
      clear hB hcl h hc1
      go_wp2_with fail
      go_ret2
      exact ⟨g', c', rfl, HB.out, HC.out, HC1.out⟩

set_option maxHeartbeats 1000000 in
set_option maxRecDepth 100000 in
/-- 'zzOf[int]' at one int. -/
theorem zzof_lit (g c : Nat) (w : World) (hc : w.cell? ⟨g, 0, none⟩ = some (.int .i64 5)) (hcc : 1 ≤ c) :
    Calls Try.prog 126 #[.slice (some ⟨g, 0, none⟩) 1 c] w (fun e w' => e = .returned (.slice (some ⟨w.heap.size, 0, none⟩) 1 1) ∧ w' = w.alloc (.cells #[Value.iface 3 (.int .i64 5)] 20)) := by
  obtain ⟨i0, hi, hz0, hz1, hz2⟩ := info_parts info20
  have hmk : ∀ w : World, (Instr.makeSlice 87 (.int .i64 1) (.int .i64 1)).run Try.prog w = .ok (.slice (some ⟨w.heap.size, 0, none⟩) 1 1) (w.alloc (.cells #[.nilIface] 20)) := fun w => by
    have h := run_make (P := Try.prog) w 87 20 i0 .nilIface Try.underlying87 hi hz0 .i64 .i64 1 1 (by omega) (by omega) (by rw [hz2]; omega) (by omega)
    rw [hz1] at h
    have e : madeCells Value.nilIface.cells (Int.toNat 1 * 1) = #[Value.nilIface] := by kernel_rfl
    rw [e] at h
    exact h
  have hbl : g < w.heap.size := lt_of_cell hc
  have C1 : (w.alloc (.cells #[.nilIface] 20)).cell? ⟨g, 0, none⟩ = some (.int .i64 5) := by rw [World.cell?_alloc_past _ _ _ hbl]; exact hc
  clear hi hz0 hz1 hz2 hc hbl
  go_enter Try.func126, Try.ntmps126
  go_wp2_with fail
  go_loopw [10] (fun i wr => (i = .int .i64 0 ∧ wr = w.alloc (.cells #[.nilIface] 20)) ∨ (i = .int .i64 1 ∧ wr = w.alloc (.cells #[Value.iface 3 (.int .i64 5)] 20))) (fun i _ => 1 - (intOf i).toNat)
  case atStart => exact .inl ⟨rfl, rfl⟩
  case round =>
    rcases hrel with ⟨rfl, rfl⟩ | ⟨rfl, rfl⟩
    · go_wp2_with fail
      go_roundw
      case rel => exact .inr ⟨rfl, trivial⟩
      case measure => simp [intOf]
    · clear C1
      go_wp2_with fail
      go_ret
      exact ⟨rfl, rfl⟩

set_option maxHeartbeats 1000000 in
set_option maxRecDepth 100000 in
theorem items_lit (g c : Nat) (w : World) (hc : w.cell? ⟨g, 0, none⟩ = some (.int .i64 5)) (hcc : 1 ≤ c) :
    Calls Try.prog 109 #[.iface 22 (.slice (some ⟨g, 0, none⟩) 1 c)] w (fun e w' => e = .returned (.tuple #[.slice (some ⟨w.heap.size, 0, none⟩) 1 1, .bool true]) ∧ w' = w.alloc (.cells #[Value.iface 3 (.int .i64 5)] 20)) := by
  have H := Lib.hid (zzof_lit g c w hc hcc)
  clear hc
  go_enter Try.func109, Try.ntmps109
  go_wp2_with fail
  refine Calls.mono (by exact H.out) ?_
  rintro e w1 ⟨rfl, rfl⟩
  go_wp2_with fail
  go_ret2
  exact ⟨rfl, rfl⟩

/-- What 'runtime.Fetch' has there. -/
def Fetch5 (w : World) (e : Ending) (w' : World) : Prop := e = .returned (.iface 3 (.int .i64 5)) ∧ Below w.heap.size w w'

set_option maxHeartbeats 1000000 in
set_option maxRecDepth 100000 in
theorem fetch_lit (g c : Nat) (w : World) (hc : w.cell? ⟨g, 0, none⟩ = some (.int .i64 5)) (hcc : 1 ≤ c) :
    Calls Try.prog 73 #[.iface 22 (.slice (some ⟨g, 0, none⟩) 1 c), .iface 3 (.int .i64 (-1))] w (Fetch5 w) := by
  have H := Lib.hid (items_lit g c w hc hcc)
  have H2 := Lib.hid (toi_int (-1))
  have HB : Hid (Below w.heap.size w (w.alloc (.cells #[Value.iface 3 (.int .i64 5)] 20))) := (Below.refl _ _).alloc (Nat.le_refl _) _
  have C1 := cell_at_block (heap_alloc_new w (.cells #[Value.iface 3 (.int .i64 5)] 20)) 0 _ rfl
  clear hc
  go_enter Try.func73, Try.ntmps73
  go_wp2_with fail
  refine Calls.mono (by exact H.out) ?_
  rintro e w1 ⟨rfl, rfl⟩
  go_wp2_with fail
  refine Calls.mono (by exact H2.out _) ?_
  rintro e w1 ⟨rfl, rfl⟩
  go_wp2_with fail
  go_ret
  exact ⟨rfl, HB.out⟩

/-- The whole number 5. -/
def five : SV := .mk 1 5 0 ⟨#[]⟩ false none 0 [] none 0 []
/-- It returned the list [5] of ints. -/
def GivesLit (q : Nat) (w : World) (e : Ending) (w' : World) : Prop :=
  ∃ g c, e = .returned (.tuple #[.iface 22 (.slice (some ⟨g, 0, none⟩) 1 c), .bool true]) ∧ ButAt q w w' ∧ w'.cell? ⟨g, 0, none⟩ = some (.int .i64 5) ∧ 1 ≤ c

theorem five_plain : SV.Plain five := SV.plain_small (SV.ok_mk ⟨by decide, by decide, fun _ => rfl, fun _ => rfl, fun h => absurd h (by decide)⟩ (fun i y hy => by cases hy)) (n := 1) ⟨by decide, fin_zero, fun i y hy => (by cases hy), fun i s hs => (by cases hs)⟩ (by decide)
theorem five_door : five.door = .agg #[.int .i64 1, .int .i64 5, .int .u64 0, .float .f64 0, .string ⟨#[]⟩, .bool false, .slice none 0 0, .slice none 0 0] := rfl
theorem five_any {w : World} {B : Nat → Prop} {a : Value} (h : AnyOf w B five a) : a = .iface 3 (.int .i64 5) := by
  cases h with
  | plain _ _ => rfl
  | list _ p c A hk => exact absurd hk (by decide)
  | map _ b es clock A hk => exact absurd hk (by decide)

set_option maxHeartbeats 1000000 in
set_option maxRecDepth 100000 in
theorem given2_lit (w : World) (b q : Nat) (hbq : b ≠ q) (hb : w.heap[b]? = some (.cells #[Value.int .i64 1, .int .i64 5, .int .u64 0, .float .f64 0, .string ⟨#[]⟩, .bool false, .slice none 0 0, .slice none 0 0] 35 (0, 0))) (m lv : Int) (hm : 10 ≤ m) (hm2 : m ≤ 100000) (hlv : 5 ≤ lv) (hlv2 : lv ≤ 1000) (hcnt : Counter w q m) :
    Calls Try.prog 98 #[.agg #[.int .i64 16, .int .i64 0, .int .u64 0, .float .f64 0, .string ⟨#[]⟩, .bool false, .slice none 0 0, .slice (some ⟨b, 0, none⟩) 1 1], .int .i64 lv, .pointer (some ⟨q, 0, none⟩)] w (GivesLit q w) := by
  obtain ⟨b0, b1, b2, b3, b4, b5, b6, b7⟩ := eight hb
  have hqw := hcnt.lt
  have hbw := lt_of_block hb
  have c0 : (w.alloc (.cells #[Value.int .i64 16, .int .i64 0, .int .u64 0, .float .f64 0, .string ⟨#[]⟩, .bool false, .slice none 0 0, .slice (some ⟨b, 0, none⟩) 1 1] 35)).cell? ⟨q, 0, none⟩ = some (.int .i64 m) := by
    rw [World.cell?_alloc_past _ _ _ hcnt.lt]; exact cell_of_one hcnt
  have f0 : (w.alloc (.cells #[Value.int .i64 16, .int .i64 0, .int .u64 0, .float .f64 0, .string ⟨#[]⟩, .bool false, .slice none 0 0, .slice (some ⟨b, 0, none⟩) 1 1] 35)).frozen? ⟨q, 0, none⟩ = false := by
    rw [World.frozen?_alloc_old _ _ _ (by have := hcnt.lt; simp; omega)]; exact free_of_one hcnt
  have hq : ¬ q = w.heap.size := by omega
  have hq' : ¬ w.heap.size = q := by omega
  have hm1 : 0 ≤ m - 1 := by omega
  have hm3 : 1 ≤ m := by omega
  obtain ⟨i0, hi, hz0, hz1, hz2⟩ := info_parts info20
  have HI := Lib.hid (And.intro hi (And.intro hz0 (And.intro hz1 hz2)))
  have G0 : Hid (ButAt q w ((w.alloc (.cells #[Value.int .i64 16, .int .i64 0, .int .u64 0, .float .f64 0, .string ⟨#[]⟩, .bool false, .slice none 0 0, .slice (some ⟨b, 0, none⟩) 1 1] 35)).setCell ⟨q, 0, none⟩ (.int .i64 (m - 1))) ∧
      Counter ((w.alloc (.cells #[Value.int .i64 16, .int .i64 0, .int .u64 0, .float .f64 0, .string ⟨#[]⟩, .bool false, .slice none 0 0, .slice (some ⟨b, 0, none⟩) 1 1] 35)).setCell ⟨q, 0, none⟩ (.int .i64 (m - 1))) q (m - 1) ∧
      ((w.alloc (.cells #[Value.int .i64 16, .int .i64 0, .int .u64 0, .float .f64 0, .string ⟨#[]⟩, .bool false, .slice none 0 0, .slice (some ⟨b, 0, none⟩) 1 1] 35)).setCell ⟨q, 0, none⟩ (.int .i64 (m - 1))).heap[b]? = some (.cells #[Value.int .i64 1, .int .i64 5, .int .u64 0, .float .f64 0, .string ⟨#[]⟩, .bool false, .slice none 0 0, .slice none 0 0] 35 (0, 0)) ∧
      ((w.alloc (.cells #[Value.int .i64 16, .int .i64 0, .int .u64 0, .float .f64 0, .string ⟨#[]⟩, .bool false, .slice none 0 0, .slice (some ⟨b, 0, none⟩) 1 1] 35)).setCell ⟨q, 0, none⟩ (.int .i64 (m - 1))).heap[w.heap.size]? = some (.cells #[Value.int .i64 16, .int .i64 0, .int .u64 0, .float .f64 0, .string ⟨#[]⟩, .bool false, .slice none 0 0, .slice (some ⟨b, 0, none⟩) 1 1] 35 (0, 0))) := by
    refine ⟨(ButAt.alloc _ _).trans (ButAt.setCell _ ⟨q, 0, none⟩ rfl _), one_setCell (v := .int .i64 m) (u := .int .i64 (m - 1)) (Counter.later hcnt ((Below.refl _ _).alloc (Nat.le_refl _) _) hcnt.lt), ?_, ?_⟩
    · rw [setCell_block _ _ _ hbq, Below.heap_alloc _ _ _ hbw]
      exact hb
    · rw [setCell_block _ _ _ hq']; exact heap_alloc_new _ _
  have HBQ : Hid (b ≠ q) := hbq
  have HQ : Hid (q ≠ w.heap.size) := hq
  clear hi hz0 hz1 hz2 hcnt hb b0 b1 b2 b3 b4 b5 b6 b7 hqw hbw hbq
  go_enter Try.func98, Try.ntmps98
  go_wp2_with fail
  clear c0 f0
  obtain ⟨W1, hW1⟩ : ∃ W1, W1 = ((w.alloc (.cells #[Value.int .i64 16, .int .i64 0, .int .u64 0, .float .f64 0, .string ⟨#[]⟩, .bool false, .slice none 0 0, .slice (some ⟨b, 0, none⟩) 1 1] 35)).setCell ⟨q, 0, none⟩ (.int .i64 (m - 1))) := ⟨_, rfl⟩
  rw [← hW1] at G0 ⊢
  clear hW1 hq hq'
  go_loopw [8, 53] (fun l i wr => (i = .int .i64 0 ∧ l = .slice none 0 0 ∧ wr = W1) ∨ (i = .int .i64 1 ∧ Hid (∃ g' c', l = .slice (some ⟨g', 0, none⟩) 1 c' ∧ ButAt q w wr ∧ wr.heap[w.heap.size]? = some (.cells #[Value.int .i64 16, .int .i64 0, .int .u64 0, .float .f64 0, .string ⟨#[]⟩, .bool false, .slice none 0 0, .slice (some ⟨b, 0, none⟩) 1 1] 35 (0, 0)) ∧ wr.cell? ⟨g', 0, none⟩ = some (.iface 3 (.int .i64 5)) ∧ 1 ≤ c'))) (fun _ i _ => 1 - (intOf i).toNat)
  case atStart => exact .inl ⟨rfl, rfl, rfl⟩
  case round =>
    rcases hrel with ⟨rfl, rfl, rfl⟩ | ⟨rfl, h⟩
    · obtain ⟨g1, g2, g3, g4⟩ := G0.out
      obtain ⟨b0, b1, b2, b3, b4, b5, b6, b7⟩ := eight g3
      have HWA : Hid (Below wr.heap.size wr (wr.alloc (.cells #[Value.int .i64 1, .int .i64 5, .int .u64 0, .float .f64 0, .string ⟨#[]⟩, .bool false, .slice none 0 0, .slice none 0 0] 35))) := (Below.refl _ _).alloc (Nat.le_refl _) _
      have HC := Lib.hid (given2_plainc five five_plain q (m - 1) (lv - 1) (by omega) (by omega) (by omega) _ (Counter.later g2 HWA.out g2.lt))
      rw [five_door] at HC
      have HG1 := Lib.hid g1
      have HG4 := Lib.hid g4
      clear g1 g2 g3 g4
      go_wp2_with fail
      refine Calls.mono (by exact HC.out) ?_
      rintro e w5 ⟨a, rfl, hb5, hc5, ha5⟩
      have ea := five_any ha5
      subst ea
      have HB5 := Lib.hid hb5
      clear hb5 hc5 ha5 HC b0 b1 b2 b3 b4 b5 b6 b7
      have HN : Hid (∀ (m : Nat) (u : Value), [Value.iface 3 (.int .i64 5)][m]? = some u → (w5.alloc (.cells #[Value.iface 3 (.int .i64 5)] 20)).cell? ((⟨w5.heap.size, 0, none⟩ : Addr).add m) = some u) := fun m u hm => by
        rw [add_none]
        exact cell_at_block (heap_alloc_new w5 (.cells #[Value.iface 3 (.int .i64 5)] 20)) m u (by simpa using hm)
      have HO1 : Hid (∀ u ∈ [Value.iface 3 (.int .i64 5)], u.oneCell' = true) := fun u hu => by
        rw [List.mem_singleton.1 hu]
        rfl
      have H63 : Hid (0 + 1 ≤ maxLen) := by show _ ≤ _; unfold maxLen; omega
      have HBY : Hid ((0 + 1) * 16 ≤ 140737488355328) := by show _ ≤ _; omega
      have HBS : Hid (w5.heap.size ≤ (w5.alloc (.cells #[Value.iface 3 (.int .i64 5)] 20)).heap.size) := by show _ ≤ _; simp
      have HOWN : Hid ((w5.alloc (.cells #[Value.iface 3 (.int .i64 5)] 20)).ownsRow w5.heap.size 20 1 (.slice none 0 0) 0 []) := World.ownsRow_nil _ _ _ _
      go_wp2_with (at_builtin; refine wpList_append_block _ rfl _ _ 87 rfl w5.heap.size 20 i0 .nilIface 1 16 Try.underlying87 HI.out.1 HI.out.2.1 HI.out.2.2.1 HI.out.2.2.2 rfl (by decide) _ 0 [] rfl HOWN.out ⟨w5.heap.size, 0, none⟩ 1 1 _ rfl (by decide) rfl HN.out HO1.out H63.out HBY.out HBS.out ?_; intro v' w6 hown hgrow hv hvn)
      rcases hown.2 with ⟨rfl, h⟩ | ⟨g', cap, cur, rfl, hbg, hg, hn, hm', hcs, htake⟩
      · omega
      · have hcell : w6.cell? ⟨g', 0, none⟩ = some (.iface 3 (.int .i64 5)) := by
          have := hown.cells (g := g') rfl 0 (.iface 3 (.int .i64 5)) rfl
          rwa [add_none] at this
        have hB6 : Below w5.heap.size w5 w6 := by
          refine ⟨hgrow.os, hgrow.tape, hgrow.output, by have := hgrow.size; simp only [World.size_alloc] at this; omega, fun k hk => ?_⟩
          refine (hgrow.block k (by simp only [World.size_alloc]; omega) (by intro e; cases e)).trans ?_
          rw [Below.heap_alloc _ _ _ hk]
        have hBA := (HG1.out.trans (ButAt.of_below HWA.out)).trans (HB5.out.trans (ButAt.of_below hB6))
        have h16 : w6.heap[w.heap.size]? = some (.cells #[Value.int .i64 16, .int .i64 0, .int .u64 0, .float .f64 0, .string ⟨#[]⟩, .bool false, .slice none 0 0, .slice (some ⟨b, 0, none⟩) 1 1] 35 (0, 0)) := by
          have l1 := lt_of_block HG4.out
          have l2 := HWA.out.size
          have l3 := HB5.out.size
          rw [hB6.block _ (by omega), HB5.out.block _ (by omega) (fun e => HQ.out e.symm), HWA.out.block _ l1]
          exact HG4.out
        have HR := Lib.hid (And.intro hBA (And.intro h16 (And.intro hcell (show 1 ≤ cap by omega))))
        clear hown hgrow hv hvn hbg hg hn hm' hcs htake hcell hB6 hBA h16
        go_roundw
        case rel => exact .inr ⟨rfl, ⟨_, _, rfl, HR.out⟩⟩
        case measure => simp [intOf]
    · obtain ⟨g', c', rfl, hB, h16, hcl, hc1⟩ := h.out
      have HB := Lib.hid hB
      have HC1 := Lib.hid hc1
      have HC := Lib.hid (cast_lit g' c' wr hcl hc1)
      have k0 : wr.cell? ⟨w.heap.size, 0, none⟩ = some (.int .i64 16) := cell_at_block h16 0 _ rfl
      clear hB h hc1 hcl h16
      go_wp2_with fail
      refine Calls.mono (by exact HC.out) ?_
      rintro e w6 ⟨g2, c2, rfl, hb2, hcell, hcc⟩
      have HB2 := Lib.hid hb2
      have HCE := Lib.hid hcell
      have HCC := Lib.hid hcc
      clear hb2 hcell hcc k0
      go_wp2_with fail
      go_ret2
      exact ⟨g2, c2, rfl, HB.out.trans (ButAt.of_below HB2.out), HCE.out, HCC.out⟩

/-- It returned the list [5] of ints, and made new memory alone. -/
def GivesLitB (w : World) (e : Ending) (w' : World) : Prop :=
  ∃ a g c, e = .returned (.tuple #[a, .bool true]) ∧ a = .iface 22 (.slice (some ⟨g, 0, none⟩) 1 c) ∧ Below w.heap.size w w' ∧ w'.cell? ⟨g, 0, none⟩ = some (.int .i64 5) ∧ 1 ≤ c

set_option maxHeartbeats 400000 in
set_option maxRecDepth 100000 in
theorem given_lit (w : World) (b : Nat) (hb : w.heap[b]? = some (.cells #[Value.int .i64 1, .int .i64 5, .int .u64 0, .float .f64 0, .string ⟨#[]⟩, .bool false, .slice none 0 0, .slice none 0 0] 35 (0, 0))) :
    Calls Try.prog 49 #[.agg #[.int .i64 16, .int .i64 0, .int .u64 0, .float .f64 0, .string ⟨#[]⟩, .bool false, .slice none 0 0, .slice (some ⟨b, 0, none⟩) 1 1]] w (GivesLitB w) := by
  have W2 := ((Below.refl w.heap.size w).alloc (Nat.le_refl _) (.cells #[Value.int .i64 16, .int .i64 0, .int .u64 0, .float .f64 0, .string ⟨#[]⟩, .bool false, .slice none 0 0, .slice (some ⟨b, 0, none⟩) 1 1] 35)).alloc (by simp) (.cells #[Value.int .i64 3000] 3)
  have hbl := lt_of_block hb
  have HG := Lib.hid (given2_lit ((w.alloc (.cells #[Value.int .i64 16, .int .i64 0, .int .u64 0, .float .f64 0, .string ⟨#[]⟩, .bool false, .slice none 0 0, .slice (some ⟨b, 0, none⟩) 1 1] 35)).alloc (.cells #[Value.int .i64 3000] 3)) b (w.heap.size + 1) (by omega) ((W2.block b hbl).trans hb) 3000 30 (by omega) (by omega) (by omega) (by omega) (by
      have h := heap_alloc_new (w.alloc (.cells #[Value.int .i64 16, .int .i64 0, .int .u64 0, .float .f64 0, .string ⟨#[]⟩, .bool false, .slice none 0 0, .slice (some ⟨b, 0, none⟩) 1 1] 35)) (.cells #[Value.int .i64 3000] 3)
      rw [World.size_alloc] at h
      exact h))
  clear W2 hb hbl
  go_enter Try.func49, Try.ntmps49
  go_wp2_with fail
  refine Calls.mono (by exact HG.out) ?_
  rintro e w1 ⟨g, c, rfl, hb, hc, hcc⟩
  have hB : Hid (Below w.heap.size w w1) := (((Below.refl _ _).alloc (Nat.le_refl _) _).alloc (by simp) _).trans (hb.below (by omega) (by simp; omega))
  have HC := Lib.hid hc
  have HCC := Lib.hid hcc
  clear hb hc hcc HG
  go_wp2_with fail
  go_ret2
  exact ⟨_, g, c, rfl, rfl, hB.out, HC.out, HCC.out⟩
end Go.Proofs.Ythmogfjmngbamaa
