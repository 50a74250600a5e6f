/-
  The part of a list as a value; the door 'impl.Slice' at lists and places.
-/
import Derived.Test.YthmogfjmngbamaaCupart
import Derived.Test.YthmogfjmngbamaaGiven
namespace Go.Proofs.Ythmogfjmngbamaa
open Go.RowKit
set_option linter.unusedSimpArgs false
set_option linter.unusedVariables false

set_option maxHeartbeats 4000000 in
set_option maxRecDepth 100000 in
theorem slice_idle (p q : Addr) (w : World) :
    CallsD Try.prog 77 #[.pointer (some p), .pointer (some q)] .returning w fun e u' w' => e = .returned (.tuple #[]) ∧ u' = .returning ∧ w' = w := by
  refine callsD_of_wpS Try.func77 rfl fun c₀ cs hu => ?_
  apply wpS_seq
  apply wpS_region
  simp [wpOpsS, go_sem, recoverD, hu, Try.ntmps77, Exit.thenS]
  refine wpS_of_wp ?_
  go_wp2_with fail
  cases c₀
  simp_all [bodyPostS, results, Try.results77]


theorem hiI_le (n : Nat) (b : Int) : hiI n b ≤ n := by unfold hiI; (repeat' split) <;> omega
theorem loI_le (n : Nat) (a b : Int) : loI n a b ≤ hiI n b := by unfold loI; split <;> omega

/-- The part's beginning lies behind its end. -/
def Gap (x : SV) (a b : Int) : Prop := (if idxI x.items.length b < x.items.length then idxI x.items.length b else x.items.length) < (if 0 < idxI x.items.length a then idxI x.items.length a else 0)
theorem partV_gap {x : SV} {a b : Int} (h : Gap x a b) : partV x a b = .mk 5 0 0 ⟨#[]⟩ false none 0 [] none 0 [] := if_pos h
theorem partV_not {x : SV} {a b : Int} (h : ¬ Gap x a b) : partV x a b = .mk 5 0 0 ⟨#[]⟩ false (slO x.ip x.ic (loI x.items.length a b) 7) (x.ic - loI x.items.length a b) ((x.items.drop (loI x.items.length a b)).take (hiI x.items.length b - loI x.items.length a b)) none 0 [] := if_neg h
theorem gap_empty {x : SV} {a b : Int} (h : Gap x a b) : hiI x.items.length b - loI x.items.length a b = 0 := by
  unfold Gap at h
  unfold loI hiI
  (repeat' split at h) <;> (repeat' split) <;> omega
theorem partV_kind (x : SV) (a b : Int) : (partV x a b).kind = 5 ∧ (partV x a b).keys = [] ∧ (partV x a b).text = ⟨#[]⟩ ∧ (partV x a b).fl = 0 ∧ (partV x a b).int = 0 := by
  rcases Classical.em (Gap x a b) with h | h
  · rw [partV_gap h]; exact ⟨rfl, rfl, rfl, rfl, rfl⟩
  · rw [partV_not h]; exact ⟨rfl, rfl, rfl, rfl, rfl⟩
theorem partV_items (x : SV) (a b : Int) : (partV x a b).items = (x.items.drop (loI x.items.length a b)).take (hiI x.items.length b - loI x.items.length a b) := by
  rcases Classical.em (Gap x a b) with h | h
  · rw [partV_gap h, gap_empty h]; rfl
  · rw [partV_not h]; rfl
theorem partV_get {x y : SV} {a b : Int} {i : Nat} (h : (partV x a b).items[i]? = some y) : x.items[loI x.items.length a b + i]? = some y ∧ loI x.items.length a b + i < x.items.length := by
  rw [partV_items, List.getElem?_take] at h
  split at h
  · rw [List.getElem?_drop] at h
    exact ⟨h, (List.getElem?_eq_some_iff.1 h).1⟩
  · cases h
theorem partV_length (x : SV) (a b : Int) : (partV x a b).items.length = hiI x.items.length b - loI x.items.length a b := by
  rw [partV_items]
  have := hiI_le x.items.length b
  simp
  omega
theorem partsAll_drop : ∀ (l : List SV) (j : Nat), SV.partsAll (l.drop j) ≤ SV.partsAll l := by
  intro l
  induction l with
  | nil => intro j; simp
  | cons x r ih =>
    intro j
    cases j with
    | zero => simp
    | succ j =>
      have := ih j
      simp only [List.drop_succ_cons, SV.partsAll]
      omega
theorem partV_ok {x : SV} (a b : Int) (h : SV.Ok x) (hp : x.parts ≤ 200) (hs : SV.Small 10 x) : SV.Ok (partV x a b) ∧ (partV x a b).parts ≤ 200 ∧ SV.Small 10 (partV x a b) := by
  obtain ⟨k1, k2, k3, k4, k5⟩ := partV_kind x a b
  refine ⟨SV.ok_mk ⟨by omega, by omega, fun h => by omega, fun _ => k2, fun h => by omega⟩ (fun i y hy => SV.ok_item h (partV_get hy).1), ?_, ⟨by rw [k3]; decide, by rw [k4]; exact fin_zero, fun i y hy => SV.small_item hs (partV_get hy).1, fun i s hks => by rw [k2] at hks; cases hks⟩⟩
  rw [SV.parts_eq, partV_items]
  rw [SV.parts_eq] at hp
  have h1 := SV.partsAll_le (x.items.drop (loI x.items.length a b)) (hiI x.items.length b - loI x.items.length a b)
  have h2 := partsAll_drop x.items (loI x.items.length a b)
  omega

theorem add_off (b o j : Nat) : (⟨b, o, none⟩ : Addr).add j = ⟨b, o + j, none⟩ := by unfold Addr.add; split <;> simp_all

theorem partV_in {x : SV} {w : World} (a b : Int) (h : SV.In w x) : SV.In w (partV x a b) := by
  obtain ⟨k1, k2, k3, k4, k5⟩ := partV_kind x a b
  have hf := (SV.in_flat h).items
  have hl := partV_length x a b
  have h1 := hiI_le x.items.length b
  have h2 := loI_le x.items.length a b
  refine SV.in_mk ⟨by omega, by omega, by omega, by rw [k3]; decide, ?_, ?_, fun i s hs => by rw [k2] at hs; cases hs⟩ fun i y hy => ?_
  · rw [hl]
    rcases Classical.em (Gap x a b) with hg | hg
    · rw [partV_gap hg, gap_empty hg]
      exact ⟨Nat.le_refl 0, by decide⟩
    · rw [partV_not hg]
      show _ ≤ x.ic - loI x.items.length a b ∧ x.ic - loI x.items.length a b ≤ _
      omega
  · rcases Classical.em (Gap x a b) with hg | hg
    · rw [partV_gap hg]
      exact ⟨Nat.le_refl 0, by decide⟩
    · rw [partV_not hg]
      exact ⟨Nat.le_refl 0, Nat.zero_le _⟩
  · obtain ⟨hy1, hy2⟩ := partV_get hy
    obtain ⟨hc, hi⟩ := SV.in_item h hy1
    refine ⟨?_, hi⟩
    obtain ⟨bb, o, hip, hcs⟩ := hc
    have e : (partV x a b).ip = some ⟨bb, o + loI x.items.length a b * 7, none⟩ := by
      have hlen := (List.getElem?_eq_some_iff.1 hy).1
      rcases Classical.em (Gap x a b) with hg | hg
      · rw [partV_gap hg] at hlen
        exact absurd hlen (Nat.not_lt_zero i)
      · rw [partV_not hg]
        show slO x.ip x.ic _ 7 = _
        unfold slO
        rw [if_neg (by omega), hip, Option.map_some, add_off]
    refine ⟨bb, o + loI x.items.length a b * 7, e, fun j u hj => ?_⟩
    have := hcs j u hj
    rw [show o + loI x.items.length a b * 7 + i * 7 + j = o + (loI x.items.length a b + i) * 7 + j by rw [Nat.add_mul]; omega]
    exact this

/-- The part of a list as Go's any. -/
theorem part_any {w : World} {B : Nat → Prop} {x : SV} {v : Value} (hk : x.kind = 5) (h : AnyOf w B x v) :
    ∃ (p : Addr) (c : Nat), v = .iface 87 (.slice (some p) x.items.length c) ∧ x.items.length ≤ c ∧ ∀ a b, AnyOf w B (partV x a b) (.iface 87 (.slice (some (slP p c (loI x.items.length a b) 1)) (hiI x.items.length b - loI x.items.length a b) (c - loI x.items.length a b))) := by
  cases h with
  | plain _ hk2 => omega
  | map _ b es clock A hk2 => omega
  | list _ p c A hk2 hc hcell hsub =>
    refine ⟨p, c, rfl, hc.1, fun a b => ?_⟩
    have h1 := hiI_le x.items.length b
    have h2 := loI_le x.items.length a b
    rw [← partV_length]
    refine .list _ _ _ (fun i => A (loI x.items.length a b + i)) (partV_kind x a b).1 ⟨by rw [partV_length]; omega, by omega⟩ (fun i y hy => ?_) (fun i y hy => hsub _ y (partV_get hy).1)
    obtain ⟨hy1, hy2⟩ := partV_get hy
    obtain ⟨bb, o, hp, hB, hcs⟩ := hcell _ y hy1
    have hp' : p = ⟨bb, o, none⟩ := by simpa using hp
    refine ⟨bb, o + loI x.items.length a b, ?_, hB, fun j u hj => ?_⟩
    · unfold slP
      rw [if_neg (by omega), hp', add_off, Nat.mul_one]
    · have := hcs j u hj
      rw [show o + loI x.items.length a b + i + j = o + (loI x.items.length a b + i) + j by omega]
      exact this

theorem six_blocks {w w1 : World} {o0 o1 o2 o3 o4 : Obj} (hb : Below (((((w.alloc o0).alloc o1).alloc o2).alloc o3).alloc o4).heap.size (((((w.alloc o0).alloc o1).alloc o2).alloc o3).alloc o4) w1) :
    w1.heap[w.heap.size + 1]? = some o1 ∧ w1.heap[w.heap.size + 1 + 1]? = some o2 ∧ w1.heap[w.heap.size + 1 + 1 + 1]? = some o3 ∧ w1.heap[w.heap.size + 1 + 1 + 1 + 1]? = some o4 ∧ w.heap.size + 5 ≤ w1.heap.size := by
  obtain ⟨h1, h2, h3, h4⟩ := five_blocks (w1 := (((((w.alloc o0).alloc o1).alloc o2).alloc o3).alloc o4)) ((Below.refl _ _).alloc (Nat.le_refl _) o4)
  have h5 := heap_alloc_new ((((w.alloc o0).alloc o1).alloc o2).alloc o3) o4
  have hs := hb.size
  have k : ∀ i, i < w.heap.size + 5 → w1.heap[i]? = (((((w.alloc o0).alloc o1).alloc o2).alloc o3).alloc o4).heap[i]? := fun i hi => hb.block i (by simp only [World.size_alloc]; omega)
  simp only [World.size_alloc] at h5 hs
  exact ⟨(k _ (by omega)).trans h1, (k _ (by omega)).trans h2, (k _ (by omega)).trans h3, (k _ (by omega)).trans h5, by omega⟩

/-- A whole number. -/
def intV (a : Int) : SV := .mk 1 a 0 ⟨#[]⟩ false none 0 [] none 0 []
theorem intV_plain (a : Int) : SV.Plain (intV a) := SV.plain_small (SV.ok_mk ⟨by show (0 : Int) ≤ 1; decide, by show (1 : Int) ≤ 6; decide, fun _ => rfl, fun _ => rfl, fun h => absurd (show (1 : Int) = 6 from h) (by decide)⟩ (fun i y hy => by cases hy)) (n := 1) ⟨by show (0 : Nat) ≤ 500; decide, fin_zero, fun i y hy => (by cases hy), fun i s hs => (by cases hs)⟩ (show (1 : Int) < 5 by decide)

set_option maxHeartbeats 4000000 in
set_option maxRecDepth 100000 in
/-- 'impl.Slice'. -/
theorem implSlice (x : SV) (a b : Int) (w : World) (B : Nat → Prop) (d : Dv) (hB : ∀ b, B b → b < w.heap.size) (hd : DoorOf w B x d) (hk : x.kind = 5) (hok : SV.Ok x) (hp : x.parts ≤ 200) (hs : SV.Small 10 x) (ra : -9223372036854775808 ≤ a ∧ a ≤ 9223372036854775807) (rb : -9223372036854775808 ≤ b ∧ b ≤ 9223372036854775807) :
    Calls Try.prog 34 #[d.val, .agg #[Value.int .i64 1, .int .i64 a, .int .u64 0, .float .f64 0, .string ⟨#[]⟩, .bool false, .slice none 0 0, .slice none 0 0], .agg #[Value.int .i64 1, .int .i64 b, .int .u64 0, .float .f64 0, .string ⟨#[]⟩, .bool false, .slice none 0 0, .slice none 0 0]] w (FetchRes (some (partV x a b)) w) := by
  have HOK := Lib.hid (partV_ok a b hok hp hs)
  have HLN : x.items.length ≤ 200 := by have := SV.items_parts x; omega
  have W5 := (((((Below.refl w.heap.size w).alloc (Nat.le_refl _) (.cells d.cells.toArray 35)).alloc (by simp) (.cells #[Value.int .i64 1, .int .i64 a, .int .u64 0, .float .f64 0, .string ⟨#[]⟩, .bool false, .slice none 0 0, .slice none 0 0] 35)).alloc (by simp; omega) (.cells #[Value.int .i64 1, .int .i64 b, .int .u64 0, .float .f64 0, .string ⟨#[]⟩, .bool false, .slice none 0 0, .slice none 0 0] 35)).alloc (by simp; omega) (.cells #[Value.int .i64 0, .int .i64 0, .int .u64 0, .float .f64 0, .string ⟨#[]⟩, .bool false, .slice none 0 0, .slice none 0 0] 35)).alloc (by simp; omega) (.cells #[Value.int .i64 0] 3)
  have G1 := Lib.hid (fun w' (h' : Below w.heap.size w w') => given_any x w' B d (fun b hb => by have := hB b hb; have := h'.size; omega) (hd.later' hB h') hok hp hs)
  have GA := Lib.hid (fun w' => given_plain (intV a) (intV_plain a) w')
  have GB := Lib.hid (fun w' => given_plain (intV b) (intV_plain b) w')
  have ea : (intV a).door = .agg #[Value.int .i64 1, .int .i64 a, .int .u64 0, .float .f64 0, .string ⟨#[]⟩, .bool false, .slice none 0 0, .slice none 0 0] := rfl
  have eb : (intV b).door = .agg #[Value.int .i64 1, .int .i64 b, .int .u64 0, .float .f64 0, .string ⟨#[]⟩, .bool false, .slice none 0 0, .slice none 0 0] := rfl
  have fa : (intV a).any = .iface 3 (.int .i64 a) := rfl
  have fb : (intV b).any = .iface 3 (.int .i64 b) := rfl
  rw [ea, fa] at GA
  rw [eb, fb] at GB
  have HW5 := Lib.hid W5
  have HSR := Lib.hid (fun (p : Addr) (c : Nat) (w : World) (hc : x.items.length ≤ c) => slice_run p x.items.length c a b w HLN hc ra rb)
  have HPA := Lib.hid (fun (v : Value) (w : World) (B : Nat → Prop) (h : AnyOf w B x v) => part_any hk h)
  have hmf : ∀ (fn : Fn) (first cap : Array Value) (w : World), (Instr.makeFunc fn first cap).run Try.prog w = .ok (.func fn first cap) w := fun _ _ _ _ => rfl
  clear W5 hB hd hok hp hs hk ra rb HLN ea eb fa fb
  unfold Dv.val at G1
  unfold Dv.cells at HW5
  unfold Dv.val
  go_enter_defers Try.func34, Try.ntmps34
  go_wp2_with fail
  refine Calls.mono (by exact G1.out _ HW5.out) ?_
  rintro e w1 ⟨v, rfl, hb, ha⟩
  obtain ⟨k1, k2, k3, k4, hsz⟩ := six_blocks hb
  have K1 := Lib.hid k1
  have K2 := Lib.hid k2
  have K3 := Lib.hid k3
  have K4 := Lib.hid k4
  have B1 := Lib.hid (HW5.out.trans (hb.mono HW5.out.size))
  have HA := Lib.hid ha
  have HSZ := Lib.hid hsz
  clear hb k1 k2 k3 k4 ha hsz HW5 G1
  obtain ⟨a0, a1, a2, a3, a4, a5, a6, a7⟩ := eight K1.out
  go_wp2_with fail
  refine Calls.mono (by exact GA.out _) ?_
  rintro e w2 ⟨rfl, hb⟩
  have L2 := Lib.hid ((hb.block _ (lt_of_block K2.out)).trans K2.out)
  have L3 := Lib.hid ((hb.block _ (lt_of_block K3.out)).trans K3.out)
  have L4 := Lib.hid ((hb.block _ (lt_of_block K4.out)).trans K4.out)
  have B2' := Lib.hid (B1.out.trans (hb.mono B1.out.size))
  have HA2 := Lib.hid (HA.out.keep (B' := fun b => b < w2.heap.size) (fun b h => hb.block b h.2) (fun b h => Nat.lt_of_lt_of_le h.2 hb.size))
  have HSZ2 : Hid (w.heap.size + 5 ≤ w2.heap.size) := Nat.le_trans HSZ.out hb.size
  clear hb K1 K2 K3 K4 B1 HA HSZ a0 a1 a2 a3 a4 a5 a6 a7 GA
  obtain ⟨a0, a1, a2, a3, a4, a5, a6, a7⟩ := eight L2.out
  go_wp2_with fail
  refine Calls.mono (by exact GB.out _) ?_
  rintro e w3 ⟨rfl, hb⟩
  have M3 := Lib.hid ((hb.block _ (lt_of_block L3.out)).trans L3.out)
  have M4 := Lib.hid ((hb.block _ (lt_of_block L4.out)).trans L4.out)
  have B3 := Lib.hid (B2'.out.trans (hb.mono B2'.out.size))
  have HA3 := Lib.hid (HA2.out.keep (B' := fun b => b < w3.heap.size) (fun b h => hb.block b h) (fun b h => Nat.lt_of_lt_of_le h hb.size))
  have HSZ3 : Hid (w.heap.size + 5 ≤ w3.heap.size) := Nat.le_trans HSZ2.out hb.size
  clear hb L2 L3 L4 B2' HA2 HSZ2 a0 a1 a2 a3 a4 a5 a6 a7 GB
  obtain ⟨p, c, rfl, hc, hpt⟩ := HPA.out _ _ _ HA3.out
  have HR := Lib.hid (HSR.out p c w3 hc)
  have HT := Lib.hid (told_any (partV x a b) 10 w3 (fun b => b < w3.heap.size) _ (fun _ h => h) (hpt a b) HOK.out.1 HOK.out.2.1 HOK.out.2.2)
  clear hpt hc HPA HSR HOK HA3
  go_wp2_with fail
  refine Calls.mono (by exact HR.out) ?_
  rintro e w3' ⟨rfl, rfl⟩
  clear HR
  go_wp2_with fail
  refine Calls.mono (by exact HT.out) ?_
  rintro e w4 ⟨r, v, rfl, hb, hdv, hlk⟩
  have k2 := (hb.block _ (lt_of_block M3.out)).trans M3.out
  have k3 := (hb.block _ (lt_of_block M4.out)).trans M4.out
  have HB4 := Lib.hid (B3.out.trans (hb.mono B3.out.size))
  have HDV := Lib.hid hdv
  have HLK := Lib.hid hlk
  have HW3 := Lib.hid (lt_of_block k3)
  obtain ⟨a0, a1, a2, a3, a4, a5, a6, a7⟩ := eight k2
  have z0 := free_block k2
  have o1 := cell_of_one k3
  have z1 := free_of_one k3
  clear hb k2 k3 M3 M4 B3 hdv hlk HT
  unfold Dv.val
  go_wp2_with fail
  refine leaves_cons (f := 77) (args := #[.pointer (some ⟨w.heap.size + 1 + 1 + 1, 0, none⟩), .pointer (some ⟨w.heap.size + 1 + 1 + 1 + 1, 0, none⟩)]) (by simp) (by simp [go_sem]) ?_
  refine (slice_idle ⟨w.heap.size + 1 + 1 + 1, 0, none⟩ ⟨w.heap.size + 1 + 1 + 1 + 1, 0, none⟩ _).mono ?_
  rintro e u' w'' ⟨rfl, rfl, rfl⟩
  have hB : Below w.heap.size w ((store8 w4 (w.heap.size + 1 + 1 + 1) (.int .i64 r.k) (.int .i64 r.n) (.int .u64 0) (.float .f64 r.f) (.string r.t) (.bool r.b) (.slice r.kp r.kl r.kc) (.slice r.ip r.il r.ic)).setCell ⟨w.heap.size + 1 + 1 + 1 + 1, 0, none⟩ (.int .i64 0)) :=
    (store8_below _ _ _ _ _ _ _ _ HB4.out (by omega)).setCell (by simp; omega) _
  have hdo : DoorOf ((store8 w4 (w.heap.size + 1 + 1 + 1) (.int .i64 r.k) (.int .i64 r.n) (.int .u64 0) (.float .f64 r.f) (.string r.t) (.bool r.b) (.slice r.kp r.kl r.kc) (.slice r.ip r.il r.ic)).setCell ⟨w.heap.size + 1 + 1 + 1 + 1, 0, none⟩ (.int .i64 0)) (betw w.heap.size ((store8 w4 (w.heap.size + 1 + 1 + 1) (.int .i64 r.k) (.int .i64 r.n) (.int .u64 0) (.float .f64 r.f) (.string r.t) (.bool r.b) (.slice r.kp r.kl r.kc) (.slice r.ip r.il r.ic)).setCell ⟨w.heap.size + 1 + 1 + 1 + 1, 0, none⟩ (.int .i64 0)).heap.size) v r := by
    refine HDV.out.keep (fun b hB => ?_) (fun b hB => ⟨by have := hB.1; have := HSZ3.out; omega, by rw [size_setCell, store8_size]; exact hB.2⟩)
    have h1 := hB.1
    have h2 := HSZ3.out
    rw [setCell_block _ _ _ (by simp; omega), store8_other _ _ _ _ _ _ _ _ (by omega)]
  have hG : FetchRes (some (partV x a b)) w (.returned (.tuple #[r.val, .int .i64 0])) _ := ⟨hB, r, v, rfl, hdo, HLK.out⟩
  unfold store8 Dv.val at hG
  simp [Leaves, settle, results, Try.results34, go_sem, a0, a1, a2, a3, a4, a5, a6, a7, o1, hG]
end Go.Proofs.Ythmogfjmngbamaa

