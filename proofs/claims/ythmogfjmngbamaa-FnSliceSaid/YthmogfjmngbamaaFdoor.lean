/-
  'runtime.Fetch' and the door 'impl.Fetch' at lists with whole numbers and maps with texts.
-/
import Derived.Test.YthmogfjmngbamaaFet
import Derived.Test.YthmogfjmngbamaaGiven
namespace Go.Proofs.Ythmogfjmngbamaa
open Go.RowKit
set_option linter.unusedSimpArgs false
set_option linter.unusedVariables false

/-- What the closure leaves: the zero value, and fault 2. -/
structure CaughtF (b1 b2 : Nat) (w w' : World) : Prop where
  one : w'.heap[b1]? = some (.cells #[Value.int .i64 0, .int .i64 0, .int .u64 0, .float .f64 0, .string ⟨#[]⟩, .bool false, .slice none 0 0, .slice none 0 0] 35 (0, 0))
  two : w'.heap[b2]? = some (.cells #[Value.int .i64 2] 3 (0, 0))
  below : ∀ B, B ≤ b1 → B ≤ b2 → B ≤ w.heap.size → Below B w w'
theorem CaughtF.of {b1 b2 : Nat} {v2 : Value} {w : World} (h12 : b1 ≠ b2)
    (hb1 : w.heap[b1]? = some (.cells #[Value.int .i64 0, .int .i64 0, .int .u64 0, .float .f64 0, .string ⟨#[]⟩, .bool false, .slice none 0 0, .slice none 0 0] 35 (0, 0)))
    (hb2 : w.heap[b2]? = some (.cells #[v2] 3 (0, 0))) :
    CaughtF b1 b2 w (((store8 w b1 (.int .i64 0) (.int .i64 0) (.int .u64 0) (.float .f64 0) (.string ⟨#[]⟩) (.bool false) (.slice none 0 0) (.slice none 0 0)).setCell ⟨b2, 0, none⟩ (.int .i64 2)).alloc (.cells #[] 63)) := by
  have l1 := lt_of_block hb1
  have l2 := lt_of_block hb2
  refine ⟨?_, ?_, fun B h1 h2 h3 => ((store8_below _ _ _ _ _ _ _ _ (Below.refl B w) h1).setCell h2 _).alloc (by simp only [World.size_setCell, store8_size]; exact h3) _⟩
  · rw [Below.heap_alloc _ _ _ (by simp only [World.size_setCell, store8_size]; exact l1), Below.heap_setCell _ _ _ _ h12]
    exact store8_at _ _ _ _ _ _ _ _ hb1
  · rw [Below.heap_alloc _ _ _ (by simp only [World.size_setCell, store8_size]; exact l2)]
    exact one_setCell (v := v2) (by rw [store8_other _ _ _ _ _ _ _ _ (fun h => h12 h.symm)]; exact hb2)

set_option maxHeartbeats 4000000 in
set_option maxRecDepth 100000 in
theorem fetch_idle (p q : Addr) (w : World) :
    CallsD Try.prog 72 #[.pointer (some p), .pointer (some q)] .returning w fun e u' w' => e = .returned (.tuple #[]) ∧ u' = .returning ∧ w' = w := by
  refine callsD_of_wpS Try.func72 rfl fun c₀ cs hu => ?_
  apply wpS_seq
  apply wpS_region
  simp [wpOpsS, go_sem, recoverD, hu, Try.ntmps72, Exit.thenS]
  refine wpS_of_wp ?_
  go_wp2_with fail
  cases c₀
  simp_all [bodyPostS, results, Try.results72]

set_option maxHeartbeats 4000000 in
set_option maxRecDepth 100000 in
theorem fetch_caught (b1 b2 : Nat) (v2 : Value) (t : TypeId) (ht : (t = 63) = False) (s : ByteArray) (older : List PanicEntry) (w : World) (h12 : b1 ≠ b2)
   (hb1 : w.heap[b1]? = some (.cells #[Value.int .i64 0, .int .i64 0, .int .u64 0, .float .f64 0, .string ⟨#[]⟩, .bool false, .slice none 0 0, .slice none 0 0] 35 (0, 0)))
   (hc2 : w.cell? ⟨b2, 0, none⟩ = some v2) (hz2 : w.frozen? ⟨b2, 0, none⟩ = false) :
    CallsD Try.prog 72 #[.pointer (some ⟨b1, 0, none⟩), .pointer (some ⟨b2, 0, none⟩)] (.panicking ({ v := .iface t (.string s), recovered := false } :: older)) w fun e u' w' =>
      e = .returned (.tuple #[]) ∧ u' = .panicking ({ v := .iface t (.string s), recovered := true } :: older) ∧ w' = ((store8 w b1 (.int .i64 0) (.int .i64 0) (.int .u64 0) (.float .f64 0) (.string ⟨#[]⟩) (.bool false) (.slice none 0 0) (.slice none 0 0)).setCell ⟨b2, 0, none⟩ (.int .i64 2)).alloc (.cells #[] 63) := by
  obtain ⟨a0, a1, a2, a3, a4, a5, a6, a7⟩ := eight hb1
  have z0 := free_block hb1
  clear hb1
  have h21 : ¬ b2 = b1 := fun h => h12 h.symm
  unfold store8
  refine callsD_of_wpS Try.func72 rfl fun c₀ cs hu => ?_
  simp only [Try.ntmps72, List.size_toArray, List.length_cons, List.length_nil, Nat.reduceAdd, Nat.reduceSub, Array.replicate_succ,
     Array.replicate_zero, List.push_toArray, List.append_toArray, List.nil_append, List.cons_append]
  apply wpS_seq
  apply wpS_region
  simp [wpOpsS, go_sem, recoverD, hu, Exit.thenS]
  refine wpS_of_wp ?_
  go_wp2_with fail
  simp [bodyPostS, results, Try.results72]
theorem fetch_catch (b1 b2 : Nat) (v2 : Value) (t : TypeId) (ht : (t = 63) = False) (s : ByteArray) (older : List PanicEntry) (w : World) (h12 : b1 ≠ b2)
   (hb1 : w.heap[b1]? = some (.cells #[Value.int .i64 0, .int .i64 0, .int .u64 0, .float .f64 0, .string ⟨#[]⟩, .bool false, .slice none 0 0, .slice none 0 0] 35 (0, 0)))
   (hb2 : w.heap[b2]? = some (.cells #[v2] 3 (0, 0))) :
    CallsD Try.prog 72 #[.pointer (some ⟨b1, 0, none⟩), .pointer (some ⟨b2, 0, none⟩)] (.panicking ({ v := .iface t (.string s), recovered := false } :: older)) w fun e u' w' =>
      e = .returned (.tuple #[]) ∧ u' = .panicking ({ v := .iface t (.string s), recovered := true } :: older) ∧ CaughtF b1 b2 w w' := by
  refine (fetch_caught b1 b2 v2 t ht s older w h12 hb1 (cell_of_one hb2) (free_of_one hb2)).mono ?_
  rintro e u' w' ⟨rfl, rfl, rfl⟩
  exact ⟨rfl, rfl, CaughtF.of h12 hb1 hb2⟩


theorem five_blocks {w w1 : World} {o0 o1 o2 o3 : Obj} (hb : Below ((((w.alloc o0).alloc o1).alloc o2).alloc o3).heap.size ((((w.alloc o0).alloc o1).alloc o2).alloc o3) w1) :
    w1.heap[w.heap.size + 1]? = some o1 ∧ w1.heap[w.heap.size + 1 + 1]? = some o2 ∧ w1.heap[w.heap.size + 1 + 1 + 1]? = some o3 ∧ w.heap.size + 4 ≤ w1.heap.size := by
  have h1 := heap_alloc_new (w.alloc o0) o1
  have h2 := heap_alloc_new ((w.alloc o0).alloc o1) o2
  have h3 := heap_alloc_new (((w.alloc o0).alloc o1).alloc o2) o3
  simp only [World.size_alloc] at h1 h2 h3 hb
  refine ⟨?_, ?_, ?_, ?_⟩
  · rw [hb.block _ (by omega), Below.heap_alloc _ _ _ (by simp only [World.size_alloc]; omega), Below.heap_alloc _ _ _ (by simp only [World.size_alloc]; omega)]; exact h1
  · rw [hb.block _ (by omega), Below.heap_alloc _ _ _ (by simp only [World.size_alloc]; omega)]; exact h2
  · rw [hb.block _ (by omega)]; exact h3
  · have := hb.size; simp only [World.size_alloc] at this; omega

theorem DoorOf.later' {w w' : World} {B : Nat → Prop} {x : SV} {d : Dv} (h : DoorOf w B x d) (hB : ∀ b, B b → b < w.heap.size) (hb : Below w.heap.size w w') : DoorOf w' B x d :=
  h.keep (fun b h => hb.block b (hB b h)) (fun _ h => h)

/-- Nil. -/
def noV : SV := .mk 0 0 0 ⟨#[]⟩ false none 0 [] none 0 []
theorem noV_ok : SV.Ok noV := SV.ok_mk ⟨by decide, by decide, fun _ => rfl, fun _ => rfl, fun h => absurd h (by decide)⟩ (fun i y hy => by cases hy)
theorem noV_parts : noV.parts ≤ 200 := by decide
theorem noV_small : SV.Small 10 noV := ⟨by decide, fin_zero, fun i y hy => (by cases hy), fun i s hs => (by cases hs)⟩

/-- What a value has at another one. -/
def fetO (x y : SV) : Option SV := if x.kind = 5 then atI x.items y.int else some (((keyIdx x.keys y.text).bind fun m => x.items[m]?).getD noV)

/-- A list and a whole number, or a map and a text, such as the doors take. -/
structure Pair (x y : SV) : Prop where
  ok : SV.Ok x
  parts : x.parts ≤ 200
  small : SV.Small 10 x
  oky : SV.Ok y
  partsy : y.parts ≤ 200
  smally : SV.Small 10 y
  int : -9223372036854775808 ≤ y.int ∧ y.int ≤ 9223372036854775807
  way : x.kind = 5 ∧ y.kind = 1 ∨ x.kind = 6 ∧ y.kind = 3

theorem fetO_ok {x y z : SV} (h : Pair x y) (hz : fetO x y = some z) : SV.Ok z ∧ z.parts ≤ 200 ∧ ∃ n, SV.Small n z := by
  have item : ∀ (i : Nat), x.items[i]? = some z → SV.Ok z ∧ z.parts ≤ 200 ∧ ∃ n, SV.Small n z := fun i hi => ⟨SV.ok_item h.ok hi, by have := SV.parts_item hi; have := h.parts; omega, 9, SV.small_item h.small hi⟩
  unfold fetO at hz
  rcases h.way with ⟨h5, _⟩ | ⟨h6, _⟩
  · rw [if_pos h5] at hz
    unfold atI at hz
    split at hz
    · exact item _ hz
    · cases hz
  · rw [if_neg (by omega)] at hz
    cases hx : keyIdx x.keys y.text with
    | none =>
      rw [hx] at hz
      have hz' : noV = z := by simpa using hz
      subst hz'
      exact ⟨noV_ok, noV_parts, 10, noV_small⟩
    | some m =>
      rw [hx] at hz
      cases hm : x.items[m]? with
      | none =>
        simp only [Option.bind_some, hm] at hz
        have hz' : noV = z := by simpa using hz
        subst hz'
        exact ⟨noV_ok, noV_parts, 10, noV_small⟩
      | some u =>
        simp only [Option.bind_some, hm] at hz
        cases hz
        exact item m hm

/-- It returned what stands there, or it panicked. -/
def Fetched (o : Option SV) (w : World) (B : Nat → Prop) (e : Ending) (w' : World) : Prop :=
  w = w' ∧ match o with
    | some z => ∃ c, e = .returned c ∧ AnyOf w B z c
    | none => e = .panicked [{ v := .iface 9 (.string outOf), recovered := false }]

theorem fetch_any {x y : SV} {a b : Value} {w : World} {B B' : Nat → Prop} (ha : AnyOf w B x a) (hb : AnyOf w B' y b) (h : Pair x y) : Calls Try.prog 73 #[a, b] w (Fetched (fetO x y) w B) := by
  have hln := SV.items_parts x
  have hp := h.parts
  have hby : b = y.any := by
    cases hb with
    | plain _ _ => rfl
    | list _ p c A hk => rcases h.way with ⟨_, g⟩ | ⟨_, g⟩ <;> omega
    | map _ b es clock A hk => rcases h.way with ⟨_, g⟩ | ⟨_, g⟩ <;> omega
  subst hby
  unfold fetO
  rcases h.way with ⟨h5, h1⟩ | ⟨h6, h3⟩
  · have hany : y.any = .iface 3 (.int .i64 y.int) := by simp [SV.any, h1]
    rw [hany, if_pos h5]
    cases ha with
    | plain _ hk => omega
    | map _ b es clock A hk => omega
    | list _ p c A hk hc hcell hsub =>
      unfold atI
      by_cases hin : 0 ≤ idxI x.items.length y.int ∧ idxI x.items.length y.int < x.items.length
      · rw [if_pos hin]
        obtain ⟨k, hk2⟩ : ∃ k : Nat, idxI x.items.length y.int = k := ⟨(idxI x.items.length y.int).toNat, by omega⟩
        have hkn : k < x.items.length := by omega
        have hz : x.items[k]? = some x.items[k] := List.getElem?_eq_getElem hkn
        rw [hk2, Int.toNat_natCast, hz]
        obtain ⟨b, o, hpp, hBb, hcs⟩ := hcell k _ hz
        have hcc : w.cell? ⟨b, o + k, none⟩ = some (A k) := by have := hcs 0 _ rfl; simpa using this
        refine (fetch_in p x.items.length c y.int k (A k) w (by omega) hc.1 h.int hk2 hkn b o (by simpa using hpp) hcc).mono ?_
        rintro e w' ⟨rfl, rfl⟩
        exact ⟨rfl, A k, rfl, hsub k _ hz⟩
      · rw [if_neg hin]
        refine (fetch_out p x.items.length c y.int w (by omega) h.int hin).mono ?_
        rintro e w' ⟨rfl, rfl⟩
        exact ⟨rfl, rfl⟩
  · have hany : y.any = .iface 9 (.string y.text) := by simp [SV.any, h3]
    rw [hany, if_neg (by omega)]
    cases ha with
    | plain _ hk => omega
    | list _ p c A hk => omega
    | map _ b es clock A hk hkl hBb hm hs hent hsub =>
      refine (fetch_map hm x.keys (ents_keys' (by rw [hkl]; exact hs.1) hent) y.text).mono ?_
      rintro e w' ⟨rfl, rfl⟩
      refine ⟨rfl, _, rfl, ?_⟩
      cases hx : keyIdx x.keys y.text with
      | none => exact .plain noV ⟨by decide, by decide⟩
      | some m =>
        have hkm := keyIdx_some hx
        have hmi : m < x.items.length := by have := (List.getElem?_eq_some_iff.1 hkm).1; omega
        obtain ⟨t, ht⟩ := hent m _ hkm
        simp only [Option.bind_some, Array.getElem?_toList, ht, Option.map_some, Option.getD_some, List.getElem?_eq_getElem hmi]
        exact hsub m _ (List.getElem?_eq_getElem hmi)

/-- What a door that tells a value or a fault returns. -/
def FetchRes (o : Option SV) (w : World) (e : Ending) (w' : World) : Prop :=
  Below w.heap.size w w' ∧ match o with
    | some z => ∃ (r : Dv) (v : SV), e = .returned (.tuple #[r.val, .int .i64 0]) ∧ DoorOf w' (betw w.heap.size w'.heap.size) v r ∧ Like v z
    | none => e = .returned (.tuple #[.agg #[Value.int .i64 0, .int .i64 0, .int .u64 0, .float .f64 0, .string ⟨#[]⟩, .bool false, .slice none 0 0, .slice none 0 0], .int .i64 2])

set_option maxHeartbeats 4000000 in
set_option maxRecDepth 100000 in
/-- 'impl.Fetch'. -/
theorem implFetch (x y : SV) (w : World) (B B2 : Nat → Prop) (d d2 : Dv) (hB : ∀ b, B b → b < w.heap.size) (hB2 : ∀ b, B2 b → b < w.heap.size) (hd : DoorOf w B x d) (hd2 : DoorOf w B2 y d2) (h : Pair x y) :
    Calls Try.prog 31 #[d.val, d2.val] w (FetchRes (fetO x y) w) := by
  have HP := Lib.hid h
  have HOK := Lib.hid (fun z => @fetO_ok x y z h)
  have W4 := ((((Below.refl w.heap.size w).alloc (Nat.le_refl _) (.cells d.cells.toArray 35)).alloc (by simp) (.cells d2.cells.toArray 35)).alloc (by simp; omega) (.cells #[Value.int .i64 0, .int .i64 0, .int .u64 0, .float .f64 0, .string ⟨#[]⟩, .bool false, .slice none 0 0, .slice none 0 0] 35)).alloc (by simp; omega) (.cells #[Value.int .i64 0] 3)
  have G1 := Lib.hid (fun w' (h' : Below w.heap.size w w') => given_any x w' B d (fun b hb => by have := hB b hb; have := h'.size; omega) (hd.later' hB h') h.ok h.parts h.small)
  have G2 := Lib.hid (fun w' (h' : Below w.heap.size w w') => given_any y w' B2 d2 (fun b hb => by have := hB2 b hb; have := h'.size; omega) (hd2.later' hB2 h') h.oky h.partsy h.smally)
  have HW4 := Lib.hid W4
  have HEQ := Lib.hid (fun a b w B B' (hx : AnyOf w B x a) (hy : AnyOf w B' y b) => @fetch_any x y a b w B B' hx hy h)
  have hmf : ∀ (fn : Fn) (first cap : Array Value) (w : World), (Instr.makeFunc fn first cap).run Try.prog w = .ok (.func fn first cap) w := fun _ _ _ _ => rfl
  generalize fetO x y = res at *
  clear W4 hB hB2 hd hd2 h
  unfold Dv.val at G1 G2
  unfold Dv.cells at HW4
  unfold Dv.val
  go_enter_defers Try.func31, Try.ntmps31
  go_wp2_with fail
  refine Calls.mono (by exact G1.out _ HW4.out) ?_
  rintro e w1 ⟨a, rfl, hb, ha⟩
  obtain ⟨k1, k2, k3, hsz⟩ := five_blocks hb
  have K1 := Lib.hid k1
  have K2 := Lib.hid k2
  have K3 := Lib.hid k3
  have B1 := Lib.hid (HW4.out.trans (hb.mono HW4.out.size))
  have HA := Lib.hid ha
  have HSZ := Lib.hid hsz
  clear hb k1 k2 k3 ha hsz HW4 G1
  obtain ⟨a0, a1, a2, a3, a4, a5, a6, a7⟩ := eight K1.out
  go_wp2_with fail
  refine Calls.mono (by exact G2.out _ B1.out) ?_
  rintro e w2 ⟨c, rfl, hb, hc⟩
  have K2' := Lib.hid ((hb.block _ (lt_of_block K2.out)).trans K2.out)
  have K3' := Lib.hid ((hb.block _ (lt_of_block K3.out)).trans K3.out)
  have B2' := Lib.hid (B1.out.trans (hb.mono B1.out.size))
  have HR := Lib.hid (HEQ.out a c w2 (fun b => b < w2.heap.size) (fun b => b < w2.heap.size) (HA.out.keep (fun b h => hb.block b h.2) (fun b h => by have := h.2; have := hb.size; omega)) (hc.keep (fun _ _ => rfl) (fun b h => h.2)))
  have HSZ2 : Hid (w.heap.size + 4 ≤ w2.heap.size) := Nat.le_trans HSZ.out hb.size
  clear hb hc HA K1 K2 K3 B1 a0 a1 a2 a3 a4 a5 a6 a7 G2 HEQ HSZ
  go_wp2_with fail
  refine Calls.mono (by exact HR.out) ?_
  rintro e w3 ⟨rfl, ho⟩
  clear HR
  cases res with
  | some z =>
    obtain ⟨cz, rfl, hcz⟩ := ho
    obtain ⟨zok, zp, zn, zs⟩ := HOK.out z rfl
    have HT := Lib.hid (told_any z zn w2 (fun b => b < w2.heap.size) cz (fun _ h => h) hcz zok zp zs)
    clear hcz zok zp zs HOK HP
    go_wp2_with fail
    refine Calls.mono (by exact HT.out) ?_
    rintro e w4 ⟨r, v, rfl, hb, hdv, hlk⟩
    have k2 := (hb.block _ (lt_of_block K2'.out)).trans K2'.out
    have k3 := (hb.block _ (lt_of_block K3'.out)).trans K3'.out
    have HB4 := Lib.hid (B2'.out.trans (hb.mono B2'.out.size))
    have HDV := Lib.hid hdv
    have HLK := Lib.hid hlk
    have HW3 := Lib.hid (lt_of_block k3)
    obtain ⟨a0, a1, a2, a3, a4, a5, a6, a7⟩ := eight k2
    have z0 := free_block k2
    have o1 := cell_of_one k3
    have z1 := free_of_one k3
    clear hb k2 k3 K2' K3' B2' hdv hlk HT
    unfold Dv.val
    go_wp2_with fail
    refine leaves_cons (f := 72) (args := #[.pointer (some ⟨w.heap.size + 1 + 1, 0, none⟩), .pointer (some ⟨w.heap.size + 1 + 1 + 1, 0, none⟩)]) (by simp) (by simp [go_sem]) ?_
    refine (fetch_idle ⟨w.heap.size + 1 + 1, 0, none⟩ ⟨w.heap.size + 1 + 1 + 1, 0, none⟩ _).mono ?_
    rintro e u' w'' ⟨rfl, rfl, rfl⟩
    have hB : Below w.heap.size w ((store8 w4 (w.heap.size + 1 + 1) (.int .i64 r.k) (.int .i64 r.n) (.int .u64 0) (.float .f64 r.f) (.string r.t) (.bool r.b) (.slice r.kp r.kl r.kc) (.slice r.ip r.il r.ic)).setCell ⟨w.heap.size + 1 + 1 + 1, 0, none⟩ (.int .i64 0)) :=
      (store8_below _ _ _ _ _ _ _ _ HB4.out (by omega)).setCell (by simp; omega) _
    have hdo : DoorOf ((store8 w4 (w.heap.size + 1 + 1) (.int .i64 r.k) (.int .i64 r.n) (.int .u64 0) (.float .f64 r.f) (.string r.t) (.bool r.b) (.slice r.kp r.kl r.kc) (.slice r.ip r.il r.ic)).setCell ⟨w.heap.size + 1 + 1 + 1, 0, none⟩ (.int .i64 0)) (betw w.heap.size ((store8 w4 (w.heap.size + 1 + 1) (.int .i64 r.k) (.int .i64 r.n) (.int .u64 0) (.float .f64 r.f) (.string r.t) (.bool r.b) (.slice r.kp r.kl r.kc) (.slice r.ip r.il r.ic)).setCell ⟨w.heap.size + 1 + 1 + 1, 0, none⟩ (.int .i64 0)).heap.size) v r := by
      refine HDV.out.keep (fun b hB => ?_) (fun b hB => ⟨by have := hB.1; have := HSZ2.out; omega, by rw [size_setCell, store8_size]; exact hB.2⟩)
      have h1 := hB.1
      have h2 := HSZ2.out
      rw [setCell_block _ _ _ (by simp; omega), store8_other _ _ _ _ _ _ _ _ (by omega)]
    have hG : FetchRes (some z) w (.returned (.tuple #[r.val, .int .i64 0])) _ := ⟨hB, r, v, rfl, hdo, HLK.out⟩
    unfold store8 Dv.val at hG
    simp [Leaves, settle, results, Try.results31, go_sem, a0, a1, a2, a3, a4, a5, a6, a7, o1, hG]
  | none =>
    have ho' := ho
    subst ho'
    clear ho HOK HP
    go_wp2_with fail
    refine leaves_cons (f := 72) (args := #[.pointer (some ⟨w.heap.size + 1 + 1, 0, none⟩), .pointer (some ⟨w.heap.size + 1 + 1 + 1, 0, none⟩)]) (by simp) (by simp [go_sem]) ?_
    refine (fetch_catch (w.heap.size + 1 + 1) (w.heap.size + 1 + 1 + 1) _ 9 (by decide) _ _ _ (by omega) K2'.out K3'.out).mono ?_
    rintro e u' w'' ⟨rfl, rfl, hC⟩
    have hB : Below w.heap.size w w'' := B2'.out.trans (hC.below _ (by omega) (by omega) (by have := HSZ2.out; omega))
    have q8 := cell_of_one hC.two
    obtain ⟨q0, q1, q2, q3, q4, q5, q6, q7⟩ := eight hC.one
    have hG : FetchRes none w (.returned (.tuple #[.agg #[Value.int .i64 0, .int .i64 0, .int .u64 0, .float .f64 0, .string ⟨#[]⟩, .bool false, .slice none 0 0, .slice none 0 0], .int .i64 2])) w'' := ⟨hB, rfl⟩
    clear hC K2' K3' B2' hmf
    simp [Leaves, settle, results, Try.results31, go_sem, q0, q1, q2, q3, q4, q5, q6, q7, q8, hG]
end Go.Proofs.Ythmogfjmngbamaa

