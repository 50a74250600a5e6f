/-
  'runtime.In' and the door 'impl.In' walked, and the plain law of being in a list or in a map.
-/
import Derived.Test.YthmogfjmngbamaaLookb
import Derived.Test.YthmogfjmngbamaaEqlaw
namespace Go.Proofs.Ythmogfjmngbamaa
open Go.RowKit Go.ChangeMaps
set_option linter.unusedSimpArgs false
set_option linter.unusedVariables false


set_option maxHeartbeats 1000000 in
set_option maxRecDepth 100000 in
theorem zzItems_list (p : Addr) (l c : Nat) (w : World) : Calls Try.prog 109 #[.iface 87 (.slice (some p) l c)] w (Tells (.tuple #[.slice (some p) l c, .bool true]) w) := by
  go_enter Try.func109, Try.ntmps109
  go_wp2_with fail
  go_ret2
  exact ⟨rfl, rfl⟩
set_option maxHeartbeats 1000000 in
set_option maxRecDepth 100000 in
theorem zzItems_map (b : Nat) (w : World) : Calls Try.prog 109 #[.iface 103 (.map (some b))] w (Tells (.tuple #[.slice none 0 0, .bool false]) w) := by
  go_enter Try.func109, Try.ntmps109
  go_wp2_with fail
  go_ret2
  exact ⟨rfl, rfl⟩
set_option maxHeartbeats 1000000 in
set_option maxRecDepth 100000 in
theorem zzList_list (p : Addr) (l c : Nat) (w : World) : Calls Try.prog 103 #[.iface 87 (.slice (some p) l c)] w (Tells (.tuple #[.slice (some p) l c, .bool true]) w) := by
  have H := Lib.hid (zzItems_list p l c)
  go_enter Try.func103, Try.ntmps103
  go_wp2_with fail
  refine Calls.mono (by exact H.out _) ?_
  rintro e w1 ⟨rfl, rfl⟩
  go_wp2_with fail
  go_ret2
  exact ⟨rfl, rfl⟩
set_option maxHeartbeats 1000000 in
set_option maxRecDepth 100000 in
theorem zzList_map (b : Nat) (w : World) : Calls Try.prog 103 #[.iface 103 (.map (some b))] w (Tells (.tuple #[.slice none 0 0, .bool false]) w) := by
  have H := Lib.hid (zzItems_map b)
  go_enter Try.func103, Try.ntmps103
  go_wp2_with fail
  refine Calls.mono (by exact H.out _) ?_
  rintro e w1 ⟨rfl, rfl⟩
  go_wp2_with fail
  go_ret2
  exact ⟨rfl, rfl⟩

set_option maxHeartbeats 1000000 in
set_option maxRecDepth 100000 in
theorem zzAt_map {w : World} {b : Nat} {es : Array MapEntry} {clock : Nat} (hb : w.heap[b]? = some (.map es clock)) (ks : List ByteArray) (hk : es.toList.map (·.key) = ks.map Value.string) (s : ByteArray) :
    Calls Try.prog 104 #[.iface 103 (.map (some b)), .iface 9 (.string s)] w
      (Tells (.tuple #[((keyIdx ks s).bind fun m => (es.toList[m]?).map (·.val)).getD .nilIface, .bool ((keyIdx ks s).bind fun m => es.toList[m]?).isSome, .bool true]) w) := by
  have hl := run_lookup_str hb ks hk s
  generalize ((keyIdx ks s).bind fun m => (es.toList[m]?).map (·.val)).getD .nilIface = v at *
  generalize ((keyIdx ks s).bind fun m => es.toList[m]?).isSome = r at *
  clear hb hk
  go_enter Try.func104, Try.ntmps104
  go_wp2_with fail
  refine bodyPost_ret (by simp [results, Try.results104, go_sem]) rfl ⟨rfl, rfl⟩

set_option maxHeartbeats 1000000 in
set_option maxRecDepth 100000 in
theorem in_nil (v : Value) (w : World) : Calls Try.prog 64 #[v, .nilIface] w (Tells (.bool false) w) := by
  go_enter Try.func64, Try.ntmps64
  go_wp2_with fail
  go_ret
  exact ⟨rfl, rfl⟩

set_option maxHeartbeats 1000000 in
set_option maxRecDepth 100000 in
theorem in_map {w : World} {b : Nat} {es : Array MapEntry} {clock : Nat} (hb : w.heap[b]? = some (.map es clock)) (ks : List ByteArray) (hk : es.toList.map (·.key) = ks.map Value.string) (s : ByteArray) :
    Calls Try.prog 64 #[.iface 9 (.string s), .iface 103 (.map (some b))] w (Tells (.bool (keyIdx ks s).isSome) w) := by
  have hs : ((keyIdx ks s).bind fun m => es.toList[m]?).isSome = (keyIdx ks s).isSome := by
    cases hx : keyIdx ks s with
    | none => rfl
    | some m =>
      have h1 := keyIdx_some hx
      have h2 : m < es.toList.length := by
        have := congrArg List.length hk
        rw [List.length_map, List.length_map] at this
        rw [this]
        exact (List.getElem?_eq_some_iff.1 h1).1
      simp only [Option.bind_some, List.getElem?_eq_getElem h2, Option.isSome_some]
  have HL := Lib.hid (zzList_map b)
  have HA := Lib.hid (zzAt_map hb ks hk s)
  rw [hs] at HA
  clear hs hb
  generalize ((keyIdx ks s).bind fun m => (es.toList[m]?).map (·.val)).getD .nilIface = v at *
  generalize (keyIdx ks s).isSome = r at *
  clear hk
  go_enter Try.func64, Try.ntmps64
  go_wp2_with fail
  refine Calls.mono (by exact HL.out _) ?_
  rintro e w1 ⟨rfl, rfl⟩
  go_wp2_with fail
  refine Calls.mono (by exact HA.out) ?_
  rintro e w1 ⟨rfl, rfl⟩
  go_wp2_with fail
  go_ret
  exact ⟨rfl, rfl⟩

/-- Is a plain value among others? -/
def inL (ys : List SV) (x : SV) : Bool := ys.any fun z => eqP z x
theorem inL_at {ys : List SV} {x : SV} (j : Nat) (Y : SV) (h : ys[j]? = some Y) (he : eqP Y x = true) : inL ys x = true :=
  List.any_eq_true.2 ⟨Y, List.mem_iff_getElem?.2 ⟨j, h⟩, he⟩
theorem inL_none {ys : List SV} {x : SV} (h : ∀ (j : Nat) (Y : SV), ys[j]? = some Y → eqP Y x = false) : inL ys x = false := by
  unfold inL
  rw [List.any_eq_false]
  intro Y hY
  obtain ⟨j, hj⟩ := List.mem_iff_getElem?.1 hY
  simp [h j Y hj]

set_option maxHeartbeats 1000000 in
set_option maxRecDepth 100000 in
theorem in_list {x y : SV} {b : Value} {w : World} {B : Nat → Prop} (hx : SV.Plain x) (hy : AnyOf w B y b) (hky : y.kind = 5) (hB : ∀ k, B k → k < w.heap.size) (hpy : ∀ z ∈ y.items, SV.Plain z) :
    Calls Try.prog 64 #[x.any, b] w (Gives (.bool (inL y.items x)) w) := by
  cases hy with
  | plain _ hk => omega
  | map _ b es clock A h _ _ _ _ _ _ => omega
  | list _ p c A hk hc hcell hsub =>
  have HA : Hid (∀ (j : Nat) (X : SV), y.items[j]? = some X → SV.Plain X ∧ ∃ b o, p = ⟨b, o, none⟩ ∧ b < w.heap.size ∧ w.cell? ⟨b, o + j, none⟩ = some X.any) := fun j X hX => by
    have hP := hpy X (List.mem_iff_getElem?.2 ⟨j, hX⟩)
    obtain ⟨b, o, hp, hb, hv⟩ := hcell j X hX
    have he := (hsub j X hX).plain_eq hP.kind.2
    exact ⟨hP, b, o, by simpa using hp, hB b hb, by have := hv 0 _ rfl; rw [he] at this; simpa using this⟩
  clear hcell hsub hpy hB hk hky
  obtain ⟨hc, hcm⟩ := hc
  have HL := Lib.hid (zzList_list p y.items.length c)
  have E2 := Lib.hid (@inL_at y.items x)
  have E3 := Lib.hid (@inL_none y.items x)
  have HEQ := Lib.hid (fun Y hY => equal_plain Y x hY hx)
  generalize inL y.items x = res at *
  obtain ⟨n, hn⟩ : ∃ n, n = y.items.length := ⟨_, rfl⟩
  rw [← hn] at hc HL ⊢
  have HN := Lib.hid hn
  clear hn hx
  generalize x.any = xa at *
  go_enter Try.func64, Try.ntmps64
  go_wp2_with fail
  refine Calls.mono (by exact HL.out _) ?_
  rintro e w1 ⟨rfl, rfl⟩
  go_wp2_with fail
  go_loopw [7] (fun i wr => ∃ j : Nat, j ≤ n ∧ i = .int .i64 j ∧ wr = w ∧ Hid (∀ (k : Nat) (Y : SV), k < j → y.items[k]? = some Y → eqP Y x = false)) (fun i _ => n - (intOf i).toNat)
  case atStart => exact ⟨0, Nat.zero_le _, rfl, rfl, fun k Y h => by omega⟩
  case round =>
    obtain ⟨j, hj, rfl, rfl, HE⟩ := hrel
    by_cases hlt : j < n
    · have hjy : j < y.items.length := by have := HN.out; omega
      have hY := List.getElem?_eq_getElem hjy
      obtain ⟨PY, b1, o1, rfl, hb1, c1⟩ := HA.out j _ hY
      have HY := Lib.hid hY
      clear hY
      generalize y.items[j] = Y at *
      clear hjy hb1
      have HC := Lib.hid (HEQ.out Y PY)
      have E2' := Lib.hid (E2.out _ _ HY.out)
      clear PY
      generalize Y.any = ya at *
      generalize hr : eqP Y x = r at *
      go_wp2_with fail
      refine Calls.mono (by exact HC.out _) ?_
      rintro e w2 ⟨rfl, rfl⟩
      cases r
      · have HR := Lib.hid hr
        clear hr
        go_wp2_with fail
        go_roundw
        case rel => exact ⟨j + 1, by omega, by go_num, trivial, fun k Y' hk hy' => by
          by_cases hkj : k = j
          · subst hkj
            rw [HY.out] at hy'
            cases hy'
            exact HR.out
          · exact HE.out k Y' (by omega) hy'⟩
        case measure => simp [intOf]; omega
      · have h0 := E2'.out rfl
        subst h0
        go_wp2_with fail
        go_ret
        exact ⟨rfl, Below.refl _ _⟩
    · have hjn : j = n := by omega
      have h0 := E3.out (fun k Y hY => HE.out k Y (by have := (List.getElem?_eq_some_iff.1 hY).1; have := HN.out; omega) hY)
      subst h0
      go_wp2_with fail
      go_ret
      exact ⟨rfl, Below.refl _ _⟩


/-- Is a value in another one? -/
def inV (x y : SV) : Bool := if y.kind = 5 then inL y.items x else if y.kind = 6 then (keyIdx y.keys x.text).isSome else false

/-- A needle, and a value that it is looked for in. -/
structure SV.Ind (x y : SV) : Prop where
  px : SV.Plain x
  ok : SV.Ok x
  parts : x.parts ≤ 200
  small : SV.Small 10 x
  oky : SV.Ok y
  partsy : y.parts ≤ 200
  smally : SV.Small 10 y
  way : y.kind = 0 ∨ (y.kind = 5 ∧ ∀ z ∈ y.items, SV.Plain z) ∨ (y.kind = 6 ∧ x.kind = 3)

theorem ents_keys {es : Array MapEntry} {keys : List ByteArray} {A : Nat → Value} (hs : es.size = keys.length) (hent : ∀ (i : Nat) (s : ByteArray), keys[i]? = some s → ∃ t, es[i]? = some (MapEntry.mk (Value.string s) (A i) t)) :
    es.toList.map (·.key) = keys.map Value.string := by
  refine List.ext_getElem? fun i => ?_
  rw [List.getElem?_map, List.getElem?_map, Array.getElem?_toList]
  cases hk : keys[i]? with
  | none =>
    have h1 := List.getElem?_eq_none_iff.1 hk
    rw [Array.getElem?_eq_none (by omega)]
    rfl
  | some s =>
    obtain ⟨t, ht⟩ := hent i s hk
    rw [ht]
    rfl

theorem in_any {x y : SV} {a b : Value} {w : World} {B B' : Nat → Prop} (hx : AnyOf w B x a) (hy : AnyOf w B' y b) (h : SV.Ind x y) (hB' : ∀ k, B' k → k < w.heap.size) : Calls Try.prog 64 #[a, b] w (Gives (.bool (inV x y)) w) := by
  rw [hx.plain_eq h.px.kind.2]
  unfold inV
  rcases h.way with h0 | ⟨h5, hp⟩ | ⟨h6, h3⟩
  · rw [hy.plain_eq (by omega), SV.any_0 h0, if_neg (by omega), if_neg (by omega)]
    exact gives_of_tells (in_nil _ w)
  · rw [if_pos h5]
    exact in_list h.px hy h5 hB' hp
  · rw [if_neg (by omega), if_pos h6, SV.any_3 h3]
    cases hy with
    | plain _ hk => omega
    | list _ p c A hk hc hcell hsub => omega
    | map _ b es clock A hk hl hb hm hs hent hsub =>
      exact gives_of_tells (in_map hm y.keys (ents_keys (by omega) hent) x.text)

set_option maxHeartbeats 4000000 in
set_option maxRecDepth 100000 in
theorem in_idle (p q : Addr) (w : World) :
    CallsD Try.prog 63 #[.pointer (some p), .pointer (some q)] .returning w fun e u' w' => e = .returned (.tuple #[]) ∧ u' = .returning ∧ w' = w := by
  refine callsD_of_wpS Try.func63 rfl fun c₀ cs hu => ?_
  apply wpS_seq
  apply wpS_region
  simp [wpOpsS, go_sem, recoverD, hu, Try.ntmps63, Exit.thenS]
  refine wpS_of_wp ?_
  go_wp2_with fail
  cases c₀
  simp_all [bodyPostS, results, Try.results63]

set_option maxHeartbeats 4000000 in
set_option maxRecDepth 100000 in
/-- 'impl.In'. -/
theorem implIn (x y : SV) (w : World) (B B2 : Nat → Prop) (d d2 : Dv) (hB : ∀ b, B b → b < w.heap.size) (hB2 : ∀ b, B2 b → b < w.heap.size) (hd : DoorOf w B x d) (hd2 : DoorOf w B2 y d2) (ex : SV.Ind x y) :
    Calls Try.prog 27 #[d.val, d2.val] w (Gives (.tuple #[.bool (inV x y), .int .i64 0]) w) := by
  have HEQ := Lib.hid (fun a b w B B' (hx : AnyOf w B x a) (hy : AnyOf w B' y b) (hB : ∀ k, B k → k < w.heap.size) (hB' : ∀ k, B' k → k < w.heap.size) => @in_any x y a b w B B' hx hy ex hB')
  have W4 := ((((Below.refl w.heap.size w).alloc (Nat.le_refl _) (.cells d.cells.toArray 35)).alloc (by simp) (.cells d2.cells.toArray 35)).alloc (by simp; omega) (.cells #[Value.bool false] 4)).alloc (by simp; omega) (.cells #[Value.int .i64 0] 3)
  have G1 := Lib.hid (fun w' (h : Below w.heap.size w w') => given_any x w' B d (fun b hb => by have := hB b hb; have := h.size; omega) (hd.later hB h) ex.ok ex.parts ex.small)
  have G2 := Lib.hid (fun w' (h : Below w.heap.size w w') => given_any y w' B2 d2 (fun b hb => by have := hB2 b hb; have := h.size; omega) (hd2.later hB2 h) ex.oky ex.partsy ex.smally)
  have HW4 := Lib.hid W4
  have hmf : ∀ (fn : Fn) (first cap : Array Value) (w : World), (Instr.makeFunc fn first cap).run Try.prog w = .ok (.func fn first cap) w := fun _ _ _ _ => rfl
  generalize inV x y = r at *
  clear W4 hB hB2 hd hd2 ex
  unfold Dv.val at G1 G2
  unfold Dv.cells at HW4
  unfold Dv.val
  go_enter_defers Try.func27, Try.ntmps27
  go_wp2_with fail
  refine Calls.mono (by exact G1.out _ HW4.out) ?_
  rintro e w1 ⟨a, rfl, hb, ha⟩
  obtain ⟨k1, k2, k3, hsz⟩ := quad_blocks hb
  have K1 := Lib.hid k1
  have K2 := Lib.hid k2
  have K3 := Lib.hid k3
  have B1 := Lib.hid (HW4.out.trans (hb.mono HW4.out.size))
  have HA := Lib.hid ha
  have HSZ := Lib.hid hsz
  clear hb k1 k2 k3 ha hsz HW4 G1
  obtain ⟨a0, a1, a2, a3, a4, a5, a6, a7⟩ := eight K1.out
  go_wp2_with fail
  refine Calls.mono (by exact G2.out _ B1.out) ?_
  rintro e w2 ⟨c, rfl, hb, hc⟩
  have K2' := Lib.hid ((hb.block _ (lt_of_block K2.out)).trans K2.out)
  have K3' := Lib.hid ((hb.block _ (lt_of_block K3.out)).trans K3.out)
  have B2' := Lib.hid (B1.out.trans (hb.mono B1.out.size))
  have HR := Lib.hid (HEQ.out a c w2 _ _ (HA.out.keep (fun b h => hb.block b h.2) (fun b h => h)) hc (fun k h => by have := h.2; have := hb.size; omega) (fun k h => h.2))
  have HSZ2 : Hid (w.heap.size + 4 ≤ w2.heap.size) := Nat.le_trans HSZ.out hb.size
  clear hb hc HA K1 K2 K3 B1 a0 a1 a2 a3 a4 a5 a6 a7 G2 HEQ HSZ
  go_wp2_with fail
  refine Calls.mono (by exact HR.out) ?_
  rintro e w3 ⟨rfl, hb⟩
  have K2 := Lib.hid ((hb.block _ (lt_of_block K2'.out)).trans K2'.out)
  have K3 := Lib.hid ((hb.block _ (lt_of_block K3'.out)).trans K3'.out)
  have B3 := Lib.hid (B2'.out.trans (hb.mono B2'.out.size))
  clear hb K2' K3' B2' HR
  have o1 := cell_of_one K2.out
  have o2 := cell_of_one K3.out
  have z1 := free_of_one K2.out
  have z2 := free_of_one K3.out
  have hs3 : w.heap.size + 3 < w3.heap.size := lt_of_block K3.out
  go_wp2_with fail
  refine leaves_cons (f := 63) (args := #[.pointer (some ⟨w.heap.size + 1 + 1, 0, none⟩), .pointer (some ⟨w.heap.size + 1 + 1 + 1, 0, none⟩)]) (by simp) (by simp [go_sem]) ?_
  refine (in_idle ⟨w.heap.size + 1 + 1, 0, none⟩ ⟨w.heap.size + 1 + 1 + 1, 0, none⟩ _).mono ?_
  rintro e u' w'' ⟨rfl, rfl, rfl⟩
  have hB : Below w.heap.size w ((w3.setCell ⟨w.heap.size + 1 + 1, 0, none⟩ (.bool r)).setCell ⟨w.heap.size + 1 + 1 + 1, 0, none⟩ (.int .i64 0)) := (B3.out.setCell (by simp <;> omega) _).setCell (by simp <;> omega) _
  have hG : Gives (.tuple #[.bool r, .int .i64 0]) w (.returned (.tuple #[.bool r, .int .i64 0])) _ := ⟨rfl, hB⟩
  simp [Leaves, settle, results, Try.results27, go_sem, o1, o2, hG]


theorem SV.Plain.ok {x : SV} (h : SV.Plain x) : SV.Ok x :=
  SV.ok_mk ⟨h.kind.1, by have := h.kind; omega, fun _ => h.items, fun _ => h.keys, fun h6 => by have := h.kind; omega⟩ (fun i y hy => by rw [h.items] at hy; simp at hy)
theorem SV.Plain.parts_le {x : SV} (h : SV.Plain x) : x.parts ≤ 200 := by rw [parts_plain h.items]; omega
theorem SV.Plain.small {x : SV} (h : SV.Plain x) : SV.Small 10 x :=
  ⟨h.text, h.fl, fun i y hy => by rw [h.items] at hy; simp at hy, fun i s hs => by rw [h.keys] at hs; simp at hs⟩
theorem SV.Plain.level {x : SV} (h : SV.Plain x) : SV.Level x := ⟨by have := h.kind; omega, fun m y hy => by rw [h.items] at hy; simp at hy⟩
theorem SV.Plain.eqd {x : SV} (h : SV.Plain x) : SV.Eqd x := ⟨h.ok, h.parts_le, h.small, h.level⟩
theorem eqV_plain {x y : SV} (hx : SV.Plain x) (hy : SV.Plain y) : eqV x y = eqP x y := by
  have := hx.kind
  have := hy.kind
  unfold eqV
  rw [if_neg (by omega), if_neg (by omega)]

/-- Is one of the first j elements equal to it? -/
def wantL (x : SV) (items : List SV) (j : Nat) : Bool := (items.take j).any fun z => eqP x z
theorem wantL_zero (x : SV) (items : List SV) : wantL x items 0 = false := by simp [wantL]
theorem wantL_succ (x : SV) {items : List SV} {j : Nat} {y : SV} (h : items[j]? = some y) : wantL x items (j + 1) = (wantL x items j || eqP x y) := by
  unfold wantL
  rw [List.take_add_one, h]
  simp
theorem wantL_all (x : SV) (items : List SV) : wantL x items items.length = inL items x := by
  unfold wantL inL
  rw [List.take_length]
  congr 1
  funext z
  exact eqP_symm x z

/-- Is one of the first j keys that text? -/
def wantK (s : ByteArray) (keys : List ByteArray) (j : Nat) : Bool := (keys.take j).any fun k => k == s
theorem wantK_zero (s : ByteArray) (keys : List ByteArray) : wantK s keys 0 = false := by simp [wantK]
theorem wantK_succ (s : ByteArray) {keys : List ByteArray} {j : Nat} {k : ByteArray} (h : keys[j]? = some k) : wantK s keys (j + 1) = (wantK s keys j || (k == s)) := by
  unfold wantK
  rw [List.take_add_one, h]
  simp
theorem keyIdx_any (s : ByteArray) : ∀ keys : List ByteArray, (keys.any fun k => k == s) = (keyIdx keys s).isSome := by
  intro keys
  induction keys with
  | nil => rfl
  | cons k r ih =>
    unfold keyIdx
    rw [List.any_cons, ih]
    by_cases h : s = k
    · rw [if_pos h, str_eq h.symm]; rfl
    · rw [if_neg h, str_ne (fun e => h e.symm)]
      cases keyIdx r s <;> rfl
theorem wantK_all (s : ByteArray) (keys : List ByteArray) : wantK s keys keys.length = (keyIdx keys s).isSome := by
  unfold wantK
  rw [List.take_length]
  exact keyIdx_any s keys

/-- Nil, the number 1, and the list of it. -/
def nilV : SV := .mk 0 0 0 ⟨#[]⟩ false none 0 [] none 0 []
def oneV : SV := .mk 1 1 0 ⟨#[]⟩ false none 0 [] none 0 []
def onesV : SV := .mk 5 0 0 ⟨#[]⟩ false none 0 [oneV] none 0 []
theorem nilV_plain : SV.Plain nilV := ⟨⟨by decide, by decide⟩, rfl, rfl, by decide, fin_zero⟩
theorem oneV_plain : SV.Plain oneV := ⟨⟨by decide, by decide⟩, rfl, rfl, by decide, fin_zero⟩
theorem onesV_item {i : Nat} {y : SV} (h : onesV.items[i]? = some y) : i = 0 ∧ y = oneV := by
  cases i with
  | zero => exact ⟨rfl, by cases h; rfl⟩
  | succ i => cases h
theorem onesV_ok : SV.Ok onesV := SV.ok_mk ⟨by decide, by decide, fun h => absurd h (by decide), fun _ => rfl, fun h => absurd h (by decide)⟩ (fun i y hy => by rw [(onesV_item hy).2]; exact oneV_plain.ok)
theorem ind_nil {x : SV} (hx : SV.Plain x) : SV.Ind x nilV := ⟨hx, hx.ok, hx.parts_le, hx.small, nilV_plain.ok, nilV_plain.parts_le, nilV_plain.small, .inl rfl⟩
theorem ind_ones : SV.Ind oneV onesV :=
  ⟨oneV_plain, oneV_plain.ok, oneV_plain.parts_le, oneV_plain.small, onesV_ok, by decide, ⟨by decide, fin_zero, fun i y hy => by rw [(onesV_item hy).2]; exact ⟨oneV_plain.text, oneV_plain.fl, fun i y hy => (by cases hy), fun i s hs => (by cases hs)⟩, fun i s hs => (by cases hs)⟩,
    .inr (.inl ⟨rfl, fun z hz => by rw [List.mem_singleton.1 hz]; exact oneV_plain⟩)⟩
theorem inV_nil (x : SV) : inV x nilV = false := rfl
theorem inV_ones : inV oneV onesV = true := by
  show inL [oneV] oneV = true
  unfold inL
  rw [List.any_cons, eqP_self oneV_plain]
  rfl
theorem nil_door : (Dv.plain nilV).val = .agg #[.int .i64 0, .int .i64 0, .int .u64 0, .float .f64 0, .string ⟨#[]⟩, .bool false, .slice none 0 0, .slice none 0 0] := rfl
theorem one_door : (Dv.plain oneV).val = .agg #[.int .i64 1, .int .i64 1, .int .u64 0, .float .f64 0, .string ⟨#[]⟩, .bool false, .slice none 0 0, .slice none 0 0] := rfl
theorem ones_door {w : World} {g : Nat} (h : w.heap[g]? = some (.cells #[.int .i64 1, .int .i64 1, .int .u64 0, .float .f64 0, .string ⟨#[]⟩, .bool false, .slice none 0 0, .slice none 0 0] 35 (0, 0))) :
    DoorOf w (fun b => b = g) onesV (Dv.list (some ⟨g, 0, none⟩) 1 1) :=
  .list onesV (some ⟨g, 0, none⟩) 1 (fun _ => Dv.plain oneV) rfl ⟨by decide, by decide⟩ (fun i y hy => by
    obtain ⟨rfl, rfl⟩ := onesV_item hy
    exact ⟨g, 0, rfl, rfl, fun j u hj => by
      have := cell_at_block h j u (by rw [List.getElem?_toArray]; exact hj)
      rwa [← Nat.zero_add j] at this⟩) (fun i y hy => by
    obtain ⟨rfl, rfl⟩ := onesV_item hy
    exact .plain oneV ⟨by decide, by decide⟩)
end Go.Proofs.Ythmogfjmngbamaa
