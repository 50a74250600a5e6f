/-
  Type assertions on values of type any: what each gives, as the walk takes it.
-/
import Derived.Test.YthmogfjmngbamaaFloats
namespace Go.Proofs.Ythmogfjmngbamaa
open Go.RowKit

/-- No interface type. -/
def solid : TypeDesc → Bool
  | .interface _ => false
  | _ => true

theorem run_assert {P : Program} {a : TypeId} {d : TypeDesc} {i : TypeInfo} {z : Value} (hd : P.underlying a = some d) (hs : solid d = true) (hi : P.info? a = some i) (hz : i.zero = some z) (x t : TypeId) (v : Value) (w : World) :
    (Instr.typeAssert (.iface t v) x a true).run P w = .ok (if t = a then .tuple #[v, .bool true] else .tuple #[z, .bool false]) w := by
  cases d <;> first | (simp [solid] at hs; done) | (simp only [Instr.typeAssert, Sem.run_bind, run_underlying hd, Result.andThen, zeroValue, typeInfo]; split <;> simp [hi, hz])

theorem run_assert_nil {P : Program} {a : TypeId} {d : TypeDesc} {i : TypeInfo} {z : Value} (hd : P.underlying a = some d) (hs : solid d = true) (hi : P.info? a = some i) (hz : i.zero = some z) (x : TypeId) (w : World) :
    (Instr.typeAssert .nilIface x a true).run P w = .ok (.tuple #[z, .bool false]) w := by
  cases d <;> first | (simp [solid] at hs; done) | (simp only [Instr.typeAssert, Sem.run_bind, run_underlying hd, Result.andThen, zeroValue, typeInfo]; simp [hi, hz])

theorem run_assert_sure {P : Program} {a : TypeId} {d : TypeDesc} (hd : P.underlying a = some d) (hs : solid d = true) (x : TypeId) (v : Value) (w : World) :
    (Instr.typeAssert (.iface a v) x a false).run P w = .ok v w := by
  cases d <;> first | (simp [solid] at hs; done) | (simp [Instr.typeAssert, run_underlying hd])

theorem assert_of {a : TypeId} {d : TypeDesc} {z : Value} (hd : Try.prog.underlying a = some d) (hs : solid d = true) (hz : (Try.prog.info? a).bind (·.zero) = some z) (x t : TypeId) (v : Value) (w : World) :
    (Instr.typeAssert (.iface t v) x a true).run Try.prog w = .ok (if t = a then .tuple #[v, .bool true] else .tuple #[z, .bool false]) w := by
  obtain ⟨i, hi, hz'⟩ := Option.bind_eq_some_iff.1 hz
  exact run_assert hd hs hi hz' x t v w
theorem assert_nil_of {a : TypeId} {d : TypeDesc} {z : Value} (hd : Try.prog.underlying a = some d) (hs : solid d = true) (hz : (Try.prog.info? a).bind (·.zero) = some z) (x : TypeId) (w : World) :
    (Instr.typeAssert .nilIface x a true).run Try.prog w = .ok (.tuple #[z, .bool false]) w := by
  obtain ⟨i, hi, hz'⟩ := Option.bind_eq_some_iff.1 hz
  exact run_assert_nil hd hs hi hz' x w

theorem zero2 : (Try.prog.info? 2).bind (·.zero) = some (.int .i64 0) := by kernel_rfl
@[go_sem] theorem ta2 (x t : TypeId) (v : Value) (w : World) : (Instr.typeAssert (.iface t v) x 2 true).run Try.prog w = .ok (if t = 2 then .tuple #[v, .bool true] else .tuple #[.int .i64 0, .bool false]) w := assert_of Try.underlying2 rfl zero2 x t v w
@[go_sem] theorem tan2 (x : TypeId) (w : World) : (Instr.typeAssert .nilIface x 2 true).run Try.prog w = .ok (.tuple #[.int .i64 0, .bool false]) w := assert_nil_of Try.underlying2 rfl zero2 x w
theorem zero3 : (Try.prog.info? 3).bind (·.zero) = some (.int .i64 0) := by kernel_rfl
@[go_sem] theorem ta3 (x t : TypeId) (v : Value) (w : World) : (Instr.typeAssert (.iface t v) x 3 true).run Try.prog w = .ok (if t = 3 then .tuple #[v, .bool true] else .tuple #[.int .i64 0, .bool false]) w := assert_of Try.underlying3 rfl zero3 x t v w
@[go_sem] theorem tan3 (x : TypeId) (w : World) : (Instr.typeAssert .nilIface x 3 true).run Try.prog w = .ok (.tuple #[.int .i64 0, .bool false]) w := assert_nil_of Try.underlying3 rfl zero3 x w
theorem zero4 : (Try.prog.info? 4).bind (·.zero) = some (.bool false) := by kernel_rfl
@[go_sem] theorem ta4 (x t : TypeId) (v : Value) (w : World) : (Instr.typeAssert (.iface t v) x 4 true).run Try.prog w = .ok (if t = 4 then .tuple #[v, .bool true] else .tuple #[.bool false, .bool false]) w := assert_of Try.underlying4 rfl zero4 x t v w
@[go_sem] theorem tan4 (x : TypeId) (w : World) : (Instr.typeAssert .nilIface x 4 true).run Try.prog w = .ok (.tuple #[.bool false, .bool false]) w := assert_nil_of Try.underlying4 rfl zero4 x w
theorem zero5 : (Try.prog.info? 5).bind (·.zero) = some (.int .u8 0) := by kernel_rfl
@[go_sem] theorem ta5 (x t : TypeId) (v : Value) (w : World) : (Instr.typeAssert (.iface t v) x 5 true).run Try.prog w = .ok (if t = 5 then .tuple #[v, .bool true] else .tuple #[.int .u8 0, .bool false]) w := assert_of Try.underlying5 rfl zero5 x t v w
@[go_sem] theorem tan5 (x : TypeId) (w : World) : (Instr.typeAssert .nilIface x 5 true).run Try.prog w = .ok (.tuple #[.int .u8 0, .bool false]) w := assert_nil_of Try.underlying5 rfl zero5 x w
theorem zero9 : (Try.prog.info? 9).bind (·.zero) = some (.string ByteArray.empty) := by kernel_rfl
@[go_sem] theorem ta9 (x t : TypeId) (v : Value) (w : World) : (Instr.typeAssert (.iface t v) x 9 true).run Try.prog w = .ok (if t = 9 then .tuple #[v, .bool true] else .tuple #[.string ByteArray.empty, .bool false]) w := assert_of Try.underlying9 rfl zero9 x t v w
@[go_sem] theorem tan9 (x : TypeId) (w : World) : (Instr.typeAssert .nilIface x 9 true).run Try.prog w = .ok (.tuple #[.string ByteArray.empty, .bool false]) w := assert_nil_of Try.underlying9 rfl zero9 x w
theorem zero21 : (Try.prog.info? 21).bind (·.zero) = some (.int .i32 0) := by kernel_rfl
@[go_sem] theorem ta21 (x t : TypeId) (v : Value) (w : World) : (Instr.typeAssert (.iface t v) x 21 true).run Try.prog w = .ok (if t = 21 then .tuple #[v, .bool true] else .tuple #[.int .i32 0, .bool false]) w := assert_of Try.underlying21 rfl zero21 x t v w
@[go_sem] theorem tan21 (x : TypeId) (w : World) : (Instr.typeAssert .nilIface x 21 true).run Try.prog w = .ok (.tuple #[.int .i32 0, .bool false]) w := assert_nil_of Try.underlying21 rfl zero21 x w
theorem zero22 : (Try.prog.info? 22).bind (·.zero) = some (.slice none 0 0) := by kernel_rfl
@[go_sem] theorem ta22 (x t : TypeId) (v : Value) (w : World) : (Instr.typeAssert (.iface t v) x 22 true).run Try.prog w = .ok (if t = 22 then .tuple #[v, .bool true] else .tuple #[.slice none 0 0, .bool false]) w := assert_of Try.underlying22 rfl zero22 x t v w
@[go_sem] theorem tan22 (x : TypeId) (w : World) : (Instr.typeAssert .nilIface x 22 true).run Try.prog w = .ok (.tuple #[.slice none 0 0, .bool false]) w := assert_nil_of Try.underlying22 rfl zero22 x w
theorem zero26 : (Try.prog.info? 26).bind (·.zero) = some (.float .f64 0) := by kernel_rfl
@[go_sem] theorem ta26 (x t : TypeId) (v : Value) (w : World) : (Instr.typeAssert (.iface t v) x 26 true).run Try.prog w = .ok (if t = 26 then .tuple #[v, .bool true] else .tuple #[.float .f64 0, .bool false]) w := assert_of Try.underlying26 rfl zero26 x t v w
@[go_sem] theorem tan26 (x : TypeId) (w : World) : (Instr.typeAssert .nilIface x 26 true).run Try.prog w = .ok (.tuple #[.float .f64 0, .bool false]) w := assert_nil_of Try.underlying26 rfl zero26 x w
theorem zero28 : (Try.prog.info? 28).bind (·.zero) = some (.slice none 0 0) := by kernel_rfl
@[go_sem] theorem ta28 (x t : TypeId) (v : Value) (w : World) : (Instr.typeAssert (.iface t v) x 28 true).run Try.prog w = .ok (if t = 28 then .tuple #[v, .bool true] else .tuple #[.slice none 0 0, .bool false]) w := assert_of Try.underlying28 rfl zero28 x t v w
@[go_sem] theorem tan28 (x : TypeId) (w : World) : (Instr.typeAssert .nilIface x 28 true).run Try.prog w = .ok (.tuple #[.slice none 0 0, .bool false]) w := assert_nil_of Try.underlying28 rfl zero28 x w
theorem zero32 : (Try.prog.info? 32).bind (·.zero) = some (.int .u64 0) := by kernel_rfl
@[go_sem] theorem ta32 (x t : TypeId) (v : Value) (w : World) : (Instr.typeAssert (.iface t v) x 32 true).run Try.prog w = .ok (if t = 32 then .tuple #[v, .bool true] else .tuple #[.int .u64 0, .bool false]) w := assert_of Try.underlying32 rfl zero32 x t v w
@[go_sem] theorem tan32 (x : TypeId) (w : World) : (Instr.typeAssert .nilIface x 32 true).run Try.prog w = .ok (.tuple #[.int .u64 0, .bool false]) w := assert_nil_of Try.underlying32 rfl zero32 x w
theorem zero59 : (Try.prog.info? 59).bind (·.zero) = some (.int .u64 0) := by kernel_rfl
@[go_sem] theorem ta59 (x t : TypeId) (v : Value) (w : World) : (Instr.typeAssert (.iface t v) x 59 true).run Try.prog w = .ok (if t = 59 then .tuple #[v, .bool true] else .tuple #[.int .u64 0, .bool false]) w := assert_of Try.underlying59 rfl zero59 x t v w
@[go_sem] theorem tan59 (x : TypeId) (w : World) : (Instr.typeAssert .nilIface x 59 true).run Try.prog w = .ok (.tuple #[.int .u64 0, .bool false]) w := assert_nil_of Try.underlying59 rfl zero59 x w
theorem zero63 : (Try.prog.info? 63).bind (·.zero) = some (.agg #[]) := by kernel_rfl
@[go_sem] theorem ta63 (x t : TypeId) (v : Value) (w : World) : (Instr.typeAssert (.iface t v) x 63 true).run Try.prog w = .ok (if t = 63 then .tuple #[v, .bool true] else .tuple #[.agg #[], .bool false]) w := assert_of Try.underlying63 rfl zero63 x t v w
@[go_sem] theorem tan63 (x : TypeId) (w : World) : (Instr.typeAssert .nilIface x 63 true).run Try.prog w = .ok (.tuple #[.agg #[], .bool false]) w := assert_nil_of Try.underlying63 rfl zero63 x w
theorem zero87 : (Try.prog.info? 87).bind (·.zero) = some (.slice none 0 0) := by kernel_rfl
@[go_sem] theorem ta87 (x t : TypeId) (v : Value) (w : World) : (Instr.typeAssert (.iface t v) x 87 true).run Try.prog w = .ok (if t = 87 then .tuple #[v, .bool true] else .tuple #[.slice none 0 0, .bool false]) w := assert_of Try.underlying87 rfl zero87 x t v w
@[go_sem] theorem tan87 (x : TypeId) (w : World) : (Instr.typeAssert .nilIface x 87 true).run Try.prog w = .ok (.tuple #[.slice none 0 0, .bool false]) w := assert_nil_of Try.underlying87 rfl zero87 x w
theorem zero88 : (Try.prog.info? 88).bind (·.zero) = some (.slice none 0 0) := by kernel_rfl
@[go_sem] theorem ta88 (x t : TypeId) (v : Value) (w : World) : (Instr.typeAssert (.iface t v) x 88 true).run Try.prog w = .ok (if t = 88 then .tuple #[v, .bool true] else .tuple #[.slice none 0 0, .bool false]) w := assert_of Try.underlying88 rfl zero88 x t v w
@[go_sem] theorem tan88 (x : TypeId) (w : World) : (Instr.typeAssert .nilIface x 88 true).run Try.prog w = .ok (.tuple #[.slice none 0 0, .bool false]) w := assert_nil_of Try.underlying88 rfl zero88 x w
theorem zero96 : (Try.prog.info? 96).bind (·.zero) = some (.int .i8 0) := by kernel_rfl
@[go_sem] theorem ta96 (x t : TypeId) (v : Value) (w : World) : (Instr.typeAssert (.iface t v) x 96 true).run Try.prog w = .ok (if t = 96 then .tuple #[v, .bool true] else .tuple #[.int .i8 0, .bool false]) w := assert_of Try.underlying96 rfl zero96 x t v w
@[go_sem] theorem tan96 (x : TypeId) (w : World) : (Instr.typeAssert .nilIface x 96 true).run Try.prog w = .ok (.tuple #[.int .i8 0, .bool false]) w := assert_nil_of Try.underlying96 rfl zero96 x w
theorem zero97 : (Try.prog.info? 97).bind (·.zero) = some (.int .i16 0) := by kernel_rfl
@[go_sem] theorem ta97 (x t : TypeId) (v : Value) (w : World) : (Instr.typeAssert (.iface t v) x 97 true).run Try.prog w = .ok (if t = 97 then .tuple #[v, .bool true] else .tuple #[.int .i16 0, .bool false]) w := assert_of Try.underlying97 rfl zero97 x t v w
@[go_sem] theorem tan97 (x : TypeId) (w : World) : (Instr.typeAssert .nilIface x 97 true).run Try.prog w = .ok (.tuple #[.int .i16 0, .bool false]) w := assert_nil_of Try.underlying97 rfl zero97 x w
theorem zero98 : (Try.prog.info? 98).bind (·.zero) = some (.int .u16 0) := by kernel_rfl
@[go_sem] theorem ta98 (x t : TypeId) (v : Value) (w : World) : (Instr.typeAssert (.iface t v) x 98 true).run Try.prog w = .ok (if t = 98 then .tuple #[v, .bool true] else .tuple #[.int .u16 0, .bool false]) w := assert_of Try.underlying98 rfl zero98 x t v w
@[go_sem] theorem tan98 (x : TypeId) (w : World) : (Instr.typeAssert .nilIface x 98 true).run Try.prog w = .ok (.tuple #[.int .u16 0, .bool false]) w := assert_nil_of Try.underlying98 rfl zero98 x w
theorem zero99 : (Try.prog.info? 99).bind (·.zero) = some (.int .u32 0) := by kernel_rfl
@[go_sem] theorem ta99 (x t : TypeId) (v : Value) (w : World) : (Instr.typeAssert (.iface t v) x 99 true).run Try.prog w = .ok (if t = 99 then .tuple #[v, .bool true] else .tuple #[.int .u32 0, .bool false]) w := assert_of Try.underlying99 rfl zero99 x t v w
@[go_sem] theorem tan99 (x : TypeId) (w : World) : (Instr.typeAssert .nilIface x 99 true).run Try.prog w = .ok (.tuple #[.int .u32 0, .bool false]) w := assert_nil_of Try.underlying99 rfl zero99 x w
theorem zero100 : (Try.prog.info? 100).bind (·.zero) = some (.float .f32 0) := by kernel_rfl
@[go_sem] theorem ta100 (x t : TypeId) (v : Value) (w : World) : (Instr.typeAssert (.iface t v) x 100 true).run Try.prog w = .ok (if t = 100 then .tuple #[v, .bool true] else .tuple #[.float .f32 0, .bool false]) w := assert_of Try.underlying100 rfl zero100 x t v w
@[go_sem] theorem tan100 (x : TypeId) (w : World) : (Instr.typeAssert .nilIface x 100 true).run Try.prog w = .ok (.tuple #[.float .f32 0, .bool false]) w := assert_nil_of Try.underlying100 rfl zero100 x w
theorem zero101 : (Try.prog.info? 101).bind (·.zero) = some (.agg #[.nilIface, .nilIface]) := by kernel_rfl
@[go_sem] theorem ta101 (x t : TypeId) (v : Value) (w : World) : (Instr.typeAssert (.iface t v) x 101 true).run Try.prog w = .ok (if t = 101 then .tuple #[v, .bool true] else .tuple #[.agg #[.nilIface, .nilIface], .bool false]) w := assert_of Try.underlying101 rfl zero101 x t v w
@[go_sem] theorem tan101 (x : TypeId) (w : World) : (Instr.typeAssert .nilIface x 101 true).run Try.prog w = .ok (.tuple #[.agg #[.nilIface, .nilIface], .bool false]) w := assert_nil_of Try.underlying101 rfl zero101 x w
theorem zero102 : (Try.prog.info? 102).bind (·.zero) = some (.slice none 0 0) := by kernel_rfl
@[go_sem] theorem ta102 (x t : TypeId) (v : Value) (w : World) : (Instr.typeAssert (.iface t v) x 102 true).run Try.prog w = .ok (if t = 102 then .tuple #[v, .bool true] else .tuple #[.slice none 0 0, .bool false]) w := assert_of Try.underlying102 rfl zero102 x t v w
@[go_sem] theorem tan102 (x : TypeId) (w : World) : (Instr.typeAssert .nilIface x 102 true).run Try.prog w = .ok (.tuple #[.slice none 0 0, .bool false]) w := assert_nil_of Try.underlying102 rfl zero102 x w
theorem zero103 : (Try.prog.info? 103).bind (·.zero) = some (.map none) := by kernel_rfl
@[go_sem] theorem ta103 (x t : TypeId) (v : Value) (w : World) : (Instr.typeAssert (.iface t v) x 103 true).run Try.prog w = .ok (if t = 103 then .tuple #[v, .bool true] else .tuple #[.map none, .bool false]) w := assert_of Try.underlying103 rfl zero103 x t v w
@[go_sem] theorem tan103 (x : TypeId) (w : World) : (Instr.typeAssert .nilIface x 103 true).run Try.prog w = .ok (.tuple #[.map none, .bool false]) w := assert_nil_of Try.underlying103 rfl zero103 x w
theorem zero104 : (Try.prog.info? 104).bind (·.zero) = some (.map none) := by kernel_rfl
@[go_sem] theorem ta104 (x t : TypeId) (v : Value) (w : World) : (Instr.typeAssert (.iface t v) x 104 true).run Try.prog w = .ok (if t = 104 then .tuple #[v, .bool true] else .tuple #[.map none, .bool false]) w := assert_of Try.underlying104 rfl zero104 x t v w
@[go_sem] theorem tan104 (x : TypeId) (w : World) : (Instr.typeAssert .nilIface x 104 true).run Try.prog w = .ok (.tuple #[.map none, .bool false]) w := assert_nil_of Try.underlying104 rfl zero104 x w
theorem zero105 : (Try.prog.info? 105).bind (·.zero) = some (.map none) := by kernel_rfl
@[go_sem] theorem ta105 (x t : TypeId) (v : Value) (w : World) : (Instr.typeAssert (.iface t v) x 105 true).run Try.prog w = .ok (if t = 105 then .tuple #[v, .bool true] else .tuple #[.map none, .bool false]) w := assert_of Try.underlying105 rfl zero105 x t v w
@[go_sem] theorem tan105 (x : TypeId) (w : World) : (Instr.typeAssert .nilIface x 105 true).run Try.prog w = .ok (.tuple #[.map none, .bool false]) w := assert_nil_of Try.underlying105 rfl zero105 x w
theorem zero116 : (Try.prog.info? 116).bind (·.zero) = some (.slice none 0 0) := by kernel_rfl
@[go_sem] theorem ta116 (x t : TypeId) (v : Value) (w : World) : (Instr.typeAssert (.iface t v) x 116 true).run Try.prog w = .ok (if t = 116 then .tuple #[v, .bool true] else .tuple #[.slice none 0 0, .bool false]) w := assert_of Try.underlying116 rfl zero116 x t v w
@[go_sem] theorem tan116 (x : TypeId) (w : World) : (Instr.typeAssert .nilIface x 116 true).run Try.prog w = .ok (.tuple #[.slice none 0 0, .bool false]) w := assert_nil_of Try.underlying116 rfl zero116 x w
@[go_sem] theorem tas4 (x : TypeId) (v : Value) (w : World) : (Instr.typeAssert (.iface 4 v) x 4 false).run Try.prog w = .ok v w := run_assert_sure Try.underlying4 rfl x v w
@[go_sem] theorem tas9 (x : TypeId) (v : Value) (w : World) : (Instr.typeAssert (.iface 9 v) x 9 false).run Try.prog w = .ok v w := run_assert_sure Try.underlying9 rfl x v w
@[go_sem] theorem tas26 (x : TypeId) (v : Value) (w : World) : (Instr.typeAssert (.iface 26 v) x 26 false).run Try.prog w = .ok v w := run_assert_sure Try.underlying26 rfl x v w
end Go.Proofs.Ythmogfjmngbamaa
