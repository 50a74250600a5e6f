/-
  NARROWER THAN 'FOR EVERY INPUT', by the rows' own cells (each row's printed sentence says how): FnOrder: loops · FnEqual: loops · FnIn: loops · FnTypeName: loops · FnLengths: loops · FnFetch: loops · FnSlice: loops · FnCasts: loops · FnArithmetic: loops.
  DERIVED. THE GIVEN ROWS OF THIS SEAT. 10 by the template 'for every input the law returns true; each argument reads behind the call as it read before'; 0 by the template 'total and deterministic' (their statements: YthmogfjmngbamaaTotals.lean).
  GIVEN WITH THE SEED: the statements are not yours to turn. If you find one false, say at which input.
  Laid BY PROGRAM, IN A SANDBOX (cutbox-rows.mjs): the forced cells as the released guide's own fill.sh prints them over the translation e72e475f4fbb350f… (all of the seat's roots in one cut). By AI agents, Wed Nov 11 2026. No macro, syntax, notation, axiom, sorry.
-/
import Derived.Test.YthmogfjmngbamaaChecked
import GoSem.Claim
import GoSem.ClaimJoined
import GoSem.ClaimMapViews
import Derived.JoinedTies
import Derived.KernelRfl
namespace Go.Proofs.Ythmogfjmngbamaa
/- THE CELL 'sum', in the pinned program and in every row, IS THE sha256 OF THE DUMP (.gsa) THAT YthmogfjmngbamaaProg.lean LOADS. Nothing in Lean hashes anything: it is a label: what it is worth is what the hold of that sum in a sandbox is worth. -/
noncomputable def Try.pinned : Pinned := { name := "ythmogfjmngbamaa", sum := "e72e475f4fbb350f864164386129034191eda5a05bdde0e2ff47a65046c9d04a", checked := Try.checked }
namespace Rows
def none {H : Type} : Left H := { results := [], args := [] }

/-- 'laws.FnRange': WHATEVER THE INPUT: true; the input reads as it did. -/
def fnRangeSpec : ChangeSpec := { name := "fnRange", fn := fun _ => fun
  | [d1, d2] => { results := [.lit (.bool true)], args := [d1, d2] }
  | _ => none }
def fnRangeRow : OpenClaim := { program := "ythmogfjmngbamaa", sum := "e72e475f4fbb350f864164386129034191eda5a05bdde0e2ff47a65046c9d04a", func := "given.example/pub-cucurbit/laws.FnRange", spec := "fnRange", apart := false }
def FnRangeSaid : Prop := fnRangeRow.holds Try.pinned (OpenSpec.ofChange fnRangeSpec)

/-- ITS FALSE NEIGHBOUR: 'it returns false'. Refute it at one input. -/
def fnRangeWrong : ChangeSpec := { name := "fnRange", fn := fun _ => fun
  | [d1, d2] => { results := [.lit (.bool false)], args := [d1, d2] }
  | _ => none }
def FnRangeWrongFalsely : Prop := fnRangeRow.holds Try.pinned (OpenSpec.ofChange fnRangeWrong)

/-- 'laws.FnOrder': WHATEVER THE INPUT: true; the input reads as it did. -/
def fnOrderSpec : ChangeSpec := { name := "fnOrder", fn := fun _ => fun
  | [d1, d2] => { results := [.lit (.bool true)], args := [d1, d2] }
  | _ => none }
def fnOrderRow : OpenClaim := { program := "ythmogfjmngbamaa", sum := "e72e475f4fbb350f864164386129034191eda5a05bdde0e2ff47a65046c9d04a", func := "given.example/pub-cucurbit/laws.FnOrder", spec := "fnOrder", unfollowed := true, recurses := true, loops := true, apart := false }
def FnOrderSaid : Prop := fnOrderRow.holds Try.pinned (OpenSpec.ofChange fnOrderSpec)

/-- ITS FALSE NEIGHBOUR: 'it returns false'. Refute it at one input. -/
def fnOrderWrong : ChangeSpec := { name := "fnOrder", fn := fun _ => fun
  | [d1, d2] => { results := [.lit (.bool false)], args := [d1, d2] }
  | _ => none }
def FnOrderWrongFalsely : Prop := fnOrderRow.holds Try.pinned (OpenSpec.ofChange fnOrderWrong)

/-- 'laws.FnEqual': WHATEVER THE INPUT: true; the input reads as it did. -/
def fnEqualSpec : ChangeSpec := { name := "fnEqual", fn := fun _ => fun
  | [d1, d2] => { results := [.lit (.bool true)], args := [d1, d2] }
  | _ => none }
def fnEqualRow : OpenClaim := { program := "ythmogfjmngbamaa", sum := "e72e475f4fbb350f864164386129034191eda5a05bdde0e2ff47a65046c9d04a", func := "given.example/pub-cucurbit/laws.FnEqual", spec := "fnEqual", unfollowed := true, recurses := true, loops := true, apart := false }
def FnEqualSaid : Prop := fnEqualRow.holds Try.pinned (OpenSpec.ofChange fnEqualSpec)

/-- ITS FALSE NEIGHBOUR: 'it returns false'. Refute it at one input. -/
def fnEqualWrong : ChangeSpec := { name := "fnEqual", fn := fun _ => fun
  | [d1, d2] => { results := [.lit (.bool false)], args := [d1, d2] }
  | _ => none }
def FnEqualWrongFalsely : Prop := fnEqualRow.holds Try.pinned (OpenSpec.ofChange fnEqualWrong)

/-- 'laws.FnIn': WHATEVER THE INPUT: true; the input reads as it did. -/
def fnInSpec : ChangeSpec := { name := "fnIn", fn := fun _ => fun
  | [d1, d2] => { results := [.lit (.bool true)], args := [d1, d2] }
  | _ => none }
def fnInRow : OpenClaim := { program := "ythmogfjmngbamaa", sum := "e72e475f4fbb350f864164386129034191eda5a05bdde0e2ff47a65046c9d04a", func := "given.example/pub-cucurbit/laws.FnIn", spec := "fnIn", unfollowed := true, recurses := true, loops := true, apart := false }
def FnInSaid : Prop := fnInRow.holds Try.pinned (OpenSpec.ofChange fnInSpec)

/-- ITS FALSE NEIGHBOUR: 'it returns false'. Refute it at one input. -/
def fnInWrong : ChangeSpec := { name := "fnIn", fn := fun _ => fun
  | [d1, d2] => { results := [.lit (.bool false)], args := [d1, d2] }
  | _ => none }
def FnInWrongFalsely : Prop := fnInRow.holds Try.pinned (OpenSpec.ofChange fnInWrong)

/-- 'laws.FnTypeName': WHATEVER THE INPUT: true; the input reads as it did. -/
def fnTypeNameSpec : ChangeSpec := { name := "fnTypeName", fn := fun _ => fun
  | [d] => { results := [.lit (.bool true)], args := [d] }
  | _ => none }
def fnTypeNameRow : OpenClaim := { program := "ythmogfjmngbamaa", sum := "e72e475f4fbb350f864164386129034191eda5a05bdde0e2ff47a65046c9d04a", func := "given.example/pub-cucurbit/laws.FnTypeName", spec := "fnTypeName", unfollowed := true, recurses := true, loops := true, apart := false }
def FnTypeNameSaid : Prop := fnTypeNameRow.holds Try.pinned (OpenSpec.ofChange fnTypeNameSpec)

/-- ITS FALSE NEIGHBOUR: 'it returns false'. Refute it at one input. -/
def fnTypeNameWrong : ChangeSpec := { name := "fnTypeName", fn := fun _ => fun
  | [d] => { results := [.lit (.bool false)], args := [d] }
  | _ => none }
def FnTypeNameWrongFalsely : Prop := fnTypeNameRow.holds Try.pinned (OpenSpec.ofChange fnTypeNameWrong)

/-- 'laws.FnLengths': WHATEVER THE INPUT: true; the input reads as it did. -/
def fnLengthsSpec : ChangeSpec := { name := "fnLengths", fn := fun _ => fun
  | [d] => { results := [.lit (.bool true)], args := [d] }
  | _ => none }
def fnLengthsRow : OpenClaim := { program := "ythmogfjmngbamaa", sum := "e72e475f4fbb350f864164386129034191eda5a05bdde0e2ff47a65046c9d04a", func := "given.example/pub-cucurbit/laws.FnLengths", spec := "fnLengths", unfollowed := true, recurses := true, loops := true, apart := false }
def FnLengthsSaid : Prop := fnLengthsRow.holds Try.pinned (OpenSpec.ofChange fnLengthsSpec)

/-- ITS FALSE NEIGHBOUR: 'it returns false'. Refute it at one input. -/
def fnLengthsWrong : ChangeSpec := { name := "fnLengths", fn := fun _ => fun
  | [d] => { results := [.lit (.bool false)], args := [d] }
  | _ => none }
def FnLengthsWrongFalsely : Prop := fnLengthsRow.holds Try.pinned (OpenSpec.ofChange fnLengthsWrong)

/-- 'laws.FnFetch': WHATEVER THE INPUT: true; the input reads as it did. -/
def fnFetchSpec : ChangeSpec := { name := "fnFetch", fn := fun _ => fun
  | [d1, d2] => { results := [.lit (.bool true)], args := [d1, d2] }
  | _ => none }
def fnFetchRow : OpenClaim := { program := "ythmogfjmngbamaa", sum := "e72e475f4fbb350f864164386129034191eda5a05bdde0e2ff47a65046c9d04a", func := "given.example/pub-cucurbit/laws.FnFetch", spec := "fnFetch", unfollowed := true, recurses := true, loops := true, apart := false }
def FnFetchSaid : Prop := fnFetchRow.holds Try.pinned (OpenSpec.ofChange fnFetchSpec)

/-- ITS FALSE NEIGHBOUR: 'it returns false'. Refute it at one input. -/
def fnFetchWrong : ChangeSpec := { name := "fnFetch", fn := fun _ => fun
  | [d1, d2] => { results := [.lit (.bool false)], args := [d1, d2] }
  | _ => none }
def FnFetchWrongFalsely : Prop := fnFetchRow.holds Try.pinned (OpenSpec.ofChange fnFetchWrong)

/-- 'laws.FnSlice': WHATEVER THE INPUT: true; the input reads as it did. -/
def fnSliceSpec : ChangeSpec := { name := "fnSlice", fn := fun _ => fun
  | [d1, d2, d3] => { results := [.lit (.bool true)], args := [d1, d2, d3] }
  | _ => none }
def fnSliceRow : OpenClaim := { program := "ythmogfjmngbamaa", sum := "e72e475f4fbb350f864164386129034191eda5a05bdde0e2ff47a65046c9d04a", func := "given.example/pub-cucurbit/laws.FnSlice", spec := "fnSlice", unfollowed := true, recurses := true, loops := true, apart := false }
def FnSliceSaid : Prop := fnSliceRow.holds Try.pinned (OpenSpec.ofChange fnSliceSpec)

/-- ITS FALSE NEIGHBOUR: 'it returns false'. Refute it at one input. -/
def fnSliceWrong : ChangeSpec := { name := "fnSlice", fn := fun _ => fun
  | [d1, d2, d3] => { results := [.lit (.bool false)], args := [d1, d2, d3] }
  | _ => none }
def FnSliceWrongFalsely : Prop := fnSliceRow.holds Try.pinned (OpenSpec.ofChange fnSliceWrong)

/-- 'laws.FnCasts': WHATEVER THE INPUT: true; the input reads as it did. -/
def fnCastsSpec : ChangeSpec := { name := "fnCasts", fn := fun _ => fun
  | [d] => { results := [.lit (.bool true)], args := [d] }
  | _ => none }
def fnCastsRow : OpenClaim := { program := "ythmogfjmngbamaa", sum := "e72e475f4fbb350f864164386129034191eda5a05bdde0e2ff47a65046c9d04a", func := "given.example/pub-cucurbit/laws.FnCasts", spec := "fnCasts", unfollowed := true, recurses := true, loops := true, apart := false }
def FnCastsSaid : Prop := fnCastsRow.holds Try.pinned (OpenSpec.ofChange fnCastsSpec)

/-- ITS FALSE NEIGHBOUR: 'it returns false'. Refute it at one input. -/
def fnCastsWrong : ChangeSpec := { name := "fnCasts", fn := fun _ => fun
  | [d] => { results := [.lit (.bool false)], args := [d] }
  | _ => none }
def FnCastsWrongFalsely : Prop := fnCastsRow.holds Try.pinned (OpenSpec.ofChange fnCastsWrong)

/-- 'laws.FnArithmetic': WHATEVER THE INPUT: true; the input reads as it did. -/
def fnArithmeticSpec : ChangeSpec := { name := "fnArithmetic", fn := fun _ => fun
  | [d1, d2] => { results := [.lit (.bool true)], args := [d1, d2] }
  | _ => none }
def fnArithmeticRow : OpenClaim := { program := "ythmogfjmngbamaa", sum := "e72e475f4fbb350f864164386129034191eda5a05bdde0e2ff47a65046c9d04a", func := "given.example/pub-cucurbit/laws.FnArithmetic", spec := "fnArithmetic", unfollowed := true, recurses := true, loops := true, apart := false }
def FnArithmeticSaid : Prop := fnArithmeticRow.holds Try.pinned (OpenSpec.ofChange fnArithmeticSpec)

/-- ITS FALSE NEIGHBOUR: 'it returns false'. Refute it at one input. -/
def fnArithmeticWrong : ChangeSpec := { name := "fnArithmetic", fn := fun _ => fun
  | [d1, d2] => { results := [.lit (.bool false)], args := [d1, d2] }
  | _ => none }
def FnArithmeticWrongFalsely : Prop := fnArithmeticRow.holds Try.pinned (OpenSpec.ofChange fnArithmeticWrong)

/- THE SECOND FORM. 'bulk': how many values and letters a reading holds, each counted each time it is reached (what is shared counts as often as it is met; a slice's spare places count too). A statement '..UptoSaid' is the law's where the arguments, and the package variables that the reading takes, are together of bulk at most 1048576: NARROWER than '..Said'. Prove '..Said' where nothing that the law and all that it calls make is longer than what came in: it says more and counts as full. Else prove '..UptoSaid'. A law counts once. -/
mutual
def uptoBulk {H : Type} : DataW H → Nat
  | .lit (.string bytes) => bytes.length + 1
  | .lit _ => 1
  | .nil => 1
  | .ptr d => uptoBulk d + 1
  | .slice elems spare => uptoBulkAll elems + uptoBulkAll spare + 1
  | .agg parts => uptoBulkAll parts + 1
  | .iface _ d => uptoBulk d + 1
  | .map entries => uptoBulkEntries entries + 1
  | .held _ => 1
def uptoBulkAll {H : Type} : List (DataW H) → Nat
  | [] => 0
  | d :: r => uptoBulk d + uptoBulkAll r
def uptoBulkEntries {H : Type} : List (Lit × DataW H) → Nat
  | [] => 0
  | x :: r => uptoBulkEntry x + uptoBulkEntries r
def uptoBulkEntry {H : Type} : Lit × DataW H → Nat
  | (.string bytes, d) => bytes.length + uptoBulk d + 1
  | (_, d) => uptoBulk d + 1
 end
def uptoSmall : (H : Type) → List (DataW H) → Bool := fun _ ds => decide (uptoBulkAll ds ≤ 1048576)
def OpenSpec.upto (s : _root_.Go.ChangeSpec) : _root_.Go.OpenSpec := { _root_.Go.OpenSpec.ofChange s with cond := some uptoSmall }

/-- 'laws.FnRange', WHERE WHAT IT READS IS OF BULK AT MOST 1048576: true; the input reads as it did. -/
def fnRangeUptoRow : OpenClaim := { program := "ythmogfjmngbamaa", sum := "e72e475f4fbb350f864164386129034191eda5a05bdde0e2ff47a65046c9d04a", func := "given.example/pub-cucurbit/laws.FnRange", spec := "fnRange", apart := false, narrowed := true }
def FnRangeUptoSaid : Prop := fnRangeUptoRow.holds Try.pinned (OpenSpec.upto fnRangeSpec)

/-- 'laws.FnOrder', WHERE WHAT IT READS IS OF BULK AT MOST 1048576: true; the input reads as it did. -/
def fnOrderUptoRow : OpenClaim := { program := "ythmogfjmngbamaa", sum := "e72e475f4fbb350f864164386129034191eda5a05bdde0e2ff47a65046c9d04a", func := "given.example/pub-cucurbit/laws.FnOrder", spec := "fnOrder", unfollowed := true, recurses := true, loops := true, apart := false, narrowed := true }
def FnOrderUptoSaid : Prop := fnOrderUptoRow.holds Try.pinned (OpenSpec.upto fnOrderSpec)

/-- 'laws.FnEqual', WHERE WHAT IT READS IS OF BULK AT MOST 1048576: true; the input reads as it did. -/
def fnEqualUptoRow : OpenClaim := { program := "ythmogfjmngbamaa", sum := "e72e475f4fbb350f864164386129034191eda5a05bdde0e2ff47a65046c9d04a", func := "given.example/pub-cucurbit/laws.FnEqual", spec := "fnEqual", unfollowed := true, recurses := true, loops := true, apart := false, narrowed := true }
def FnEqualUptoSaid : Prop := fnEqualUptoRow.holds Try.pinned (OpenSpec.upto fnEqualSpec)

/-- 'laws.FnIn', WHERE WHAT IT READS IS OF BULK AT MOST 1048576: true; the input reads as it did. -/
def fnInUptoRow : OpenClaim := { program := "ythmogfjmngbamaa", sum := "e72e475f4fbb350f864164386129034191eda5a05bdde0e2ff47a65046c9d04a", func := "given.example/pub-cucurbit/laws.FnIn", spec := "fnIn", unfollowed := true, recurses := true, loops := true, apart := false, narrowed := true }
def FnInUptoSaid : Prop := fnInUptoRow.holds Try.pinned (OpenSpec.upto fnInSpec)

/-- 'laws.FnTypeName', WHERE WHAT IT READS IS OF BULK AT MOST 1048576: true; the input reads as it did. -/
def fnTypeNameUptoRow : OpenClaim := { program := "ythmogfjmngbamaa", sum := "e72e475f4fbb350f864164386129034191eda5a05bdde0e2ff47a65046c9d04a", func := "given.example/pub-cucurbit/laws.FnTypeName", spec := "fnTypeName", unfollowed := true, recurses := true, loops := true, apart := false, narrowed := true }
def FnTypeNameUptoSaid : Prop := fnTypeNameUptoRow.holds Try.pinned (OpenSpec.upto fnTypeNameSpec)

/-- 'laws.FnLengths', WHERE WHAT IT READS IS OF BULK AT MOST 1048576: true; the input reads as it did. -/
def fnLengthsUptoRow : OpenClaim := { program := "ythmogfjmngbamaa", sum := "e72e475f4fbb350f864164386129034191eda5a05bdde0e2ff47a65046c9d04a", func := "given.example/pub-cucurbit/laws.FnLengths", spec := "fnLengths", unfollowed := true, recurses := true, loops := true, apart := false, narrowed := true }
def FnLengthsUptoSaid : Prop := fnLengthsUptoRow.holds Try.pinned (OpenSpec.upto fnLengthsSpec)

/-- 'laws.FnFetch', WHERE WHAT IT READS IS OF BULK AT MOST 1048576: true; the input reads as it did. -/
def fnFetchUptoRow : OpenClaim := { program := "ythmogfjmngbamaa", sum := "e72e475f4fbb350f864164386129034191eda5a05bdde0e2ff47a65046c9d04a", func := "given.example/pub-cucurbit/laws.FnFetch", spec := "fnFetch", unfollowed := true, recurses := true, loops := true, apart := false, narrowed := true }
def FnFetchUptoSaid : Prop := fnFetchUptoRow.holds Try.pinned (OpenSpec.upto fnFetchSpec)

/-- 'laws.FnSlice', WHERE WHAT IT READS IS OF BULK AT MOST 1048576: true; the input reads as it did. -/
def fnSliceUptoRow : OpenClaim := { program := "ythmogfjmngbamaa", sum := "e72e475f4fbb350f864164386129034191eda5a05bdde0e2ff47a65046c9d04a", func := "given.example/pub-cucurbit/laws.FnSlice", spec := "fnSlice", unfollowed := true, recurses := true, loops := true, apart := false, narrowed := true }
def FnSliceUptoSaid : Prop := fnSliceUptoRow.holds Try.pinned (OpenSpec.upto fnSliceSpec)

/-- 'laws.FnCasts', WHERE WHAT IT READS IS OF BULK AT MOST 1048576: true; the input reads as it did. -/
def fnCastsUptoRow : OpenClaim := { program := "ythmogfjmngbamaa", sum := "e72e475f4fbb350f864164386129034191eda5a05bdde0e2ff47a65046c9d04a", func := "given.example/pub-cucurbit/laws.FnCasts", spec := "fnCasts", unfollowed := true, recurses := true, loops := true, apart := false, narrowed := true }
def FnCastsUptoSaid : Prop := fnCastsUptoRow.holds Try.pinned (OpenSpec.upto fnCastsSpec)

/-- 'laws.FnArithmetic', WHERE WHAT IT READS IS OF BULK AT MOST 1048576: true; the input reads as it did. -/
def fnArithmeticUptoRow : OpenClaim := { program := "ythmogfjmngbamaa", sum := "e72e475f4fbb350f864164386129034191eda5a05bdde0e2ff47a65046c9d04a", func := "given.example/pub-cucurbit/laws.FnArithmetic", spec := "fnArithmetic", unfollowed := true, recurses := true, loops := true, apart := false, narrowed := true }
def FnArithmeticUptoSaid : Prop := fnArithmeticUptoRow.holds Try.pinned (OpenSpec.upto fnArithmeticSpec)

end Rows
end Go.Proofs.Ythmogfjmngbamaa
