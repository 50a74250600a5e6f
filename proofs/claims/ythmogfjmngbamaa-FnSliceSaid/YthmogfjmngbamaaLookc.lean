/-
  'runtime.ZzAt' walked at a map keyed by texts.
-/
import Derived.Test.YthmogfjmngbamaaLookb
import Derived.Test.YthmogfjmngbamaaCmp
namespace Go.Proofs.Ythmogfjmngbamaa
open Go.RowKit Go.ChangeMaps
set_option linter.unusedSimpArgs false
set_option linter.unusedVariables false

set_option maxHeartbeats 1000000 in
set_option maxRecDepth 100000 in
theorem zzAt_map {w : World} {b : Nat} {es : Array MapEntry} {clock : Nat} (hb : w.heap[b]? = some (.map es clock)) (ks : List ByteArray) (hk : es.toList.map (·.key) = ks.map Value.string) (s : ByteArray) :
    Calls Try.prog 104 #[.iface 103 (.map (some b)), .iface 9 (.string s)] w
      (Tells (.tuple #[((keyIdx ks s).bind fun m => (es.toList[m]?).map (·.val)).getD .nilIface, .bool ((keyIdx ks s).bind fun m => es.toList[m]?).isSome, .bool true]) w) := by
  have hl := run_lookup_str hb ks hk s
  generalize ((keyIdx ks s).bind fun m => (es.toList[m]?).map (·.val)).getD .nilIface = v at *
  generalize ((keyIdx ks s).bind fun m => es.toList[m]?).isSome = r at *
  clear hb hk
  go_enter Try.func104, Try.ntmps104
  go_wp2_with fail
  refine bodyPost_ret (by simp [results, Try.results104, go_sem]) rfl ⟨rfl, rfl⟩

end Go.Proofs.Ythmogfjmngbamaa
