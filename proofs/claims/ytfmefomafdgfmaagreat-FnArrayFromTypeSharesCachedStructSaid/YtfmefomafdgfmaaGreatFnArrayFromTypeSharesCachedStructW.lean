/-
  The walk of FnArrayFromTypeSharesCachedStruct: Over any number of calls on one cache ArrayFromType gives the []any nature whose element shares the one TypeData, each call with a cell of its own; without a cache the TypeData are distinct.
-/
import Derived.Test.YtfmefomafdgfmaaGreatFnArrayFromTypeSharesCachedStructW1
namespace Go.Proofs.YtfmefomafdgfmaaGreat.fnArrayFromTypeSharesCachedStruct
open Go.RowKit
set_option maxRecDepth 100000
set_option maxHeartbeats 1000000
set_option linter.unusedVariables false
theorem walk (a : Int) (w : World) (w0 : (Lit.int .i64 a).wf = true) : Calls Tryz.prog 12 #[.int .i64 a] w fun e w' => e = .returned (.bool true) ∧ Below w.heap.size w w' := by
  by_cases c1 : a < 1
  · exact case_low a c1 w
  by_cases c2 : 65536 < a
  · exact case_high a c2 w
  exact inside a (by omega) (by omega) w
end Go.Proofs.YtfmefomafdgfmaaGreat.fnArrayFromTypeSharesCachedStruct
