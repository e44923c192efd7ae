/-
  The walk of FnFromTypeStructSharing: One cache hands out one and the same data for a struct type; another cache other data; without a cache each call builds its own; a pointer to a struct gets none.
-/
import Derived.Test.YtfmefomafdgfmaaGreatFnFromTypeStructSharingW1
import Derived.Test.YtfmefomafdgfmaaGreatFnFromTypeStructSharingW2
import Derived.Test.YtfmefomafdgfmaaGreatFnFromTypeStructSharingW3
import Derived.Test.YtfmefomafdgfmaaGreatFnFromTypeStructSharingW4
namespace Go.Proofs.YtfmefomafdgfmaaGreat.fnFromTypeStructSharing
open Go.RowKit
set_option maxRecDepth 100000
set_option maxHeartbeats 1000000
set_option linter.unusedVariables false
theorem walk (a : Int) (w : World) (w0 : (Lit.int .i64 a).wf = true) : Calls Tryz.prog 11 #[.int .i64 a] w fun e w' => e = .returned (.bool true) ∧ Below w.heap.size w w' := by
  have hs : a % 4 = 0 ∨ a % 4 = 1 ∨ a % 4 = 2 ∨ a % 4 = 3 := by omega
  rcases hs with h | h | h | h
  · exact share_0 a w0 h w
  · exact share_1 a w0 h w
  · exact share_2 a w0 h w
  · exact share_3 a w0 h w
end Go.Proofs.YtfmefomafdgfmaaGreat.fnFromTypeStructSharing
