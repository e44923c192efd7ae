/-
  The walk of FnGetStructMemoTable: getStruct answers a fixed table, and the same data on every later call for that type on that cache; another type and another cache get other data.
-/
import Derived.Test.YtfmefomafdgfmaaGreatFnGetStructMemoTableW1
import Derived.Test.YtfmefomafdgfmaaGreatFnGetStructMemoTableW2
import Derived.Test.YtfmefomafdgfmaaGreatFnGetStructMemoTableW3
import Derived.Test.YtfmefomafdgfmaaGreatFnGetStructMemoTableW4
namespace Go.Proofs.YtfmefomafdgfmaaGreat.fnGetStructMemoTable
open Go.RowKit
set_option maxRecDepth 100000
set_option maxHeartbeats 1000000
set_option linter.unusedVariables false
theorem walk (a : Int) (w : World) (w0 : (Lit.int .i64 a).wf = true) : Calls Tryz.prog 13 #[.int .i64 a] w fun e w' => e = .returned (.bool true) ∧ Below w.heap.size w w' := by
  have hs : a % 4 = 0 ∨ a % 4 = 1 ∨ a % 4 = 2 ∨ a % 4 = 3 := by omega
  rcases hs with h | h | h | h
  · exact memo_0 a w0 h w
  · exact memo_1 a w0 h w
  · exact memo_2 a w0 h w
  · exact memo_3 a w0 h w
end Go.Proofs.YtfmefomafdgfmaaGreat.fnGetStructMemoTable
