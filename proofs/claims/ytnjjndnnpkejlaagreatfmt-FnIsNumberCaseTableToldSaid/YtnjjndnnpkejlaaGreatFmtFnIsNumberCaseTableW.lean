/-
  The walk of FnIsNumberCaseTable: IsNumber is true exactly for the builtin integer and float types, and agrees with IsAnyOf(NumberCheck).
-/
import Derived.Test.YtnjjndnnpkejlaaGreatFmtFnIsNumberCaseTableW1
import Derived.Test.YtnjjndnnpkejlaaGreatFmtFnIsNumberCaseTableW2
import Derived.Test.YtnjjndnnpkejlaaGreatFmtFnIsNumberCaseTableW3
namespace Go.Proofs.YtnjjndnnpkejlaaGreatFmt.fnIsNumberCaseTable
open Go.RowKit
set_option maxRecDepth 100000
set_option maxHeartbeats 1000000
set_option linter.unusedVariables false
theorem walk (a : Int) (w : World) (w0 : (Lit.int .i64 a).wf = true) : Calls Tryz.prog 3 #[.int .i64 a] w fun e w' => e = .returned (.bool true) ∧ Below w.heap.size w w' := by
  by_cases c1 : a < 0
  · exact case_low a c1 w
  by_cases c2 : 22 < a
  · exact case_high a c2 w
  have hs : a = 0 ∨ a = 1 ∨ a = 2 ∨ a = 3 ∨ a = 4 ∨ a = 5 ∨ a = 6 ∨ a = 7 ∨ a = 8 ∨ a = 9 ∨ a = 10 ∨ a = 11 ∨ a = 12 ∨ a = 13 ∨ a = 14 ∨ a = 15 ∨ a = 16 ∨ a = 17 ∨ a = 18 ∨ a = 19 ∨ a = 20 ∨ a = 21 ∨ a = 22 := by omega
  rcases hs with rfl | rfl | rfl | rfl | rfl | rfl | rfl | rfl | rfl | rfl | rfl | rfl | rfl | rfl | rfl | rfl | rfl | rfl | rfl | rfl | rfl | rfl | rfl
  · exact case_0 w
  · exact case_1 w
  · exact case_2 w
  · exact case_3 w
  · exact case_4 w
  · exact case_5 w
  · exact case_6 w
  · exact case_7 w
  · exact case_8 w
  · exact case_9 w
  · exact case_10 w
  · exact case_11 w
  · exact case_12 w
  · exact case_13 w
  · exact case_14 w
  · exact case_15 w
  · exact case_16 w
  · exact case_17 w
  · exact case_18 w
  · exact case_19 w
  · exact case_20 w
  · exact case_21 w
  · exact case_22 w
end Go.Proofs.YtnjjndnnpkejlaaGreatFmt.fnIsNumberCaseTable
