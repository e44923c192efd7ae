/-
  The walk of FnElemInvertsMakeArrayOf: Elem undoes MakeArrayOf: for any nature n, the array made of n has Ref n, and its Elem is n field for field.
-/
import Derived.Test.YtfmefomafdgfmaaGreatFnElemInvertsMakeArrayOfW1
import Derived.Test.YtfmefomafdgfmaaGreatFnElemInvertsMakeArrayOfW2
import Derived.Test.YtfmefomafdgfmaaGreatFnElemInvertsMakeArrayOfW3
import Derived.Test.YtfmefomafdgfmaaGreatFnElemInvertsMakeArrayOfW4
import Derived.Test.YtfmefomafdgfmaaGreatFnElemInvertsMakeArrayOfW5
import Derived.Test.YtfmefomafdgfmaaGreatFnElemInvertsMakeArrayOfW6
import Derived.Test.YtfmefomafdgfmaaGreatFnElemInvertsMakeArrayOfW7
import Derived.Test.YtfmefomafdgfmaaGreatFnElemInvertsMakeArrayOfW8
import Derived.Test.YtfmefomafdgfmaaGreatFnElemInvertsMakeArrayOfW9
namespace Go.Proofs.YtfmefomafdgfmaaGreat.fnElemInvertsMakeArrayOf
open Go.RowKit
set_option maxRecDepth 100000
set_option maxHeartbeats 1000000
set_option linter.unusedVariables false
theorem walk (j k : Int) (b1 b2 b3 b4 b5 u : Bool) (w : World) (w0 : (Lit.int .i64 j).wf = true) (w1 : (Lit.int .u64 k).wf = true) : Calls Tryz.prog 7 #[.int .i64 j, .int .u64 k, .bool b1, .bool b2, .bool b3, .bool b4, .bool b5, .bool u] w fun e w' => e = .returned (.bool true) ∧ Below w.heap.size w w' := by
  by_cases c1 : j < 0 ∨ 12 ≤ j
  · cases u with
    | false => exact case_p_false j c1 k b1 b2 b3 b4 b5 w
    | true => exact case_p_true j c1 k b1 b2 b3 b4 b5 w
  have hs : j = 0 ∨ j = 1 ∨ j = 2 ∨ j = 3 ∨ j = 4 ∨ j = 5 ∨ j = 6 ∨ j = 7 ∨ j = 8 ∨ j = 9 ∨ j = 10 ∨ j = 11 := by omega
  rcases hs with rfl | rfl | rfl | rfl | rfl | rfl | rfl | rfl | rfl | rfl | rfl | rfl
  · cases u with
    | false => exact case_0_false k b1 b2 b3 b4 b5 w
    | true => exact case_0_true k b1 b2 b3 b4 b5 w
  · cases u with
    | false => exact case_1_false k b1 b2 b3 b4 b5 w
    | true => exact case_1_true k b1 b2 b3 b4 b5 w
  · cases u with
    | false => exact case_2_false k b1 b2 b3 b4 b5 w
    | true => exact case_2_true k b1 b2 b3 b4 b5 w
  · cases u with
    | false => exact case_3_false k b1 b2 b3 b4 b5 w
    | true => exact case_3_true k b1 b2 b3 b4 b5 w
  · cases u with
    | false => exact case_4_false k b1 b2 b3 b4 b5 w
    | true => exact case_4_true k b1 b2 b3 b4 b5 w
  · cases u with
    | false => exact case_5_false k b1 b2 b3 b4 b5 w
    | true => exact case_5_true k b1 b2 b3 b4 b5 w
  · cases u with
    | false => exact case_6_false k b1 b2 b3 b4 b5 w
    | true => exact case_6_true k b1 b2 b3 b4 b5 w
  · cases u with
    | false => exact case_7_false k b1 b2 b3 b4 b5 w
    | true => exact case_7_true k b1 b2 b3 b4 b5 w
  · cases u with
    | false => exact case_8_false k b1 b2 b3 b4 b5 w
    | true => exact case_8_true k b1 b2 b3 b4 b5 w
  · cases u with
    | false => exact case_9_false k b1 b2 b3 b4 b5 w
    | true => exact case_9_true k b1 b2 b3 b4 b5 w
  · cases u with
    | false => exact case_10_false k b1 b2 b3 b4 b5 w
    | true => exact case_10_true k b1 b2 b3 b4 b5 w
  · cases u with
    | false => exact case_11_false k b1 b2 b3 b4 b5 w
    | true => exact case_11_true k b1 b2 b3 b4 b5 w
end Go.Proofs.YtfmefomafdgfmaaGreat.fnElemInvertsMakeArrayOf
