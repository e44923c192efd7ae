/-
  The walk of FnArrayFromTypeElemAgrees: ArrayFromType is the []any nature whose Ref is the nature of the element type, with a nil or a fresh cache.
-/
import Derived.Test.YtfmefomafdgfmaaGreatFnArrayFromTypeElemAgreesW1
import Derived.Test.YtfmefomafdgfmaaGreatFnArrayFromTypeElemAgreesW2
import Derived.Test.YtfmefomafdgfmaaGreatFnArrayFromTypeElemAgreesW3
import Derived.Test.YtfmefomafdgfmaaGreatFnArrayFromTypeElemAgreesW4
namespace Go.Proofs.YtfmefomafdgfmaaGreat.fnArrayFromTypeElemAgrees
open Go.RowKit
set_option maxRecDepth 100000
set_option maxHeartbeats 1000000
set_option linter.unusedVariables false
theorem case_low (a : Int) (h : a < 0) (u : Bool) (w : World) : Calls Tryz.prog 3 #[.int .i64 a, .bool u] w fun e w' => e = .returned (.bool true) ∧ Below w.heap.size w w' := by
  go_enter Tryz.func3, Tryz.ntmps3
  go_wp2
  go_ret
  exact ⟨rfl, Below.refl _ _⟩
theorem case_high (a : Int) (h : 7 < a) (u : Bool) (w : World) : Calls Tryz.prog 3 #[.int .i64 a, .bool u] w fun e w' => e = .returned (.bool true) ∧ Below w.heap.size w w' := by
  go_enter Tryz.func3, Tryz.ntmps3
  go_wp2
  go_ret
  exact ⟨rfl, Below.refl _ _⟩
theorem walk (a : Int) (u : Bool) (w : World) (w0 : (Lit.int .i64 a).wf = true) : Calls Tryz.prog 3 #[.int .i64 a, .bool u] w fun e w' => e = .returned (.bool true) ∧ Below w.heap.size w w' := by
  by_cases c1 : a < 0
  · exact case_low a c1 u w
  by_cases c2 : 7 < a
  · exact case_high a c2 u w
  have hs : a = 0 ∨ a = 1 ∨ a = 2 ∨ a = 3 ∨ a = 4 ∨ a = 5 ∨ a = 6 ∨ a = 7 := by omega
  rcases hs with rfl | rfl | rfl | rfl | rfl | rfl | rfl | rfl
  · cases u with
    | false => exact case_0_false w
    | true => exact case_0_true w
  · cases u with
    | false => exact case_1_false w
    | true => exact case_1_true w
  · cases u with
    | false => exact case_2_false w
    | true => exact case_2_true w
  · cases u with
    | false => exact case_3_false w
    | true => exact case_3_true w
  · cases u with
    | false => exact case_4_false w
    | true => exact case_4_true w
  · cases u with
    | false => exact case_5_false w
    | true => exact case_5_true w
  · cases u with
    | false => exact case_6_false w
    | true => exact case_6_true w
  · cases u with
    | false => exact case_7_false w
    | true => exact case_7_true w
end Go.Proofs.YtfmefomafdgfmaaGreat.fnArrayFromTypeElemAgrees
