/-
  The walk of FnElemSampleTable: Elem of each of the twelve samples, with or without a cache, is the nature of its element type, or the empty unknown nature where there is none.
-/
import Derived.Test.YtfmefomafdgfmaaGreatFnElemSampleTableW1
import Derived.Test.YtfmefomafdgfmaaGreatFnElemSampleTableW2
import Derived.Test.YtfmefomafdgfmaaGreatFnElemSampleTableW3
import Derived.Test.YtfmefomafdgfmaaGreatFnElemSampleTableW4
namespace Go.Proofs.YtfmefomafdgfmaaGreat.fnElemSampleTable
open Go.RowKit
set_option maxRecDepth 100000
set_option maxHeartbeats 1000000
set_option linter.unusedVariables false
theorem case_low (a : Int) (h : a < 0) (u : Bool) (w : World) : Calls Tryz.prog 6 #[.int .i64 a, .bool u] w fun e w' => e = .returned (.bool true) ∧ Below w.heap.size w w' := by
  go_enter Tryz.func6, Tryz.ntmps6
  go_wp2
  go_ret
  exact ⟨rfl, Below.refl _ _⟩
theorem case_high (a : Int) (h : 12 ≤ a) (u : Bool) (w : World) : Calls Tryz.prog 6 #[.int .i64 a, .bool u] w fun e w' => e = .returned (.bool true) ∧ Below w.heap.size w w' := by
  go_enter Tryz.func6, Tryz.ntmps6
  go_wp2
  go_ret
  exact ⟨rfl, Below.refl _ _⟩
theorem walk (a : Int) (u : Bool) (w : World) (w0 : (Lit.int .i64 a).wf = true) : Calls Tryz.prog 6 #[.int .i64 a, .bool u] w fun e w' => e = .returned (.bool true) ∧ Below w.heap.size w w' := by
  by_cases c1 : a < 0
  · exact case_low a c1 u w
  by_cases c2 : 12 ≤ a
  · exact case_high a c2 u w
  have hs : a = 0 ∨ a = 1 ∨ a = 2 ∨ a = 3 ∨ a = 4 ∨ a = 5 ∨ a = 6 ∨ a = 7 ∨ a = 8 ∨ a = 9 ∨ a = 10 ∨ a = 11 := by omega
  rcases hs with rfl | rfl | rfl | rfl | rfl | rfl | rfl | rfl | rfl | rfl | rfl | rfl
  · cases u with
    | false => exact case_0_false w
    | true => exact case_0_true w
  · cases u with
    | false => exact case_1_false w
    | true => exact case_1_true w
  · cases u with
    | false => exact case_2_false w
    | true => exact case_2_true w
  · cases u with
    | false => exact case_3_false w
    | true => exact case_3_true w
  · cases u with
    | false => exact case_4_false w
    | true => exact case_4_true w
  · cases u with
    | false => exact case_5_false w
    | true => exact case_5_true w
  · cases u with
    | false => exact case_6_false w
    | true => exact case_6_true w
  · cases u with
    | false => exact case_7_false w
    | true => exact case_7_true w
  · cases u with
    | false => exact case_8_false w
    | true => exact case_8_true w
  · cases u with
    | false => exact case_9_false w
    | true => exact case_9_true w
  · cases u with
    | false => exact case_10_false w
    | true => exact case_10_true w
  · cases u with
    | false => exact case_11_false w
    | true => exact case_11_true w
end Go.Proofs.YtfmefomafdgfmaaGreat.fnElemSampleTable
