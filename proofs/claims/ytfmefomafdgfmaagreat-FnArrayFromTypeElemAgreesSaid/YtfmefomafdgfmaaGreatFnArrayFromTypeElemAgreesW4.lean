/-
  A part of the walk of FnArrayFromTypeElemAgrees: ArrayFromType is the []any nature whose Ref is the nature of the element type, with a nil or a fresh cache.
-/
import Derived.Test.YtfmefomafdgfmaaGreatFnArrayFromTypeElemAgreesC
import Derived.Test.YtfmefomafdgfmaaGreatFnArrayFromTypeElemAgreesC1
namespace Go.Proofs.YtfmefomafdgfmaaGreat.fnArrayFromTypeElemAgrees
open Go.RowKit
set_option maxRecDepth 100000
set_option maxHeartbeats 1000000
set_option linter.unusedVariables false
theorem case_1_true (w : World) : Calls Tryz.prog 3 #[.int .i64 1, .bool true] w fun e w' => e = .returned (.bool true) ∧ Below w.heap.size w w' := by
  go_enter Tryz.func3, Tryz.ntmps3
  go_wp2_with (first | (go_at_call 14; ((with_reducible refine (ao_1 _ _).mono ?_); rintro e w' ⟨rfl, rfl⟩)) | (go_at_call 15; ((with_reducible refine (ias _ _).mono ?_); rintro e w' ⟨rfl, rfl⟩)))
  go_region_with (first | (go_at_call 16; refine (sh_Int _).mono ?_; rintro e w' ⟨rfl, rfl⟩) | (go_at_call 17; refine (it_Int _).mono ?_; rintro e w' ⟨rfl, rfl⟩))
  all_goals
    go_wp2
    go_ret
    refine ⟨rfl, ?_⟩
    repeat (first | with_reducible refine bal ?_ _ | with_reducible refine Below.drew ?_ | with_reducible refine bdn ?_ _)
    exact Below.refl _ _
theorem case_3_true (w : World) : Calls Tryz.prog 3 #[.int .i64 3, .bool true] w fun e w' => e = .returned (.bool true) ∧ Below w.heap.size w w' := by
  go_enter Tryz.func3, Tryz.ntmps3
  go_wp2_with (first | (go_at_call 14; ((with_reducible refine (ao_3 _ _).mono ?_); rintro e w' ⟨rfl, rfl⟩)) | (go_at_call 15; ((with_reducible refine (ias _ _).mono ?_); rintro e w' ⟨rfl, rfl⟩)))
  go_region_with (first | (go_at_call 16; refine (sh_MyInt _).mono ?_; rintro e w' ⟨rfl, rfl⟩) | (go_at_call 19; refine (it_MyInt _).mono ?_; rintro e w' ⟨rfl, rfl⟩))
  all_goals
    go_wp2
    go_ret
    refine ⟨rfl, ?_⟩
    repeat (first | with_reducible refine bal ?_ _ | with_reducible refine Below.drew ?_ | with_reducible refine bdn ?_ _)
    exact Below.refl _ _
theorem case_5_true (w : World) : Calls Tryz.prog 3 #[.int .i64 5, .bool true] w fun e w' => e = .returned (.bool true) ∧ Below w.heap.size w w' := by
  go_enter Tryz.func3, Tryz.ntmps3
  go_wp2_with (first | (go_at_call 14; ((with_reducible refine (ao_5 _ _).mono ?_); rintro e w' ⟨rfl, rfl⟩)) | (go_at_call 15; ((with_reducible refine (ias _ _).mono ?_); rintro e w' ⟨rfl, rfl⟩)))
  go_region_with (first | (go_at_call 16; refine (sh_Func _ _ (by simp <;> omega) (by unfold Hid; simp [go_sem, TDZ])).mono ?_; rintro e w' ⟨rfl, nn, rfl⟩) | (go_at_call 21; refine (it_Func _ _).mono ?_; rintro e w' ⟨rfl, rfl⟩))
  all_goals
    go_wp2
    go_ret
    refine ⟨rfl, ?_⟩
    repeat (first | with_reducible refine bal ?_ _ | with_reducible refine Below.drew ?_ | with_reducible refine bdn ?_ _)
    exact Below.refl _ _
theorem case_7_true (w : World) : Calls Tryz.prog 3 #[.int .i64 7, .bool true] w fun e w' => e = .returned (.bool true) ∧ Below w.heap.size w w' := by
  go_enter Tryz.func3, Tryz.ntmps3
  go_wp2_with (first | (go_at_call 14; ((with_reducible refine (ao_7 _ _).mono ?_); rintro e w' ⟨rfl, rfl⟩)) | (go_at_call 15; ((with_reducible refine (ias _ _).mono ?_); rintro e w' ⟨rfl, rfl⟩)))
  go_region_with (first | (go_at_call 16; refine (sh_SliceInt _).mono ?_; rintro e w' ⟨rfl, rfl⟩) | (go_at_call 25; refine (it_SliceInt _).mono ?_; rintro e w' ⟨rfl, rfl⟩))
  all_goals
    go_wp2
    go_ret
    refine ⟨rfl, ?_⟩
    repeat (first | with_reducible refine bal ?_ _ | with_reducible refine Below.drew ?_ | with_reducible refine bdn ?_ _)
    exact Below.refl _ _
end Go.Proofs.YtfmefomafdgfmaaGreat.fnArrayFromTypeElemAgrees
