/-
  A part of the walk of FnArrayFromTypeElemAgrees: ArrayFromType is the []any nature whose Ref is the nature of the element type, with a nil or a fresh cache.
-/
import Derived.Test.YtfmefomafdgfmaaGreatFnArrayFromTypeElemAgreesC
import Derived.Test.YtfmefomafdgfmaaGreatFnArrayFromTypeElemAgreesC1
namespace Go.Proofs.YtfmefomafdgfmaaGreat.fnArrayFromTypeElemAgrees
open Go.RowKit
set_option maxRecDepth 100000
set_option maxHeartbeats 1000000
set_option linter.unusedVariables false
theorem case_0_false (w : World) : Calls Tryz.prog 3 #[.int .i64 0, .bool false] w fun e w' => e = .returned (.bool true) ∧ Below w.heap.size w w' := by
  go_enter Tryz.func3, Tryz.ntmps3
  go_wp2_with (first | (go_at_call 14; ((with_reducible refine (ao_0 _ _).mono ?_); rintro e w' ⟨rfl, rfl⟩)) | (go_at_call 15; ((with_reducible refine (ias _ _).mono ?_); rintro e w' ⟨rfl, rfl⟩)))
  go_region_with (first | (go_at_call 16; refine (sh_Nil _).mono ?_; rintro e w' ⟨rfl, rfl⟩))
  all_goals
    go_wp2
    go_ret
    refine ⟨rfl, ?_⟩
    repeat (first | with_reducible refine bal ?_ _ | with_reducible refine Below.drew ?_ | with_reducible refine bdn ?_ _)
    exact Below.refl _ _
theorem case_2_false (w : World) : Calls Tryz.prog 3 #[.int .i64 2, .bool false] w fun e w' => e = .returned (.bool true) ∧ Below w.heap.size w w' := by
  go_enter Tryz.func3, Tryz.ntmps3
  go_wp2_with (first | (go_at_call 14; ((with_reducible refine (ao_2 _ _).mono ?_); rintro e w' ⟨rfl, rfl⟩)) | (go_at_call 15; ((with_reducible refine (ias _ _).mono ?_); rintro e w' ⟨rfl, rfl⟩)))
  go_region_with (first | (go_at_call 16; refine (sh_Float64 _).mono ?_; rintro e w' ⟨rfl, rfl⟩) | (go_at_call 18; refine (it_Float64 _).mono ?_; rintro e w' ⟨rfl, rfl⟩))
  all_goals
    go_wp2
    go_ret
    refine ⟨rfl, ?_⟩
    repeat (first | with_reducible refine bal ?_ _ | with_reducible refine Below.drew ?_ | with_reducible refine bdn ?_ _)
    exact Below.refl _ _
theorem case_4_false (w : World) : Calls Tryz.prog 3 #[.int .i64 4, .bool false] w fun e w' => e = .returned (.bool true) ∧ Below w.heap.size w w' := by
  go_enter Tryz.func3, Tryz.ntmps3
  go_wp2_with (first | (go_at_call 14; ((with_reducible refine (ao_4 _ _).mono ?_); rintro e w' ⟨rfl, rfl⟩)) | (go_at_call 15; ((with_reducible refine (ias _ _).mono ?_); rintro e w' ⟨rfl, rfl⟩)))
  go_region_with (first | (go_at_call 16; refine (sh_String _).mono ?_; rintro e w' ⟨rfl, rfl⟩) | (go_at_call 20; refine (it_String _).mono ?_; rintro e w' ⟨rfl, rfl⟩))
  all_goals
    go_wp2
    go_ret
    refine ⟨rfl, ?_⟩
    repeat (first | with_reducible refine bal ?_ _ | with_reducible refine Below.drew ?_ | with_reducible refine bdn ?_ _)
    exact Below.refl _ _
theorem case_6_false (w : World) : Calls Tryz.prog 3 #[.int .i64 6, .bool false] w fun e w' => e = .returned (.bool true) ∧ Below w.heap.size w w' := by
  go_enter Tryz.func3, Tryz.ntmps3
  go_wp2_with (first | (go_at_call 14; ((with_reducible refine (ao_6 _).mono ?_); rintro e w' ⟨rfl, rfl⟩)) | (go_at_call 15; ((with_reducible refine (ias _ _).mono ?_); rintro e w' ⟨rfl, rfl⟩)))
  go_region_with (first | (go_at_call 16; refine (sh_Struct _ _ (by simp <;> omega) (by unfold Hid; simp [go_sem, TDZ])).mono ?_; rintro e w' ⟨rfl, nn, rfl⟩) | (go_at_call 22; refine (it_Struct _ _).mono ?_; rintro e w' ⟨rfl, rfl⟩))
  all_goals
    go_wp2
    go_ret
    refine ⟨rfl, ?_⟩
    repeat (first | with_reducible refine bal ?_ _ | with_reducible refine Below.drew ?_ | with_reducible refine bdn ?_ _)
    exact Below.refl _ _
end Go.Proofs.YtfmefomafdgfmaaGreat.fnArrayFromTypeElemAgrees
