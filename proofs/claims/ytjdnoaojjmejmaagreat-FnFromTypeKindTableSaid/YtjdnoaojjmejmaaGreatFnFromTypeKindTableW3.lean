/-
  A part of the walk of FnFromTypeKindTable: FromType with a nil cache gives exactly the tabled nature for each of the 22 types.
-/
import Derived.Test.YtjdnoaojjmejmaaGreatFnFromTypeKindTableC
import Derived.Test.YtjdnoaojjmejmaaGreatFnFromTypeKindTableC1
namespace Go.Proofs.YtjdnoaojjmejmaaGreat.fnFromTypeKindTable
open Go.RowKit
set_option maxRecDepth 100000
set_option maxHeartbeats 1000000
set_option linter.unusedVariables false
theorem case_2 (w : World) : Calls Tryz.prog 7 #[.int .i64 2] w fun e w' => e = .returned (.bool true) ∧ Below w.heap.size w w' := by
  go_enter Tryz.func7, Tryz.ntmps7
  go_wp2_with (first | (go_at_call 55; ((with_reducible refine (c_55 _).mono ?_); rintro e w' ⟨rfl, rfl⟩)))
  go_region_with (first | (go_at_call 23; refine (sh_Int8 _).mono ?_; rintro e w' ⟨rfl, rfl⟩) | (go_at_call 56; refine (it_Int8 _).mono ?_; rintro e w' ⟨rfl, rfl⟩))
  all_goals
    go_wp2
    go_ret
    refine ⟨rfl, ?_⟩
    repeat (first | with_reducible refine bal ?_ _ | with_reducible refine Below.drew ?_ | with_reducible refine bdn ?_ _)
    exact Below.refl _ _
theorem case_5 (w : World) : Calls Tryz.prog 7 #[.int .i64 5] w fun e w' => e = .returned (.bool true) ∧ Below w.heap.size w w' := by
  go_enter Tryz.func7, Tryz.ntmps7
  go_wp2_with (first | (go_at_call 59; ((with_reducible refine (c_59 _).mono ?_); rintro e w' ⟨rfl, rfl⟩)))
  go_region_with (first | (go_at_call 23; refine (sh_Uint64 _).mono ?_; rintro e w' ⟨rfl, rfl⟩) | (go_at_call 60; refine (it_Uint64 _).mono ?_; rintro e w' ⟨rfl, rfl⟩))
  all_goals
    go_wp2
    go_ret
    refine ⟨rfl, ?_⟩
    repeat (first | with_reducible refine bal ?_ _ | with_reducible refine Below.drew ?_ | with_reducible refine bdn ?_ _)
    exact Below.refl _ _
theorem case_8 (w : World) : Calls Tryz.prog 7 #[.int .i64 8] w fun e w' => e = .returned (.bool true) ∧ Below w.heap.size w w' := by
  go_enter Tryz.func7, Tryz.ntmps7
  go_wp2_with (first | (go_at_call 65; ((with_reducible refine (c_65 _).mono ?_); rintro e w' ⟨rfl, rfl⟩)))
  go_region_with (first | (go_at_call 23; refine (sh_Float64 _).mono ?_; rintro e w' ⟨rfl, rfl⟩) | (go_at_call 28; refine (it_Float64 _).mono ?_; rintro e w' ⟨rfl, rfl⟩))
  all_goals
    go_wp2
    go_ret
    refine ⟨rfl, ?_⟩
    repeat (first | with_reducible refine bal ?_ _ | with_reducible refine Below.drew ?_ | with_reducible refine bdn ?_ _)
    exact Below.refl _ _
theorem case_11 (w : World) : Calls Tryz.prog 7 #[.int .i64 11] w fun e w' => e = .returned (.bool true) ∧ Below w.heap.size w w' := by
  go_enter Tryz.func7, Tryz.ntmps7
  go_wp2_with (first | (go_at_call 70; ((with_reducible refine (c_70 _).mono ?_); rintro e w' ⟨rfl, rfl⟩)))
  go_region_with (first | (go_at_call 23; refine (sh_String _).mono ?_; rintro e w' ⟨rfl, rfl⟩) | (go_at_call 30; refine (it_String _).mono ?_; rintro e w' ⟨rfl, rfl⟩))
  all_goals
    go_wp2
    go_ret
    refine ⟨rfl, ?_⟩
    repeat (first | with_reducible refine bal ?_ _ | with_reducible refine Below.drew ?_ | with_reducible refine bdn ?_ _)
    exact Below.refl _ _
theorem case_14 (w : World) : Calls Tryz.prog 7 #[.int .i64 14] w fun e w' => e = .returned (.bool true) ∧ Below w.heap.size w w' := by
  go_enter Tryz.func7, Tryz.ntmps7
  go_wp2_with (first | (go_at_call 74; ((with_reducible refine (c_74 _).mono ?_); rintro e w' ⟨rfl, rfl⟩)))
  go_region_with (first | (go_at_call 23; refine (sh_Struct (w.heap.size + 1 + 1 + 1) _ (by simp <;> omega) (by unfold Hid; simp [go_sem, TDZ])).mono ?_; rintro e w' ⟨rfl, nn, rfl⟩) | (go_at_call 75; refine (it_Struct _ _).mono ?_; rintro e w' ⟨rfl, rfl⟩))
  all_goals
    go_wp2
    go_ret
    refine ⟨rfl, ?_⟩
    repeat (first | with_reducible refine bal ?_ _ | with_reducible refine Below.drew ?_ | with_reducible refine bdn ?_ _)
    exact Below.refl _ _
theorem case_17 (w : World) : Calls Tryz.prog 7 #[.int .i64 17] w fun e w' => e = .returned (.bool true) ∧ Below w.heap.size w w' := by
  go_enter Tryz.func7, Tryz.ntmps7
  go_wp2_with (first | (go_at_call 78; ((with_reducible refine (c_78 _).mono ?_); rintro e w' ⟨rfl, rfl⟩)))
  go_region_with (first | (go_at_call 23; refine (sh_PtrInt _).mono ?_; rintro e w' ⟨rfl, rfl⟩) | (go_at_call 38; refine (it_PtrInt _).mono ?_; rintro e w' ⟨rfl, rfl⟩))
  all_goals
    go_wp2
    go_ret
    refine ⟨rfl, ?_⟩
    repeat (first | with_reducible refine bal ?_ _ | with_reducible refine Below.drew ?_ | with_reducible refine bdn ?_ _)
    exact Below.refl _ _
theorem case_20 (w : World) : Calls Tryz.prog 7 #[.int .i64 20] w fun e w' => e = .returned (.bool true) ∧ Below w.heap.size w w' := by
  go_enter Tryz.func7, Tryz.ntmps7
  go_wp2_with (first | (go_at_call 83; ((with_reducible refine (c_83 _).mono ?_); rintro e w' ⟨rfl, rfl⟩)))
  go_region_with (first | (go_at_call 23; refine (sh_EmptyIface _).mono ?_; rintro e w' ⟨rfl, rfl⟩) | (go_at_call 84; refine (it_EmptyIface _).mono ?_; rintro e w' ⟨rfl, rfl⟩))
  all_goals
    go_wp2
    go_ret
    refine ⟨rfl, ?_⟩
    repeat (first | with_reducible refine bal ?_ _ | with_reducible refine Below.drew ?_ | with_reducible refine bdn ?_ _)
    exact Below.refl _ _
end Go.Proofs.YtjdnoaojjmejmaaGreat.fnFromTypeKindTable
