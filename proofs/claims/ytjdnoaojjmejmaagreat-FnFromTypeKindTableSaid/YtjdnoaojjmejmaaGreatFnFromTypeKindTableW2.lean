/-
  A part of the walk of FnFromTypeKindTable: FromType with a nil cache gives exactly the tabled nature for each of the 22 types.
-/
import Derived.Test.YtjdnoaojjmejmaaGreatFnFromTypeKindTableC
import Derived.Test.YtjdnoaojjmejmaaGreatFnFromTypeKindTableC1
namespace Go.Proofs.YtjdnoaojjmejmaaGreat.fnFromTypeKindTable
open Go.RowKit
set_option maxRecDepth 100000
set_option maxHeartbeats 1000000
set_option linter.unusedVariables false
theorem case_1 (w : World) : Calls Tryz.prog 7 #[.int .i64 1] w fun e w' => e = .returned (.bool true) ∧ Below w.heap.size w w' := by
  go_enter Tryz.func7, Tryz.ntmps7
  go_wp2_with (first | (go_at_call 53; ((with_reducible refine (c_53 _).mono ?_); rintro e w' ⟨rfl, rfl⟩)))
  go_region_with (first | (go_at_call 23; refine (sh_Int _).mono ?_; rintro e w' ⟨rfl, rfl⟩) | (go_at_call 54; refine (it_Int _).mono ?_; rintro e w' ⟨rfl, rfl⟩))
  all_goals
    go_wp2
    go_ret
    refine ⟨rfl, ?_⟩
    repeat (first | with_reducible refine bal ?_ _ | with_reducible refine Below.drew ?_ | with_reducible refine bdn ?_ _)
    exact Below.refl _ _
theorem case_4 (w : World) : Calls Tryz.prog 7 #[.int .i64 4] w fun e w' => e = .returned (.bool true) ∧ Below w.heap.size w w' := by
  go_enter Tryz.func7, Tryz.ntmps7
  go_wp2_with (first | (go_at_call 58; ((with_reducible refine (c_58 _).mono ?_); rintro e w' ⟨rfl, rfl⟩)))
  go_region_with (first | (go_at_call 23; refine (sh_Uint8 _).mono ?_; rintro e w' ⟨rfl, rfl⟩) | (go_at_call 26; refine (it_Uint8 _).mono ?_; rintro e w' ⟨rfl, rfl⟩))
  all_goals
    go_wp2
    go_ret
    refine ⟨rfl, ?_⟩
    repeat (first | with_reducible refine bal ?_ _ | with_reducible refine Below.drew ?_ | with_reducible refine bdn ?_ _)
    exact Below.refl _ _
theorem case_7 (w : World) : Calls Tryz.prog 7 #[.int .i64 7] w fun e w' => e = .returned (.bool true) ∧ Below w.heap.size w w' := by
  go_enter Tryz.func7, Tryz.ntmps7
  go_wp2_with (first | (go_at_call 63; ((with_reducible refine (c_63 _).mono ?_); rintro e w' ⟨rfl, rfl⟩)))
  go_region_with (first | (go_at_call 23; refine (sh_Float32 _).mono ?_; rintro e w' ⟨rfl, rfl⟩) | (go_at_call 64; refine (it_Float32 _).mono ?_; rintro e w' ⟨rfl, rfl⟩))
  all_goals
    go_wp2
    go_ret
    refine ⟨rfl, ?_⟩
    repeat (first | with_reducible refine bal ?_ _ | with_reducible refine Below.drew ?_ | with_reducible refine bdn ?_ _)
    exact Below.refl _ _
theorem case_10 (w : World) : Calls Tryz.prog 7 #[.int .i64 10] w fun e w' => e = .returned (.bool true) ∧ Below w.heap.size w w' := by
  go_enter Tryz.func7, Tryz.ntmps7
  go_wp2_with (first | (go_at_call 68; ((with_reducible refine (c_68 _).mono ?_); rintro e w' ⟨rfl, rfl⟩)))
  go_region_with (first | (go_at_call 23; refine (sh_MyFloat _).mono ?_; rintro e w' ⟨rfl, rfl⟩) | (go_at_call 69; refine (it_MyFloat _).mono ?_; rintro e w' ⟨rfl, rfl⟩))
  all_goals
    go_wp2
    go_ret
    refine ⟨rfl, ?_⟩
    repeat (first | with_reducible refine bal ?_ _ | with_reducible refine Below.drew ?_ | with_reducible refine bdn ?_ _)
    exact Below.refl _ _
theorem case_13 (w : World) : Calls Tryz.prog 7 #[.int .i64 13] w fun e w' => e = .returned (.bool true) ∧ Below w.heap.size w w' := by
  go_enter Tryz.func7, Tryz.ntmps7
  go_wp2_with (first | (go_at_call 72; ((with_reducible refine (c_72 _).mono ?_); rintro e w' ⟨rfl, rfl⟩)))
  go_region_with (first | (go_at_call 23; refine (sh_Func (w.heap.size + 1 + 1 + 1) _ (by simp <;> omega) (by unfold Hid; simp [go_sem, TDZ])).mono ?_; rintro e w' ⟨rfl, nn, rfl⟩) | (go_at_call 73; refine (it_Func _ _).mono ?_; rintro e w' ⟨rfl, rfl⟩))
  all_goals
    go_wp2
    go_ret
    refine ⟨rfl, ?_⟩
    repeat (first | with_reducible refine bal ?_ _ | with_reducible refine Below.drew ?_ | with_reducible refine bdn ?_ _)
    exact Below.refl _ _
theorem case_16 (w : World) : Calls Tryz.prog 7 #[.int .i64 16] w fun e w' => e = .returned (.bool true) ∧ Below w.heap.size w w' := by
  go_enter Tryz.func7, Tryz.ntmps7
  go_wp2_with (first | (go_at_call 77; ((with_reducible refine (c_77 _).mono ?_); rintro e w' ⟨rfl, rfl⟩)))
  go_region_with (first | (go_at_call 23; refine (sh_MapStringInt _).mono ?_; rintro e w' ⟨rfl, rfl⟩) | (go_at_call 36; refine (it_MapStringInt _).mono ?_; rintro e w' ⟨rfl, rfl⟩))
  all_goals
    go_wp2
    go_ret
    refine ⟨rfl, ?_⟩
    repeat (first | with_reducible refine bal ?_ _ | with_reducible refine Below.drew ?_ | with_reducible refine bdn ?_ _)
    exact Below.refl _ _
theorem case_19 (w : World) : Calls Tryz.prog 7 #[.int .i64 19] w fun e w' => e = .returned (.bool true) ∧ Below w.heap.size w w' := by
  go_enter Tryz.func7, Tryz.ntmps7
  go_wp2_with (first | (go_at_call 81; ((with_reducible refine (c_81 _).mono ?_); rintro e w' ⟨rfl, rfl⟩)))
  go_region_with (first | (go_at_call 23; refine (sh_Any _).mono ?_; rintro e w' ⟨rfl, rfl⟩) | (go_at_call 82; refine (it_Any _).mono ?_; rintro e w' ⟨rfl, rfl⟩))
  all_goals
    go_wp2
    go_ret
    refine ⟨rfl, ?_⟩
    repeat (first | with_reducible refine bal ?_ _ | with_reducible refine Below.drew ?_ | with_reducible refine bdn ?_ _)
    exact Below.refl _ _
end Go.Proofs.YtjdnoaojjmejmaaGreat.fnFromTypeKindTable
