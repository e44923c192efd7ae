/-
  A part of the walk of FnFromTypeKindTable: FromType with a nil cache gives exactly the tabled nature for each of the 22 types.
-/
import Derived.Test.YtjdnoaojjmejmaaGreatFnFromTypeKindTableC
import Derived.Test.YtjdnoaojjmejmaaGreatFnFromTypeKindTableC1
namespace Go.Proofs.YtjdnoaojjmejmaaGreat.fnFromTypeKindTable
open Go.RowKit
set_option maxRecDepth 100000
set_option maxHeartbeats 1000000
set_option linter.unusedVariables false
theorem case_0 (w : World) : Calls Tryz.prog 7 #[.int .i64 0] w fun e w' => e = .returned (.bool true) ∧ Below w.heap.size w w' := by
  go_enter Tryz.func7, Tryz.ntmps7
  go_wp2_with (first | (go_at_call 52; ((with_reducible refine (c_52 _).mono ?_); rintro e w' ⟨rfl, rfl⟩)))
  go_region_with (first | (go_at_call 23; refine (sh_Nil _).mono ?_; rintro e w' ⟨rfl, rfl⟩))
  all_goals
    go_wp2
    go_ret
    refine ⟨rfl, ?_⟩
    repeat (first | with_reducible refine bal ?_ _ | with_reducible refine Below.drew ?_ | with_reducible refine bdn ?_ _)
    exact Below.refl _ _
theorem case_3 (w : World) : Calls Tryz.prog 7 #[.int .i64 3] w fun e w' => e = .returned (.bool true) ∧ Below w.heap.size w w' := by
  go_enter Tryz.func7, Tryz.ntmps7
  go_wp2_with (first | (go_at_call 57; ((with_reducible refine (c_57 _).mono ?_); rintro e w' ⟨rfl, rfl⟩)))
  go_region_with (first | (go_at_call 23; refine (sh_Int64 _).mono ?_; rintro e w' ⟨rfl, rfl⟩) | (go_at_call 24; refine (it_Int64 _).mono ?_; rintro e w' ⟨rfl, rfl⟩))
  all_goals
    go_wp2
    go_ret
    refine ⟨rfl, ?_⟩
    repeat (first | with_reducible refine bal ?_ _ | with_reducible refine Below.drew ?_ | with_reducible refine bdn ?_ _)
    exact Below.refl _ _
theorem case_6 (w : World) : Calls Tryz.prog 7 #[.int .i64 6] w fun e w' => e = .returned (.bool true) ∧ Below w.heap.size w w' := by
  go_enter Tryz.func7, Tryz.ntmps7
  go_wp2_with (first | (go_at_call 61; ((with_reducible refine (c_61 _).mono ?_); rintro e w' ⟨rfl, rfl⟩)))
  go_region_with (first | (go_at_call 23; refine (sh_Uintptr _).mono ?_; rintro e w' ⟨rfl, rfl⟩) | (go_at_call 62; refine (it_Uintptr _).mono ?_; rintro e w' ⟨rfl, rfl⟩))
  all_goals
    go_wp2
    go_ret
    refine ⟨rfl, ?_⟩
    repeat (first | with_reducible refine bal ?_ _ | with_reducible refine Below.drew ?_ | with_reducible refine bdn ?_ _)
    exact Below.refl _ _
theorem case_9 (w : World) : Calls Tryz.prog 7 #[.int .i64 9] w fun e w' => e = .returned (.bool true) ∧ Below w.heap.size w w' := by
  go_enter Tryz.func7, Tryz.ntmps7
  go_wp2_with (first | (go_at_call 66; ((with_reducible refine (c_66 _).mono ?_); rintro e w' ⟨rfl, rfl⟩)))
  go_region_with (first | (go_at_call 23; refine (sh_MyInt _).mono ?_; rintro e w' ⟨rfl, rfl⟩) | (go_at_call 67; refine (it_MyInt _).mono ?_; rintro e w' ⟨rfl, rfl⟩))
  all_goals
    go_wp2
    go_ret
    refine ⟨rfl, ?_⟩
    repeat (first | with_reducible refine bal ?_ _ | with_reducible refine Below.drew ?_ | with_reducible refine bdn ?_ _)
    exact Below.refl _ _
theorem case_12 (w : World) : Calls Tryz.prog 7 #[.int .i64 12] w fun e w' => e = .returned (.bool true) ∧ Below w.heap.size w w' := by
  go_enter Tryz.func7, Tryz.ntmps7
  go_wp2_with (first | (go_at_call 71; ((with_reducible refine (c_71 _).mono ?_); rintro e w' ⟨rfl, rfl⟩)))
  go_region_with (first | (go_at_call 23; refine (sh_Bool _).mono ?_; rintro e w' ⟨rfl, rfl⟩) | (go_at_call 32; refine (it_Bool _).mono ?_; rintro e w' ⟨rfl, rfl⟩))
  all_goals
    go_wp2
    go_ret
    refine ⟨rfl, ?_⟩
    repeat (first | with_reducible refine bal ?_ _ | with_reducible refine Below.drew ?_ | with_reducible refine bdn ?_ _)
    exact Below.refl _ _
theorem case_15 (w : World) : Calls Tryz.prog 7 #[.int .i64 15] w fun e w' => e = .returned (.bool true) ∧ Below w.heap.size w w' := by
  go_enter Tryz.func7, Tryz.ntmps7
  go_wp2_with (first | (go_at_call 76; ((with_reducible refine (c_76 _).mono ?_); rintro e w' ⟨rfl, rfl⟩)))
  go_region_with (first | (go_at_call 23; refine (sh_SliceInt _).mono ?_; rintro e w' ⟨rfl, rfl⟩) | (go_at_call 34; refine (it_SliceInt _).mono ?_; rintro e w' ⟨rfl, rfl⟩))
  all_goals
    go_wp2
    go_ret
    refine ⟨rfl, ?_⟩
    repeat (first | with_reducible refine bal ?_ _ | with_reducible refine Below.drew ?_ | with_reducible refine bdn ?_ _)
    exact Below.refl _ _
theorem case_18 (w : World) : Calls Tryz.prog 7 #[.int .i64 18] w fun e w' => e = .returned (.bool true) ∧ Below w.heap.size w w' := by
  go_enter Tryz.func7, Tryz.ntmps7
  go_wp2_with (first | (go_at_call 79; ((with_reducible refine (c_79 _).mono ?_); rintro e w' ⟨rfl, rfl⟩)))
  go_region_with (first | (go_at_call 23; refine (sh_Complex128 _).mono ?_; rintro e w' ⟨rfl, rfl⟩) | (go_at_call 80; refine (it_Complex128 _).mono ?_; rintro e w' ⟨rfl, rfl⟩))
  all_goals
    go_wp2
    go_ret
    refine ⟨rfl, ?_⟩
    repeat (first | with_reducible refine bal ?_ _ | with_reducible refine Below.drew ?_ | with_reducible refine bdn ?_ _)
    exact Below.refl _ _
theorem case_21 (w : World) : Calls Tryz.prog 7 #[.int .i64 21] w fun e w' => e = .returned (.bool true) ∧ Below w.heap.size w w' := by
  go_enter Tryz.func7, Tryz.ntmps7
  go_wp2_with (first | (go_at_call 85; ((with_reducible refine (c_85 _).mono ?_); rintro e w' ⟨rfl, rfl⟩)))
  go_region_with (first | (go_at_call 23; refine (sh_OneMethod _).mono ?_; rintro e w' ⟨rfl, rfl⟩) | (go_at_call 86; refine (it_OneMethod _).mono ?_; rintro e w' ⟨rfl, rfl⟩))
  all_goals
    go_wp2
    go_ret
    refine ⟨rfl, ?_⟩
    repeat (first | with_reducible refine bal ?_ _ | with_reducible refine Below.drew ?_ | with_reducible refine bdn ?_ _)
    exact Below.refl _ _
end Go.Proofs.YtjdnoaojjmejmaaGreat.fnFromTypeKindTable
