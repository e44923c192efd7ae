/-
  A part of the walk of FnIsNumberCaseTable: IsNumber is true exactly for the builtin integer and float types, and agrees with IsAnyOf(NumberCheck).
-/
import Derived.Test.YtnjjndnnpkejlaaGreatFmtFnIsNumberCaseTableC
namespace Go.Proofs.YtnjjndnnpkejlaaGreatFmt.fnIsNumberCaseTable
open Go.RowKit
set_option maxRecDepth 100000
set_option maxHeartbeats 1000000
set_option linter.unusedVariables false
theorem case_0 (w : World) : Calls Tryz.prog 3 #[.int .i64 0] w fun e w' => e = .returned (.bool true) ∧ Below w.heap.size w w' := by
  go_enter Tryz.func3, Tryz.ntmps3
  go_wp2_with (first | (go_at_call 6; ((with_reducible refine (nb_0 _).mono ?_); rintro e w' ⟨rfl, rfl⟩)) | (go_at_call 7; ((with_reducible refine (nu_0 _).mono ?_); rintro e w' ⟨rfl, rfl⟩)) | (go_at_call 8; go_in) | (go_at_call 9; ((with_reducible refine (any4 _ _ true false _ (by simp [go_sem] <;> omega) (by simp [go_sem] <;> omega) (by simp [go_sem] <;> omega)).mono ?_); rintro e w' ⟨rfl, rfl⟩)))
  go_ret
  refine ⟨rfl, ?_⟩
  repeat (first | with_reducible refine bal ?_ _ | with_reducible refine Below.drew ?_ | with_reducible refine bdn ?_ _)
  exact Below.refl _ _
theorem case_1 (w : World) : Calls Tryz.prog 3 #[.int .i64 1] w fun e w' => e = .returned (.bool true) ∧ Below w.heap.size w w' := by
  go_enter Tryz.func3, Tryz.ntmps3
  go_wp2_with (first | (go_at_call 6; ((with_reducible refine (nb_1 _).mono ?_); rintro e w' ⟨rfl, rfl⟩)) | (go_at_call 7; ((with_reducible refine (nu_1 _).mono ?_); rintro e w' ⟨rfl, rfl⟩)) | (go_at_call 8; go_in) | (go_at_call 9; ((with_reducible refine (any4 _ _ true false _ (by simp [go_sem] <;> omega) (by simp [go_sem] <;> omega) (by simp [go_sem] <;> omega)).mono ?_); rintro e w' ⟨rfl, rfl⟩)))
  go_ret
  refine ⟨rfl, ?_⟩
  repeat (first | with_reducible refine bal ?_ _ | with_reducible refine Below.drew ?_ | with_reducible refine bdn ?_ _)
  exact Below.refl _ _
theorem case_2 (w : World) : Calls Tryz.prog 3 #[.int .i64 2] w fun e w' => e = .returned (.bool true) ∧ Below w.heap.size w w' := by
  go_enter Tryz.func3, Tryz.ntmps3
  go_wp2_with (first | (go_at_call 6; ((with_reducible refine (nb_2 _).mono ?_); rintro e w' ⟨rfl, rfl⟩)) | (go_at_call 7; ((with_reducible refine (nu_2 _).mono ?_); rintro e w' ⟨rfl, rfl⟩)) | (go_at_call 8; go_in) | (go_at_call 9; ((with_reducible refine (any4 _ _ true false _ (by simp [go_sem] <;> omega) (by simp [go_sem] <;> omega) (by simp [go_sem] <;> omega)).mono ?_); rintro e w' ⟨rfl, rfl⟩)))
  go_ret
  refine ⟨rfl, ?_⟩
  repeat (first | with_reducible refine bal ?_ _ | with_reducible refine Below.drew ?_ | with_reducible refine bdn ?_ _)
  exact Below.refl _ _
theorem case_3 (w : World) : Calls Tryz.prog 3 #[.int .i64 3] w fun e w' => e = .returned (.bool true) ∧ Below w.heap.size w w' := by
  go_enter Tryz.func3, Tryz.ntmps3
  go_wp2_with (first | (go_at_call 6; ((with_reducible refine (nb_3 _).mono ?_); rintro e w' ⟨rfl, rfl⟩)) | (go_at_call 7; ((with_reducible refine (nu_3 _).mono ?_); rintro e w' ⟨rfl, rfl⟩)) | (go_at_call 8; go_in) | (go_at_call 9; ((with_reducible refine (any4 _ _ true false _ (by simp [go_sem] <;> omega) (by simp [go_sem] <;> omega) (by simp [go_sem] <;> omega)).mono ?_); rintro e w' ⟨rfl, rfl⟩)))
  go_ret
  refine ⟨rfl, ?_⟩
  repeat (first | with_reducible refine bal ?_ _ | with_reducible refine Below.drew ?_ | with_reducible refine bdn ?_ _)
  exact Below.refl _ _
theorem case_4 (w : World) : Calls Tryz.prog 3 #[.int .i64 4] w fun e w' => e = .returned (.bool true) ∧ Below w.heap.size w w' := by
  go_enter Tryz.func3, Tryz.ntmps3
  go_wp2_with (first | (go_at_call 6; ((with_reducible refine (nb_4 _).mono ?_); rintro e w' ⟨rfl, rfl⟩)) | (go_at_call 7; ((with_reducible refine (nu_4 _).mono ?_); rintro e w' ⟨rfl, rfl⟩)) | (go_at_call 8; go_in) | (go_at_call 9; ((with_reducible refine (any4 _ _ true false _ (by simp [go_sem] <;> omega) (by simp [go_sem] <;> omega) (by simp [go_sem] <;> omega)).mono ?_); rintro e w' ⟨rfl, rfl⟩)))
  go_ret
  refine ⟨rfl, ?_⟩
  repeat (first | with_reducible refine bal ?_ _ | with_reducible refine Below.drew ?_ | with_reducible refine bdn ?_ _)
  exact Below.refl _ _
theorem case_5 (w : World) : Calls Tryz.prog 3 #[.int .i64 5] w fun e w' => e = .returned (.bool true) ∧ Below w.heap.size w w' := by
  go_enter Tryz.func3, Tryz.ntmps3
  go_wp2_with (first | (go_at_call 6; ((with_reducible refine (nb_5 _).mono ?_); rintro e w' ⟨rfl, rfl⟩)) | (go_at_call 7; ((with_reducible refine (nu_5 _).mono ?_); rintro e w' ⟨rfl, rfl⟩)) | (go_at_call 8; go_in) | (go_at_call 9; ((with_reducible refine (any4 _ _ true false _ (by simp [go_sem] <;> omega) (by simp [go_sem] <;> omega) (by simp [go_sem] <;> omega)).mono ?_); rintro e w' ⟨rfl, rfl⟩)))
  go_ret
  refine ⟨rfl, ?_⟩
  repeat (first | with_reducible refine bal ?_ _ | with_reducible refine Below.drew ?_ | with_reducible refine bdn ?_ _)
  exact Below.refl _ _
theorem case_6 (w : World) : Calls Tryz.prog 3 #[.int .i64 6] w fun e w' => e = .returned (.bool true) ∧ Below w.heap.size w w' := by
  go_enter Tryz.func3, Tryz.ntmps3
  go_wp2_with (first | (go_at_call 6; ((with_reducible refine (nb_6 _).mono ?_); rintro e w' ⟨rfl, rfl⟩)) | (go_at_call 7; ((with_reducible refine (nu_6 _).mono ?_); rintro e w' ⟨rfl, rfl⟩)) | (go_at_call 8; go_in) | (go_at_call 9; ((with_reducible refine (any4 _ _ true false _ (by simp [go_sem] <;> omega) (by simp [go_sem] <;> omega) (by simp [go_sem] <;> omega)).mono ?_); rintro e w' ⟨rfl, rfl⟩)))
  go_ret
  refine ⟨rfl, ?_⟩
  repeat (first | with_reducible refine bal ?_ _ | with_reducible refine Below.drew ?_ | with_reducible refine bdn ?_ _)
  exact Below.refl _ _
theorem case_7 (w : World) : Calls Tryz.prog 3 #[.int .i64 7] w fun e w' => e = .returned (.bool true) ∧ Below w.heap.size w w' := by
  go_enter Tryz.func3, Tryz.ntmps3
  go_wp2_with (first | (go_at_call 6; ((with_reducible refine (nb_7 _).mono ?_); rintro e w' ⟨rfl, rfl⟩)) | (go_at_call 7; ((with_reducible refine (nu_7 _).mono ?_); rintro e w' ⟨rfl, rfl⟩)) | (go_at_call 8; go_in) | (go_at_call 9; ((with_reducible refine (any4 _ _ true false _ (by simp [go_sem] <;> omega) (by simp [go_sem] <;> omega) (by simp [go_sem] <;> omega)).mono ?_); rintro e w' ⟨rfl, rfl⟩)))
  go_ret
  refine ⟨rfl, ?_⟩
  repeat (first | with_reducible refine bal ?_ _ | with_reducible refine Below.drew ?_ | with_reducible refine bdn ?_ _)
  exact Below.refl _ _
theorem case_8 (w : World) : Calls Tryz.prog 3 #[.int .i64 8] w fun e w' => e = .returned (.bool true) ∧ Below w.heap.size w w' := by
  go_enter Tryz.func3, Tryz.ntmps3
  go_wp2_with (first | (go_at_call 6; ((with_reducible refine (nb_8 _).mono ?_); rintro e w' ⟨rfl, rfl⟩)) | (go_at_call 7; ((with_reducible refine (nu_8 _).mono ?_); rintro e w' ⟨rfl, rfl⟩)) | (go_at_call 8; go_in) | (go_at_call 9; ((with_reducible refine (any4 _ _ true false _ (by simp [go_sem] <;> omega) (by simp [go_sem] <;> omega) (by simp [go_sem] <;> omega)).mono ?_); rintro e w' ⟨rfl, rfl⟩)))
  go_ret
  refine ⟨rfl, ?_⟩
  repeat (first | with_reducible refine bal ?_ _ | with_reducible refine Below.drew ?_ | with_reducible refine bdn ?_ _)
  exact Below.refl _ _
end Go.Proofs.YtnjjndnnpkejlaaGreatFmt.fnIsNumberCaseTable
