/-
  A part of the walk of FnIsNumberCaseTable: IsNumber is true exactly for the builtin integer and float types, and agrees with IsAnyOf(NumberCheck).
-/
import Derived.Test.YtnjjndnnpkejlaaGreatFmtFnIsNumberCaseTableC
namespace Go.Proofs.YtnjjndnnpkejlaaGreatFmt.fnIsNumberCaseTable
open Go.RowKit
set_option maxRecDepth 100000
set_option maxHeartbeats 1000000
set_option linter.unusedVariables false
theorem case_9 (w : World) : Calls Tryz.prog 3 #[.int .i64 9] w fun e w' => e = .returned (.bool true) ∧ Below w.heap.size w w' := by
  go_enter Tryz.func3, Tryz.ntmps3
  go_wp2_with (first | (go_at_call 6; ((with_reducible refine (nb_9 _).mono ?_); rintro e w' ⟨rfl, rfl⟩)) | (go_at_call 7; ((with_reducible refine (nu_9 _).mono ?_); rintro e w' ⟨rfl, rfl⟩)) | (go_at_call 8; go_in) | (go_at_call 9; ((with_reducible refine (any4 _ _ true false _ (by simp [go_sem] <;> omega) (by simp [go_sem] <;> omega) (by simp [go_sem] <;> omega)).mono ?_); rintro e w' ⟨rfl, rfl⟩)))
  go_ret
  refine ⟨rfl, ?_⟩
  repeat (first | with_reducible refine bal ?_ _ | with_reducible refine Below.drew ?_ | with_reducible refine bdn ?_ _)
  exact Below.refl _ _
theorem case_10 (w : World) : Calls Tryz.prog 3 #[.int .i64 10] w fun e w' => e = .returned (.bool true) ∧ Below w.heap.size w w' := by
  go_enter Tryz.func3, Tryz.ntmps3
  go_wp2_with (first | (go_at_call 6; ((with_reducible refine (nb_10 _).mono ?_); rintro e w' ⟨rfl, rfl⟩)) | (go_at_call 7; ((with_reducible refine (nu_10 _).mono ?_); rintro e w' ⟨rfl, rfl⟩)) | (go_at_call 8; go_in) | (go_at_call 9; ((with_reducible refine (any4 _ _ true false _ (by simp [go_sem] <;> omega) (by simp [go_sem] <;> omega) (by simp [go_sem] <;> omega)).mono ?_); rintro e w' ⟨rfl, rfl⟩)))
  go_ret
  refine ⟨rfl, ?_⟩
  repeat (first | with_reducible refine bal ?_ _ | with_reducible refine Below.drew ?_ | with_reducible refine bdn ?_ _)
  exact Below.refl _ _
theorem case_11 (w : World) : Calls Tryz.prog 3 #[.int .i64 11] w fun e w' => e = .returned (.bool true) ∧ Below w.heap.size w w' := by
  go_enter Tryz.func3, Tryz.ntmps3
  go_wp2_with (first | (go_at_call 6; ((with_reducible refine (nb_11 _).mono ?_); rintro e w' ⟨rfl, rfl⟩)) | (go_at_call 7; ((with_reducible refine (nu_11 _).mono ?_); rintro e w' ⟨rfl, rfl⟩)) | (go_at_call 8; go_in) | (go_at_call 9; ((with_reducible refine (any4 _ _ false true _ (by simp [go_sem] <;> omega) (by simp [go_sem] <;> omega) (by simp [go_sem] <;> omega)).mono ?_); rintro e w' ⟨rfl, rfl⟩)))
  go_ret
  refine ⟨rfl, ?_⟩
  repeat (first | with_reducible refine bal ?_ _ | with_reducible refine Below.drew ?_ | with_reducible refine bdn ?_ _)
  exact Below.refl _ _
theorem case_12 (w : World) : Calls Tryz.prog 3 #[.int .i64 12] w fun e w' => e = .returned (.bool true) ∧ Below w.heap.size w w' := by
  go_enter Tryz.func3, Tryz.ntmps3
  go_wp2_with (first | (go_at_call 6; ((with_reducible refine (nb_12 _).mono ?_); rintro e w' ⟨rfl, rfl⟩)) | (go_at_call 7; ((with_reducible refine (nu_12 _).mono ?_); rintro e w' ⟨rfl, rfl⟩)) | (go_at_call 8; go_in) | (go_at_call 9; ((with_reducible refine (any4 _ _ false true _ (by simp [go_sem] <;> omega) (by simp [go_sem] <;> omega) (by simp [go_sem] <;> omega)).mono ?_); rintro e w' ⟨rfl, rfl⟩)))
  go_ret
  refine ⟨rfl, ?_⟩
  repeat (first | with_reducible refine bal ?_ _ | with_reducible refine Below.drew ?_ | with_reducible refine bdn ?_ _)
  exact Below.refl _ _
theorem case_13 (w : World) : Calls Tryz.prog 3 #[.int .i64 13] w fun e w' => e = .returned (.bool true) ∧ Below w.heap.size w w' := by
  go_enter Tryz.func3, Tryz.ntmps3
  go_wp2_with (first | (go_at_call 6; ((with_reducible refine (nb_13 _).mono ?_); rintro e w' ⟨rfl, rfl⟩)) | (go_at_call 7; ((with_reducible refine (nu_13 _).mono ?_); rintro e w' ⟨rfl, rfl⟩)) | (go_at_call 8; go_in) | (go_at_call 9; ((with_reducible refine (any4 _ _ false false _ (by simp [go_sem] <;> omega) (by simp [go_sem] <;> omega) (by simp [go_sem] <;> omega)).mono ?_); rintro e w' ⟨rfl, rfl⟩)))
  go_ret
  refine ⟨rfl, ?_⟩
  repeat (first | with_reducible refine bal ?_ _ | with_reducible refine Below.drew ?_ | with_reducible refine bdn ?_ _)
  exact Below.refl _ _
theorem case_14 (w : World) : Calls Tryz.prog 3 #[.int .i64 14] w fun e w' => e = .returned (.bool true) ∧ Below w.heap.size w w' := by
  go_enter Tryz.func3, Tryz.ntmps3
  go_wp2_with (first | (go_at_call 6; ((with_reducible refine (nb_14 _).mono ?_); rintro e w' ⟨rfl, rfl⟩)) | (go_at_call 7; ((with_reducible refine (nu_14 _).mono ?_); rintro e w' ⟨rfl, rfl⟩)) | (go_at_call 8; go_in) | (go_at_call 9; ((with_reducible refine (any4 _ _ false false _ (by simp [go_sem] <;> omega) (by simp [go_sem] <;> omega) (by simp [go_sem] <;> omega)).mono ?_); rintro e w' ⟨rfl, rfl⟩)))
  go_ret
  refine ⟨rfl, ?_⟩
  repeat (first | with_reducible refine bal ?_ _ | with_reducible refine Below.drew ?_ | with_reducible refine bdn ?_ _)
  exact Below.refl _ _
theorem case_15 (w : World) : Calls Tryz.prog 3 #[.int .i64 15] w fun e w' => e = .returned (.bool true) ∧ Below w.heap.size w w' := by
  go_enter Tryz.func3, Tryz.ntmps3
  go_wp2_with (first | (go_at_call 6; ((with_reducible refine (nb_15 _).mono ?_); rintro e w' ⟨rfl, rfl⟩)) | (go_at_call 7; ((with_reducible refine (nu_15 _).mono ?_); rintro e w' ⟨rfl, rfl⟩)) | (go_at_call 8; go_in) | (go_at_call 9; ((with_reducible refine (any4 _ _ false false _ (by simp [go_sem] <;> omega) (by simp [go_sem] <;> omega) (by simp [go_sem] <;> omega)).mono ?_); rintro e w' ⟨rfl, rfl⟩)))
  go_ret
  refine ⟨rfl, ?_⟩
  repeat (first | with_reducible refine bal ?_ _ | with_reducible refine Below.drew ?_ | with_reducible refine bdn ?_ _)
  exact Below.refl _ _
theorem case_16 (w : World) : Calls Tryz.prog 3 #[.int .i64 16] w fun e w' => e = .returned (.bool true) ∧ Below w.heap.size w w' := by
  go_enter Tryz.func3, Tryz.ntmps3
  go_wp2_with (first | (go_at_call 6; ((with_reducible refine (nb_16 _).mono ?_); rintro e w' ⟨rfl, rfl⟩)) | (go_at_call 7; ((with_reducible refine (nu_16 _).mono ?_); rintro e w' ⟨rfl, rfl⟩)) | (go_at_call 8; go_in) | (go_at_call 9; ((with_reducible refine (any4 _ _ false false _ (by simp [go_sem] <;> omega) (by simp [go_sem] <;> omega) (by simp [go_sem] <;> omega)).mono ?_); rintro e w' ⟨rfl, rfl⟩)))
  go_ret
  refine ⟨rfl, ?_⟩
  repeat (first | with_reducible refine bal ?_ _ | with_reducible refine Below.drew ?_ | with_reducible refine bdn ?_ _)
  exact Below.refl _ _
theorem case_17 (w : World) : Calls Tryz.prog 3 #[.int .i64 17] w fun e w' => e = .returned (.bool true) ∧ Below w.heap.size w w' := by
  go_enter Tryz.func3, Tryz.ntmps3
  go_wp2_with (first | (go_at_call 6; ((with_reducible refine (nb_17 _).mono ?_); rintro e w' ⟨rfl, rfl⟩)) | (go_at_call 7; ((with_reducible refine (nu_17 _).mono ?_); rintro e w' ⟨rfl, rfl⟩)) | (go_at_call 8; go_in) | (go_at_call 9; ((with_reducible refine (any4 _ _ false false _ (by simp [go_sem] <;> omega) (by simp [go_sem] <;> omega) (by simp [go_sem] <;> omega)).mono ?_); rintro e w' ⟨rfl, rfl⟩)))
  go_ret
  refine ⟨rfl, ?_⟩
  repeat (first | with_reducible refine bal ?_ _ | with_reducible refine Below.drew ?_ | with_reducible refine bdn ?_ _)
  exact Below.refl _ _
end Go.Proofs.YtnjjndnnpkejlaaGreatFmt.fnIsNumberCaseTable
