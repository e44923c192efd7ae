/-
  A part of the walk of FnIsNumberCaseTable: IsNumber is true exactly for the builtin integer and float types, and agrees with IsAnyOf(NumberCheck).
-/
import Derived.Test.YtnjjndnnpkejlaaGreatFmtFnIsNumberCaseTableC
namespace Go.Proofs.YtnjjndnnpkejlaaGreatFmt.fnIsNumberCaseTable
open Go.RowKit
set_option maxRecDepth 100000
set_option maxHeartbeats 1000000
set_option linter.unusedVariables false
theorem case_18 (w : World) : Calls Tryz.prog 3 #[.int .i64 18] w fun e w' => e = .returned (.bool true) ∧ Below w.heap.size w w' := by
  go_enter Tryz.func3, Tryz.ntmps3
  go_wp2_with (first | (go_at_call 6; ((with_reducible refine (nb_18 _).mono ?_); rintro e w' ⟨rfl, rfl⟩)) | (go_at_call 7; ((with_reducible refine (nu_18 _).mono ?_); rintro e w' ⟨rfl, rfl⟩)) | (go_at_call 8; go_in) | (go_at_call 9; ((with_reducible refine (any4 _ _ false false _ (by simp [go_sem] <;> omega) (by simp [go_sem] <;> omega) (by simp [go_sem] <;> omega)).mono ?_); rintro e w' ⟨rfl, rfl⟩)))
  go_ret
  refine ⟨rfl, ?_⟩
  repeat (first | with_reducible refine bal ?_ _ | with_reducible refine Below.drew ?_ | with_reducible refine bdn ?_ _)
  exact Below.refl _ _
theorem case_19 (w : World) : Calls Tryz.prog 3 #[.int .i64 19] w fun e w' => e = .returned (.bool true) ∧ Below w.heap.size w w' := by
  go_enter Tryz.func3, Tryz.ntmps3
  go_wp2_with (first | (go_at_call 6; ((with_reducible refine (nb_19 _).mono ?_); rintro e w' ⟨rfl, rfl⟩)) | (go_at_call 7; ((with_reducible refine (nu_19 _).mono ?_); rintro e w' ⟨rfl, rfl⟩)) | (go_at_call 8; go_in) | (go_at_call 9; ((with_reducible refine (any4 _ _ false false _ (by simp [go_sem] <;> omega) (by simp [go_sem] <;> omega) (by simp [go_sem] <;> omega)).mono ?_); rintro e w' ⟨rfl, rfl⟩)))
  go_ret
  refine ⟨rfl, ?_⟩
  repeat (first | with_reducible refine bal ?_ _ | with_reducible refine Below.drew ?_ | with_reducible refine bdn ?_ _)
  exact Below.refl _ _
theorem case_20 (w : World) : Calls Tryz.prog 3 #[.int .i64 20] w fun e w' => e = .returned (.bool true) ∧ Below w.heap.size w w' := by
  go_enter Tryz.func3, Tryz.ntmps3
  go_wp2_with (first | (go_at_call 6; ((with_reducible refine (nb_20 _).mono ?_); rintro e w' ⟨rfl, rfl⟩)) | (go_at_call 7; ((with_reducible refine (nu_20 _).mono ?_); rintro e w' ⟨rfl, rfl⟩)) | (go_at_call 8; go_in) | (go_at_call 9; ((with_reducible refine (any4 _ _ false false _ (by simp [go_sem] <;> omega) (by simp [go_sem] <;> omega) (by simp [go_sem] <;> omega)).mono ?_); rintro e w' ⟨rfl, rfl⟩)))
  go_ret
  refine ⟨rfl, ?_⟩
  repeat (first | with_reducible refine bal ?_ _ | with_reducible refine Below.drew ?_ | with_reducible refine bdn ?_ _)
  exact Below.refl _ _
theorem case_21 (w : World) : Calls Tryz.prog 3 #[.int .i64 21] w fun e w' => e = .returned (.bool true) ∧ Below w.heap.size w w' := by
  go_enter Tryz.func3, Tryz.ntmps3
  go_wp2_with (first | (go_at_call 6; ((with_reducible refine (nb_21 _).mono ?_); rintro e w' ⟨rfl, rfl⟩)) | (go_at_call 7; ((with_reducible refine (nu_21 _).mono ?_); rintro e w' ⟨rfl, rfl⟩)) | (go_at_call 8; go_in) | (go_at_call 9; ((with_reducible refine (any4 _ _ false false _ (by simp [go_sem] <;> omega) (by simp [go_sem] <;> omega) (by simp [go_sem] <;> omega)).mono ?_); rintro e w' ⟨rfl, rfl⟩)))
  go_ret
  refine ⟨rfl, ?_⟩
  repeat (first | with_reducible refine bal ?_ _ | with_reducible refine Below.drew ?_ | with_reducible refine bdn ?_ _)
  exact Below.refl _ _
theorem case_22 (w : World) : Calls Tryz.prog 3 #[.int .i64 22] w fun e w' => e = .returned (.bool true) ∧ Below w.heap.size w w' := by
  go_enter Tryz.func3, Tryz.ntmps3
  go_wp2_with (first | (go_at_call 6; ((with_reducible refine (nb_22 _).mono ?_); rintro e w' ⟨rfl, rfl⟩)) | (go_at_call 7; ((with_reducible refine (nu_22 _).mono ?_); rintro e w' ⟨rfl, rfl⟩)) | (go_at_call 8; go_in) | (go_at_call 9; ((with_reducible refine (any4 _ _ false false _ (by simp [go_sem] <;> omega) (by simp [go_sem] <;> omega) (by simp [go_sem] <;> omega)).mono ?_); rintro e w' ⟨rfl, rfl⟩)))
  go_ret
  refine ⟨rfl, ?_⟩
  repeat (first | with_reducible refine bal ?_ _ | with_reducible refine Below.drew ?_ | with_reducible refine bdn ?_ _)
  exact Below.refl _ _
theorem case_low (a : Int) (h : a < 0) (w : World) : Calls Tryz.prog 3 #[.int .i64 a] w fun e w' => e = .returned (.bool true) ∧ Below w.heap.size w w' := by
  go_enter Tryz.func3, Tryz.ntmps3
  go_wp2_with (first | (go_at_call 6; ((with_reducible refine (nb_d a (by omega) (by omega) (by omega) (by omega) (by omega) (by omega) (by omega) (by omega) (by omega) (by omega) (by omega) (by omega) (by omega) (by omega) (by omega) (by omega) (by omega) (by omega) (by omega) (by omega) (by omega) (by omega) (by omega) _).mono ?_); rintro e w' ⟨rfl, rfl⟩)) | (go_at_call 7; ((with_reducible refine (nu_low a h _).mono ?_); rintro e w' ⟨rfl, rfl⟩)) | (go_at_call 8; go_in) | (go_at_call 9; ((with_reducible refine (any4 _ _ false false _ (by simp [go_sem] <;> omega) (by simp [go_sem] <;> omega) (by simp [go_sem] <;> omega)).mono ?_); rintro e w' ⟨rfl, rfl⟩)))
  go_ret
  refine ⟨rfl, ?_⟩
  repeat (first | with_reducible refine bal ?_ _ | with_reducible refine Below.drew ?_ | with_reducible refine bdn ?_ _)
  exact Below.refl _ _
theorem case_high (a : Int) (h : 22 < a) (w : World) : Calls Tryz.prog 3 #[.int .i64 a] w fun e w' => e = .returned (.bool true) ∧ Below w.heap.size w w' := by
  go_enter Tryz.func3, Tryz.ntmps3
  go_wp2_with (first | (go_at_call 6; ((with_reducible refine (nb_d a (by omega) (by omega) (by omega) (by omega) (by omega) (by omega) (by omega) (by omega) (by omega) (by omega) (by omega) (by omega) (by omega) (by omega) (by omega) (by omega) (by omega) (by omega) (by omega) (by omega) (by omega) (by omega) (by omega) _).mono ?_); rintro e w' ⟨rfl, rfl⟩)) | (go_at_call 7; ((with_reducible refine (nu_high a h _).mono ?_); rintro e w' ⟨rfl, rfl⟩)) | (go_at_call 8; go_in) | (go_at_call 9; ((with_reducible refine (any4 _ _ false false _ (by simp [go_sem] <;> omega) (by simp [go_sem] <;> omega) (by simp [go_sem] <;> omega)).mono ?_); rintro e w' ⟨rfl, rfl⟩)))
  go_ret
  refine ⟨rfl, ?_⟩
  repeat (first | with_reducible refine bal ?_ _ | with_reducible refine Below.drew ?_ | with_reducible refine bdn ?_ _)
  exact Below.refl _ _
end Go.Proofs.YtnjjndnnpkejlaaGreatFmt.fnIsNumberCaseTable
