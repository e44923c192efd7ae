/-
  A part of the walk of FnElemSampleTable: Elem of each of the twelve samples, with or without a cache, is the nature of its element type, or the empty unknown nature where there is none.
-/
import Derived.Test.YtfmefomafdgfmaaGreatFnElemSampleTableC
import Derived.Test.YtfmefomafdgfmaaGreatFnElemSampleTableC1
namespace Go.Proofs.YtfmefomafdgfmaaGreat.fnElemSampleTable
open Go.RowKit
set_option maxRecDepth 100000
set_option maxHeartbeats 1000000
set_option linter.unusedVariables false
theorem case_1_false (w : World) : Calls Tryz.prog 6 #[.int .i64 1, .bool false] w fun e w' => e = .returned (.bool true) ∧ Below w.heap.size w w' := by
  go_enter Tryz.func6, Tryz.ntmps6
  go_wp2_with (first | (go_at_call 34; ((with_reducible refine (sample_1 _).mono ?_); rintro e w' ⟨rfl, rfl⟩)) | (go_at_call 35; refine (el_1 _ _ _ (by simp <;> omega) (by simp [go_sem] <;> omega) (by simp [go_sem] <;> omega)).mono ?_; rintro e w' ⟨rfl, rfl⟩) | (go_at_call 36; refine (sc_3 _ _ (by simp [go_sem] <;> omega) (by simp [go_sem] <;> omega)).mono ?_; rintro e w' ⟨rfl, rfl⟩))
  go_ret
  refine ⟨rfl, ?_⟩
  repeat (first | with_reducible refine bal ?_ _ | with_reducible refine Below.drew ?_ | with_reducible refine bdn ?_ _)
  exact Below.refl _ _
theorem case_3_false (w : World) : Calls Tryz.prog 6 #[.int .i64 3, .bool false] w fun e w' => e = .returned (.bool true) ∧ Below w.heap.size w w' := by
  go_enter Tryz.func6, Tryz.ntmps6
  go_wp2_with (first | (go_at_call 34; ((with_reducible refine (sample_3 _).mono ?_); rintro e w' ⟨rfl, rfl⟩)) | (go_at_call 35; refine (el_3 _ _ _ (by simp <;> omega) (by simp [go_sem] <;> omega) (by simp [go_sem] <;> omega)).mono ?_; rintro e w' ⟨rfl, rfl⟩) | (go_at_call 36; refine (sc_3 _ _ (by simp [go_sem] <;> omega) (by simp [go_sem] <;> omega)).mono ?_; rintro e w' ⟨rfl, rfl⟩))
  go_ret
  refine ⟨rfl, ?_⟩
  repeat (first | with_reducible refine bal ?_ _ | with_reducible refine Below.drew ?_ | with_reducible refine bdn ?_ _)
  exact Below.refl _ _
theorem case_5_false (w : World) : Calls Tryz.prog 6 #[.int .i64 5, .bool false] w fun e w' => e = .returned (.bool true) ∧ Below w.heap.size w w' := by
  go_enter Tryz.func6, Tryz.ntmps6
  go_wp2_with (first | (go_at_call 34; ((with_reducible refine (sample_5 _).mono ?_); rintro e w' ⟨rfl, rfl⟩)) | (go_at_call 35; refine (el_5 _ _ _ (by simp <;> omega) (by simp [go_sem] <;> omega) (by simp [go_sem] <;> omega)).mono ?_; rintro e w' ⟨rfl, rfl⟩) | (go_at_call 36; refine (sc_3 _ _ (by simp [go_sem] <;> omega) (by simp [go_sem] <;> omega)).mono ?_; rintro e w' ⟨rfl, rfl⟩))
  go_ret
  refine ⟨rfl, ?_⟩
  repeat (first | with_reducible refine bal ?_ _ | with_reducible refine Below.drew ?_ | with_reducible refine bdn ?_ _)
  exact Below.refl _ _
theorem case_7_false (w : World) : Calls Tryz.prog 6 #[.int .i64 7, .bool false] w fun e w' => e = .returned (.bool true) ∧ Below w.heap.size w w' := by
  go_enter Tryz.func6, Tryz.ntmps6
  go_wp2_with (first | (go_at_call 34; ((with_reducible refine (sample_7 _).mono ?_); rintro e w' ⟨rfl, rfl⟩)) | (go_at_call 35; refine (el_7 _ _ _ (by simp <;> omega) (by simp [go_sem] <;> omega) (by simp [go_sem] <;> omega)).mono ?_; rintro e w' ⟨rfl, rfl⟩) | (go_at_call 36; refine (sc_3 _ _ (by simp [go_sem] <;> omega) (by simp [go_sem] <;> omega)).mono ?_; rintro e w' ⟨rfl, rfl⟩))
  go_ret
  refine ⟨rfl, ?_⟩
  repeat (first | with_reducible refine bal ?_ _ | with_reducible refine Below.drew ?_ | with_reducible refine bdn ?_ _)
  exact Below.refl _ _
theorem case_9_false (w : World) : Calls Tryz.prog 6 #[.int .i64 9, .bool false] w fun e w' => e = .returned (.bool true) ∧ Below w.heap.size w w' := by
  go_enter Tryz.func6, Tryz.ntmps6
  go_wp2_with (first | (go_at_call 34; ((with_reducible refine (sample_9 _).mono ?_); rintro e w' ⟨rfl, rfl⟩)) | (go_at_call 35; refine (el_9 _ _ (by simp <;> omega) (by simp [go_sem] <;> omega) (by simp [go_sem] <;> omega)).mono ?_; rintro e w' ⟨rfl, rfl⟩) | (go_at_call 36; refine (sc_40 _ _ (by simp [go_sem] <;> omega) (by simp [go_sem] <;> omega)).mono ?_; rintro e w' ⟨rfl, rfl⟩))
  go_ret
  refine ⟨rfl, ?_⟩
  repeat (first | with_reducible refine bal ?_ _ | with_reducible refine Below.drew ?_ | with_reducible refine bdn ?_ _)
  exact Below.refl _ _
theorem case_11_false (w : World) : Calls Tryz.prog 6 #[.int .i64 11, .bool false] w fun e w' => e = .returned (.bool true) ∧ Below w.heap.size w w' := by
  go_enter Tryz.func6, Tryz.ntmps6
  go_wp2_with (first | (go_at_call 34; ((with_reducible refine (sample_11 _).mono ?_); rintro e w' ⟨rfl, rfl⟩)) | (go_at_call 35; refine (el_11 _ _ _ (by simp <;> omega) (by simp [go_sem] <;> omega) (by simp [go_sem] <;> omega)).mono ?_; rintro e w' ⟨rfl, rfl⟩) | (go_at_call 36; refine (sc_3 _ _ (by simp [go_sem] <;> omega) (by simp [go_sem] <;> omega)).mono ?_; rintro e w' ⟨rfl, rfl⟩))
  go_ret
  refine ⟨rfl, ?_⟩
  repeat (first | with_reducible refine bal ?_ _ | with_reducible refine Below.drew ?_ | with_reducible refine bdn ?_ _)
  exact Below.refl _ _
end Go.Proofs.YtfmefomafdgfmaaGreat.fnElemSampleTable
