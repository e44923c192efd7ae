/-
  A part of the walk of FnElemSampleTable: Elem of each of the twelve samples, with or without a cache, is the nature of its element type, or the empty unknown nature where there is none.
-/
import Derived.Test.YtfmefomafdgfmaaGreatFnElemSampleTableC
import Derived.Test.YtfmefomafdgfmaaGreatFnElemSampleTableC1
namespace Go.Proofs.YtfmefomafdgfmaaGreat.fnElemSampleTable
open Go.RowKit
set_option maxRecDepth 100000
set_option maxHeartbeats 1000000
set_option linter.unusedVariables false
theorem case_0_false (w : World) : Calls Tryz.prog 6 #[.int .i64 0, .bool false] w fun e w' => e = .returned (.bool true) ∧ Below w.heap.size w w' := by
  go_enter Tryz.func6, Tryz.ntmps6
  go_wp2_with (first | (go_at_call 34; ((with_reducible refine (sample_0 _).mono ?_); rintro e w' ⟨rfl, rfl⟩)) | (go_at_call 35; refine (el_0 _ _ _ (by simp <;> omega) (by simp [go_sem] <;> omega) (by simp [go_sem] <;> omega)).mono ?_; rintro e w' ⟨rfl, rfl⟩) | (go_at_call 36; refine (sc_3 _ _ (by simp [go_sem] <;> omega) (by simp [go_sem] <;> omega)).mono ?_; rintro e w' ⟨rfl, rfl⟩))
  go_ret
  refine ⟨rfl, ?_⟩
  repeat (first | with_reducible refine bal ?_ _ | with_reducible refine Below.drew ?_ | with_reducible refine bdn ?_ _)
  exact Below.refl _ _
theorem case_2_false (w : World) : Calls Tryz.prog 6 #[.int .i64 2, .bool false] w fun e w' => e = .returned (.bool true) ∧ Below w.heap.size w w' := by
  go_enter Tryz.func6, Tryz.ntmps6
  go_wp2_with (first | (go_at_call 34; ((with_reducible refine (sample_2 _).mono ?_); rintro e w' ⟨rfl, rfl⟩)) | (go_at_call 35; refine (el_2 _ _ _ (by simp <;> omega) (by simp [go_sem] <;> omega) (by simp [go_sem] <;> omega)).mono ?_; rintro e w' ⟨rfl, rfl⟩) | (go_at_call 36; refine (sc_3 _ _ (by simp [go_sem] <;> omega) (by simp [go_sem] <;> omega)).mono ?_; rintro e w' ⟨rfl, rfl⟩))
  go_ret
  refine ⟨rfl, ?_⟩
  repeat (first | with_reducible refine bal ?_ _ | with_reducible refine Below.drew ?_ | with_reducible refine bdn ?_ _)
  exact Below.refl _ _
theorem case_4_false (w : World) : Calls Tryz.prog 6 #[.int .i64 4, .bool false] w fun e w' => e = .returned (.bool true) ∧ Below w.heap.size w w' := by
  go_enter Tryz.func6, Tryz.ntmps6
  go_wp2_with (first | (go_at_call 34; ((with_reducible refine (sample_4 _).mono ?_); rintro e w' ⟨rfl, rfl⟩)) | (go_at_call 35; refine (el_4 _ _ _ (by simp <;> omega) (by simp [go_sem] <;> omega) (by simp [go_sem] <;> omega)).mono ?_; rintro e w' ⟨rfl, rfl⟩) | (go_at_call 36; refine (sc_3 _ _ (by simp [go_sem] <;> omega) (by simp [go_sem] <;> omega)).mono ?_; rintro e w' ⟨rfl, rfl⟩))
  go_ret
  refine ⟨rfl, ?_⟩
  repeat (first | with_reducible refine bal ?_ _ | with_reducible refine Below.drew ?_ | with_reducible refine bdn ?_ _)
  exact Below.refl _ _
theorem case_6_false (w : World) : Calls Tryz.prog 6 #[.int .i64 6, .bool false] w fun e w' => e = .returned (.bool true) ∧ Below w.heap.size w w' := by
  go_enter Tryz.func6, Tryz.ntmps6
  go_wp2_with (first | (go_at_call 34; ((with_reducible refine (sample_6 _).mono ?_); rintro e w' ⟨rfl, rfl⟩)) | (go_at_call 35; refine (el_6 _ _ _ (by simp <;> omega) (by simp [go_sem] <;> omega) (by simp [go_sem] <;> omega)).mono ?_; rintro e w' ⟨rfl, rfl⟩) | (go_at_call 36; refine (sc_3 _ _ (by simp [go_sem] <;> omega) (by simp [go_sem] <;> omega)).mono ?_; rintro e w' ⟨rfl, rfl⟩))
  go_ret
  refine ⟨rfl, ?_⟩
  repeat (first | with_reducible refine bal ?_ _ | with_reducible refine Below.drew ?_ | with_reducible refine bdn ?_ _)
  exact Below.refl _ _
theorem case_8_false (w : World) : Calls Tryz.prog 6 #[.int .i64 8, .bool false] w fun e w' => e = .returned (.bool true) ∧ Below w.heap.size w w' := by
  go_enter Tryz.func6, Tryz.ntmps6
  go_wp2_with (first | (go_at_call 34; ((with_reducible refine (sample_8 _).mono ?_); rintro e w' ⟨rfl, rfl⟩)) | (go_at_call 35; refine (el_8 _ _ _ (by simp <;> omega) (by simp [go_sem] <;> omega) (by simp [go_sem] <;> omega)).mono ?_; rintro e w' ⟨rfl, rfl⟩) | (go_at_call 36; refine (sc_3 _ _ (by simp [go_sem] <;> omega) (by simp [go_sem] <;> omega)).mono ?_; rintro e w' ⟨rfl, rfl⟩))
  go_ret
  refine ⟨rfl, ?_⟩
  repeat (first | with_reducible refine bal ?_ _ | with_reducible refine Below.drew ?_ | with_reducible refine bdn ?_ _)
  exact Below.refl _ _
theorem case_10_false (w : World) : Calls Tryz.prog 6 #[.int .i64 10, .bool false] w fun e w' => e = .returned (.bool true) ∧ Below w.heap.size w w' := by
  go_enter Tryz.func6, Tryz.ntmps6
  go_wp2_with (first | (go_at_call 34; ((with_reducible refine (sample_10 _).mono ?_); rintro e w' ⟨rfl, rfl⟩)) | (go_at_call 35; refine (el_10 _ _ _ (by simp <;> omega) (by simp [go_sem] <;> omega) (by simp [go_sem] <;> omega)).mono ?_; rintro e w' ⟨rfl, rfl⟩) | (go_at_call 36; refine (sc_3 _ _ (by simp [go_sem] <;> omega) (by simp [go_sem] <;> omega)).mono ?_; rintro e w' ⟨rfl, rfl⟩))
  go_ret
  refine ⟨rfl, ?_⟩
  repeat (first | with_reducible refine bal ?_ _ | with_reducible refine Below.drew ?_ | with_reducible refine bdn ?_ _)
  exact Below.refl _ _
end Go.Proofs.YtfmefomafdgfmaaGreat.fnElemSampleTable
