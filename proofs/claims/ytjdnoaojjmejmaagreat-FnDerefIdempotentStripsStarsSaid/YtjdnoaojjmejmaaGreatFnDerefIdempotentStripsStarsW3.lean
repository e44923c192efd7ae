/-
  A part of the walk of FnDerefIdempotentStripsStars: Deref drops every leading star of the spelling, and a second Deref changes nothing.
-/
import Derived.Test.YtjdnoaojjmejmaaGreatFnDerefIdempotentStripsStarsC
namespace Go.Proofs.YtjdnoaojjmejmaaGreat.fnDerefIdempotentStripsStars
open Go.RowKit
set_option maxRecDepth 100000
set_option maxHeartbeats 1000000
set_option linter.unusedVariables false
set_option maxHeartbeats 4000000 in
theorem case_1_true (w : World) : Calls Tryz.prog 12 #[.int .i64 1, .bool true] w fun e w' => e = .returned (.bool true) ∧ Below w.heap.size w w' := by
  go_enter Tryz.func12, Tryz.ntmps12
  go_wp2_with (first | (go_at_call 98; ((with_reducible refine (strip_1 _).mono ?_); rintro e w' ⟨rfl, rfl⟩)) | (go_at_call 91; ((with_reducible refine (sample_1 _).mono ?_); rintro e w' ⟨rfl, rfl⟩)) | (go_at_call 96; go_in) | (go_at_call 97; go_in) | (go_at_call 99; go_in) | (go_at_call 101; go_in) | (go_at_call 100; go_in) | (go_at_call 138; go_in) | (go_at_call 90; go_in))
  go_quiet ((go_at_call 136; exact Calls.quiet_of_same (tk_x _ _ rfl _)))
  go_wp2_with (first | (go_at_call 98; ((with_reducible refine (strip_1 _).mono ?_); rintro e w' ⟨rfl, rfl⟩)) | (go_at_call 91; ((with_reducible refine (sample_1 _).mono ?_); rintro e w' ⟨rfl, rfl⟩)) | (go_at_call 96; go_in) | (go_at_call 97; go_in) | (go_at_call 99; go_in) | (go_at_call 101; go_in) | (go_at_call 100; go_in) | (go_at_call 138; go_in) | (go_at_call 90; go_in))
  (apply bodyPost_ret; (next => (simp [results, Tryz.results97, go_sem] <;> rfl)); (next => rfl))
  go_wp2_with (first | (go_at_call 98; ((with_reducible refine (strip_1 _).mono ?_); rintro e w' ⟨rfl, rfl⟩)) | (go_at_call 91; ((with_reducible refine (sample_1 _).mono ?_); rintro e w' ⟨rfl, rfl⟩)) | (go_at_call 96; go_in) | (go_at_call 97; go_in) | (go_at_call 99; go_in) | (go_at_call 101; go_in) | (go_at_call 100; go_in) | (go_at_call 138; go_in) | (go_at_call 90; go_in))
  go_quiet ((go_at_call 136; exact Calls.quiet_of_same (tk_x _ _ rfl _)))
  go_wp2_with (first | (go_at_call 98; ((with_reducible refine (strip_1 _).mono ?_); rintro e w' ⟨rfl, rfl⟩)) | (go_at_call 91; ((with_reducible refine (sample_1 _).mono ?_); rintro e w' ⟨rfl, rfl⟩)) | (go_at_call 96; go_in) | (go_at_call 97; go_in) | (go_at_call 99; go_in) | (go_at_call 101; go_in) | (go_at_call 100; go_in) | (go_at_call 138; go_in) | (go_at_call 90; go_in))
  (apply bodyPost_ret; (next => (simp [results, Tryz.results97, go_sem] <;> rfl)); (next => rfl))
  go_wp2_with (first | (go_at_call 98; ((with_reducible refine (strip_1 _).mono ?_); rintro e w' ⟨rfl, rfl⟩)) | (go_at_call 91; ((with_reducible refine (sample_1 _).mono ?_); rintro e w' ⟨rfl, rfl⟩)) | (go_at_call 96; go_in) | (go_at_call 97; go_in) | (go_at_call 99; go_in) | (go_at_call 101; go_in) | (go_at_call 100; go_in) | (go_at_call 138; go_in) | (go_at_call 90; go_in))
  go_quiet (((go_at_call 90; exact Calls.quiet_of_same (string_un _ _ (by first | (simp; done) | simp [go_sem])))))
  go_wp2_with (first | (go_at_call 98; ((with_reducible refine (strip_1 _).mono ?_); rintro e w' ⟨rfl, rfl⟩)) | (go_at_call 91; ((with_reducible refine (sample_1 _).mono ?_); rintro e w' ⟨rfl, rfl⟩)) | (go_at_call 96; go_in) | (go_at_call 97; go_in) | (go_at_call 99; go_in) | (go_at_call 101; go_in) | (go_at_call 100; go_in) | (go_at_call 138; go_in) | (go_at_call 90; go_in))
  refine bodyPost_ret (v := .bool true) (by simp [results, Tryz.results12, go_sem]) rfl ⟨rfl, ?_⟩
  repeat (first | with_reducible refine bal ?_ _ | with_reducible refine Below.drew ?_ | with_reducible refine bdn ?_ _ | (with_reducible refine bset ?_ ?_ _; rotate_left; next => (dsimp only; omega)))
  with_reducible exact Below.refl _ _
set_option maxHeartbeats 4000000 in
theorem case_7_false (w : World) : Calls Tryz.prog 12 #[.int .i64 7, .bool false] w fun e w' => e = .returned (.bool true) ∧ Below w.heap.size w w' := by
  go_enter Tryz.func12, Tryz.ntmps12
  go_wp2_with (first | (go_at_call 98; ((with_reducible refine (strip_7 _).mono ?_); rintro e w' ⟨rfl, rfl⟩)) | (go_at_call 91; ((with_reducible refine (sample_7 _).mono ?_); rintro e w' ⟨rfl, rfl⟩)) | (go_at_call 96; go_in) | (go_at_call 97; go_in) | (go_at_call 99; go_in) | (go_at_call 101; go_in) | (go_at_call 100; go_in) | (go_at_call 138; go_in) | (go_at_call 90; go_in))
  go_quiet ((go_at_call 136; exact Calls.quiet_of_same (tk_x _ _ rfl _)))
  go_wp2_with (first | (go_at_call 98; ((with_reducible refine (strip_7 _).mono ?_); rintro e w' ⟨rfl, rfl⟩)) | (go_at_call 91; ((with_reducible refine (sample_7 _).mono ?_); rintro e w' ⟨rfl, rfl⟩)) | (go_at_call 96; go_in) | (go_at_call 97; go_in) | (go_at_call 99; go_in) | (go_at_call 101; go_in) | (go_at_call 100; go_in) | (go_at_call 138; go_in) | (go_at_call 90; go_in))
  (apply bodyPost_ret; (next => (simp [results, Tryz.results97, go_sem] <;> rfl)); (next => rfl))
  go_wp2_with (first | (go_at_call 98; ((with_reducible refine (strip_7 _).mono ?_); rintro e w' ⟨rfl, rfl⟩)) | (go_at_call 91; ((with_reducible refine (sample_7 _).mono ?_); rintro e w' ⟨rfl, rfl⟩)) | (go_at_call 96; go_in) | (go_at_call 97; go_in) | (go_at_call 99; go_in) | (go_at_call 101; go_in) | (go_at_call 100; go_in) | (go_at_call 138; go_in) | (go_at_call 90; go_in))
  go_quiet ((go_at_call 136; exact Calls.quiet_of_same (tk_x _ _ rfl _)))
  go_wp2_with (first | (go_at_call 98; ((with_reducible refine (strip_7 _).mono ?_); rintro e w' ⟨rfl, rfl⟩)) | (go_at_call 91; ((with_reducible refine (sample_7 _).mono ?_); rintro e w' ⟨rfl, rfl⟩)) | (go_at_call 96; go_in) | (go_at_call 97; go_in) | (go_at_call 99; go_in) | (go_at_call 101; go_in) | (go_at_call 100; go_in) | (go_at_call 138; go_in) | (go_at_call 90; go_in))
  (apply bodyPost_ret; (next => (simp [results, Tryz.results97, go_sem] <;> rfl)); (next => rfl))
  go_wp2_with (first | (go_at_call 98; ((with_reducible refine (strip_7 _).mono ?_); rintro e w' ⟨rfl, rfl⟩)) | (go_at_call 91; ((with_reducible refine (sample_7 _).mono ?_); rintro e w' ⟨rfl, rfl⟩)) | (go_at_call 96; go_in) | (go_at_call 97; go_in) | (go_at_call 99; go_in) | (go_at_call 101; go_in) | (go_at_call 100; go_in) | (go_at_call 138; go_in) | (go_at_call 90; go_in))
  go_quiet (((go_at_call 90; exact Calls.quiet_of_same (string_at _ 125 _ _ str_125 (by first | (simp; done) | simp [go_sem])))))
  go_wp2_with (first | (go_at_call 98; ((with_reducible refine (strip_7 _).mono ?_); rintro e w' ⟨rfl, rfl⟩)) | (go_at_call 91; ((with_reducible refine (sample_7 _).mono ?_); rintro e w' ⟨rfl, rfl⟩)) | (go_at_call 96; go_in) | (go_at_call 97; go_in) | (go_at_call 99; go_in) | (go_at_call 101; go_in) | (go_at_call 100; go_in) | (go_at_call 138; go_in) | (go_at_call 90; go_in))
  refine bodyPost_ret (v := .bool true) (by simp [results, Tryz.results12, go_sem]) rfl ⟨rfl, ?_⟩
  repeat (first | with_reducible refine bal ?_ _ | with_reducible refine Below.drew ?_ | with_reducible refine bdn ?_ _ | (with_reducible refine bset ?_ ?_ _; rotate_left; next => (dsimp only; omega)))
  with_reducible exact Below.refl _ _
end Go.Proofs.YtjdnoaojjmejmaaGreat.fnDerefIdempotentStripsStars
