/-
  A part of the walk of FnElemInvertsMakeArrayOf: Elem undoes MakeArrayOf: for any nature n, the array made of n has Ref n, and its Elem is n field for field.
-/
import Derived.Test.YtfmefomafdgfmaaGreatFnElemInvertsMakeArrayOfC
import Derived.Test.YtfmefomafdgfmaaGreatFnElemInvertsMakeArrayOfC1
namespace Go.Proofs.YtfmefomafdgfmaaGreat.fnElemInvertsMakeArrayOf
open Go.RowKit
set_option maxRecDepth 100000
set_option maxHeartbeats 1000000
set_option linter.unusedVariables false
theorem case_3_true (k : Int) (b1 b2 b3 b4 b5 : Bool) (w : World) : Calls Tryz.prog 7 #[.int .i64 3, .int .u64 k, .bool b1, .bool b2, .bool b3, .bool b4, .bool b5, .bool true] w fun e w' => e = .returned (.bool true) ∧ Below w.heap.size w w' := by
  go_enter Tryz.func7, Tryz.ntmps7
  go_wp2_with (first | (go_at_call 38; refine (mk _ _ _).mono ?_; rintro e w' ⟨rfl, rfl⟩) | (go_at_call 35; refine (ea_t _ w.heap.size _ 124 (.pointer (some ⟨0, 94, none⟩)) 23 none none false false false false false _ (by simp <;> omega) (by simp [go_sem] <;> omega) (by simp [go_sem] <;> omega) (by simp <;> omega) (by simp [go_sem] <;> omega) (by simp [go_sem] <;> omega)).mono ?_; rintro e w' ⟨rfl, rfl⟩) | (go_at_call 34; ((with_reducible refine (sample_3 _).mono ?_); rintro e w' ⟨rfl, rfl⟩)))
  go_quiet ((go_at_call 36; exact Calls.quiet_of_same ((sc_94 _ _ (by simp [go_sem] <;> omega) (by simp [go_sem] <;> omega)).mono fun _ _ ⟨he, hw⟩ => ⟨he, hw.symm⟩)))
  go_wp2
  go_ret
  refine ⟨rfl, ?_⟩
  repeat (first | with_reducible refine bal ?_ _ | with_reducible refine Below.drew ?_ | with_reducible refine bdn ?_ _)
  exact Below.refl _ _
theorem case_8_false (k : Int) (b1 b2 b3 b4 b5 : Bool) (w : World) : Calls Tryz.prog 7 #[.int .i64 8, .int .u64 k, .bool b1, .bool b2, .bool b3, .bool b4, .bool b5, .bool false] w fun e w' => e = .returned (.bool true) ∧ Below w.heap.size w w' := by
  go_enter Tryz.func7, Tryz.ntmps7
  go_wp2_with (first | (go_at_call 38; refine (mk _ _ _).mono ?_; rintro e w' ⟨rfl, rfl⟩) | (go_at_call 35; refine (ea_t _ w.heap.size _ 124 (.pointer (some ⟨0, 25, none⟩)) 20 none none false false false false false _ (by simp <;> omega) (by simp [go_sem] <;> omega) (by simp [go_sem] <;> omega) (by simp <;> omega) (by simp [go_sem] <;> omega) (by simp [go_sem] <;> omega)).mono ?_; rintro e w' ⟨rfl, rfl⟩) | (go_at_call 34; ((with_reducible refine (sample_8 _).mono ?_); rintro e w' ⟨rfl, rfl⟩)))
  go_quiet ((go_at_call 36; exact Calls.quiet_of_same ((sc_25 _ _ (by simp [go_sem] <;> omega) (by simp [go_sem] <;> omega)).mono fun _ _ ⟨he, hw⟩ => ⟨he, hw.symm⟩)))
  go_wp2
  go_ret
  refine ⟨rfl, ?_⟩
  repeat (first | with_reducible refine bal ?_ _ | with_reducible refine Below.drew ?_ | with_reducible refine bdn ?_ _)
  exact Below.refl _ _
theorem case_p_true (j : Int) (h : j < 0 ∨ 12 ≤ j) (k : Int) (b1 b2 b3 b4 b5 : Bool) (w : World) : Calls Tryz.prog 7 #[.int .i64 j, .int .u64 k, .bool b1, .bool b2, .bool b3, .bool b4, .bool b5, .bool true] w fun e w' => e = .returned (.bool true) ∧ Below w.heap.size w w' := by
  have h1 : (decide (0 ≤ j) && decide (j < 12)) = false := by simp; omega
  go_enter Tryz.func7, Tryz.ntmps7
  go_wp2_with (first | (go_at_call 38; refine (mk _ _ _).mono ?_; rintro e w' ⟨rfl, rfl⟩) | (go_at_call 35; refine (ea_u _ w.heap.size _ k none none b1 b2 b3 b4 b5 _ (by simp <;> omega) (by simp [go_sem] <;> omega) (by simp [go_sem] <;> omega) (by simp <;> omega) (by simp [go_sem] <;> omega) (by simp [go_sem] <;> omega)).mono ?_; rintro e w' ⟨rfl, rfl⟩) | (go_at_call 37; ((with_reducible refine (pl _ _ _ _ _ _ _).mono ?_); rintro e w' ⟨rfl, rfl⟩)))
  all_goals
    go_quiet ((go_at_call 36; exact Calls.quiet_of_same ((sc_un _ _ (by simp [go_sem] <;> omega) (by simp [go_sem] <;> omega)).mono fun _ _ ⟨he, hw⟩ => ⟨he, hw.symm⟩)))
    go_wp2
    go_ret
    refine ⟨rfl, ?_⟩
    repeat (first | with_reducible refine bal ?_ _ | with_reducible refine Below.drew ?_ | with_reducible refine bdn ?_ _)
    exact Below.refl _ _
end Go.Proofs.YtfmefomafdgfmaaGreat.fnElemInvertsMakeArrayOf
