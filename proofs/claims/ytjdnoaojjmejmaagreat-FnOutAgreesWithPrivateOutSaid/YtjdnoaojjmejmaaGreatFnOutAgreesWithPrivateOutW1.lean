/-
  A part of the walk of FnOutAgreesWithPrivateOut: Out and the unexported out agree over the sample signatures, in either order, before and after Out has cached index 0.
-/
import Derived.Test.YtjdnoaojjmejmaaGreatFnOutAgreesWithPrivateOutC
import Derived.Test.YtjdnoaojjmejmaaGreatFnOutAgreesWithPrivateOutC1
namespace Go.Proofs.YtjdnoaojjmejmaaGreat.fnOutAgreesWithPrivateOut
open Go.RowKit
set_option maxRecDepth 100000
set_option maxHeartbeats 1000000
set_option linter.unusedVariables false
set_option maxHeartbeats 4000000 in
theorem case_0_0 (nc : Bool) (w : World) : Calls Tryz.prog 9 #[.int .i64 0, .int .i64 0, .bool nc] w fun e w' => e = .returned (.bool true) ∧ Below w.heap.size w w' := by
  cases nc
  all_goals
    go_enter Tryz.func9, Tryz.ntmps9
    go_wp2_with (first | (go_at_call 17; ((with_reducible refine (sample_0 _).mono ?_); rintro e w' ⟨rfl, rfl⟩)) | (go_at_call 18; go_in) | (go_at_call 16; go_in) | (go_at_call 51; go_in) | (go_at_call 19; go_in) | (go_at_call 110; go_in) | (go_at_call 137; ((with_reducible refine (from_3 _ _).mono ?_); rintro e w' ⟨rfl, rfl⟩)) | (go_at_call 88; ((with_reducible refine (sn_3 _).mono ?_); rintro e w' ⟨rfl, nn, rfl⟩)))
    refine bodyPost_ret (v := .agg #[.iface 122 (.pointer (some ⟨0, 3, none⟩)), .int .u64 2, .pointer none, .pointer none, .bool false, .bool false, .bool false, .bool true, .bool false]) (by simp [results, Tryz.results110, go_sem]) rfl ?_
    go_wp2_with (first | (go_at_call 17; ((with_reducible refine (sample_0 _).mono ?_); rintro e w' ⟨rfl, rfl⟩)) | (go_at_call 18; go_in) | (go_at_call 16; go_in) | (go_at_call 51; go_in) | (go_at_call 19; go_in) | (go_at_call 110; go_in) | (go_at_call 137; ((with_reducible refine (from_3 _ _).mono ?_); rintro e w' ⟨rfl, rfl⟩)) | (go_at_call 88; ((with_reducible refine (sn_3 _).mono ?_); rintro e w' ⟨rfl, nn, rfl⟩)))
    refine bodyPost_ret (v := .agg #[.iface 122 (.pointer (some ⟨0, 3, none⟩)), .int .u64 2, .pointer none, .pointer none, .bool false, .bool false, .bool false, .bool true, .bool false]) (by simp [results, Tryz.results19, go_sem]) rfl ?_
    go_wp2_with (first | (go_at_call 17; ((with_reducible refine (sample_0 _).mono ?_); rintro e w' ⟨rfl, rfl⟩)) | (go_at_call 18; go_in) | (go_at_call 16; go_in) | (go_at_call 51; go_in) | (go_at_call 19; go_in) | (go_at_call 110; go_in) | (go_at_call 137; ((with_reducible refine (from_3 _ _).mono ?_); rintro e w' ⟨rfl, rfl⟩)) | (go_at_call 88; ((with_reducible refine (sn_3 _).mono ?_); rintro e w' ⟨rfl, nn, rfl⟩)))
    refine bodyPost_ret (v := .agg #[.iface 122 (.pointer (some ⟨0, 3, none⟩)), .int .u64 2, .pointer none, .pointer none, .bool false, .bool false, .bool false, .bool true, .bool false]) (by simp [results, Tryz.results110, go_sem]) rfl ?_
    go_wp2_with (first | (go_at_call 17; ((with_reducible refine (sample_0 _).mono ?_); rintro e w' ⟨rfl, rfl⟩)) | (go_at_call 18; go_in) | (go_at_call 16; go_in) | (go_at_call 51; go_in) | (go_at_call 19; go_in) | (go_at_call 110; go_in) | (go_at_call 137; ((with_reducible refine (from_3 _ _).mono ?_); rintro e w' ⟨rfl, rfl⟩)) | (go_at_call 88; ((with_reducible refine (sn_3 _).mono ?_); rintro e w' ⟨rfl, nn, rfl⟩)))
    refine bodyPost_ret (v := .agg #[.iface 122 (.pointer (some ⟨0, 3, none⟩)), .int .u64 2, .pointer none, .pointer none, .bool false, .bool false, .bool false, .bool true, .bool false]) (by simp [results, Tryz.results51, go_sem]) rfl ?_
    go_wp2_with (first | (go_at_call 17; ((with_reducible refine (sample_0 _).mono ?_); rintro e w' ⟨rfl, rfl⟩)) | (go_at_call 18; go_in) | (go_at_call 16; go_in) | (go_at_call 51; go_in) | (go_at_call 19; go_in) | (go_at_call 110; go_in) | (go_at_call 137; ((with_reducible refine (from_3 _ _).mono ?_); rintro e w' ⟨rfl, rfl⟩)) | (go_at_call 88; ((with_reducible refine (sn_3 _).mono ?_); rintro e w' ⟨rfl, nn, rfl⟩)))
    refine bodyPost_ret (v := .agg #[.iface 122 (.pointer (some ⟨0, 3, none⟩)), .int .u64 2, .pointer none, .pointer none, .bool false, .bool false, .bool false, .bool true, .bool false]) (by simp [results, Tryz.results51, go_sem]) rfl ?_
    go_wp2_with (first | (go_at_call 17; ((with_reducible refine (sample_0 _).mono ?_); rintro e w' ⟨rfl, rfl⟩)) | (go_at_call 18; go_in) | (go_at_call 16; go_in) | (go_at_call 51; go_in) | (go_at_call 19; go_in) | (go_at_call 110; go_in) | (go_at_call 137; ((with_reducible refine (from_3 _ _).mono ?_); rintro e w' ⟨rfl, rfl⟩)) | (go_at_call 88; ((with_reducible refine (sn_3 _).mono ?_); rintro e w' ⟨rfl, nn, rfl⟩)))
    refine bodyPost_ret (v := .agg #[.iface 122 (.pointer (some ⟨0, 3, none⟩)), .int .u64 2, .pointer none, .pointer none, .bool false, .bool false, .bool false, .bool true, .bool false]) (by simp [results, Tryz.results110, go_sem]) rfl ?_
    go_wp2_with (first | (go_at_call 17; ((with_reducible refine (sample_0 _).mono ?_); rintro e w' ⟨rfl, rfl⟩)) | (go_at_call 18; go_in) | (go_at_call 16; go_in) | (go_at_call 51; go_in) | (go_at_call 19; go_in) | (go_at_call 110; go_in) | (go_at_call 137; ((with_reducible refine (from_3 _ _).mono ?_); rintro e w' ⟨rfl, rfl⟩)) | (go_at_call 88; ((with_reducible refine (sn_3 _).mono ?_); rintro e w' ⟨rfl, nn, rfl⟩)))
    refine bodyPost_ret (v := .agg #[.iface 122 (.pointer (some ⟨0, 3, none⟩)), .int .u64 2, .pointer none, .pointer none, .bool false, .bool false, .bool false, .bool true, .bool false]) (by simp [results, Tryz.results19, go_sem]) rfl ?_
    go_wp2_with (first | (go_at_call 17; ((with_reducible refine (sample_0 _).mono ?_); rintro e w' ⟨rfl, rfl⟩)) | (go_at_call 18; go_in) | (go_at_call 16; go_in) | (go_at_call 51; go_in) | (go_at_call 19; go_in) | (go_at_call 110; go_in) | (go_at_call 137; ((with_reducible refine (from_3 _ _).mono ?_); rintro e w' ⟨rfl, rfl⟩)) | (go_at_call 88; ((with_reducible refine (sn_3 _).mono ?_); rintro e w' ⟨rfl, nn, rfl⟩)))
    refine bodyPost_ret (v := .agg #[.iface 122 (.pointer (some ⟨0, 3, none⟩)), .int .u64 2, .pointer none, .pointer none, .bool false, .bool false, .bool false, .bool true, .bool false]) (by simp [results, Tryz.results51, go_sem]) rfl ?_
    go_wp2_with (first | (go_at_call 17; ((with_reducible refine (sample_0 _).mono ?_); rintro e w' ⟨rfl, rfl⟩)) | (go_at_call 18; go_in) | (go_at_call 16; go_in) | (go_at_call 51; go_in) | (go_at_call 19; go_in) | (go_at_call 110; go_in) | (go_at_call 137; ((with_reducible refine (from_3 _ _).mono ?_); rintro e w' ⟨rfl, rfl⟩)) | (go_at_call 88; ((with_reducible refine (sn_3 _).mono ?_); rintro e w' ⟨rfl, nn, rfl⟩)))
    refine bodyPost_ret (v := .agg #[.iface 122 (.pointer (some ⟨0, 3, none⟩)), .int .u64 2, .pointer none, .pointer none, .bool false, .bool false, .bool false, .bool true, .bool false]) (by simp [results, Tryz.results110, go_sem]) rfl ?_
    go_wp2_with (first | (go_at_call 17; ((with_reducible refine (sample_0 _).mono ?_); rintro e w' ⟨rfl, rfl⟩)) | (go_at_call 18; go_in) | (go_at_call 16; go_in) | (go_at_call 51; go_in) | (go_at_call 19; go_in) | (go_at_call 110; go_in) | (go_at_call 137; ((with_reducible refine (from_3 _ _).mono ?_); rintro e w' ⟨rfl, rfl⟩)) | (go_at_call 88; ((with_reducible refine (sn_3 _).mono ?_); rintro e w' ⟨rfl, nn, rfl⟩)))
    refine bodyPost_ret (v := .agg #[.iface 122 (.pointer (some ⟨0, 3, none⟩)), .int .u64 2, .pointer none, .pointer none, .bool false, .bool false, .bool false, .bool true, .bool false]) (by simp [results, Tryz.results19, go_sem]) rfl ?_
    go_wp2_with (first | (go_at_call 17; ((with_reducible refine (sample_0 _).mono ?_); rintro e w' ⟨rfl, rfl⟩)) | (go_at_call 18; go_in) | (go_at_call 16; go_in) | (go_at_call 51; go_in) | (go_at_call 19; go_in) | (go_at_call 110; go_in) | (go_at_call 137; ((with_reducible refine (from_3 _ _).mono ?_); rintro e w' ⟨rfl, rfl⟩)) | (go_at_call 88; ((with_reducible refine (sn_3 _).mono ?_); rintro e w' ⟨rfl, nn, rfl⟩)))
    go_ret
    refine ⟨rfl, ?_⟩
    repeat (first | with_reducible refine bal ?_ _ | with_reducible refine Below.drew ?_ | with_reducible refine below_drewN ?_ _ | (with_reducible refine bset ?_ ?_ _; rotate_left; next => simp))
    exact Below.refl _ _
end Go.Proofs.YtjdnoaojjmejmaaGreat.fnOutAgreesWithPrivateOut
