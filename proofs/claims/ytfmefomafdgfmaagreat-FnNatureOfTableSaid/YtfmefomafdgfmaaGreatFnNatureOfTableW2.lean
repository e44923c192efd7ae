/-
  A part of the walk of FnNatureOfTable: The nature of a value of each of thirteen types is fixed by a complete table, with a cache, without one, and on a second call to the same cache.
-/
import Derived.Test.YtfmefomafdgfmaaGreatFnNatureOfTableC
import Derived.Test.YtfmefomafdgfmaaGreatFnNatureOfTableC1
namespace Go.Proofs.YtfmefomafdgfmaaGreat.fnNatureOfTable
open Go.RowKit
set_option maxRecDepth 100000
set_option maxHeartbeats 1000000
set_option linter.unusedVariables false
theorem case_1 (a i u : Int) (f : Nat) (s : ByteArray) (b : Bool) (w0 : (Lit.int .i64 a).wf = true) (hz : a % 13 = 1) (w : World) : Calls Tryz.prog 8 #[.int .i64 a, .int .i64 i, .int .u8 u, .float .f32 f, .string s, .bool b] w fun e w' => e = .returned (.bool true) ∧ Below w.heap.size w w' := by
  have hF := Below.refl w.heap.size w
  go_enter Tryz.func8, Tryz.ntmps8
  go_wp2_with (first | (go_at_call 39; ((with_reducible refine (zb _ _ _ _ _ _ _).mono ?_); rintro e w' ⟨bb, rfl, rfl⟩)) | (go_at_call 40; ((with_reducible refine (zmod _ _ (by decide) (by decide) w0 _).mono ?_); rintro e w' ⟨rfl, rfl⟩; rw [hz])) | (go_at_call 42; ((with_reducible refine (bpk_1 _ _ _ _ _ _ _).mono ?_); rintro e w' ⟨rfl, hb⟩; have hF : Below w.heap.size w w' := bnext (by repeat (first | with_reducible exact hF | with_reducible refine Below.drew ?_ | with_reducible refine bdn ?_ _ | with_reducible refine bal ?_ _)) hb; clear hb)) | (go_at_call 41; ((with_reducible refine (mr_1 _).mono ?_); rintro e w' ⟨rfl, rfl⟩)))
  all_goals
    go_ret
    refine ⟨rfl, ?_⟩
    repeat (first | with_reducible exact hF | with_reducible refine Below.drew ?_ | with_reducible refine bdn ?_ _ | with_reducible refine bal ?_ _)
theorem case_6 (a i u : Int) (f : Nat) (s : ByteArray) (b : Bool) (w0 : (Lit.int .i64 a).wf = true) (hz : a % 13 = 6) (w : World) : Calls Tryz.prog 8 #[.int .i64 a, .int .i64 i, .int .u8 u, .float .f32 f, .string s, .bool b] w fun e w' => e = .returned (.bool true) ∧ Below w.heap.size w w' := by
  have hF := Below.refl w.heap.size w
  go_enter Tryz.func8, Tryz.ntmps8
  go_wp2_with (first | (go_at_call 39; ((with_reducible refine (zb _ _ _ _ _ _ _).mono ?_); rintro e w' ⟨bb, rfl, rfl⟩)) | (go_at_call 40; ((with_reducible refine (zmod _ _ (by decide) (by decide) w0 _).mono ?_); rintro e w' ⟨rfl, rfl⟩; rw [hz])) | (go_at_call 42; ((with_reducible refine (bpk_6 _ _ _ _ _ _ _).mono ?_); rintro e w' ⟨rfl, hb⟩; have hF : Below w.heap.size w w' := bnext (by repeat (first | with_reducible exact hF | with_reducible refine Below.drew ?_ | with_reducible refine bdn ?_ _ | with_reducible refine bal ?_ _)) hb; clear hb)) | (go_at_call 41; ((with_reducible refine (mr_6 _).mono ?_); rintro e w' ⟨rfl, rfl⟩)))
  all_goals
    go_ret
    refine ⟨rfl, ?_⟩
    repeat (first | with_reducible exact hF | with_reducible refine Below.drew ?_ | with_reducible refine bdn ?_ _ | with_reducible refine bal ?_ _)
theorem case_11 (a i u : Int) (f : Nat) (s : ByteArray) (b : Bool) (w0 : (Lit.int .i64 a).wf = true) (hz : a % 13 = 11) (w : World) : Calls Tryz.prog 8 #[.int .i64 a, .int .i64 i, .int .u8 u, .float .f32 f, .string s, .bool b] w fun e w' => e = .returned (.bool true) ∧ Below w.heap.size w w' := by
  have hF := Below.refl w.heap.size w
  go_enter Tryz.func8, Tryz.ntmps8
  go_wp2_with (first | (go_at_call 39; ((with_reducible refine (zb _ _ _ _ _ _ _).mono ?_); rintro e w' ⟨bb, rfl, rfl⟩)) | (go_at_call 40; ((with_reducible refine (zmod _ _ (by decide) (by decide) w0 _).mono ?_); rintro e w' ⟨rfl, rfl⟩; rw [hz])) | (go_at_call 42; ((with_reducible refine (bpk_11 _ _ _ _ _ _ _).mono ?_); rintro e w' ⟨rfl, hb⟩; have hF : Below w.heap.size w w' := bnext (by repeat (first | with_reducible exact hF | with_reducible refine Below.drew ?_ | with_reducible refine bdn ?_ _ | with_reducible refine bal ?_ _)) hb; clear hb)) | (go_at_call 41; ((with_reducible refine (mr_11 _).mono ?_); rintro e w' ⟨rfl, rfl⟩)))
  all_goals
    go_ret
    refine ⟨rfl, ?_⟩
    repeat (first | with_reducible exact hF | with_reducible refine Below.drew ?_ | with_reducible refine bdn ?_ _ | with_reducible refine bal ?_ _)
end Go.Proofs.YtfmefomafdgfmaaGreat.fnNatureOfTable
