/-
  A part of the walk of FnArrayFromTypeElemAgrees: ArrayFromType is the []any nature whose Ref is the nature of the element type, with a nil or a fresh cache.
-/
import Derived.Test.YtfmefomafdgfmaaGreatFnArrayFromTypeElemAgreesC
import Derived.Test.YtfmefomafdgfmaaGreatFnArrayFromTypeElemAgreesC1
namespace Go.Proofs.YtfmefomafdgfmaaGreat.fnArrayFromTypeElemAgrees
open Go.RowKit
set_option maxRecDepth 100000
set_option maxHeartbeats 1000000
set_option linter.unusedVariables false
theorem case_0_true (w : World) : Calls Tryz.prog 3 #[.int .i64 0, .bool true] w fun e w' => e = .returned (.bool true) ∧ Below w.heap.size w w' := by
  go_enter Tryz.func3, Tryz.ntmps3
  go_wp2_with (first | (go_at_call 14; ((with_reducible refine (ao_0 _ _).mono ?_); rintro e w' ⟨rfl, rfl⟩)) | (go_at_call 15; ((with_reducible refine (ias _ _).mono ?_); rintro e w' ⟨rfl, rfl⟩)))
  go_region_with (first | (go_at_call 16; refine (sh_Nil _).mono ?_; rintro e w' ⟨rfl, rfl⟩))
  all_goals
    go_wp2
    go_ret
    refine ⟨rfl, ?_⟩
    repeat (first | with_reducible refine bal ?_ _ | with_reducible refine Below.drew ?_ | with_reducible refine bdn ?_ _)
    exact Below.refl _ _
theorem case_2_true (w : World) : Calls Tryz.prog 3 #[.int .i64 2, .bool true] w fun e w' => e = .returned (.bool true) ∧ Below w.heap.size w w' := by
  go_enter Tryz.func3, Tryz.ntmps3
  go_wp2_with (first | (go_at_call 14; ((with_reducible refine (ao_2 _ _).mono ?_); rintro e w' ⟨rfl, rfl⟩)) | (go_at_call 15; ((with_reducible refine (ias _ _).mono ?_); rintro e w' ⟨rfl, rfl⟩)))
  go_region_with (first | (go_at_call 16; refine (sh_Float64 _).mono ?_; rintro e w' ⟨rfl, rfl⟩) | (go_at_call 18; refine (it_Float64 _).mono ?_; rintro e w' ⟨rfl, rfl⟩))
  all_goals
    go_wp2
    go_ret
    refine ⟨rfl, ?_⟩
    repeat (first | with_reducible refine bal ?_ _ | with_reducible refine Below.drew ?_ | with_reducible refine bdn ?_ _)
    exact Below.refl _ _
theorem case_4_true (w : World) : Calls Tryz.prog 3 #[.int .i64 4, .bool true] w fun e w' => e = .returned (.bool true) ∧ Below w.heap.size w w' := by
  go_enter Tryz.func3, Tryz.ntmps3
  go_wp2_with (first | (go_at_call 14; ((with_reducible refine (ao_4 _ _).mono ?_); rintro e w' ⟨rfl, rfl⟩)) | (go_at_call 15; ((with_reducible refine (ias _ _).mono ?_); rintro e w' ⟨rfl, rfl⟩)))
  go_region_with (first | (go_at_call 16; refine (sh_String _).mono ?_; rintro e w' ⟨rfl, rfl⟩) | (go_at_call 20; refine (it_String _).mono ?_; rintro e w' ⟨rfl, rfl⟩))
  all_goals
    go_wp2
    go_ret
    refine ⟨rfl, ?_⟩
    repeat (first | with_reducible refine bal ?_ _ | with_reducible refine Below.drew ?_ | with_reducible refine bdn ?_ _)
    exact Below.refl _ _
theorem case_6_true (w : World) : Calls Tryz.prog 3 #[.int .i64 6, .bool true] w fun e w' => e = .returned (.bool true) ∧ Below w.heap.size w w' := by
  go_enter Tryz.func3, Tryz.ntmps3
  go_wp2_with fail
  refine (ao_first w.heap.size _ (by repeat (first | with_reducible exact At.new _ _ _ _ rfl | with_reducible refine At.alloc ?_ _))).mono ?_
  rintro e w1 ⟨td, sd, mc, eb, rfl, hb, f0, f1, f2, f3, f4, l0, l1, l2, l3⟩
  have hF : Below w.heap.size w w1 := bsole (by repeat (first | with_reducible exact Below.refl _ _ | with_reducible refine bal ?_ _)) hb (Nat.le_refl _)
  have tp := f2.plain
  have tc := f2.cells
  have t0 := f2.lt
  obtain ⟨t1, t2, t3, t4⟩ := szs f2.lt
  have sp := f3.plain
  have sc := f3.cells
  have s0 := f3.lt
  obtain ⟨s1, s2, s3, s4⟩ := szs f3.lt
  have ep := f4.plain
  have ec := f4.cells
  have e0 := f4.lt
  obtain ⟨e1, e2, e3, e4⟩ := szs f4.lt
  have es : (cellsAt w1 eb).size = 9 := (by rw [ec]; rfl)
  have H2 := Lib.hid f2
  have H3 := Lib.hid f3
  clear hb f0 f1 f2 f3 f4 l0 l1 l2 l3
  go_wp2_with (first | (go_at_call 15; refine (ias _ _).mono ?_; rintro e w' ⟨rfl, rfl⟩) | (go_at_call 22; refine (it_Struct _ _).mono ?_; rintro e w' ⟨rfl, rfl⟩) | (go_at_call 23; refine (hidS _ sd _ (by repeat (first | with_reducible exact H2.out | with_reducible refine At.drew ?_ | with_reducible refine At.drewN ?_ _ | with_reducible refine At.alloc ?_ _))).mono ?_; rintro e w' ⟨rfl, nn, rfl⟩))
  refine (tds _ sd _ (by repeat (first | with_reducible exact H2.out | with_reducible refine At.drew ?_ | with_reducible refine At.drewN ?_ _ | with_reducible refine At.alloc ?_ _)) (by repeat (first | with_reducible exact H3.out | with_reducible refine At.drew ?_ | with_reducible refine At.drewN ?_ _ | with_reducible refine At.alloc ?_ _))).mono ?_
  rintro e w2 ⟨rfl, hb⟩
  have hF : Below w.heap.size w w2 := bnext (by repeat (first | with_reducible exact hF | with_reducible refine Below.drew ?_ | with_reducible refine bdn ?_ _ | with_reducible refine bal ?_ _)) hb
  clear hb
  go_wp2
  go_ret
  exact ⟨rfl, by repeat (first | with_reducible exact hF | with_reducible refine Below.drew ?_ | with_reducible refine bdn ?_ _ | with_reducible refine bal ?_ _)⟩
end Go.Proofs.YtfmefomafdgfmaaGreat.fnArrayFromTypeElemAgrees
