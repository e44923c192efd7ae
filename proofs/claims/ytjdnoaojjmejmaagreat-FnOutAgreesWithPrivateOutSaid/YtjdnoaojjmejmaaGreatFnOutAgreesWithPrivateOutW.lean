/-
  The walk of FnOutAgreesWithPrivateOut: Out and the unexported out agree over the sample signatures, in either order, before and after Out has cached index 0.
-/
import Derived.Test.YtjdnoaojjmejmaaGreatFnOutAgreesWithPrivateOutW1
import Derived.Test.YtjdnoaojjmejmaaGreatFnOutAgreesWithPrivateOutW2
import Derived.Test.YtjdnoaojjmejmaaGreatFnOutAgreesWithPrivateOutW3
import Derived.Test.YtjdnoaojjmejmaaGreatFnOutAgreesWithPrivateOutW4
import Derived.Test.YtjdnoaojjmejmaaGreatFnOutAgreesWithPrivateOutW5
import Derived.Test.YtjdnoaojjmejmaaGreatFnOutAgreesWithPrivateOutW6
import Derived.Test.YtjdnoaojjmejmaaGreatFnOutAgreesWithPrivateOutW7
import Derived.Test.YtjdnoaojjmejmaaGreatFnOutAgreesWithPrivateOutW8
import Derived.Test.YtjdnoaojjmejmaaGreatFnOutAgreesWithPrivateOutW9
import Derived.Test.YtjdnoaojjmejmaaGreatFnOutAgreesWithPrivateOutW10
import Derived.Test.YtjdnoaojjmejmaaGreatFnOutAgreesWithPrivateOutW11
import Derived.Test.YtjdnoaojjmejmaaGreatFnOutAgreesWithPrivateOutW12
import Derived.Test.YtjdnoaojjmejmaaGreatFnOutAgreesWithPrivateOutW13
namespace Go.Proofs.YtjdnoaojjmejmaaGreat.fnOutAgreesWithPrivateOut
open Go.RowKit
set_option maxRecDepth 100000
set_option maxHeartbeats 1000000
set_option linter.unusedVariables false
theorem out_low (a i : Int) (nc : Bool) (h : a < 0) (w : World) : Calls Tryz.prog 9 #[.int .i64 a, .int .i64 i, .bool nc] w fun e w' => e = .returned (.bool true) ∧ Below w.heap.size w w' := by
  go_enter Tryz.func9, Tryz.ntmps9
  go_wp2_with (go_at_call 16; go_in)
  go_ret
  refine ⟨rfl, ?_⟩
  repeat (first | with_reducible refine bal ?_ _ | with_reducible refine Below.drew ?_ | with_reducible refine bdn ?_ _)
  exact Below.refl _ _
theorem out_high (a i : Int) (nc : Bool) (h : 5 < a) (w : World) : Calls Tryz.prog 9 #[.int .i64 a, .int .i64 i, .bool nc] w fun e w' => e = .returned (.bool true) ∧ Below w.heap.size w w' := by
  go_enter Tryz.func9, Tryz.ntmps9
  go_wp2_with (go_at_call 16; go_in)
  go_ret
  refine ⟨rfl, ?_⟩
  repeat (first | with_reducible refine bal ?_ _ | with_reducible refine Below.drew ?_ | with_reducible refine bdn ?_ _)
  exact Below.refl _ _
theorem out_0l (i : Int) (nc : Bool) (h : i < 0) (w : World) : Calls Tryz.prog 9 #[.int .i64 0, .int .i64 i, .bool nc] w fun e w' => e = .returned (.bool true) ∧ Below w.heap.size w w' := by
  go_enter Tryz.func9, Tryz.ntmps9
  go_wp2_with (go_at_call 16; go_in)
  go_ret
  refine ⟨rfl, ?_⟩
  repeat (first | with_reducible refine bal ?_ _ | with_reducible refine Below.drew ?_ | with_reducible refine bdn ?_ _)
  exact Below.refl _ _
theorem out_0h (i : Int) (nc : Bool) (h : 6 ≤ i) (w : World) : Calls Tryz.prog 9 #[.int .i64 0, .int .i64 i, .bool nc] w fun e w' => e = .returned (.bool true) ∧ Below w.heap.size w w' := by
  go_enter Tryz.func9, Tryz.ntmps9
  go_wp2_with (go_at_call 16; go_in)
  go_ret
  refine ⟨rfl, ?_⟩
  repeat (first | with_reducible refine bal ?_ _ | with_reducible refine Below.drew ?_ | with_reducible refine bdn ?_ _)
  exact Below.refl _ _
theorem out_1l (i : Int) (nc : Bool) (h : i < 0) (w : World) : Calls Tryz.prog 9 #[.int .i64 1, .int .i64 i, .bool nc] w fun e w' => e = .returned (.bool true) ∧ Below w.heap.size w w' := by
  go_enter Tryz.func9, Tryz.ntmps9
  go_wp2_with (go_at_call 16; go_in)
  go_ret
  refine ⟨rfl, ?_⟩
  repeat (first | with_reducible refine bal ?_ _ | with_reducible refine Below.drew ?_ | with_reducible refine bdn ?_ _)
  exact Below.refl _ _
theorem out_1h (i : Int) (nc : Bool) (h : 1 ≤ i) (w : World) : Calls Tryz.prog 9 #[.int .i64 1, .int .i64 i, .bool nc] w fun e w' => e = .returned (.bool true) ∧ Below w.heap.size w w' := by
  go_enter Tryz.func9, Tryz.ntmps9
  go_wp2_with (go_at_call 16; go_in)
  go_ret
  refine ⟨rfl, ?_⟩
  repeat (first | with_reducible refine bal ?_ _ | with_reducible refine Below.drew ?_ | with_reducible refine bdn ?_ _)
  exact Below.refl _ _
theorem out_2l (i : Int) (nc : Bool) (h : i < 0) (w : World) : Calls Tryz.prog 9 #[.int .i64 2, .int .i64 i, .bool nc] w fun e w' => e = .returned (.bool true) ∧ Below w.heap.size w w' := by
  go_enter Tryz.func9, Tryz.ntmps9
  go_wp2_with (go_at_call 16; go_in)
  go_ret
  refine ⟨rfl, ?_⟩
  repeat (first | with_reducible refine bal ?_ _ | with_reducible refine Below.drew ?_ | with_reducible refine bdn ?_ _)
  exact Below.refl _ _
theorem out_2h (i : Int) (nc : Bool) (h : 2 ≤ i) (w : World) : Calls Tryz.prog 9 #[.int .i64 2, .int .i64 i, .bool nc] w fun e w' => e = .returned (.bool true) ∧ Below w.heap.size w w' := by
  go_enter Tryz.func9, Tryz.ntmps9
  go_wp2_with (go_at_call 16; go_in)
  go_ret
  refine ⟨rfl, ?_⟩
  repeat (first | with_reducible refine bal ?_ _ | with_reducible refine Below.drew ?_ | with_reducible refine bdn ?_ _)
  exact Below.refl _ _
theorem out_3l (i : Int) (nc : Bool) (h : i < 0) (w : World) : Calls Tryz.prog 9 #[.int .i64 3, .int .i64 i, .bool nc] w fun e w' => e = .returned (.bool true) ∧ Below w.heap.size w w' := by
  go_enter Tryz.func9, Tryz.ntmps9
  go_wp2_with (go_at_call 16; go_in)
  go_ret
  refine ⟨rfl, ?_⟩
  repeat (first | with_reducible refine bal ?_ _ | with_reducible refine Below.drew ?_ | with_reducible refine bdn ?_ _)
  exact Below.refl _ _
theorem out_3h (i : Int) (nc : Bool) (h : 0 ≤ i) (w : World) : Calls Tryz.prog 9 #[.int .i64 3, .int .i64 i, .bool nc] w fun e w' => e = .returned (.bool true) ∧ Below w.heap.size w w' := by
  go_enter Tryz.func9, Tryz.ntmps9
  go_wp2_with (go_at_call 16; go_in)
  go_ret
  refine ⟨rfl, ?_⟩
  repeat (first | with_reducible refine bal ?_ _ | with_reducible refine Below.drew ?_ | with_reducible refine bdn ?_ _)
  exact Below.refl _ _
theorem out_4l (i : Int) (nc : Bool) (h : i < 0) (w : World) : Calls Tryz.prog 9 #[.int .i64 4, .int .i64 i, .bool nc] w fun e w' => e = .returned (.bool true) ∧ Below w.heap.size w w' := by
  go_enter Tryz.func9, Tryz.ntmps9
  go_wp2_with (go_at_call 16; go_in)
  go_ret
  refine ⟨rfl, ?_⟩
  repeat (first | with_reducible refine bal ?_ _ | with_reducible refine Below.drew ?_ | with_reducible refine bdn ?_ _)
  exact Below.refl _ _
theorem out_4h (i : Int) (nc : Bool) (h : 2 ≤ i) (w : World) : Calls Tryz.prog 9 #[.int .i64 4, .int .i64 i, .bool nc] w fun e w' => e = .returned (.bool true) ∧ Below w.heap.size w w' := by
  go_enter Tryz.func9, Tryz.ntmps9
  go_wp2_with (go_at_call 16; go_in)
  go_ret
  refine ⟨rfl, ?_⟩
  repeat (first | with_reducible refine bal ?_ _ | with_reducible refine Below.drew ?_ | with_reducible refine bdn ?_ _)
  exact Below.refl _ _
theorem out_5l (i : Int) (nc : Bool) (h : i < 0) (w : World) : Calls Tryz.prog 9 #[.int .i64 5, .int .i64 i, .bool nc] w fun e w' => e = .returned (.bool true) ∧ Below w.heap.size w w' := by
  go_enter Tryz.func9, Tryz.ntmps9
  go_wp2_with (go_at_call 16; go_in)
  go_ret
  refine ⟨rfl, ?_⟩
  repeat (first | with_reducible refine bal ?_ _ | with_reducible refine Below.drew ?_ | with_reducible refine bdn ?_ _)
  exact Below.refl _ _
theorem out_5h (i : Int) (nc : Bool) (h : 2 ≤ i) (w : World) : Calls Tryz.prog 9 #[.int .i64 5, .int .i64 i, .bool nc] w fun e w' => e = .returned (.bool true) ∧ Below w.heap.size w w' := by
  go_enter Tryz.func9, Tryz.ntmps9
  go_wp2_with (go_at_call 16; go_in)
  go_ret
  refine ⟨rfl, ?_⟩
  repeat (first | with_reducible refine bal ?_ _ | with_reducible refine Below.drew ?_ | with_reducible refine bdn ?_ _)
  exact Below.refl _ _
theorem walk (a i : Int) (nc : Bool) (w : World) (w0 : (Lit.int .i64 a).wf = true) (w1 : (Lit.int .i64 i).wf = true) : Calls Tryz.prog 9 #[.int .i64 a, .int .i64 i, .bool nc] w fun e w' => e = .returned (.bool true) ∧ Below w.heap.size w w' := by
  by_cases c1 : a < 0
  · exact out_low a i nc c1 w
  by_cases c2 : 5 < a
  · exact out_high a i nc c2 w
  have hs : a = 0 ∨ a = 1 ∨ a = 2 ∨ a = 3 ∨ a = 4 ∨ a = 5 := by omega
  by_cases c3 : i < 0
  · rcases hs with rfl | rfl | rfl | rfl | rfl | rfl
    · exact out_0l i nc c3 w
    · exact out_1l i nc c3 w
    · exact out_2l i nc c3 w
    · exact out_3l i nc c3 w
    · exact out_4l i nc c3 w
    · exact out_5l i nc c3 w
  rcases hs with rfl | rfl | rfl | rfl | rfl | rfl
  · by_cases c4 : 6 ≤ i
    · exact out_0h i nc c4 w
    have ht : i = 0 ∨ i = 1 ∨ i = 2 ∨ i = 3 ∨ i = 4 ∨ i = 5 := by omega
    rcases ht with rfl | rfl | rfl | rfl | rfl | rfl
    · exact case_0_0 nc w
    · exact case_0_1 nc w
    · exact case_0_2 nc w
    · exact case_0_3 nc w
    · exact case_0_4 nc w
    · exact case_0_5 nc w
  · by_cases c4 : 1 ≤ i
    · exact out_1h i nc c4 w
    have ht : i = 0 := by omega
    rcases ht with rfl
    · exact case_1_0 nc w
  · by_cases c4 : 2 ≤ i
    · exact out_2h i nc c4 w
    have ht : i = 0 ∨ i = 1 := by omega
    rcases ht with rfl | rfl
    · exact case_2_0 nc w
    · exact case_2_1 nc w
  · exact out_3h i nc (by omega) w
  · by_cases c4 : 2 ≤ i
    · exact out_4h i nc c4 w
    have ht : i = 0 ∨ i = 1 := by omega
    rcases ht with rfl | rfl
    · exact case_4_0 nc w
    · exact case_4_1 nc w
  · by_cases c4 : 2 ≤ i
    · exact out_5h i nc c4 w
    have ht : i = 0 ∨ i = 1 := by omega
    rcases ht with rfl | rfl
    · exact case_5_0 nc w
    · exact case_5_1 nc w
end Go.Proofs.YtjdnoaojjmejmaaGreat.fnOutAgreesWithPrivateOut
