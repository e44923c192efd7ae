/-
  The walk of FnDerefIdempotentStripsStars: Deref drops every leading star of the spelling, and a second Deref changes nothing.
-/
import Derived.Test.YtjdnoaojjmejmaaGreatFnDerefIdempotentStripsStarsW1
import Derived.Test.YtjdnoaojjmejmaaGreatFnDerefIdempotentStripsStarsW2
import Derived.Test.YtjdnoaojjmejmaaGreatFnDerefIdempotentStripsStarsW3
import Derived.Test.YtjdnoaojjmejmaaGreatFnDerefIdempotentStripsStarsW4
import Derived.Test.YtjdnoaojjmejmaaGreatFnDerefIdempotentStripsStarsW5
import Derived.Test.YtjdnoaojjmejmaaGreatFnDerefIdempotentStripsStarsW6
import Derived.Test.YtjdnoaojjmejmaaGreatFnDerefIdempotentStripsStarsW7
import Derived.Test.YtjdnoaojjmejmaaGreatFnDerefIdempotentStripsStarsW8
import Derived.Test.YtjdnoaojjmejmaaGreatFnDerefIdempotentStripsStarsW9
import Derived.Test.YtjdnoaojjmejmaaGreatFnDerefIdempotentStripsStarsW10
import Derived.Test.YtjdnoaojjmejmaaGreatFnDerefIdempotentStripsStarsW11
import Derived.Test.YtjdnoaojjmejmaaGreatFnDerefIdempotentStripsStarsW12
import Derived.Test.YtjdnoaojjmejmaaGreatFnDerefIdempotentStripsStarsW13
namespace Go.Proofs.YtjdnoaojjmejmaaGreat.fnDerefIdempotentStripsStars
open Go.RowKit
set_option maxRecDepth 100000
set_option maxHeartbeats 1000000
set_option linter.unusedVariables false
theorem case_low (a : Int) (b : Bool) (h : a < 0) (w : World) : Calls Tryz.prog 12 #[.int .i64 a, .bool b] w fun e w' => e = .returned (.bool true) ∧ Below w.heap.size w w' := by
  go_enter Tryz.func12, Tryz.ntmps12
  go_wp2
  go_ret
  refine ⟨rfl, ?_⟩
  repeat (first | with_reducible refine bal ?_ _ | with_reducible refine Below.drew ?_ | with_reducible refine bdn ?_ _)
  exact Below.refl _ _
theorem case_high (a : Int) (b : Bool) (h : 12 < a) (w : World) : Calls Tryz.prog 12 #[.int .i64 a, .bool b] w fun e w' => e = .returned (.bool true) ∧ Below w.heap.size w w' := by
  go_enter Tryz.func12, Tryz.ntmps12
  go_wp2
  go_ret
  refine ⟨rfl, ?_⟩
  repeat (first | with_reducible refine bal ?_ _ | with_reducible refine Below.drew ?_ | with_reducible refine bdn ?_ _)
  exact Below.refl _ _
theorem walk (a : Int) (b : Bool) (w : World) (w0 : (Lit.int .i64 a).wf = true) : Calls Tryz.prog 12 #[.int .i64 a, .bool b] w fun e w' => e = .returned (.bool true) ∧ Below w.heap.size w w' := by
  by_cases c1 : a < 0
  · exact case_low a b c1 w
  by_cases c2 : 12 < a
  · exact case_high a b c2 w
  have hs : a = 0 ∨ a = 1 ∨ a = 2 ∨ a = 3 ∨ a = 4 ∨ a = 5 ∨ a = 6 ∨ a = 7 ∨ a = 8 ∨ a = 9 ∨ a = 10 ∨ a = 11 ∨ a = 12 := by omega
  cases b
  · rcases hs with rfl | rfl | rfl | rfl | rfl | rfl | rfl | rfl | rfl | rfl | rfl | rfl | rfl
    · exact case_0_false w
    · exact case_1_false w
    · exact case_2_false w
    · exact case_3_false w
    · exact case_4_false w
    · exact case_5_false w
    · exact case_6_false w
    · exact case_7_false w
    · exact case_8_false w
    · exact case_9_false w
    · exact case_10_false w
    · exact case_11_false w
    · exact case_12_false w
  · rcases hs with rfl | rfl | rfl | rfl | rfl | rfl | rfl | rfl | rfl | rfl | rfl | rfl | rfl
    · exact case_0_true w
    · exact case_1_true w
    · exact case_2_true w
    · exact case_3_true w
    · exact case_4_true w
    · exact case_5_true w
    · exact case_6_true w
    · exact case_7_true w
    · exact case_8_true w
    · exact case_9_true w
    · exact case_10_true w
    · exact case_11_true w
    · exact case_12_true w
end Go.Proofs.YtjdnoaojjmejmaaGreat.fnDerefIdempotentStripsStars
