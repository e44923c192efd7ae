/-
  The walk of FnNatureOfTable: The nature of a value of each of thirteen types is fixed by a complete table, with a cache, without one, and on a second call to the same cache.
-/
import Derived.Test.YtfmefomafdgfmaaGreatFnNatureOfTableW1
import Derived.Test.YtfmefomafdgfmaaGreatFnNatureOfTableW2
import Derived.Test.YtfmefomafdgfmaaGreatFnNatureOfTableW3
import Derived.Test.YtfmefomafdgfmaaGreatFnNatureOfTableW4
import Derived.Test.YtfmefomafdgfmaaGreatFnNatureOfTableW5
namespace Go.Proofs.YtfmefomafdgfmaaGreat.fnNatureOfTable
open Go.RowKit
set_option maxRecDepth 100000
set_option maxHeartbeats 1000000
set_option linter.unusedVariables false
theorem walk (a i u : Int) (f : Nat) (s : ByteArray) (b : Bool) (w : World) (w0 : (Lit.int .i64 a).wf = true) (w1 : (Lit.int .i64 i).wf = true) (w2 : (Lit.int .u8 u).wf = true) (w4 : s.size ≤ maxLen) : Calls Tryz.prog 8 #[.int .i64 a, .int .i64 i, .int .u8 u, .float .f32 f, .string s, .bool b] w fun e w' => e = .returned (.bool true) ∧ Below w.heap.size w w' := by
  have hs : a % 13 = 0 ∨ a % 13 = 1 ∨ a % 13 = 2 ∨ a % 13 = 3 ∨ a % 13 = 4 ∨ a % 13 = 5 ∨ a % 13 = 6 ∨ a % 13 = 7 ∨ a % 13 = 8 ∨ a % 13 = 9 ∨ a % 13 = 10 ∨ a % 13 = 11 ∨ a % 13 = 12 := by omega
  rcases hs with h | h | h | h | h | h | h | h | h | h | h | h | h
  · exact case_0 a i u f s b w0 h w
  · exact case_1 a i u f s b w0 h w
  · exact case_2 a i u f s b w0 h w
  · exact case_3 a i u f s b w0 h w
  · exact case_4 a i u f s b w0 h w
  · exact case_5 a i u f s b w0 h w
  · exact case_6 a i u f s b w0 h w
  · exact case_7 a i u f s b w0 h w
  · exact case_8 a i u f s b w0 h w
  · exact case_9 a i u f s b w0 h w
  · exact case_10 a i u f s b w0 h w
  · exact case_11 a i u f s b w0 h w
  · exact case_12 a i u f s b w0 h w
end Go.Proofs.YtfmefomafdgfmaaGreat.fnNatureOfTable
