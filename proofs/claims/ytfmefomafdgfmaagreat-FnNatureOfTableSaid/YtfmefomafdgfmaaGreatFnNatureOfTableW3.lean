/-
  A part of the walk of FnNatureOfTable: The nature of a value of each of thirteen types is fixed by a complete table, with a cache, without one, and on a second call to the same cache.
-/
import Derived.Test.YtfmefomafdgfmaaGreatFnNatureOfTableC
import Derived.Test.YtfmefomafdgfmaaGreatFnNatureOfTableC1
namespace Go.Proofs.YtfmefomafdgfmaaGreat.fnNatureOfTable
open Go.RowKit
set_option maxRecDepth 100000
set_option maxHeartbeats 1000000
set_option linter.unusedVariables false
theorem case_2 (a i u : Int) (f : Nat) (s : ByteArray) (b : Bool) (w0 : (Lit.int .i64 a).wf = true) (hz : a % 13 = 2) (w : World) : Calls Tryz.prog 8 #[.int .i64 a, .int .i64 i, .int .u8 u, .float .f32 f, .string s, .bool b] w fun e w' => e = .returned (.bool true) ∧ Below w.heap.size w w' := by
  have hF := Below.refl w.heap.size w
  go_enter Tryz.func8, Tryz.ntmps8
  go_wp2_with (first | (go_at_call 39; ((with_reducible refine (zb _ _ _ _ _ _ _).mono ?_); rintro e w' ⟨bb, rfl, rfl⟩)) | (go_at_call 40; ((with_reducible refine (zmod _ _ (by decide) (by decide) w0 _).mono ?_); rintro e w' ⟨rfl, rfl⟩; rw [hz])) | (go_at_call 42; ((with_reducible refine (bpk_2 _ _ _ _ _ _ _).mono ?_); rintro e w' ⟨rfl, hb⟩; have hF : Below w.heap.size w w' := bnext (by repeat (first | with_reducible exact hF | with_reducible refine Below.drew ?_ | with_reducible refine bdn ?_ _ | with_reducible refine bal ?_ _)) hb; clear hb)) | (go_at_call 41; ((with_reducible refine (mr_2 _).mono ?_); rintro e w' ⟨rfl, rfl⟩)))
  all_goals
    go_ret
    refine ⟨rfl, ?_⟩
    repeat (first | with_reducible exact hF | with_reducible refine Below.drew ?_ | with_reducible refine bdn ?_ _ | with_reducible refine bal ?_ _)
theorem case_7 (a i u : Int) (f : Nat) (s : ByteArray) (b : Bool) (w0 : (Lit.int .i64 a).wf = true) (hz : a % 13 = 7) (w : World) : Calls Tryz.prog 8 #[.int .i64 a, .int .i64 i, .int .u8 u, .float .f32 f, .string s, .bool b] w fun e w' => e = .returned (.bool true) ∧ Below w.heap.size w w' := by
  have hF := Below.refl w.heap.size w
  go_enter Tryz.func8, Tryz.ntmps8
  go_wp2_with (first | (go_at_call 39; ((with_reducible refine (zb _ _ _ _ _ _ _).mono ?_); rintro e w' ⟨bb, rfl, rfl⟩)) | (go_at_call 40; ((with_reducible refine (zmod _ _ (by decide) (by decide) w0 _).mono ?_); rintro e w' ⟨rfl, rfl⟩; rw [hz])) | (go_at_call 42; ((with_reducible refine (bpk_7 _ _ _ _ _ _ _).mono ?_); rintro e w' ⟨rfl, hb⟩; have hF : Below w.heap.size w w' := bnext (by repeat (first | with_reducible exact hF | with_reducible refine Below.drew ?_ | with_reducible refine bdn ?_ _ | with_reducible refine bal ?_ _)) hb; clear hb)) | (go_at_call 41; ((with_reducible refine (mr_7 _).mono ?_); rintro e w' ⟨rfl, rfl⟩)))
  all_goals
    go_ret
    refine ⟨rfl, ?_⟩
    repeat (first | with_reducible exact hF | with_reducible refine Below.drew ?_ | with_reducible refine bdn ?_ _ | with_reducible refine bal ?_ _)
theorem case_12 (a i u : Int) (f : Nat) (s : ByteArray) (b : Bool) (w0 : (Lit.int .i64 a).wf = true) (hz : a % 13 = 12) (w : World) : Calls Tryz.prog 8 #[.int .i64 a, .int .i64 i, .int .u8 u, .float .f32 f, .string s, .bool b] w fun e w' => e = .returned (.bool true) ∧ Below w.heap.size w w' := by
  have hF := Below.refl w.heap.size w
  go_enter Tryz.func8, Tryz.ntmps8
  go_wp2_with (first | (go_at_call 39; ((with_reducible refine (zb _ _ _ _ _ _ _).mono ?_); rintro e w' ⟨bb, rfl, rfl⟩)) | (go_at_call 40; ((with_reducible refine (zmod _ _ (by decide) (by decide) w0 _).mono ?_); rintro e w' ⟨rfl, rfl⟩; rw [hz])) | (go_at_call 42; ((with_reducible refine (pk12_h _ _ _ _ _ td mc _ _ (by (repeat (first | with_reducible exact HA.out | with_reducible exact At.new _ _ _ _ rfl | with_reducible refine At.drewN ?_ _ | with_reducible refine At.drew ?_ | with_reducible refine At.alloc ?_ _)); done) (by (repeat (first | with_reducible exact HT.out | with_reducible refine Ty.drew ?_ | with_reducible refine Ty.alloc ?_ _)); done)).mono ?_); rintro e w' ⟨rfl, hb⟩; have hF : Below w.heap.size w w' := bnext (by repeat (first | with_reducible exact hF | with_reducible refine Below.drew ?_ | with_reducible refine bdn ?_ _ | with_reducible refine bal ?_ _)) hb; clear hb)) | (go_at_call 42; ((with_reducible refine (bpk_12 _ _ _ _ _ _).mono ?_); rintro e w' ⟨td2, rfl, hb⟩; have HA := Lib.hid (At.bel (n := w.heap.size) (c := cac (some mc)) (by (repeat (first | with_reducible exact HA.out | with_reducible exact At.new _ _ _ _ rfl | with_reducible refine At.drewN ?_ _ | with_reducible refine At.drew ?_ | with_reducible refine At.alloc ?_ _)); done) hb); have HT := Lib.hid (Ty.bel (mc := mc) (G := (fun a => if a = 111 then some td else none)) (by (repeat (first | with_reducible exact HT.out | with_reducible refine Ty.drew ?_ | with_reducible refine Ty.alloc ?_ _)); done) hb); have hF : Below w.heap.size w w' := bnext (by repeat (first | with_reducible exact hF | with_reducible refine Below.drew ?_ | with_reducible refine bdn ?_ _ | with_reducible refine bal ?_ _)) hb; clear hb)) | (go_at_call 42; ((with_reducible refine (pk12_first _ _ _ _ _ w.heap.size _ (by (repeat (first | with_reducible exact (At.new _ _ _ _ rfl) | with_reducible exact At.new _ _ _ _ rfl | with_reducible refine At.drewN ?_ _ | with_reducible refine At.drew ?_ | with_reducible refine At.alloc ?_ _)); done)).mono ?_); rintro e w' ⟨td, sd, mc, rfl, hb, f0, f1, f2, f3, l0, l1, l2⟩; have hF : Below w.heap.size w w' := bsole (by repeat (first | with_reducible exact hF | with_reducible refine Below.drew ?_ | with_reducible refine bdn ?_ _ | with_reducible refine bal ?_ _)) hb (Nat.le_refl _); have HA := Lib.hid f0; have HT := Lib.hid f1; clear hb f0 f1 f2 f3 l0 l1 l2)) | (go_at_call 41; ((with_reducible refine (mr_12 _ _).mono ?_); rintro e w' ⟨rfl, rfl⟩)))
  all_goals
    go_ret
    refine ⟨rfl, ?_⟩
    repeat (first | with_reducible exact hF | with_reducible refine Below.drew ?_ | with_reducible refine bdn ?_ _ | with_reducible refine bal ?_ _)
end Go.Proofs.YtfmefomafdgfmaaGreat.fnNatureOfTable
