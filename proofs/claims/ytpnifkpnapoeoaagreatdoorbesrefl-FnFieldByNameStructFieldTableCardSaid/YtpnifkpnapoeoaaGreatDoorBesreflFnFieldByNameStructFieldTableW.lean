/-
  The walk of FnFieldByNameStructFieldTable: FieldByName on a fresh cache finds exactly the seven fields of reflect.StructField. No condition.
-/
import Derived.Test.YtpnifkpnapoeoaaGreatDoorBesreflN96
namespace Go.Proofs.YtpnifkpnapoeoaaGreatDoorBesrefl.fnFieldByNameStructFieldTable
open Go.RowKit
set_option maxRecDepth 100000
set_option maxHeartbeats 1000000
set_option linter.unusedVariables false
theorem natAt_new (w : World) (T td : Nat) : NatAt (w.alloc (.cells (natc T 25 (pt td) false false) 48)) w.heap.size T td := heap_alloc_new w _
theorem zb (name : ByteArray) (w : World) : Calls Tryz.prog 8 #[.string name] w fun e w' => ∃ b, e = .returned (.bool b) ∧ w = w' := by
  go_enter Tryz.func8, Tryz.ntmps8
  go_wp2
  all_goals
    go_ret
    exact ⟨_, rfl, rfl⟩
set_option maxHeartbeats 4000000 in
theorem walk (name : ByteArray) (w : World) (w0 : name.size ≤ maxLen) : Calls Tryz.prog 3 #[.string name] w fun e w' => e = .returned (.bool true) ∧ Below w.heap.size w w' := by
  go_enter Tryz.func3, Tryz.ntmps3
  go_wp2_with (first | (go_at_call 8; ((with_reducible refine (zb _ _).mono ?_); rintro e w' ⟨b, rfl, rfl⟩)) | (go_at_call 9; ((with_reducible refine (zn_first w.heap.size w.heap.size _ (ca_new w) (Nat.le_refl _) (by simp)).mono ?_); rintro e w1 ⟨td, sd, rfl, hFr, h1, hT⟩; have hF0 : Fr w.heap.size w w1 := (((Fr.refl w.heap.size w (Nat.le_refl _)).alloc _).trans hFr); have HT := Lib.hid hT; clear hT hFr)) | (go_at_call 10; ((with_reducible refine (fbn top81 (exOk _ _) h1 name (natAt_new w1 _ _) (HT.out.alloc _)).mono ?_); rintro e w2 ⟨m, own', an', ch', ix', F', hFr2, _, hA⟩; have hF2 : Fr w.heap.size w w2 := (hF0.alloc _).trans hFr2; clear hFr2; rcases hA with ⟨E, td', hE, rfl⟩ | ⟨hE, rfl⟩; all_goals have HE := Lib.hid hE; clear hE)) | (go_at_call 11; ((with_reducible refine (ma_yes _ _ _ _ HE.out).mono ?_); rintro e w3 ⟨rfl, hFr3⟩; have hF3 : Fr w.heap.size w w3 := (hF2.alloc _).trans (hFr3.le (by have := hF2.grow; simp; omega)); clear hFr3)) | (go_at_call 11; ((with_reducible refine (ma_no _ _ HE.out).mono ?_); rintro e w3 ⟨rfl, hFr3⟩; have hF3 : Fr w.heap.size w w3 := (hF2.alloc _).trans (hFr3.le (by have := hF2.grow; simp; omega)); clear hFr3)))
  all_goals
    go_ret
    first | exact ⟨rfl, Below.refl _ _⟩ | exact ⟨rfl, hF3.bel⟩
end Go.Proofs.YtpnifkpnapoeoaaGreatDoorBesrefl.fnFieldByNameStructFieldTable
