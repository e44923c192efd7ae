/-
  The walk of FnFieldIndexTable: FieldIndex on ZZFix answers exactly the hand-written index paths. No condition.
-/
import Derived.Test.YtpnifkpnapoeoaaGreatDoorBesreflN97
import Derived.WalkSpells
namespace Go.Proofs.YtpnifkpnapoeoaaGreatDoorBesrefl.fnFieldIndexTable
open Go.RowKit
set_option maxRecDepth 100000
set_option maxHeartbeats 1000000
set_option linter.unusedVariables false
theorem natAt_new (w : World) (T td : Nat) : NatAt (w.alloc (.cells (natc T 25 (pt td) false false) 48)) w.heap.size T td := heap_alloc_new w _
theorem zb (name : ByteArray) (w : World) : Calls Tryz.prog 12 #[.string name] w fun e w' => ∃ b, e = .returned (.bool b) ∧ w = w' := by
  go_enter Tryz.func12, Tryz.ntmps12
  go_wp2
  all_goals
    go_ret
    exact ⟨_, rfl, rfl⟩
set_option maxHeartbeats 4000000 in
theorem walk (name : ByteArray) (w : World) (w0 : name.size ≤ maxLen) : Calls Tryz.prog 4 #[.string name] w fun e w' => e = .returned (.bool true) ∧ Below w.heap.size w w' := by
  have nq5 : ∀ u : World, (binOp .eql 53 (.slice none 0 0) (.slice none 0 0)).run Tryz.prog u = .ok (.bool true) u := fun u => run_eql_nil_slice u 53 _ none 0 0 0 0 Tryz.underlying53
  go_enter Tryz.func4, Tryz.ntmps4
  go_wp2_with (first | (go_at_call 12; ((with_reducible refine (zb _ _).mono ?_); rintro e w' ⟨b, rfl, rfl⟩)) | (go_at_call 13; ((with_reducible refine (zf_first w.heap.size w.heap.size _ (ca_new w) (Nat.le_refl _) (by simp)).mono ?_); rintro e w1 ⟨td, sd, rfl, hFr, h1, hT⟩; have hF0 : Fr w.heap.size w w1 := (((Fr.refl w.heap.size w (Nat.le_refl _)).alloc _).trans hFr); have HT := Lib.hid hT; clear hT hFr)) | (go_at_call 14; ((with_reducible refine (fix top98 (exOk _ _) h1 name (natAt_new w1 _ _) (HT.out.alloc _)).mono ?_); rintro e w2 ⟨m, own', an', ch', ix', F', hFr2, _, hA⟩; have hF2 : Fr w.heap.size w w2 := (hF0.alloc _).trans hFr2; clear hFr2; (rcases hA with ⟨E, v, hE, rfl, hv⟩ | ⟨hE, rfl⟩) <;> first | (have HV := Lib.hid (And.intro hE hv); clear hE hv) | (have HE := Lib.hid hE; clear hE))) | (go_at_call 15; ((with_reducible refine (wi_yes _ _ _ HV.out.1).mono ?_); rintro e w3 ⟨v2, rfl, hFr3, hv2⟩; have hF3 : Fr w.heap.size w w3 := hF2.trans (hFr3.le hF2.grow); have HV3 := Lib.hid (And.intro (HV.out.2.carry hFr3) hv2); clear hFr3 hv2)) | (go_at_call 15; ((with_reducible refine (wi_no _ _ HE.out).mono ?_); rintro e w3 ⟨rfl, rfl⟩)) | (go_at_call 16; ((with_reducible refine (eqi HV3.out.1 HV3.out.2 (zs_le _ _ HV.out.1)).mono ?_); rintro e w4 ⟨rfl, hFr4⟩; have hF4 : Fr w.heap.size w w4 := hF3.trans (hFr4.le hF3.grow); clear hFr4)))
  all_goals
    go_ret
    first | exact ⟨rfl, Below.refl _ _⟩ | exact ⟨rfl, hF4.bel⟩ | exact ⟨rfl, hF2.bel⟩
end Go.Proofs.YtpnifkpnapoeoaaGreatDoorBesrefl.fnFieldIndexTable
