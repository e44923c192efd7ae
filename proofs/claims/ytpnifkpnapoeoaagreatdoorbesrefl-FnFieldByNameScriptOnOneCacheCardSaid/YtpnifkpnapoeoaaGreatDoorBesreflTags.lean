/-
  The tags of the struct types, read by reflect and strconv. No condition.
-/
import Derived.Test.YtpnifkpnapoeoaaGreatDoorBesreflOwn
import Derived.StillTailTactics
import Derived.Deep.RegionHeld3
import Derived.Deep.RegionLaw
import Derived.Deep.RegionLawGrows
import Derived.Deep.AppendLies
import Derived.Deep.Cut
import Derived.Deep.CutRange
import Derived.Deep.RegionWith
import Derived.Lib.Hide
import Derived.Deep.LoopGhost
import Derived.Deep.DeepCutAuto
namespace Go.Proofs.YtpnifkpnapoeoaaGreatDoorBesrefl
open Go.RowKit
set_option maxRecDepth 100000
set_option maxHeartbeats 1000000
set_option linter.unusedVariables false
@[go_sem] theorem ex_1 : ((⟨#[101, 120, 112, 114, 58, 34, 101, 101, 34]⟩ : ByteArray).extract 0 9) = ⟨#[101, 120, 112, 114, 58, 34, 101, 101, 34]⟩ := rfl
@[go_sem] theorem ex_2 : ((⟨#[101, 120, 112, 114, 58, 34, 101, 101, 34]⟩ : ByteArray).extract 0 4) = ⟨#[101, 120, 112, 114]⟩ := rfl
@[go_sem] theorem ex_3 : ((⟨#[101, 120, 112, 114, 58, 34, 101, 101, 34]⟩ : ByteArray).extract 5 9) = ⟨#[34, 101, 101, 34]⟩ := rfl
@[go_sem] theorem ex_4 : ((⟨#[34, 101, 101, 34]⟩ : ByteArray).extract 0 4) = ⟨#[34, 101, 101, 34]⟩ := rfl
@[go_sem] theorem ex_5 : ((⟨#[34, 101, 101, 34]⟩ : ByteArray).extract 4 4) = ⟨#[]⟩ := rfl
@[go_sem] theorem ex_6 : ((⟨#[34, 101, 101, 34]⟩ : ByteArray).extract 1 4) = ⟨#[101, 101, 34]⟩ := rfl
@[go_sem] theorem ex_7 : ((⟨#[34, 101, 101, 34]⟩ : ByteArray).extract 1 3) = ⟨#[101, 101]⟩ := rfl
@[go_sem] theorem gt_1 (h : 0 < (⟨#[101, 120, 112, 114, 58, 34, 101, 101, 34]⟩ : ByteArray).size) : (((⟨#[101, 120, 112, 114, 58, 34, 101, 101, 34]⟩ : ByteArray)[0]'h).toNat) = 101 := rfl
@[go_sem] theorem gt_2 (h : 1 < (⟨#[101, 120, 112, 114, 58, 34, 101, 101, 34]⟩ : ByteArray).size) : (((⟨#[101, 120, 112, 114, 58, 34, 101, 101, 34]⟩ : ByteArray)[1]'h).toNat) = 120 := rfl
@[go_sem] theorem gt_3 (h : 2 < (⟨#[101, 120, 112, 114, 58, 34, 101, 101, 34]⟩ : ByteArray).size) : (((⟨#[101, 120, 112, 114, 58, 34, 101, 101, 34]⟩ : ByteArray)[2]'h).toNat) = 112 := rfl
@[go_sem] theorem gt_4 (h : 3 < (⟨#[101, 120, 112, 114, 58, 34, 101, 101, 34]⟩ : ByteArray).size) : (((⟨#[101, 120, 112, 114, 58, 34, 101, 101, 34]⟩ : ByteArray)[3]'h).toNat) = 114 := rfl
@[go_sem] theorem gt_5 (h : 4 < (⟨#[101, 120, 112, 114, 58, 34, 101, 101, 34]⟩ : ByteArray).size) : (((⟨#[101, 120, 112, 114, 58, 34, 101, 101, 34]⟩ : ByteArray)[4]'h).toNat) = 58 := rfl
@[go_sem] theorem gt_6 (h : 5 < (⟨#[101, 120, 112, 114, 58, 34, 101, 101, 34]⟩ : ByteArray).size) : (((⟨#[101, 120, 112, 114, 58, 34, 101, 101, 34]⟩ : ByteArray)[5]'h).toNat) = 34 := rfl
@[go_sem] theorem gt_7 (h : 0 < (⟨#[34, 101, 101, 34]⟩ : ByteArray).size) : (((⟨#[34, 101, 101, 34]⟩ : ByteArray)[0]'h).toNat) = 34 := rfl
@[go_sem] theorem gt_8 (h : 1 < (⟨#[34, 101, 101, 34]⟩ : ByteArray).size) : (((⟨#[34, 101, 101, 34]⟩ : ByteArray)[1]'h).toNat) = 101 := rfl
@[go_sem] theorem gt_9 (h : 2 < (⟨#[34, 101, 101, 34]⟩ : ByteArray).size) : (((⟨#[34, 101, 101, 34]⟩ : ByteArray)[2]'h).toNat) = 101 := rfl
@[go_sem] theorem gt_10 (h : 3 < (⟨#[34, 101, 101, 34]⟩ : ByteArray).size) : (((⟨#[34, 101, 101, 34]⟩ : ByteArray)[3]'h).toNat) = 34 := rfl
@[go_sem] theorem gt_11 (h : 0 < (⟨#[101, 101]⟩ : ByteArray).size) : (((⟨#[101, 101]⟩ : ByteArray)[0]'h).toNat) = 101 := rfl
@[go_sem] theorem ex_8 : ((⟨#[101, 101]⟩ : ByteArray).extract 1 2) = ⟨#[101]⟩ := rfl
@[go_sem] theorem gt_12 (h : 0 < (⟨#[101]⟩ : ByteArray).size) : (((⟨#[101]⟩ : ByteArray)[0]'h).toNat) = 101 := rfl
@[go_sem] theorem ex_9 : ((⟨#[101]⟩ : ByteArray).extract 1 1) = ⟨#[]⟩ := rfl
@[go_sem] theorem ix_1 (w : World) : (callFunc 60 #[.string ⟨#[101, 101, 34]⟩, .int .u8 34]).run Tryz.prog w = .ok (.value (.int .i64 (2))) w := by kernel_rfl
@[go_sem] theorem ix_2 (w : World) : (callFunc 60 #[.string ⟨#[34, 101, 101, 34]⟩, .int .u8 92]).run Tryz.prog w = .ok (.value (.int .i64 (-1))) w := by kernel_rfl
@[go_sem] theorem ix_3 (w : World) : (callFunc 60 #[.string ⟨#[34, 101, 101, 34]⟩, .int .u8 10]).run Tryz.prog w = .ok (.value (.int .i64 (-1))) w := by kernel_rfl
@[go_sem] theorem ix_4 (w : World) : (callFunc 60 #[.string ⟨#[101, 101]⟩, .int .u8 92]).run Tryz.prog w = .ok (.value (.int .i64 (-1))) w := by kernel_rfl
@[go_sem] theorem ix_5 (w : World) : (callFunc 60 #[.string ⟨#[101, 101]⟩, .int .u8 10]).run Tryz.prog w = .ok (.value (.int .i64 (-1))) w := by kernel_rfl
theorem vs_ee (w : World) : Calls Tryz.prog 56 #[.string ⟨#[101, 101]⟩] w fun e w' => e = .returned (.bool true) ∧ w = w' := by
  go_enter Tryz.func56, Tryz.ntmps56
  go_wp2
  refine wp_loop_rounds 3 ?_
  rw [rounds_succ]
  go_wp2
  rw [rounds_succ]
  go_wp2
  rw [rounds_succ]
  go_wp2
  go_ret
  exact ⟨rfl, rfl⟩
theorem unq_ee (w : World) : Calls Tryz.prog 53 #[.string ⟨#[34, 101, 101, 34]⟩, .bool true] w fun e w' => e = .returned (.tuple #[.string ⟨#[101, 101]⟩, .string ⟨#[]⟩, .nilIface]) ∧ ∃ m, w' = w.drewN m := by
  go_enter Tryz.func53, Tryz.ntmps53
  go_wp2_with (first | (go_at_call 54; go_in) | (go_at_call 55; go_in) | (go_at_call 56; ((with_reducible refine (vs_ee _).mono ?_); rintro e w' ⟨rfl, rfl⟩)))
  go_quiet (fail)
  go_wp2
  go_ret3
  exact ⟨rfl, _, rfl⟩
theorem uq_ee (w : World) : Calls Tryz.prog 52 #[.string ⟨#[34, 101, 101, 34]⟩] w fun e w' => e = .returned (.tuple #[.string ⟨#[101, 101]⟩, .nilIface]) ∧ ∃ m, w' = w.drewN m := by
  go_enter Tryz.func52, Tryz.ntmps52
  go_wp2_with (go_at_call 53; ((with_reducible refine (unq_ee _).mono ?_); rintro e w' ⟨rfl, m, rfl⟩))
  go_ret2
  exact ⟨rfl, _, rfl⟩
theorem lk_ee (w : World) : Calls Tryz.prog 51 #[.string ⟨#[101, 120, 112, 114, 58, 34, 101, 101, 34]⟩, .string ⟨#[101, 120, 112, 114]⟩] w fun e w' => e = .returned (.tuple #[.string ⟨#[101, 101]⟩, .bool true]) ∧ ∃ m, w' = w.drewN m := by
  go_enter Tryz.func51, Tryz.ntmps51
  go_wp2
  refine wp_loop_rounds 1 ?_
  rw [rounds_succ]
  go_wp2
  refine wp_loop_rounds 1 ?_
  rw [rounds_succ]
  go_wp2
  refine wp_loop_rounds 5 ?_
  rw [rounds_succ]
  go_wp2
  rw [rounds_succ]
  go_wp2
  rw [rounds_succ]
  go_wp2
  rw [rounds_succ]
  go_wp2
  rw [rounds_succ]
  go_wp2
  refine wp_loop_rounds 3 ?_
  rw [rounds_succ]
  go_wp2
  rw [rounds_succ]
  go_wp2
  rw [rounds_succ]
  go_wp2_with (go_at_call 52; ((with_reducible refine (uq_ee _).mono ?_); rintro e w' ⟨rfl, m, rfl⟩))
  go_ret2
  exact ⟨rfl, _, rfl⟩
theorem fn_ee (name : ByteArray) (w : World) : Calls Tryz.prog 45 #[.string name, .string ⟨#[101, 120, 112, 114, 58, 34, 101, 101, 34]⟩] w fun e w' => e = .returned (.tuple #[.string ⟨#[101, 101]⟩, .bool true]) ∧ ∃ m, w' = w.drewN m := by
  go_enter Tryz.func45, Tryz.ntmps45
  go_wp2_with (first | (go_at_call 49; go_in) | (go_at_call 51; ((with_reducible refine (lk_ee _).mono ?_); rintro e w' ⟨rfl, m, rfl⟩)))
  go_ret2
  exact ⟨rfl, _, rfl⟩
@[go_sem] theorem ex_10 : ((⟨#[101, 120, 112, 114, 58, 34, 45, 34]⟩ : ByteArray).extract 0 8) = ⟨#[101, 120, 112, 114, 58, 34, 45, 34]⟩ := rfl
@[go_sem] theorem ex_11 : ((⟨#[101, 120, 112, 114, 58, 34, 45, 34]⟩ : ByteArray).extract 0 4) = ⟨#[101, 120, 112, 114]⟩ := rfl
@[go_sem] theorem ex_12 : ((⟨#[101, 120, 112, 114, 58, 34, 45, 34]⟩ : ByteArray).extract 5 8) = ⟨#[34, 45, 34]⟩ := rfl
@[go_sem] theorem ex_13 : ((⟨#[34, 45, 34]⟩ : ByteArray).extract 0 3) = ⟨#[34, 45, 34]⟩ := rfl
@[go_sem] theorem ex_14 : ((⟨#[34, 45, 34]⟩ : ByteArray).extract 3 3) = ⟨#[]⟩ := rfl
@[go_sem] theorem ex_15 : ((⟨#[34, 45, 34]⟩ : ByteArray).extract 1 3) = ⟨#[45, 34]⟩ := rfl
@[go_sem] theorem ex_16 : ((⟨#[34, 45, 34]⟩ : ByteArray).extract 1 2) = ⟨#[45]⟩ := rfl
@[go_sem] theorem gt_13 (h : 0 < (⟨#[101, 120, 112, 114, 58, 34, 45, 34]⟩ : ByteArray).size) : (((⟨#[101, 120, 112, 114, 58, 34, 45, 34]⟩ : ByteArray)[0]'h).toNat) = 101 := rfl
@[go_sem] theorem gt_14 (h : 1 < (⟨#[101, 120, 112, 114, 58, 34, 45, 34]⟩ : ByteArray).size) : (((⟨#[101, 120, 112, 114, 58, 34, 45, 34]⟩ : ByteArray)[1]'h).toNat) = 120 := rfl
@[go_sem] theorem gt_15 (h : 2 < (⟨#[101, 120, 112, 114, 58, 34, 45, 34]⟩ : ByteArray).size) : (((⟨#[101, 120, 112, 114, 58, 34, 45, 34]⟩ : ByteArray)[2]'h).toNat) = 112 := rfl
@[go_sem] theorem gt_16 (h : 3 < (⟨#[101, 120, 112, 114, 58, 34, 45, 34]⟩ : ByteArray).size) : (((⟨#[101, 120, 112, 114, 58, 34, 45, 34]⟩ : ByteArray)[3]'h).toNat) = 114 := rfl
@[go_sem] theorem gt_17 (h : 4 < (⟨#[101, 120, 112, 114, 58, 34, 45, 34]⟩ : ByteArray).size) : (((⟨#[101, 120, 112, 114, 58, 34, 45, 34]⟩ : ByteArray)[4]'h).toNat) = 58 := rfl
@[go_sem] theorem gt_18 (h : 5 < (⟨#[101, 120, 112, 114, 58, 34, 45, 34]⟩ : ByteArray).size) : (((⟨#[101, 120, 112, 114, 58, 34, 45, 34]⟩ : ByteArray)[5]'h).toNat) = 34 := rfl
@[go_sem] theorem gt_19 (h : 0 < (⟨#[34, 45, 34]⟩ : ByteArray).size) : (((⟨#[34, 45, 34]⟩ : ByteArray)[0]'h).toNat) = 34 := rfl
@[go_sem] theorem gt_20 (h : 1 < (⟨#[34, 45, 34]⟩ : ByteArray).size) : (((⟨#[34, 45, 34]⟩ : ByteArray)[1]'h).toNat) = 45 := rfl
@[go_sem] theorem gt_21 (h : 2 < (⟨#[34, 45, 34]⟩ : ByteArray).size) : (((⟨#[34, 45, 34]⟩ : ByteArray)[2]'h).toNat) = 34 := rfl
@[go_sem] theorem gt_22 (h : 0 < (⟨#[45]⟩ : ByteArray).size) : (((⟨#[45]⟩ : ByteArray)[0]'h).toNat) = 45 := rfl
@[go_sem] theorem ex_17 : ((⟨#[45]⟩ : ByteArray).extract 1 1) = ⟨#[]⟩ := rfl
@[go_sem] theorem ix_6 (w : World) : (callFunc 60 #[.string ⟨#[45, 34]⟩, .int .u8 34]).run Tryz.prog w = .ok (.value (.int .i64 (1))) w := by kernel_rfl
@[go_sem] theorem ix_7 (w : World) : (callFunc 60 #[.string ⟨#[34, 45, 34]⟩, .int .u8 92]).run Tryz.prog w = .ok (.value (.int .i64 (-1))) w := by kernel_rfl
@[go_sem] theorem ix_8 (w : World) : (callFunc 60 #[.string ⟨#[34, 45, 34]⟩, .int .u8 10]).run Tryz.prog w = .ok (.value (.int .i64 (-1))) w := by kernel_rfl
@[go_sem] theorem ix_9 (w : World) : (callFunc 60 #[.string ⟨#[45]⟩, .int .u8 92]).run Tryz.prog w = .ok (.value (.int .i64 (-1))) w := by kernel_rfl
@[go_sem] theorem ix_10 (w : World) : (callFunc 60 #[.string ⟨#[45]⟩, .int .u8 10]).run Tryz.prog w = .ok (.value (.int .i64 (-1))) w := by kernel_rfl
theorem vs_m (w : World) : Calls Tryz.prog 56 #[.string ⟨#[45]⟩] w fun e w' => e = .returned (.bool true) ∧ w = w' := by
  go_enter Tryz.func56, Tryz.ntmps56
  go_wp2
  refine wp_loop_rounds 2 ?_
  rw [rounds_succ]
  go_wp2
  rw [rounds_succ]
  go_wp2
  go_ret
  exact ⟨rfl, rfl⟩
theorem unq_m (w : World) : Calls Tryz.prog 53 #[.string ⟨#[34, 45, 34]⟩, .bool true] w fun e w' => e = .returned (.tuple #[.string ⟨#[45]⟩, .string ⟨#[]⟩, .nilIface]) ∧ ∃ m, w' = w.drewN m := by
  go_enter Tryz.func53, Tryz.ntmps53
  go_wp2_with (first | (go_at_call 54; go_in) | (go_at_call 55; go_in) | (go_at_call 56; ((with_reducible refine (vs_m _).mono ?_); rintro e w' ⟨rfl, rfl⟩)))
  go_quiet (fail)
  go_wp2
  go_ret3
  exact ⟨rfl, _, rfl⟩
theorem uq_m (w : World) : Calls Tryz.prog 52 #[.string ⟨#[34, 45, 34]⟩] w fun e w' => e = .returned (.tuple #[.string ⟨#[45]⟩, .nilIface]) ∧ ∃ m, w' = w.drewN m := by
  go_enter Tryz.func52, Tryz.ntmps52
  go_wp2_with (go_at_call 53; ((with_reducible refine (unq_m _).mono ?_); rintro e w' ⟨rfl, m, rfl⟩))
  go_ret2
  exact ⟨rfl, _, rfl⟩
theorem lk_m (w : World) : Calls Tryz.prog 51 #[.string ⟨#[101, 120, 112, 114, 58, 34, 45, 34]⟩, .string ⟨#[101, 120, 112, 114]⟩] w fun e w' => e = .returned (.tuple #[.string ⟨#[45]⟩, .bool true]) ∧ ∃ m, w' = w.drewN m := by
  go_enter Tryz.func51, Tryz.ntmps51
  go_wp2
  refine wp_loop_rounds 1 ?_
  rw [rounds_succ]
  go_wp2
  refine wp_loop_rounds 1 ?_
  rw [rounds_succ]
  go_wp2
  refine wp_loop_rounds 5 ?_
  rw [rounds_succ]
  go_wp2
  rw [rounds_succ]
  go_wp2
  rw [rounds_succ]
  go_wp2
  rw [rounds_succ]
  go_wp2
  rw [rounds_succ]
  go_wp2
  refine wp_loop_rounds 2 ?_
  rw [rounds_succ]
  go_wp2
  rw [rounds_succ]
  go_wp2_with (go_at_call 52; ((with_reducible refine (uq_m _).mono ?_); rintro e w' ⟨rfl, m, rfl⟩))
  go_ret2
  exact ⟨rfl, _, rfl⟩
theorem fn_m (name : ByteArray) (w : World) : Calls Tryz.prog 45 #[.string name, .string ⟨#[101, 120, 112, 114, 58, 34, 45, 34]⟩] w fun e w' => e = .returned (.tuple #[.string ⟨#[]⟩, .bool false]) ∧ ∃ m, w' = w.drewN m := by
  go_enter Tryz.func45, Tryz.ntmps45
  go_wp2_with (first | (go_at_call 49; go_in) | (go_at_call 51; ((with_reducible refine (lk_m _).mono ?_); rintro e w' ⟨rfl, m, rfl⟩)))
  go_ret2
  exact ⟨rfl, _, rfl⟩
@[go_sem] theorem ex_18 : ((⟨#[101, 120, 112, 114, 58, 34, 98, 101, 101, 34]⟩ : ByteArray).extract 0 10) = ⟨#[101, 120, 112, 114, 58, 34, 98, 101, 101, 34]⟩ := rfl
@[go_sem] theorem ex_19 : ((⟨#[101, 120, 112, 114, 58, 34, 98, 101, 101, 34]⟩ : ByteArray).extract 0 4) = ⟨#[101, 120, 112, 114]⟩ := rfl
@[go_sem] theorem ex_20 : ((⟨#[101, 120, 112, 114, 58, 34, 98, 101, 101, 34]⟩ : ByteArray).extract 5 10) = ⟨#[34, 98, 101, 101, 34]⟩ := rfl
@[go_sem] theorem ex_21 : ((⟨#[34, 98, 101, 101, 34]⟩ : ByteArray).extract 0 5) = ⟨#[34, 98, 101, 101, 34]⟩ := rfl
@[go_sem] theorem ex_22 : ((⟨#[34, 98, 101, 101, 34]⟩ : ByteArray).extract 5 5) = ⟨#[]⟩ := rfl
@[go_sem] theorem ex_23 : ((⟨#[34, 98, 101, 101, 34]⟩ : ByteArray).extract 1 5) = ⟨#[98, 101, 101, 34]⟩ := rfl
@[go_sem] theorem ex_24 : ((⟨#[34, 98, 101, 101, 34]⟩ : ByteArray).extract 1 4) = ⟨#[98, 101, 101]⟩ := rfl
@[go_sem] theorem gt_23 (h : 0 < (⟨#[101, 120, 112, 114, 58, 34, 98, 101, 101, 34]⟩ : ByteArray).size) : (((⟨#[101, 120, 112, 114, 58, 34, 98, 101, 101, 34]⟩ : ByteArray)[0]'h).toNat) = 101 := rfl
@[go_sem] theorem gt_24 (h : 1 < (⟨#[101, 120, 112, 114, 58, 34, 98, 101, 101, 34]⟩ : ByteArray).size) : (((⟨#[101, 120, 112, 114, 58, 34, 98, 101, 101, 34]⟩ : ByteArray)[1]'h).toNat) = 120 := rfl
@[go_sem] theorem gt_25 (h : 2 < (⟨#[101, 120, 112, 114, 58, 34, 98, 101, 101, 34]⟩ : ByteArray).size) : (((⟨#[101, 120, 112, 114, 58, 34, 98, 101, 101, 34]⟩ : ByteArray)[2]'h).toNat) = 112 := rfl
@[go_sem] theorem gt_26 (h : 3 < (⟨#[101, 120, 112, 114, 58, 34, 98, 101, 101, 34]⟩ : ByteArray).size) : (((⟨#[101, 120, 112, 114, 58, 34, 98, 101, 101, 34]⟩ : ByteArray)[3]'h).toNat) = 114 := rfl
@[go_sem] theorem gt_27 (h : 4 < (⟨#[101, 120, 112, 114, 58, 34, 98, 101, 101, 34]⟩ : ByteArray).size) : (((⟨#[101, 120, 112, 114, 58, 34, 98, 101, 101, 34]⟩ : ByteArray)[4]'h).toNat) = 58 := rfl
@[go_sem] theorem gt_28 (h : 5 < (⟨#[101, 120, 112, 114, 58, 34, 98, 101, 101, 34]⟩ : ByteArray).size) : (((⟨#[101, 120, 112, 114, 58, 34, 98, 101, 101, 34]⟩ : ByteArray)[5]'h).toNat) = 34 := rfl
@[go_sem] theorem gt_29 (h : 0 < (⟨#[34, 98, 101, 101, 34]⟩ : ByteArray).size) : (((⟨#[34, 98, 101, 101, 34]⟩ : ByteArray)[0]'h).toNat) = 34 := rfl
@[go_sem] theorem gt_30 (h : 1 < (⟨#[34, 98, 101, 101, 34]⟩ : ByteArray).size) : (((⟨#[34, 98, 101, 101, 34]⟩ : ByteArray)[1]'h).toNat) = 98 := rfl
@[go_sem] theorem gt_31 (h : 2 < (⟨#[34, 98, 101, 101, 34]⟩ : ByteArray).size) : (((⟨#[34, 98, 101, 101, 34]⟩ : ByteArray)[2]'h).toNat) = 101 := rfl
@[go_sem] theorem gt_32 (h : 3 < (⟨#[34, 98, 101, 101, 34]⟩ : ByteArray).size) : (((⟨#[34, 98, 101, 101, 34]⟩ : ByteArray)[3]'h).toNat) = 101 := rfl
@[go_sem] theorem gt_33 (h : 4 < (⟨#[34, 98, 101, 101, 34]⟩ : ByteArray).size) : (((⟨#[34, 98, 101, 101, 34]⟩ : ByteArray)[4]'h).toNat) = 34 := rfl
@[go_sem] theorem gt_34 (h : 0 < (⟨#[98, 101, 101]⟩ : ByteArray).size) : (((⟨#[98, 101, 101]⟩ : ByteArray)[0]'h).toNat) = 98 := rfl
@[go_sem] theorem ex_25 : ((⟨#[98, 101, 101]⟩ : ByteArray).extract 1 3) = ⟨#[101, 101]⟩ := rfl
@[go_sem] theorem ix_11 (w : World) : (callFunc 60 #[.string ⟨#[98, 101, 101, 34]⟩, .int .u8 34]).run Tryz.prog w = .ok (.value (.int .i64 (3))) w := by kernel_rfl
@[go_sem] theorem ix_12 (w : World) : (callFunc 60 #[.string ⟨#[34, 98, 101, 101, 34]⟩, .int .u8 92]).run Tryz.prog w = .ok (.value (.int .i64 (-1))) w := by kernel_rfl
@[go_sem] theorem ix_13 (w : World) : (callFunc 60 #[.string ⟨#[34, 98, 101, 101, 34]⟩, .int .u8 10]).run Tryz.prog w = .ok (.value (.int .i64 (-1))) w := by kernel_rfl
@[go_sem] theorem ix_14 (w : World) : (callFunc 60 #[.string ⟨#[98, 101, 101]⟩, .int .u8 92]).run Tryz.prog w = .ok (.value (.int .i64 (-1))) w := by kernel_rfl
@[go_sem] theorem ix_15 (w : World) : (callFunc 60 #[.string ⟨#[98, 101, 101]⟩, .int .u8 10]).run Tryz.prog w = .ok (.value (.int .i64 (-1))) w := by kernel_rfl
theorem vs_bee (w : World) : Calls Tryz.prog 56 #[.string ⟨#[98, 101, 101]⟩] w fun e w' => e = .returned (.bool true) ∧ w = w' := by
  go_enter Tryz.func56, Tryz.ntmps56
  go_wp2
  refine wp_loop_rounds 4 ?_
  rw [rounds_succ]
  go_wp2
  rw [rounds_succ]
  go_wp2
  rw [rounds_succ]
  go_wp2
  rw [rounds_succ]
  go_wp2
  go_ret
  exact ⟨rfl, rfl⟩
theorem unq_bee (w : World) : Calls Tryz.prog 53 #[.string ⟨#[34, 98, 101, 101, 34]⟩, .bool true] w fun e w' => e = .returned (.tuple #[.string ⟨#[98, 101, 101]⟩, .string ⟨#[]⟩, .nilIface]) ∧ ∃ m, w' = w.drewN m := by
  go_enter Tryz.func53, Tryz.ntmps53
  go_wp2_with (first | (go_at_call 54; go_in) | (go_at_call 55; go_in) | (go_at_call 56; ((with_reducible refine (vs_bee _).mono ?_); rintro e w' ⟨rfl, rfl⟩)))
  go_quiet (fail)
  go_wp2
  go_ret3
  exact ⟨rfl, _, rfl⟩
theorem uq_bee (w : World) : Calls Tryz.prog 52 #[.string ⟨#[34, 98, 101, 101, 34]⟩] w fun e w' => e = .returned (.tuple #[.string ⟨#[98, 101, 101]⟩, .nilIface]) ∧ ∃ m, w' = w.drewN m := by
  go_enter Tryz.func52, Tryz.ntmps52
  go_wp2_with (go_at_call 53; ((with_reducible refine (unq_bee _).mono ?_); rintro e w' ⟨rfl, m, rfl⟩))
  go_ret2
  exact ⟨rfl, _, rfl⟩
theorem lk_bee (w : World) : Calls Tryz.prog 51 #[.string ⟨#[101, 120, 112, 114, 58, 34, 98, 101, 101, 34]⟩, .string ⟨#[101, 120, 112, 114]⟩] w fun e w' => e = .returned (.tuple #[.string ⟨#[98, 101, 101]⟩, .bool true]) ∧ ∃ m, w' = w.drewN m := by
  go_enter Tryz.func51, Tryz.ntmps51
  go_wp2
  refine wp_loop_rounds 1 ?_
  rw [rounds_succ]
  go_wp2
  refine wp_loop_rounds 1 ?_
  rw [rounds_succ]
  go_wp2
  refine wp_loop_rounds 5 ?_
  rw [rounds_succ]
  go_wp2
  rw [rounds_succ]
  go_wp2
  rw [rounds_succ]
  go_wp2
  rw [rounds_succ]
  go_wp2
  rw [rounds_succ]
  go_wp2
  refine wp_loop_rounds 4 ?_
  rw [rounds_succ]
  go_wp2
  rw [rounds_succ]
  go_wp2
  rw [rounds_succ]
  go_wp2
  rw [rounds_succ]
  go_wp2_with (go_at_call 52; ((with_reducible refine (uq_bee _).mono ?_); rintro e w' ⟨rfl, m, rfl⟩))
  go_ret2
  exact ⟨rfl, _, rfl⟩
theorem fn_bee (name : ByteArray) (w : World) : Calls Tryz.prog 45 #[.string name, .string ⟨#[101, 120, 112, 114, 58, 34, 98, 101, 101, 34]⟩] w fun e w' => e = .returned (.tuple #[.string ⟨#[98, 101, 101]⟩, .bool true]) ∧ ∃ m, w' = w.drewN m := by
  go_enter Tryz.func45, Tryz.ntmps45
  go_wp2_with (first | (go_at_call 49; go_in) | (go_at_call 51; ((with_reducible refine (lk_bee _).mono ?_); rintro e w' ⟨rfl, m, rfl⟩)))
  go_ret2
  exact ⟨rfl, _, rfl⟩
end Go.Proofs.YtpnifkpnapoeoaaGreatDoorBesrefl
