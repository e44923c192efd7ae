/-
  The tags of the struct types, read by reflect and strconv. No condition.
-/
import Derived.Test.YtdpgbmmgeooahaaGreatDoorBesreflOwn
import Derived.StillTailTactics
import Derived.Deep.RegionHeld3
import Derived.Deep.RegionLaw
import Derived.Deep.RegionLawGrows
import Derived.Deep.AppendLies
import Derived.Deep.Cut
import Derived.Deep.CutRange
import Derived.Deep.RegionWith
import Derived.Lib.Hide
import Derived.Deep.LoopGhost
import Derived.Deep.DeepCutAuto
namespace Go.Proofs.YtdpgbmmgeooahaaGreatDoorBesrefl
open Go.RowKit
set_option maxRecDepth 100000
set_option maxHeartbeats 1000000
set_option linter.unusedVariables false
@[go_sem] theorem ex_1 : ((⟨#[101, 120, 112, 114, 58, 34, 116, 101, 101, 34]⟩ : ByteArray).extract 0 10) = ⟨#[101, 120, 112, 114, 58, 34, 116, 101, 101, 34]⟩ := rfl
@[go_sem] theorem ex_2 : ((⟨#[101, 120, 112, 114, 58, 34, 116, 101, 101, 34]⟩ : ByteArray).extract 0 4) = ⟨#[101, 120, 112, 114]⟩ := rfl
@[go_sem] theorem ex_3 : ((⟨#[101, 120, 112, 114, 58, 34, 116, 101, 101, 34]⟩ : ByteArray).extract 5 10) = ⟨#[34, 116, 101, 101, 34]⟩ := rfl
@[go_sem] theorem ex_4 : ((⟨#[34, 116, 101, 101, 34]⟩ : ByteArray).extract 0 5) = ⟨#[34, 116, 101, 101, 34]⟩ := rfl
@[go_sem] theorem ex_5 : ((⟨#[34, 116, 101, 101, 34]⟩ : ByteArray).extract 5 5) = ⟨#[]⟩ := rfl
@[go_sem] theorem ex_6 : ((⟨#[34, 116, 101, 101, 34]⟩ : ByteArray).extract 1 5) = ⟨#[116, 101, 101, 34]⟩ := rfl
@[go_sem] theorem ex_7 : ((⟨#[34, 116, 101, 101, 34]⟩ : ByteArray).extract 1 4) = ⟨#[116, 101, 101]⟩ := rfl
@[go_sem] theorem gt_1 (h : 0 < (⟨#[101, 120, 112, 114, 58, 34, 116, 101, 101, 34]⟩ : ByteArray).size) : (((⟨#[101, 120, 112, 114, 58, 34, 116, 101, 101, 34]⟩ : ByteArray)[0]'h).toNat) = 101 := rfl
@[go_sem] theorem gt_2 (h : 1 < (⟨#[101, 120, 112, 114, 58, 34, 116, 101, 101, 34]⟩ : ByteArray).size) : (((⟨#[101, 120, 112, 114, 58, 34, 116, 101, 101, 34]⟩ : ByteArray)[1]'h).toNat) = 120 := rfl
@[go_sem] theorem gt_3 (h : 2 < (⟨#[101, 120, 112, 114, 58, 34, 116, 101, 101, 34]⟩ : ByteArray).size) : (((⟨#[101, 120, 112, 114, 58, 34, 116, 101, 101, 34]⟩ : ByteArray)[2]'h).toNat) = 112 := rfl
@[go_sem] theorem gt_4 (h : 3 < (⟨#[101, 120, 112, 114, 58, 34, 116, 101, 101, 34]⟩ : ByteArray).size) : (((⟨#[101, 120, 112, 114, 58, 34, 116, 101, 101, 34]⟩ : ByteArray)[3]'h).toNat) = 114 := rfl
@[go_sem] theorem gt_5 (h : 4 < (⟨#[101, 120, 112, 114, 58, 34, 116, 101, 101, 34]⟩ : ByteArray).size) : (((⟨#[101, 120, 112, 114, 58, 34, 116, 101, 101, 34]⟩ : ByteArray)[4]'h).toNat) = 58 := rfl
@[go_sem] theorem gt_6 (h : 5 < (⟨#[101, 120, 112, 114, 58, 34, 116, 101, 101, 34]⟩ : ByteArray).size) : (((⟨#[101, 120, 112, 114, 58, 34, 116, 101, 101, 34]⟩ : ByteArray)[5]'h).toNat) = 34 := rfl
@[go_sem] theorem gt_7 (h : 0 < (⟨#[34, 116, 101, 101, 34]⟩ : ByteArray).size) : (((⟨#[34, 116, 101, 101, 34]⟩ : ByteArray)[0]'h).toNat) = 34 := rfl
@[go_sem] theorem gt_8 (h : 1 < (⟨#[34, 116, 101, 101, 34]⟩ : ByteArray).size) : (((⟨#[34, 116, 101, 101, 34]⟩ : ByteArray)[1]'h).toNat) = 116 := rfl
@[go_sem] theorem gt_9 (h : 2 < (⟨#[34, 116, 101, 101, 34]⟩ : ByteArray).size) : (((⟨#[34, 116, 101, 101, 34]⟩ : ByteArray)[2]'h).toNat) = 101 := rfl
@[go_sem] theorem gt_10 (h : 3 < (⟨#[34, 116, 101, 101, 34]⟩ : ByteArray).size) : (((⟨#[34, 116, 101, 101, 34]⟩ : ByteArray)[3]'h).toNat) = 101 := rfl
@[go_sem] theorem gt_11 (h : 4 < (⟨#[34, 116, 101, 101, 34]⟩ : ByteArray).size) : (((⟨#[34, 116, 101, 101, 34]⟩ : ByteArray)[4]'h).toNat) = 34 := rfl
@[go_sem] theorem gt_12 (h : 0 < (⟨#[116, 101, 101]⟩ : ByteArray).size) : (((⟨#[116, 101, 101]⟩ : ByteArray)[0]'h).toNat) = 116 := rfl
@[go_sem] theorem ex_8 : ((⟨#[116, 101, 101]⟩ : ByteArray).extract 1 3) = ⟨#[101, 101]⟩ := rfl
@[go_sem] theorem gt_13 (h : 0 < (⟨#[101, 101]⟩ : ByteArray).size) : (((⟨#[101, 101]⟩ : ByteArray)[0]'h).toNat) = 101 := rfl
@[go_sem] theorem ex_9 : ((⟨#[101, 101]⟩ : ByteArray).extract 1 2) = ⟨#[101]⟩ := rfl
@[go_sem] theorem gt_14 (h : 0 < (⟨#[101]⟩ : ByteArray).size) : (((⟨#[101]⟩ : ByteArray)[0]'h).toNat) = 101 := rfl
@[go_sem] theorem ex_10 : ((⟨#[101]⟩ : ByteArray).extract 1 1) = ⟨#[]⟩ := rfl
@[go_sem] theorem ix_1 (w : World) : (callFunc 65 #[.string ⟨#[116, 101, 101, 34]⟩, .int .u8 34]).run Tryz.prog w = .ok (.value (.int .i64 (3))) w := by kernel_rfl
@[go_sem] theorem ix_2 (w : World) : (callFunc 65 #[.string ⟨#[34, 116, 101, 101, 34]⟩, .int .u8 92]).run Tryz.prog w = .ok (.value (.int .i64 (-1))) w := by kernel_rfl
@[go_sem] theorem ix_3 (w : World) : (callFunc 65 #[.string ⟨#[34, 116, 101, 101, 34]⟩, .int .u8 10]).run Tryz.prog w = .ok (.value (.int .i64 (-1))) w := by kernel_rfl
@[go_sem] theorem ix_4 (w : World) : (callFunc 65 #[.string ⟨#[116, 101, 101]⟩, .int .u8 92]).run Tryz.prog w = .ok (.value (.int .i64 (-1))) w := by kernel_rfl
@[go_sem] theorem ix_5 (w : World) : (callFunc 65 #[.string ⟨#[116, 101, 101]⟩, .int .u8 10]).run Tryz.prog w = .ok (.value (.int .i64 (-1))) w := by kernel_rfl
theorem vs_tee (w : World) : Calls Tryz.prog 61 #[.string ⟨#[116, 101, 101]⟩] w fun e w' => e = .returned (.bool true) ∧ w = w' := by
  go_enter Tryz.func61, Tryz.ntmps61
  go_wp2
  refine wp_loop_rounds 4 ?_
  rw [rounds_succ]
  go_wp2
  rw [rounds_succ]
  go_wp2
  rw [rounds_succ]
  go_wp2
  rw [rounds_succ]
  go_wp2
  go_ret
  exact ⟨rfl, rfl⟩
theorem unq_tee (w : World) : Calls Tryz.prog 58 #[.string ⟨#[34, 116, 101, 101, 34]⟩, .bool true] w fun e w' => e = .returned (.tuple #[.string ⟨#[116, 101, 101]⟩, .string ⟨#[]⟩, .nilIface]) ∧ ∃ m, w' = w.drewN m := by
  go_enter Tryz.func58, Tryz.ntmps58
  go_wp2_with (first | (go_at_call 59; go_in) | (go_at_call 60; go_in) | (go_at_call 61; ((with_reducible refine (vs_tee _).mono ?_); rintro e w' ⟨rfl, rfl⟩)))
  go_quiet (fail)
  go_wp2
  go_ret3
  exact ⟨rfl, _, rfl⟩
theorem uq_tee (w : World) : Calls Tryz.prog 57 #[.string ⟨#[34, 116, 101, 101, 34]⟩] w fun e w' => e = .returned (.tuple #[.string ⟨#[116, 101, 101]⟩, .nilIface]) ∧ ∃ m, w' = w.drewN m := by
  go_enter Tryz.func57, Tryz.ntmps57
  go_wp2_with (go_at_call 58; ((with_reducible refine (unq_tee _).mono ?_); rintro e w' ⟨rfl, m, rfl⟩))
  go_ret2
  exact ⟨rfl, _, rfl⟩
theorem lk_tee (w : World) : Calls Tryz.prog 56 #[.string ⟨#[101, 120, 112, 114, 58, 34, 116, 101, 101, 34]⟩, .string ⟨#[101, 120, 112, 114]⟩] w fun e w' => e = .returned (.tuple #[.string ⟨#[116, 101, 101]⟩, .bool true]) ∧ ∃ m, w' = w.drewN m := by
  go_enter Tryz.func56, Tryz.ntmps56
  go_wp2
  refine wp_loop_rounds 1 ?_
  rw [rounds_succ]
  go_wp2
  refine wp_loop_rounds 1 ?_
  rw [rounds_succ]
  go_wp2
  refine wp_loop_rounds 5 ?_
  rw [rounds_succ]
  go_wp2
  rw [rounds_succ]
  go_wp2
  rw [rounds_succ]
  go_wp2
  rw [rounds_succ]
  go_wp2
  rw [rounds_succ]
  go_wp2
  refine wp_loop_rounds 4 ?_
  rw [rounds_succ]
  go_wp2
  rw [rounds_succ]
  go_wp2
  rw [rounds_succ]
  go_wp2
  rw [rounds_succ]
  go_wp2_with (go_at_call 57; ((with_reducible refine (uq_tee _).mono ?_); rintro e w' ⟨rfl, m, rfl⟩))
  go_ret2
  exact ⟨rfl, _, rfl⟩
theorem fn_tee (name : ByteArray) (w : World) : Calls Tryz.prog 52 #[.string name, .string ⟨#[101, 120, 112, 114, 58, 34, 116, 101, 101, 34]⟩] w fun e w' => e = .returned (.tuple #[.string ⟨#[116, 101, 101]⟩, .bool true]) ∧ ∃ m, w' = w.drewN m := by
  go_enter Tryz.func52, Tryz.ntmps52
  go_wp2_with (first | (go_at_call 55; go_in) | (go_at_call 56; ((with_reducible refine (lk_tee _).mono ?_); rintro e w' ⟨rfl, m, rfl⟩)))
  go_ret2
  exact ⟨rfl, _, rfl⟩
@[go_sem] theorem ex_11 : ((⟨#[101, 120, 112, 114, 58, 34, 45, 34]⟩ : ByteArray).extract 0 8) = ⟨#[101, 120, 112, 114, 58, 34, 45, 34]⟩ := rfl
@[go_sem] theorem ex_12 : ((⟨#[101, 120, 112, 114, 58, 34, 45, 34]⟩ : ByteArray).extract 0 4) = ⟨#[101, 120, 112, 114]⟩ := rfl
@[go_sem] theorem ex_13 : ((⟨#[101, 120, 112, 114, 58, 34, 45, 34]⟩ : ByteArray).extract 5 8) = ⟨#[34, 45, 34]⟩ := rfl
@[go_sem] theorem ex_14 : ((⟨#[34, 45, 34]⟩ : ByteArray).extract 0 3) = ⟨#[34, 45, 34]⟩ := rfl
@[go_sem] theorem ex_15 : ((⟨#[34, 45, 34]⟩ : ByteArray).extract 3 3) = ⟨#[]⟩ := rfl
@[go_sem] theorem ex_16 : ((⟨#[34, 45, 34]⟩ : ByteArray).extract 1 3) = ⟨#[45, 34]⟩ := rfl
@[go_sem] theorem ex_17 : ((⟨#[34, 45, 34]⟩ : ByteArray).extract 1 2) = ⟨#[45]⟩ := rfl
@[go_sem] theorem gt_15 (h : 0 < (⟨#[101, 120, 112, 114, 58, 34, 45, 34]⟩ : ByteArray).size) : (((⟨#[101, 120, 112, 114, 58, 34, 45, 34]⟩ : ByteArray)[0]'h).toNat) = 101 := rfl
@[go_sem] theorem gt_16 (h : 1 < (⟨#[101, 120, 112, 114, 58, 34, 45, 34]⟩ : ByteArray).size) : (((⟨#[101, 120, 112, 114, 58, 34, 45, 34]⟩ : ByteArray)[1]'h).toNat) = 120 := rfl
@[go_sem] theorem gt_17 (h : 2 < (⟨#[101, 120, 112, 114, 58, 34, 45, 34]⟩ : ByteArray).size) : (((⟨#[101, 120, 112, 114, 58, 34, 45, 34]⟩ : ByteArray)[2]'h).toNat) = 112 := rfl
@[go_sem] theorem gt_18 (h : 3 < (⟨#[101, 120, 112, 114, 58, 34, 45, 34]⟩ : ByteArray).size) : (((⟨#[101, 120, 112, 114, 58, 34, 45, 34]⟩ : ByteArray)[3]'h).toNat) = 114 := rfl
@[go_sem] theorem gt_19 (h : 4 < (⟨#[101, 120, 112, 114, 58, 34, 45, 34]⟩ : ByteArray).size) : (((⟨#[101, 120, 112, 114, 58, 34, 45, 34]⟩ : ByteArray)[4]'h).toNat) = 58 := rfl
@[go_sem] theorem gt_20 (h : 5 < (⟨#[101, 120, 112, 114, 58, 34, 45, 34]⟩ : ByteArray).size) : (((⟨#[101, 120, 112, 114, 58, 34, 45, 34]⟩ : ByteArray)[5]'h).toNat) = 34 := rfl
@[go_sem] theorem gt_21 (h : 0 < (⟨#[34, 45, 34]⟩ : ByteArray).size) : (((⟨#[34, 45, 34]⟩ : ByteArray)[0]'h).toNat) = 34 := rfl
@[go_sem] theorem gt_22 (h : 1 < (⟨#[34, 45, 34]⟩ : ByteArray).size) : (((⟨#[34, 45, 34]⟩ : ByteArray)[1]'h).toNat) = 45 := rfl
@[go_sem] theorem gt_23 (h : 2 < (⟨#[34, 45, 34]⟩ : ByteArray).size) : (((⟨#[34, 45, 34]⟩ : ByteArray)[2]'h).toNat) = 34 := rfl
@[go_sem] theorem gt_24 (h : 0 < (⟨#[45]⟩ : ByteArray).size) : (((⟨#[45]⟩ : ByteArray)[0]'h).toNat) = 45 := rfl
@[go_sem] theorem ex_18 : ((⟨#[45]⟩ : ByteArray).extract 1 1) = ⟨#[]⟩ := rfl
@[go_sem] theorem ix_6 (w : World) : (callFunc 65 #[.string ⟨#[45, 34]⟩, .int .u8 34]).run Tryz.prog w = .ok (.value (.int .i64 (1))) w := by kernel_rfl
@[go_sem] theorem ix_7 (w : World) : (callFunc 65 #[.string ⟨#[34, 45, 34]⟩, .int .u8 92]).run Tryz.prog w = .ok (.value (.int .i64 (-1))) w := by kernel_rfl
@[go_sem] theorem ix_8 (w : World) : (callFunc 65 #[.string ⟨#[34, 45, 34]⟩, .int .u8 10]).run Tryz.prog w = .ok (.value (.int .i64 (-1))) w := by kernel_rfl
@[go_sem] theorem ix_9 (w : World) : (callFunc 65 #[.string ⟨#[45]⟩, .int .u8 92]).run Tryz.prog w = .ok (.value (.int .i64 (-1))) w := by kernel_rfl
@[go_sem] theorem ix_10 (w : World) : (callFunc 65 #[.string ⟨#[45]⟩, .int .u8 10]).run Tryz.prog w = .ok (.value (.int .i64 (-1))) w := by kernel_rfl
theorem vs_m (w : World) : Calls Tryz.prog 61 #[.string ⟨#[45]⟩] w fun e w' => e = .returned (.bool true) ∧ w = w' := by
  go_enter Tryz.func61, Tryz.ntmps61
  go_wp2
  refine wp_loop_rounds 2 ?_
  rw [rounds_succ]
  go_wp2
  rw [rounds_succ]
  go_wp2
  go_ret
  exact ⟨rfl, rfl⟩
theorem unq_m (w : World) : Calls Tryz.prog 58 #[.string ⟨#[34, 45, 34]⟩, .bool true] w fun e w' => e = .returned (.tuple #[.string ⟨#[45]⟩, .string ⟨#[]⟩, .nilIface]) ∧ ∃ m, w' = w.drewN m := by
  go_enter Tryz.func58, Tryz.ntmps58
  go_wp2_with (first | (go_at_call 59; go_in) | (go_at_call 60; go_in) | (go_at_call 61; ((with_reducible refine (vs_m _).mono ?_); rintro e w' ⟨rfl, rfl⟩)))
  go_quiet (fail)
  go_wp2
  go_ret3
  exact ⟨rfl, _, rfl⟩
theorem uq_m (w : World) : Calls Tryz.prog 57 #[.string ⟨#[34, 45, 34]⟩] w fun e w' => e = .returned (.tuple #[.string ⟨#[45]⟩, .nilIface]) ∧ ∃ m, w' = w.drewN m := by
  go_enter Tryz.func57, Tryz.ntmps57
  go_wp2_with (go_at_call 58; ((with_reducible refine (unq_m _).mono ?_); rintro e w' ⟨rfl, m, rfl⟩))
  go_ret2
  exact ⟨rfl, _, rfl⟩
theorem lk_m (w : World) : Calls Tryz.prog 56 #[.string ⟨#[101, 120, 112, 114, 58, 34, 45, 34]⟩, .string ⟨#[101, 120, 112, 114]⟩] w fun e w' => e = .returned (.tuple #[.string ⟨#[45]⟩, .bool true]) ∧ ∃ m, w' = w.drewN m := by
  go_enter Tryz.func56, Tryz.ntmps56
  go_wp2
  refine wp_loop_rounds 1 ?_
  rw [rounds_succ]
  go_wp2
  refine wp_loop_rounds 1 ?_
  rw [rounds_succ]
  go_wp2
  refine wp_loop_rounds 5 ?_
  rw [rounds_succ]
  go_wp2
  rw [rounds_succ]
  go_wp2
  rw [rounds_succ]
  go_wp2
  rw [rounds_succ]
  go_wp2
  rw [rounds_succ]
  go_wp2
  refine wp_loop_rounds 2 ?_
  rw [rounds_succ]
  go_wp2
  rw [rounds_succ]
  go_wp2_with (go_at_call 57; ((with_reducible refine (uq_m _).mono ?_); rintro e w' ⟨rfl, m, rfl⟩))
  go_ret2
  exact ⟨rfl, _, rfl⟩
theorem fn_m (name : ByteArray) (w : World) : Calls Tryz.prog 52 #[.string name, .string ⟨#[101, 120, 112, 114, 58, 34, 45, 34]⟩] w fun e w' => e = .returned (.tuple #[.string ⟨#[]⟩, .bool false]) ∧ ∃ m, w' = w.drewN m := by
  go_enter Tryz.func52, Tryz.ntmps52
  go_wp2_with (first | (go_at_call 55; go_in) | (go_at_call 56; ((with_reducible refine (lk_m _).mono ?_); rintro e w' ⟨rfl, m, rfl⟩)))
  go_ret2
  exact ⟨rfl, _, rfl⟩
@[go_sem] theorem ex_19 : ((⟨#[101, 120, 112, 114, 58, 34, 116, 111, 116, 97, 108, 34]⟩ : ByteArray).extract 0 12) = ⟨#[101, 120, 112, 114, 58, 34, 116, 111, 116, 97, 108, 34]⟩ := rfl
@[go_sem] theorem ex_20 : ((⟨#[101, 120, 112, 114, 58, 34, 116, 111, 116, 97, 108, 34]⟩ : ByteArray).extract 0 4) = ⟨#[101, 120, 112, 114]⟩ := rfl
@[go_sem] theorem ex_21 : ((⟨#[101, 120, 112, 114, 58, 34, 116, 111, 116, 97, 108, 34]⟩ : ByteArray).extract 5 12) = ⟨#[34, 116, 111, 116, 97, 108, 34]⟩ := rfl
@[go_sem] theorem ex_22 : ((⟨#[34, 116, 111, 116, 97, 108, 34]⟩ : ByteArray).extract 0 7) = ⟨#[34, 116, 111, 116, 97, 108, 34]⟩ := rfl
@[go_sem] theorem ex_23 : ((⟨#[34, 116, 111, 116, 97, 108, 34]⟩ : ByteArray).extract 7 7) = ⟨#[]⟩ := rfl
@[go_sem] theorem ex_24 : ((⟨#[34, 116, 111, 116, 97, 108, 34]⟩ : ByteArray).extract 1 7) = ⟨#[116, 111, 116, 97, 108, 34]⟩ := rfl
@[go_sem] theorem ex_25 : ((⟨#[34, 116, 111, 116, 97, 108, 34]⟩ : ByteArray).extract 1 6) = ⟨#[116, 111, 116, 97, 108]⟩ := rfl
@[go_sem] theorem gt_25 (h : 0 < (⟨#[101, 120, 112, 114, 58, 34, 116, 111, 116, 97, 108, 34]⟩ : ByteArray).size) : (((⟨#[101, 120, 112, 114, 58, 34, 116, 111, 116, 97, 108, 34]⟩ : ByteArray)[0]'h).toNat) = 101 := rfl
@[go_sem] theorem gt_26 (h : 1 < (⟨#[101, 120, 112, 114, 58, 34, 116, 111, 116, 97, 108, 34]⟩ : ByteArray).size) : (((⟨#[101, 120, 112, 114, 58, 34, 116, 111, 116, 97, 108, 34]⟩ : ByteArray)[1]'h).toNat) = 120 := rfl
@[go_sem] theorem gt_27 (h : 2 < (⟨#[101, 120, 112, 114, 58, 34, 116, 111, 116, 97, 108, 34]⟩ : ByteArray).size) : (((⟨#[101, 120, 112, 114, 58, 34, 116, 111, 116, 97, 108, 34]⟩ : ByteArray)[2]'h).toNat) = 112 := rfl
@[go_sem] theorem gt_28 (h : 3 < (⟨#[101, 120, 112, 114, 58, 34, 116, 111, 116, 97, 108, 34]⟩ : ByteArray).size) : (((⟨#[101, 120, 112, 114, 58, 34, 116, 111, 116, 97, 108, 34]⟩ : ByteArray)[3]'h).toNat) = 114 := rfl
@[go_sem] theorem gt_29 (h : 4 < (⟨#[101, 120, 112, 114, 58, 34, 116, 111, 116, 97, 108, 34]⟩ : ByteArray).size) : (((⟨#[101, 120, 112, 114, 58, 34, 116, 111, 116, 97, 108, 34]⟩ : ByteArray)[4]'h).toNat) = 58 := rfl
@[go_sem] theorem gt_30 (h : 5 < (⟨#[101, 120, 112, 114, 58, 34, 116, 111, 116, 97, 108, 34]⟩ : ByteArray).size) : (((⟨#[101, 120, 112, 114, 58, 34, 116, 111, 116, 97, 108, 34]⟩ : ByteArray)[5]'h).toNat) = 34 := rfl
@[go_sem] theorem gt_31 (h : 0 < (⟨#[34, 116, 111, 116, 97, 108, 34]⟩ : ByteArray).size) : (((⟨#[34, 116, 111, 116, 97, 108, 34]⟩ : ByteArray)[0]'h).toNat) = 34 := rfl
@[go_sem] theorem gt_32 (h : 1 < (⟨#[34, 116, 111, 116, 97, 108, 34]⟩ : ByteArray).size) : (((⟨#[34, 116, 111, 116, 97, 108, 34]⟩ : ByteArray)[1]'h).toNat) = 116 := rfl
@[go_sem] theorem gt_33 (h : 2 < (⟨#[34, 116, 111, 116, 97, 108, 34]⟩ : ByteArray).size) : (((⟨#[34, 116, 111, 116, 97, 108, 34]⟩ : ByteArray)[2]'h).toNat) = 111 := rfl
@[go_sem] theorem gt_34 (h : 3 < (⟨#[34, 116, 111, 116, 97, 108, 34]⟩ : ByteArray).size) : (((⟨#[34, 116, 111, 116, 97, 108, 34]⟩ : ByteArray)[3]'h).toNat) = 116 := rfl
@[go_sem] theorem gt_35 (h : 4 < (⟨#[34, 116, 111, 116, 97, 108, 34]⟩ : ByteArray).size) : (((⟨#[34, 116, 111, 116, 97, 108, 34]⟩ : ByteArray)[4]'h).toNat) = 97 := rfl
@[go_sem] theorem gt_36 (h : 5 < (⟨#[34, 116, 111, 116, 97, 108, 34]⟩ : ByteArray).size) : (((⟨#[34, 116, 111, 116, 97, 108, 34]⟩ : ByteArray)[5]'h).toNat) = 108 := rfl
@[go_sem] theorem gt_37 (h : 6 < (⟨#[34, 116, 111, 116, 97, 108, 34]⟩ : ByteArray).size) : (((⟨#[34, 116, 111, 116, 97, 108, 34]⟩ : ByteArray)[6]'h).toNat) = 34 := rfl
@[go_sem] theorem gt_38 (h : 0 < (⟨#[116, 111, 116, 97, 108]⟩ : ByteArray).size) : (((⟨#[116, 111, 116, 97, 108]⟩ : ByteArray)[0]'h).toNat) = 116 := rfl
@[go_sem] theorem ex_26 : ((⟨#[116, 111, 116, 97, 108]⟩ : ByteArray).extract 1 5) = ⟨#[111, 116, 97, 108]⟩ := rfl
@[go_sem] theorem gt_39 (h : 0 < (⟨#[111, 116, 97, 108]⟩ : ByteArray).size) : (((⟨#[111, 116, 97, 108]⟩ : ByteArray)[0]'h).toNat) = 111 := rfl
@[go_sem] theorem ex_27 : ((⟨#[111, 116, 97, 108]⟩ : ByteArray).extract 1 4) = ⟨#[116, 97, 108]⟩ := rfl
@[go_sem] theorem gt_40 (h : 0 < (⟨#[116, 97, 108]⟩ : ByteArray).size) : (((⟨#[116, 97, 108]⟩ : ByteArray)[0]'h).toNat) = 116 := rfl
@[go_sem] theorem ex_28 : ((⟨#[116, 97, 108]⟩ : ByteArray).extract 1 3) = ⟨#[97, 108]⟩ := rfl
@[go_sem] theorem gt_41 (h : 0 < (⟨#[97, 108]⟩ : ByteArray).size) : (((⟨#[97, 108]⟩ : ByteArray)[0]'h).toNat) = 97 := rfl
@[go_sem] theorem ex_29 : ((⟨#[97, 108]⟩ : ByteArray).extract 1 2) = ⟨#[108]⟩ := rfl
@[go_sem] theorem gt_42 (h : 0 < (⟨#[108]⟩ : ByteArray).size) : (((⟨#[108]⟩ : ByteArray)[0]'h).toNat) = 108 := rfl
@[go_sem] theorem ex_30 : ((⟨#[108]⟩ : ByteArray).extract 1 1) = ⟨#[]⟩ := rfl
@[go_sem] theorem ix_11 (w : World) : (callFunc 65 #[.string ⟨#[116, 111, 116, 97, 108, 34]⟩, .int .u8 34]).run Tryz.prog w = .ok (.value (.int .i64 (5))) w := by kernel_rfl
@[go_sem] theorem ix_12 (w : World) : (callFunc 65 #[.string ⟨#[34, 116, 111, 116, 97, 108, 34]⟩, .int .u8 92]).run Tryz.prog w = .ok (.value (.int .i64 (-1))) w := by kernel_rfl
@[go_sem] theorem ix_13 (w : World) : (callFunc 65 #[.string ⟨#[34, 116, 111, 116, 97, 108, 34]⟩, .int .u8 10]).run Tryz.prog w = .ok (.value (.int .i64 (-1))) w := by kernel_rfl
@[go_sem] theorem ix_14 (w : World) : (callFunc 65 #[.string ⟨#[116, 111, 116, 97, 108]⟩, .int .u8 92]).run Tryz.prog w = .ok (.value (.int .i64 (-1))) w := by kernel_rfl
@[go_sem] theorem ix_15 (w : World) : (callFunc 65 #[.string ⟨#[116, 111, 116, 97, 108]⟩, .int .u8 10]).run Tryz.prog w = .ok (.value (.int .i64 (-1))) w := by kernel_rfl
theorem vs_total (w : World) : Calls Tryz.prog 61 #[.string ⟨#[116, 111, 116, 97, 108]⟩] w fun e w' => e = .returned (.bool true) ∧ w = w' := by
  go_enter Tryz.func61, Tryz.ntmps61
  go_wp2
  refine wp_loop_rounds 6 ?_
  rw [rounds_succ]
  go_wp2
  rw [rounds_succ]
  go_wp2
  rw [rounds_succ]
  go_wp2
  rw [rounds_succ]
  go_wp2
  rw [rounds_succ]
  go_wp2
  rw [rounds_succ]
  go_wp2
  go_ret
  exact ⟨rfl, rfl⟩
theorem unq_total (w : World) : Calls Tryz.prog 58 #[.string ⟨#[34, 116, 111, 116, 97, 108, 34]⟩, .bool true] w fun e w' => e = .returned (.tuple #[.string ⟨#[116, 111, 116, 97, 108]⟩, .string ⟨#[]⟩, .nilIface]) ∧ ∃ m, w' = w.drewN m := by
  go_enter Tryz.func58, Tryz.ntmps58
  go_wp2_with (first | (go_at_call 59; go_in) | (go_at_call 60; go_in) | (go_at_call 61; ((with_reducible refine (vs_total _).mono ?_); rintro e w' ⟨rfl, rfl⟩)))
  go_quiet (fail)
  go_wp2
  go_ret3
  exact ⟨rfl, _, rfl⟩
theorem uq_total (w : World) : Calls Tryz.prog 57 #[.string ⟨#[34, 116, 111, 116, 97, 108, 34]⟩] w fun e w' => e = .returned (.tuple #[.string ⟨#[116, 111, 116, 97, 108]⟩, .nilIface]) ∧ ∃ m, w' = w.drewN m := by
  go_enter Tryz.func57, Tryz.ntmps57
  go_wp2_with (go_at_call 58; ((with_reducible refine (unq_total _).mono ?_); rintro e w' ⟨rfl, m, rfl⟩))
  go_ret2
  exact ⟨rfl, _, rfl⟩
theorem lk_total (w : World) : Calls Tryz.prog 56 #[.string ⟨#[101, 120, 112, 114, 58, 34, 116, 111, 116, 97, 108, 34]⟩, .string ⟨#[101, 120, 112, 114]⟩] w fun e w' => e = .returned (.tuple #[.string ⟨#[116, 111, 116, 97, 108]⟩, .bool true]) ∧ ∃ m, w' = w.drewN m := by
  go_enter Tryz.func56, Tryz.ntmps56
  go_wp2
  refine wp_loop_rounds 1 ?_
  rw [rounds_succ]
  go_wp2
  refine wp_loop_rounds 1 ?_
  rw [rounds_succ]
  go_wp2
  refine wp_loop_rounds 5 ?_
  rw [rounds_succ]
  go_wp2
  rw [rounds_succ]
  go_wp2
  rw [rounds_succ]
  go_wp2
  rw [rounds_succ]
  go_wp2
  rw [rounds_succ]
  go_wp2
  refine wp_loop_rounds 6 ?_
  rw [rounds_succ]
  go_wp2
  rw [rounds_succ]
  go_wp2
  rw [rounds_succ]
  go_wp2
  rw [rounds_succ]
  go_wp2
  rw [rounds_succ]
  go_wp2
  rw [rounds_succ]
  go_wp2_with (go_at_call 57; ((with_reducible refine (uq_total _).mono ?_); rintro e w' ⟨rfl, m, rfl⟩))
  go_ret2
  exact ⟨rfl, _, rfl⟩
theorem fn_total (name : ByteArray) (w : World) : Calls Tryz.prog 52 #[.string name, .string ⟨#[101, 120, 112, 114, 58, 34, 116, 111, 116, 97, 108, 34]⟩] w fun e w' => e = .returned (.tuple #[.string ⟨#[116, 111, 116, 97, 108]⟩, .bool true]) ∧ ∃ m, w' = w.drewN m := by
  go_enter Tryz.func52, Tryz.ntmps52
  go_wp2_with (first | (go_at_call 55; go_in) | (go_at_call 56; ((with_reducible refine (lk_total _).mono ?_); rintro e w' ⟨rfl, m, rfl⟩)))
  go_ret2
  exact ⟨rfl, _, rfl⟩
end Go.Proofs.YtdpgbmmgeooahaaGreatDoorBesrefl
