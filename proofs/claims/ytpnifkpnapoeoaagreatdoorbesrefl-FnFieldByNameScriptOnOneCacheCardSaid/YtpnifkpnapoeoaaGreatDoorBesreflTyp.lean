/-
  FromType at the types of the fields. No condition.
-/
import Derived.Test.YtpnifkpnapoeoaaGreatDoorBesreflTry
import Derived.StillTailTactics
import Derived.Deep.RegionHeld3
import Derived.Deep.RegionLaw
import Derived.Deep.RegionLawGrows
import Derived.Deep.AppendLies
import Derived.Deep.Cut
import Derived.Deep.CutRange
import Derived.Deep.RegionWith
import Derived.Lib.Hide
import Derived.Deep.LoopGhost
import Derived.Deep.DeepCutAuto
namespace Go.Proofs.YtpnifkpnapoeoaaGreatDoorBesrefl
open Go.RowKit
set_option maxRecDepth 100000
set_option maxHeartbeats 1000000
set_option linter.unusedVariables false
@[go_sem] theorem kind_9 (w : World) : (callFunc 167 #[.pointer (some ⟨4, 9, none⟩)]).run Tryz.prog w = .ok (.value (.int .u64 24)) w := by kernel_rfl

@[go_sem] theorem kind_43 (w : World) : (callFunc 167 #[.pointer (some ⟨4, 43, none⟩)]).run Tryz.prog w = .ok (.value (.int .u64 20)) w := by kernel_rfl

@[go_sem] theorem kind_79 (w : World) : (callFunc 167 #[.pointer (some ⟨4, 79, none⟩)]).run Tryz.prog w = .ok (.value (.int .u64 24)) w := by kernel_rfl

@[go_sem] theorem kind_12 (w : World) : (callFunc 167 #[.pointer (some ⟨4, 12, none⟩)]).run Tryz.prog w = .ok (.value (.int .u64 12)) w := by kernel_rfl

@[go_sem] theorem kind_53 (w : World) : (callFunc 167 #[.pointer (some ⟨4, 53, none⟩)]).run Tryz.prog w = .ok (.value (.int .u64 23)) w := by kernel_rfl

@[go_sem] theorem kind_4 (w : World) : (callFunc 167 #[.pointer (some ⟨4, 4, none⟩)]).run Tryz.prog w = .ok (.value (.int .u64 1)) w := by kernel_rfl

@[go_sem] theorem kind_3 (w : World) : (callFunc 167 #[.pointer (some ⟨4, 3, none⟩)]).run Tryz.prog w = .ok (.value (.int .u64 2)) w := by kernel_rfl

@[go_sem] theorem kind_27 (w : World) : (callFunc 167 #[.pointer (some ⟨4, 27, none⟩)]).run Tryz.prog w = .ok (.value (.int .u64 14)) w := by kernel_rfl

theorem bi_12  (w : World)  : Calls Tryz.prog 38 #[.iface 105 (.pointer (some ⟨4, 12, none⟩))] w fun e w' => e = .returned (Value.bool true) ∧ (w) = w' := by
  go_enter Tryz.func38, Tryz.ntmps38
  go_wp2
  exact bodyPost_ret (v := (Value.bool true)) (by simp [results, Tryz.results38, go_sem]) rfl ⟨rfl, rfl⟩

theorem bi_3  (w : World)  : Calls Tryz.prog 38 #[.iface 105 (.pointer (some ⟨4, 3, none⟩))] w fun e w' => e = .returned (Value.bool true) ∧ (w) = w' := by
  go_enter Tryz.func38, Tryz.ntmps38
  go_wp2
  exact bodyPost_ret (v := (Value.bool true)) (by simp [results, Tryz.results38, go_sem]) rfl ⟨rfl, rfl⟩

theorem bf_27  (w : World)  : Calls Tryz.prog 39 #[.iface 105 (.pointer (some ⟨4, 27, none⟩))] w fun e w' => e = .returned (Value.bool true) ∧ (w) = w' := by
  go_enter Tryz.func39, Tryz.ntmps39
  go_wp2
  exact bodyPost_ret (v := (Value.bool true)) (by simp [results, Tryz.results39, go_sem]) rfl ⟨rfl, rfl⟩

theorem from_9 (c : Option Addr) (w : World) : Calls Tryz.prog 31 #[.pointer c, .iface 105 (.pointer (some ⟨4, 9, none⟩))] w fun e w' => e = .returned (.agg #[.iface 105 (.pointer (some ⟨4, 9, none⟩)), .int .u64 24, .pointer none, .pointer none, .bool false, .bool false, .bool false, .bool false, .bool false]) ∧ w.alloc (.cells #[.iface 105 (.pointer (some ⟨4, 9, none⟩)), .int .u64 24, .pointer none, .pointer none, .bool false, .bool false, .bool false, .bool false, .bool false] 48) = w' :=
  from_plain c 9 24 kind_9 rfl rfl rfl rfl rfl rfl rfl rfl rfl rfl rfl rfl rfl rfl rfl w

theorem from_43 (c : Option Addr) (w : World) : Calls Tryz.prog 31 #[.pointer c, .iface 105 (.pointer (some ⟨4, 43, none⟩))] w fun e w' => e = .returned (.agg #[.iface 105 (.pointer (some ⟨4, 43, none⟩)), .int .u64 20, .pointer none, .pointer none, .bool false, .bool false, .bool false, .bool false, .bool false]) ∧ w.alloc (.cells #[.iface 105 (.pointer (some ⟨4, 43, none⟩)), .int .u64 20, .pointer none, .pointer none, .bool false, .bool false, .bool false, .bool false, .bool false] 48) = w' :=
  from_plain c 43 20 kind_43 rfl rfl rfl rfl rfl rfl rfl rfl rfl rfl rfl rfl rfl rfl rfl w

theorem from_79 (c : Option Addr) (w : World) : Calls Tryz.prog 31 #[.pointer c, .iface 105 (.pointer (some ⟨4, 79, none⟩))] w fun e w' => e = .returned (.agg #[.iface 105 (.pointer (some ⟨4, 79, none⟩)), .int .u64 24, .pointer none, .pointer none, .bool false, .bool false, .bool false, .bool false, .bool false]) ∧ w.alloc (.cells #[.iface 105 (.pointer (some ⟨4, 79, none⟩)), .int .u64 24, .pointer none, .pointer none, .bool false, .bool false, .bool false, .bool false, .bool false] 48) = w' :=
  from_plain c 79 24 kind_79 rfl rfl rfl rfl rfl rfl rfl rfl rfl rfl rfl rfl rfl rfl rfl w

theorem from_53 (c : Option Addr) (w : World) : Calls Tryz.prog 31 #[.pointer c, .iface 105 (.pointer (some ⟨4, 53, none⟩))] w fun e w' => e = .returned (.agg #[.iface 105 (.pointer (some ⟨4, 53, none⟩)), .int .u64 23, .pointer none, .pointer none, .bool false, .bool false, .bool false, .bool false, .bool false]) ∧ w.alloc (.cells #[.iface 105 (.pointer (some ⟨4, 53, none⟩)), .int .u64 23, .pointer none, .pointer none, .bool false, .bool false, .bool false, .bool false, .bool false] 48) = w' :=
  from_plain c 53 23 kind_53 rfl rfl rfl rfl rfl rfl rfl rfl rfl rfl rfl rfl rfl rfl rfl w

theorem from_4 (c : Option Addr) (w : World) : Calls Tryz.prog 31 #[.pointer c, .iface 105 (.pointer (some ⟨4, 4, none⟩))] w fun e w' => e = .returned (.agg #[.iface 105 (.pointer (some ⟨4, 4, none⟩)), .int .u64 1, .pointer none, .pointer none, .bool false, .bool false, .bool false, .bool false, .bool false]) ∧ w.alloc (.cells #[.iface 105 (.pointer (some ⟨4, 4, none⟩)), .int .u64 1, .pointer none, .pointer none, .bool false, .bool false, .bool false, .bool false, .bool false] 48) = w' :=
  from_plain c 4 1 kind_4 rfl rfl rfl rfl rfl rfl rfl rfl rfl rfl rfl rfl rfl rfl rfl w

theorem from_12 (c : Option Addr) (w : World)  : Calls Tryz.prog 31 #[.pointer c, .iface 105 (.pointer (some ⟨4, 12, none⟩))] w fun e w' => e = .returned (Value.agg #[Value.iface 105 (Value.pointer (some { block := 4, off := 12 })), Value.int IntKind.u64 12, Value.pointer none, Value.pointer none, Value.bool false, Value.bool false, Value.bool false, Value.bool true, Value.bool false]) ∧ (w.alloc (Obj.cells #[Value.iface 105 (Value.pointer (some { block := 4, off := 12 })), Value.int IntKind.u64 12, Value.pointer none, Value.pointer none, Value.bool false, Value.bool false, Value.bool false, Value.bool true, Value.bool false] 48)) = w' := by
  go_enter Tryz.func31, Tryz.ntmps31
  go_wp2_with (first | (go_at_call 38; ((with_reducible refine (bi_12 _).mono ?_); rintro e w' ⟨rfl, rfl⟩)))
  exact bodyPost_ret (v := (Value.agg #[Value.iface 105 (Value.pointer (some { block := 4, off := 12 })), Value.int IntKind.u64 12, Value.pointer none, Value.pointer none, Value.bool false, Value.bool false, Value.bool false, Value.bool true, Value.bool false])) (by simp [results, Tryz.results31, go_sem]) rfl ⟨rfl, rfl⟩

theorem from_3 (c : Option Addr) (w : World)  : Calls Tryz.prog 31 #[.pointer c, .iface 105 (.pointer (some ⟨4, 3, none⟩))] w fun e w' => e = .returned (Value.agg #[Value.iface 105 (Value.pointer (some { block := 4, off := 3 })), Value.int IntKind.u64 2, Value.pointer none, Value.pointer none, Value.bool false, Value.bool false, Value.bool false, Value.bool true, Value.bool false]) ∧ (w.alloc (Obj.cells #[Value.iface 105 (Value.pointer (some { block := 4, off := 3 })), Value.int IntKind.u64 2, Value.pointer none, Value.pointer none, Value.bool false, Value.bool false, Value.bool false, Value.bool true, Value.bool false] 48)) = w' := by
  go_enter Tryz.func31, Tryz.ntmps31
  go_wp2_with (first | (go_at_call 38; ((with_reducible refine (bi_3 _).mono ?_); rintro e w' ⟨rfl, rfl⟩)))
  exact bodyPost_ret (v := (Value.agg #[Value.iface 105 (Value.pointer (some { block := 4, off := 3 })), Value.int IntKind.u64 2, Value.pointer none, Value.pointer none, Value.bool false, Value.bool false, Value.bool false, Value.bool true, Value.bool false])) (by simp [results, Tryz.results31, go_sem]) rfl ⟨rfl, rfl⟩

theorem from_27 (c : Option Addr) (w : World)  : Calls Tryz.prog 31 #[.pointer c, .iface 105 (.pointer (some ⟨4, 27, none⟩))] w fun e w' => e = .returned (Value.agg #[Value.iface 105 (Value.pointer (some { block := 4, off := 27 })), Value.int IntKind.u64 14, Value.pointer none, Value.pointer none, Value.bool false, Value.bool false, Value.bool false, Value.bool false, Value.bool true]) ∧ (w.alloc (Obj.cells #[Value.iface 105 (Value.pointer (some { block := 4, off := 27 })), Value.int IntKind.u64 14, Value.pointer none, Value.pointer none, Value.bool false, Value.bool false, Value.bool false, Value.bool false, Value.bool true] 48)) = w' := by
  go_enter Tryz.func31, Tryz.ntmps31
  go_wp2_with (first | (go_at_call 39; ((with_reducible refine (bf_27 _).mono ?_); rintro e w' ⟨rfl, rfl⟩)))
  exact bodyPost_ret (v := (Value.agg #[Value.iface 105 (Value.pointer (some { block := 4, off := 27 })), Value.int IntKind.u64 14, Value.pointer none, Value.pointer none, Value.bool false, Value.bool false, Value.bool false, Value.bool false, Value.bool true])) (by simp [results, Tryz.results31, go_sem]) rfl ⟨rfl, rfl⟩
end Go.Proofs.YtpnifkpnapoeoaaGreatDoorBesrefl
