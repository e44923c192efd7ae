/-
  FromType at the types of the fields. No condition.
-/
import Derived.Test.YtdpgbmmgeooahaaGreatDoorBesreflTry
import Derived.StillTailTactics
import Derived.Deep.RegionHeld3
import Derived.Deep.RegionLaw
import Derived.Deep.RegionLawGrows
import Derived.Deep.AppendLies
import Derived.Deep.Cut
import Derived.Deep.CutRange
import Derived.Deep.RegionWith
import Derived.Lib.Hide
import Derived.Deep.LoopGhost
import Derived.Deep.DeepCutAuto
namespace Go.Proofs.YtdpgbmmgeooahaaGreatDoorBesrefl
open Go.RowKit
set_option maxRecDepth 100000
set_option maxHeartbeats 1000000
set_option linter.unusedVariables false
@[go_sem] theorem kind_3 (w : World) : (callFunc 171 #[.pointer (some ⟨4, 3, none⟩)]).run Tryz.prog w = .ok (.value (.int .u64 2)) w := by kernel_rfl

@[go_sem] theorem kind_9 (w : World) : (callFunc 171 #[.pointer (some ⟨4, 9, none⟩)]).run Tryz.prog w = .ok (.value (.int .u64 24)) w := by kernel_rfl

@[go_sem] theorem kind_27 (w : World) : (callFunc 171 #[.pointer (some ⟨4, 27, none⟩)]).run Tryz.prog w = .ok (.value (.int .u64 14)) w := by kernel_rfl

@[go_sem] theorem kind_4 (w : World) : (callFunc 171 #[.pointer (some ⟨4, 4, none⟩)]).run Tryz.prog w = .ok (.value (.int .u64 1)) w := by kernel_rfl

@[go_sem] theorem kind_74 (w : World) : (callFunc 171 #[.pointer (some ⟨4, 74, none⟩)]).run Tryz.prog w = .ok (.value (.int .u64 23)) w := by kernel_rfl

theorem bi_3  (w : World)  : Calls Tryz.prog 46 #[.iface 105 (.pointer (some ⟨4, 3, none⟩))] w fun e w' => e = .returned (Value.bool true) ∧ (w) = w' := by
  go_enter Tryz.func46, Tryz.ntmps46
  go_wp2
  exact bodyPost_ret (v := (Value.bool true)) (by simp [results, Tryz.results46, go_sem]) rfl ⟨rfl, rfl⟩

theorem bf_27  (w : World)  : Calls Tryz.prog 47 #[.iface 105 (.pointer (some ⟨4, 27, none⟩))] w fun e w' => e = .returned (Value.bool true) ∧ (w) = w' := by
  go_enter Tryz.func47, Tryz.ntmps47
  go_wp2
  exact bodyPost_ret (v := (Value.bool true)) (by simp [results, Tryz.results47, go_sem]) rfl ⟨rfl, rfl⟩

theorem from_9 (c : Option Addr) (w : World) : Calls Tryz.prog 35 #[.pointer c, .iface 105 (.pointer (some ⟨4, 9, none⟩))] w fun e w' => e = .returned (.agg #[.iface 105 (.pointer (some ⟨4, 9, none⟩)), .int .u64 24, .pointer none, .pointer none, .bool false, .bool false, .bool false, .bool false, .bool false]) ∧ w.alloc (.cells #[.iface 105 (.pointer (some ⟨4, 9, none⟩)), .int .u64 24, .pointer none, .pointer none, .bool false, .bool false, .bool false, .bool false, .bool false] 48) = w' :=
  from_plain c 9 24 kind_9 rfl rfl rfl rfl rfl rfl rfl rfl rfl rfl rfl rfl rfl rfl rfl w

theorem from_4 (c : Option Addr) (w : World) : Calls Tryz.prog 35 #[.pointer c, .iface 105 (.pointer (some ⟨4, 4, none⟩))] w fun e w' => e = .returned (.agg #[.iface 105 (.pointer (some ⟨4, 4, none⟩)), .int .u64 1, .pointer none, .pointer none, .bool false, .bool false, .bool false, .bool false, .bool false]) ∧ w.alloc (.cells #[.iface 105 (.pointer (some ⟨4, 4, none⟩)), .int .u64 1, .pointer none, .pointer none, .bool false, .bool false, .bool false, .bool false, .bool false] 48) = w' :=
  from_plain c 4 1 kind_4 rfl rfl rfl rfl rfl rfl rfl rfl rfl rfl rfl rfl rfl rfl rfl w

theorem from_74 (c : Option Addr) (w : World) : Calls Tryz.prog 35 #[.pointer c, .iface 105 (.pointer (some ⟨4, 74, none⟩))] w fun e w' => e = .returned (.agg #[.iface 105 (.pointer (some ⟨4, 74, none⟩)), .int .u64 23, .pointer none, .pointer none, .bool false, .bool false, .bool false, .bool false, .bool false]) ∧ w.alloc (.cells #[.iface 105 (.pointer (some ⟨4, 74, none⟩)), .int .u64 23, .pointer none, .pointer none, .bool false, .bool false, .bool false, .bool false, .bool false] 48) = w' :=
  from_plain c 74 23 kind_74 rfl rfl rfl rfl rfl rfl rfl rfl rfl rfl rfl rfl rfl rfl rfl w

theorem from_3 (c : Option Addr) (w : World)  : Calls Tryz.prog 35 #[.pointer c, .iface 105 (.pointer (some ⟨4, 3, none⟩))] w fun e w' => e = .returned (Value.agg #[Value.iface 105 (Value.pointer (some { block := 4, off := 3 })), Value.int IntKind.u64 2, Value.pointer none, Value.pointer none, Value.bool false, Value.bool false, Value.bool false, Value.bool true, Value.bool false]) ∧ (w.alloc (Obj.cells #[Value.iface 105 (Value.pointer (some { block := 4, off := 3 })), Value.int IntKind.u64 2, Value.pointer none, Value.pointer none, Value.bool false, Value.bool false, Value.bool false, Value.bool true, Value.bool false] 48)) = w' := by
  go_enter Tryz.func35, Tryz.ntmps35
  go_wp2_with (first | (go_at_call 46; ((with_reducible refine (bi_3 _).mono ?_); rintro e w' ⟨rfl, rfl⟩)))
  exact bodyPost_ret (v := (Value.agg #[Value.iface 105 (Value.pointer (some { block := 4, off := 3 })), Value.int IntKind.u64 2, Value.pointer none, Value.pointer none, Value.bool false, Value.bool false, Value.bool false, Value.bool true, Value.bool false])) (by simp [results, Tryz.results35, go_sem]) rfl ⟨rfl, rfl⟩

theorem from_27 (c : Option Addr) (w : World)  : Calls Tryz.prog 35 #[.pointer c, .iface 105 (.pointer (some ⟨4, 27, none⟩))] w fun e w' => e = .returned (Value.agg #[Value.iface 105 (Value.pointer (some { block := 4, off := 27 })), Value.int IntKind.u64 14, Value.pointer none, Value.pointer none, Value.bool false, Value.bool false, Value.bool false, Value.bool false, Value.bool true]) ∧ (w.alloc (Obj.cells #[Value.iface 105 (Value.pointer (some { block := 4, off := 27 })), Value.int IntKind.u64 14, Value.pointer none, Value.pointer none, Value.bool false, Value.bool false, Value.bool false, Value.bool false, Value.bool true] 48)) = w' := by
  go_enter Tryz.func35, Tryz.ntmps35
  go_wp2_with (first | (go_at_call 47; ((with_reducible refine (bf_27 _).mono ?_); rintro e w' ⟨rfl, rfl⟩)))
  exact bodyPost_ret (v := (Value.agg #[Value.iface 105 (Value.pointer (some { block := 4, off := 27 })), Value.int IntKind.u64 14, Value.pointer none, Value.pointer none, Value.bool false, Value.bool false, Value.bool false, Value.bool false, Value.bool true])) (by simp [results, Tryz.results35, go_sem]) rfl ⟨rfl, rfl⟩
end Go.Proofs.YtdpgbmmgeooahaaGreatDoorBesrefl
