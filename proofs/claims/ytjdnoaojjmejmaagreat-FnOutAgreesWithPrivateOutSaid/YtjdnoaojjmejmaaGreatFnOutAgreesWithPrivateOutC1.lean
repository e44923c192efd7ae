/-
  The contracts of FnOutAgreesWithPrivateOut: Out and the unexported out agree over the sample signatures, in either order, before and after Out has cached index 0.
-/
import Derived.Test.YtjdnoaojjmejmaaGreatBase
import Derived.RegionTactic
import Derived.ChangeAlike
import Derived.Deep.QuietTactic
import Derived.BigQuiet
import Derived.WalkSmall
namespace Go.Proofs.YtjdnoaojjmejmaaGreat.fnOutAgreesWithPrivateOut
open Go.RowKit
set_option maxRecDepth 100000
set_option maxHeartbeats 1000000
set_option linter.unusedVariables false
@[go_sem] theorem kind_51 (w : World) : (callFunc 246 #[.pointer (some ⟨0, 51, none⟩)]).run Tryz.prog w = .ok (.value (.int .u64 22)) w := by kernel_rfl

@[go_sem] theorem kind_35 (w : World) : (callFunc 246 #[.pointer (some ⟨0, 35, none⟩)]).run Tryz.prog w = .ok (.value (.int .u64 23)) w := by kernel_rfl

@[go_sem] theorem kind_4 (w : World) : (callFunc 246 #[.pointer (some ⟨0, 4, none⟩)]).run Tryz.prog w = .ok (.value (.int .u64 1)) w := by kernel_rfl

@[go_sem] theorem kind_25 (w : World) : (callFunc 246 #[.pointer (some ⟨0, 25, none⟩)]).run Tryz.prog w = .ok (.value (.int .u64 20)) w := by kernel_rfl

@[go_sem] theorem kind_26 (w : World) : (callFunc 246 #[.pointer (some ⟨0, 26, none⟩)]).run Tryz.prog w = .ok (.value (.int .u64 13)) w := by kernel_rfl

@[go_sem] theorem kind_27 (w : World) : (callFunc 246 #[.pointer (some ⟨0, 27, none⟩)]).run Tryz.prog w = .ok (.value (.int .u64 14)) w := by kernel_rfl

@[go_sem] theorem kind_3 (w : World) : (callFunc 246 #[.pointer (some ⟨0, 3, none⟩)]).run Tryz.prog w = .ok (.value (.int .u64 2)) w := by kernel_rfl

@[go_sem] theorem kind_2 (w : World) : (callFunc 246 #[.pointer (some ⟨0, 2, none⟩)]).run Tryz.prog w = .ok (.value (.int .u64 6)) w := by kernel_rfl

@[go_sem] theorem kind_20 (w : World) : (callFunc 246 #[.pointer (some ⟨0, 20, none⟩)]).run Tryz.prog w = .ok (.value (.int .u64 20)) w := by kernel_rfl

@[go_sem] theorem kind_102 (w : World) : (callFunc 246 #[.pointer (some ⟨0, 102, none⟩)]).run Tryz.prog w = .ok (.value (.int .u64 21)) w := by kernel_rfl

@[go_sem] theorem kind_9 (w : World) : (callFunc 246 #[.pointer (some ⟨0, 9, none⟩)]).run Tryz.prog w = .ok (.value (.int .u64 24)) w := by kernel_rfl

@[go_sem] theorem kind_30 (w : World) : (callFunc 246 #[.pointer (some ⟨0, 30, none⟩)]).run Tryz.prog w = .ok (.value (.int .u64 7)) w := by kernel_rfl

@[go_sem] theorem kind_5 (w : World) : (callFunc 246 #[.pointer (some ⟨0, 5, none⟩)]).run Tryz.prog w = .ok (.value (.int .u64 8)) w := by kernel_rfl

theorem bf_26  (w : World)  : Calls Tryz.prog 147 #[.iface 122 (.pointer (some ⟨0, 26, none⟩))] w fun e w' => e = .returned (Value.bool true) ∧ (w) = w' := by
  go_enter Tryz.func147, Tryz.ntmps147
  go_wp2
  exact bodyPost_ret (v := (Value.bool true)) (by simp [results, Tryz.results147, go_sem]) rfl ⟨rfl, rfl⟩

theorem bf_27  (w : World)  : Calls Tryz.prog 147 #[.iface 122 (.pointer (some ⟨0, 27, none⟩))] w fun e w' => e = .returned (Value.bool true) ∧ (w) = w' := by
  go_enter Tryz.func147, Tryz.ntmps147
  go_wp2
  exact bodyPost_ret (v := (Value.bool true)) (by simp [results, Tryz.results147, go_sem]) rfl ⟨rfl, rfl⟩

theorem bi_3  (w : World)  : Calls Tryz.prog 146 #[.iface 122 (.pointer (some ⟨0, 3, none⟩))] w fun e w' => e = .returned (Value.bool true) ∧ (w) = w' := by
  go_enter Tryz.func146, Tryz.ntmps146
  go_wp2
  exact bodyPost_ret (v := (Value.bool true)) (by simp [results, Tryz.results146, go_sem]) rfl ⟨rfl, rfl⟩

theorem bi_2  (w : World)  : Calls Tryz.prog 146 #[.iface 122 (.pointer (some ⟨0, 2, none⟩))] w fun e w' => e = .returned (Value.bool true) ∧ (w) = w' := by
  go_enter Tryz.func146, Tryz.ntmps146
  go_wp2
  exact bodyPost_ret (v := (Value.bool true)) (by simp [results, Tryz.results146, go_sem]) rfl ⟨rfl, rfl⟩

theorem bi_30  (w : World)  : Calls Tryz.prog 146 #[.iface 122 (.pointer (some ⟨0, 30, none⟩))] w fun e w' => e = .returned (Value.bool true) ∧ (w) = w' := by
  go_enter Tryz.func146, Tryz.ntmps146
  go_wp2
  exact bodyPost_ret (v := (Value.bool true)) (by simp [results, Tryz.results146, go_sem]) rfl ⟨rfl, rfl⟩

theorem bi_5  (w : World)  : Calls Tryz.prog 146 #[.iface 122 (.pointer (some ⟨0, 5, none⟩))] w fun e w' => e = .returned (Value.bool true) ∧ (w) = w' := by
  go_enter Tryz.func146, Tryz.ntmps146
  go_wp2
  exact bodyPost_ret (v := (Value.bool true)) (by simp [results, Tryz.results146, go_sem]) rfl ⟨rfl, rfl⟩

theorem from_51 (c : Option Addr) (w : World) : Calls Tryz.prog 137 #[.pointer c, .iface 122 (.pointer (some ⟨0, 51, none⟩))] w fun e w' => e = .returned (.agg #[.iface 122 (.pointer (some ⟨0, 51, none⟩)), .int .u64 22, .pointer none, .pointer none, .bool false, .bool false, .bool false, .bool false, .bool false]) ∧ w.alloc (.cells #[.iface 122 (.pointer (some ⟨0, 51, none⟩)), .int .u64 22, .pointer none, .pointer none, .bool false, .bool false, .bool false, .bool false, .bool false] 43) = w' :=
  from_plain c 51 22 kind_51 rfl rfl rfl rfl rfl rfl rfl rfl rfl rfl rfl rfl rfl rfl rfl w

theorem from_35 (c : Option Addr) (w : World) : Calls Tryz.prog 137 #[.pointer c, .iface 122 (.pointer (some ⟨0, 35, none⟩))] w fun e w' => e = .returned (.agg #[.iface 122 (.pointer (some ⟨0, 35, none⟩)), .int .u64 23, .pointer none, .pointer none, .bool false, .bool false, .bool false, .bool false, .bool false]) ∧ w.alloc (.cells #[.iface 122 (.pointer (some ⟨0, 35, none⟩)), .int .u64 23, .pointer none, .pointer none, .bool false, .bool false, .bool false, .bool false, .bool false] 43) = w' :=
  from_plain c 35 23 kind_35 rfl rfl rfl rfl rfl rfl rfl rfl rfl rfl rfl rfl rfl rfl rfl w

theorem from_4 (c : Option Addr) (w : World) : Calls Tryz.prog 137 #[.pointer c, .iface 122 (.pointer (some ⟨0, 4, none⟩))] w fun e w' => e = .returned (.agg #[.iface 122 (.pointer (some ⟨0, 4, none⟩)), .int .u64 1, .pointer none, .pointer none, .bool false, .bool false, .bool false, .bool false, .bool false]) ∧ w.alloc (.cells #[.iface 122 (.pointer (some ⟨0, 4, none⟩)), .int .u64 1, .pointer none, .pointer none, .bool false, .bool false, .bool false, .bool false, .bool false] 43) = w' :=
  from_plain c 4 1 kind_4 rfl rfl rfl rfl rfl rfl rfl rfl rfl rfl rfl rfl rfl rfl rfl w

theorem from_25 (c : Option Addr) (w : World) : Calls Tryz.prog 137 #[.pointer c, .iface 122 (.pointer (some ⟨0, 25, none⟩))] w fun e w' => e = .returned (.agg #[.iface 122 (.pointer (some ⟨0, 25, none⟩)), .int .u64 20, .pointer none, .pointer none, .bool false, .bool false, .bool false, .bool false, .bool false]) ∧ w.alloc (.cells #[.iface 122 (.pointer (some ⟨0, 25, none⟩)), .int .u64 20, .pointer none, .pointer none, .bool false, .bool false, .bool false, .bool false, .bool false] 43) = w' :=
  from_plain c 25 20 kind_25 rfl rfl rfl rfl rfl rfl rfl rfl rfl rfl rfl rfl rfl rfl rfl w

theorem from_20 (c : Option Addr) (w : World) : Calls Tryz.prog 137 #[.pointer c, .iface 122 (.pointer (some ⟨0, 20, none⟩))] w fun e w' => e = .returned (.agg #[.iface 122 (.pointer (some ⟨0, 20, none⟩)), .int .u64 20, .pointer none, .pointer none, .bool false, .bool false, .bool false, .bool false, .bool false]) ∧ w.alloc (.cells #[.iface 122 (.pointer (some ⟨0, 20, none⟩)), .int .u64 20, .pointer none, .pointer none, .bool false, .bool false, .bool false, .bool false, .bool false] 43) = w' :=
  from_plain c 20 20 kind_20 rfl rfl rfl rfl rfl rfl rfl rfl rfl rfl rfl rfl rfl rfl rfl w

theorem from_102 (c : Option Addr) (w : World) : Calls Tryz.prog 137 #[.pointer c, .iface 122 (.pointer (some ⟨0, 102, none⟩))] w fun e w' => e = .returned (.agg #[.iface 122 (.pointer (some ⟨0, 102, none⟩)), .int .u64 21, .pointer none, .pointer none, .bool false, .bool false, .bool false, .bool false, .bool false]) ∧ w.alloc (.cells #[.iface 122 (.pointer (some ⟨0, 102, none⟩)), .int .u64 21, .pointer none, .pointer none, .bool false, .bool false, .bool false, .bool false, .bool false] 43) = w' :=
  from_plain c 102 21 kind_102 rfl rfl rfl rfl rfl rfl rfl rfl rfl rfl rfl rfl rfl rfl rfl w

theorem from_9 (c : Option Addr) (w : World) : Calls Tryz.prog 137 #[.pointer c, .iface 122 (.pointer (some ⟨0, 9, none⟩))] w fun e w' => e = .returned (.agg #[.iface 122 (.pointer (some ⟨0, 9, none⟩)), .int .u64 24, .pointer none, .pointer none, .bool false, .bool false, .bool false, .bool false, .bool false]) ∧ w.alloc (.cells #[.iface 122 (.pointer (some ⟨0, 9, none⟩)), .int .u64 24, .pointer none, .pointer none, .bool false, .bool false, .bool false, .bool false, .bool false] 43) = w' :=
  from_plain c 9 24 kind_9 rfl rfl rfl rfl rfl rfl rfl rfl rfl rfl rfl rfl rfl rfl rfl w

theorem from_26 (c : Option Addr) (w : World)  : Calls Tryz.prog 137 #[.pointer c, .iface 122 (.pointer (some ⟨0, 26, none⟩))] w fun e w' => e = .returned (Value.agg #[Value.iface 122 (Value.pointer (some { block := 0, off := 26 })), Value.int IntKind.u64 13, Value.pointer none, Value.pointer none, Value.bool false, Value.bool false, Value.bool false, Value.bool false, Value.bool true]) ∧ (w.alloc (Obj.cells #[Value.iface 122 (Value.pointer (some { block := 0, off := 26 })), Value.int IntKind.u64 13, Value.pointer none, Value.pointer none, Value.bool false, Value.bool false, Value.bool false, Value.bool false, Value.bool true] 43)) = w' := by
  go_enter Tryz.func137, Tryz.ntmps137
  go_wp2_with (first | (go_at_call 147; ((with_reducible refine (bf_26 _).mono ?_); rintro e w' ⟨rfl, rfl⟩)))
  exact bodyPost_ret (v := (Value.agg #[Value.iface 122 (Value.pointer (some { block := 0, off := 26 })), Value.int IntKind.u64 13, Value.pointer none, Value.pointer none, Value.bool false, Value.bool false, Value.bool false, Value.bool false, Value.bool true])) (by simp [results, Tryz.results137, go_sem]) rfl ⟨rfl, rfl⟩

theorem from_27 (c : Option Addr) (w : World)  : Calls Tryz.prog 137 #[.pointer c, .iface 122 (.pointer (some ⟨0, 27, none⟩))] w fun e w' => e = .returned (Value.agg #[Value.iface 122 (Value.pointer (some { block := 0, off := 27 })), Value.int IntKind.u64 14, Value.pointer none, Value.pointer none, Value.bool false, Value.bool false, Value.bool false, Value.bool false, Value.bool true]) ∧ (w.alloc (Obj.cells #[Value.iface 122 (Value.pointer (some { block := 0, off := 27 })), Value.int IntKind.u64 14, Value.pointer none, Value.pointer none, Value.bool false, Value.bool false, Value.bool false, Value.bool false, Value.bool true] 43)) = w' := by
  go_enter Tryz.func137, Tryz.ntmps137
  go_wp2_with (first | (go_at_call 147; ((with_reducible refine (bf_27 _).mono ?_); rintro e w' ⟨rfl, rfl⟩)))
  exact bodyPost_ret (v := (Value.agg #[Value.iface 122 (Value.pointer (some { block := 0, off := 27 })), Value.int IntKind.u64 14, Value.pointer none, Value.pointer none, Value.bool false, Value.bool false, Value.bool false, Value.bool false, Value.bool true])) (by simp [results, Tryz.results137, go_sem]) rfl ⟨rfl, rfl⟩

theorem from_3 (c : Option Addr) (w : World)  : Calls Tryz.prog 137 #[.pointer c, .iface 122 (.pointer (some ⟨0, 3, none⟩))] w fun e w' => e = .returned (Value.agg #[Value.iface 122 (Value.pointer (some { block := 0, off := 3 })), Value.int IntKind.u64 2, Value.pointer none, Value.pointer none, Value.bool false, Value.bool false, Value.bool false, Value.bool true, Value.bool false]) ∧ (w.alloc (Obj.cells #[Value.iface 122 (Value.pointer (some { block := 0, off := 3 })), Value.int IntKind.u64 2, Value.pointer none, Value.pointer none, Value.bool false, Value.bool false, Value.bool false, Value.bool true, Value.bool false] 43)) = w' := by
  go_enter Tryz.func137, Tryz.ntmps137
  go_wp2_with (first | (go_at_call 146; ((with_reducible refine (bi_3 _).mono ?_); rintro e w' ⟨rfl, rfl⟩)))
  exact bodyPost_ret (v := (Value.agg #[Value.iface 122 (Value.pointer (some { block := 0, off := 3 })), Value.int IntKind.u64 2, Value.pointer none, Value.pointer none, Value.bool false, Value.bool false, Value.bool false, Value.bool true, Value.bool false])) (by simp [results, Tryz.results137, go_sem]) rfl ⟨rfl, rfl⟩

theorem from_2 (c : Option Addr) (w : World)  : Calls Tryz.prog 137 #[.pointer c, .iface 122 (.pointer (some ⟨0, 2, none⟩))] w fun e w' => e = .returned (Value.agg #[Value.iface 122 (Value.pointer (some { block := 0, off := 2 })), Value.int IntKind.u64 6, Value.pointer none, Value.pointer none, Value.bool false, Value.bool false, Value.bool false, Value.bool true, Value.bool false]) ∧ (w.alloc (Obj.cells #[Value.iface 122 (Value.pointer (some { block := 0, off := 2 })), Value.int IntKind.u64 6, Value.pointer none, Value.pointer none, Value.bool false, Value.bool false, Value.bool false, Value.bool true, Value.bool false] 43)) = w' := by
  go_enter Tryz.func137, Tryz.ntmps137
  go_wp2_with (first | (go_at_call 146; ((with_reducible refine (bi_2 _).mono ?_); rintro e w' ⟨rfl, rfl⟩)))
  exact bodyPost_ret (v := (Value.agg #[Value.iface 122 (Value.pointer (some { block := 0, off := 2 })), Value.int IntKind.u64 6, Value.pointer none, Value.pointer none, Value.bool false, Value.bool false, Value.bool false, Value.bool true, Value.bool false])) (by simp [results, Tryz.results137, go_sem]) rfl ⟨rfl, rfl⟩

theorem from_30 (c : Option Addr) (w : World)  : Calls Tryz.prog 137 #[.pointer c, .iface 122 (.pointer (some ⟨0, 30, none⟩))] w fun e w' => e = .returned (Value.agg #[Value.iface 122 (Value.pointer (some { block := 0, off := 30 })), Value.int IntKind.u64 7, Value.pointer none, Value.pointer none, Value.bool false, Value.bool false, Value.bool false, Value.bool true, Value.bool false]) ∧ (w.alloc (Obj.cells #[Value.iface 122 (Value.pointer (some { block := 0, off := 30 })), Value.int IntKind.u64 7, Value.pointer none, Value.pointer none, Value.bool false, Value.bool false, Value.bool false, Value.bool true, Value.bool false] 43)) = w' := by
  go_enter Tryz.func137, Tryz.ntmps137
  go_wp2_with (first | (go_at_call 146; ((with_reducible refine (bi_30 _).mono ?_); rintro e w' ⟨rfl, rfl⟩)))
  exact bodyPost_ret (v := (Value.agg #[Value.iface 122 (Value.pointer (some { block := 0, off := 30 })), Value.int IntKind.u64 7, Value.pointer none, Value.pointer none, Value.bool false, Value.bool false, Value.bool false, Value.bool true, Value.bool false])) (by simp [results, Tryz.results137, go_sem]) rfl ⟨rfl, rfl⟩

theorem from_5 (c : Option Addr) (w : World)  : Calls Tryz.prog 137 #[.pointer c, .iface 122 (.pointer (some ⟨0, 5, none⟩))] w fun e w' => e = .returned (Value.agg #[Value.iface 122 (Value.pointer (some { block := 0, off := 5 })), Value.int IntKind.u64 8, Value.pointer none, Value.pointer none, Value.bool false, Value.bool false, Value.bool false, Value.bool true, Value.bool false]) ∧ (w.alloc (Obj.cells #[Value.iface 122 (Value.pointer (some { block := 0, off := 5 })), Value.int IntKind.u64 8, Value.pointer none, Value.pointer none, Value.bool false, Value.bool false, Value.bool false, Value.bool true, Value.bool false] 43)) = w' := by
  go_enter Tryz.func137, Tryz.ntmps137
  go_wp2_with (first | (go_at_call 146; ((with_reducible refine (bi_5 _).mono ?_); rintro e w' ⟨rfl, rfl⟩)))
  exact bodyPost_ret (v := (Value.agg #[Value.iface 122 (Value.pointer (some { block := 0, off := 5 })), Value.int IntKind.u64 8, Value.pointer none, Value.pointer none, Value.bool false, Value.bool false, Value.bool false, Value.bool true, Value.bool false])) (by simp [results, Tryz.results137, go_sem]) rfl ⟨rfl, rfl⟩

@[go_sem] theorem str_51 (w : World) : (callFunc 264 #[.pointer (some ⟨0, 51, none⟩)]).run Tryz.prog w = .ok (.value (.string ⟨#[42, 105, 110, 116]⟩)) w := by kernel_rfl

@[go_sem] theorem str_35 (w : World) : (callFunc 264 #[.pointer (some ⟨0, 35, none⟩)]).run Tryz.prog w = .ok (.value (.string ⟨#[91, 93, 117, 105, 110, 116, 56]⟩)) w := by kernel_rfl

@[go_sem] theorem str_4 (w : World) : (callFunc 264 #[.pointer (some ⟨0, 4, none⟩)]).run Tryz.prog w = .ok (.value (.string ⟨#[98, 111, 111, 108]⟩)) w := by kernel_rfl

@[go_sem] theorem str_25 (w : World) : (callFunc 264 #[.pointer (some ⟨0, 25, none⟩)]).run Tryz.prog w = .ok (.value (.string ⟨#[101, 114, 114, 111, 114]⟩)) w := by kernel_rfl

@[go_sem] theorem str_26 (w : World) : (callFunc 264 #[.pointer (some ⟨0, 26, none⟩)]).run Tryz.prog w = .ok (.value (.string ⟨#[102, 108, 111, 97, 116, 51, 50]⟩)) w := by kernel_rfl

@[go_sem] theorem str_27 (w : World) : (callFunc 264 #[.pointer (some ⟨0, 27, none⟩)]).run Tryz.prog w = .ok (.value (.string ⟨#[102, 108, 111, 97, 116, 54, 52]⟩)) w := by kernel_rfl

@[go_sem] theorem str_3 (w : World) : (callFunc 264 #[.pointer (some ⟨0, 3, none⟩)]).run Tryz.prog w = .ok (.value (.string ⟨#[105, 110, 116]⟩)) w := by kernel_rfl

@[go_sem] theorem str_2 (w : World) : (callFunc 264 #[.pointer (some ⟨0, 2, none⟩)]).run Tryz.prog w = .ok (.value (.string ⟨#[105, 110, 116, 54, 52]⟩)) w := by kernel_rfl

@[go_sem] theorem str_20 (w : World) : (callFunc 264 #[.pointer (some ⟨0, 20, none⟩)]).run Tryz.prog w = .ok (.value (.string ⟨#[105, 110, 116, 101, 114, 102, 97, 99, 101, 32, 123, 125]⟩)) w := by kernel_rfl

@[go_sem] theorem str_102 (w : World) : (callFunc 264 #[.pointer (some ⟨0, 102, none⟩)]).run Tryz.prog w = .ok (.value (.string ⟨#[109, 97, 112, 91, 115, 116, 114, 105, 110, 103, 93, 105, 110, 116, 101, 114, 102, 97, 99, 101, 32, 123, 125]⟩)) w := by kernel_rfl

@[go_sem] theorem str_9 (w : World) : (callFunc 264 #[.pointer (some ⟨0, 9, none⟩)]).run Tryz.prog w = .ok (.value (.string ⟨#[115, 116, 114, 105, 110, 103]⟩)) w := by kernel_rfl

@[go_sem] theorem str_30 (w : World) : (callFunc 264 #[.pointer (some ⟨0, 30, none⟩)]).run Tryz.prog w = .ok (.value (.string ⟨#[117, 105, 110, 116]⟩)) w := by kernel_rfl

@[go_sem] theorem str_5 (w : World) : (callFunc 264 #[.pointer (some ⟨0, 5, none⟩)]).run Tryz.prog w = .ok (.value (.string ⟨#[117, 105, 110, 116, 56]⟩)) w := by kernel_rfl

theorem string_at (b t : Nat) (s : ByteArray) (w : World) (hs : ∀ v, (callFunc 264 #[.pointer (some ⟨0, t, none⟩)]).run Tryz.prog v = .ok (.value (.string s)) v) (h : w.cell? ⟨b, 0, none⟩ = some (.iface 122 (.pointer (some ⟨0, t, none⟩)))) : Calls Tryz.prog 90 #[.pointer (some ⟨b, 0, none⟩)] w fun e w' => e = .returned (.string s) ∧ w' = w := by
  go_enter Tryz.func90, Tryz.ntmps90
  go_wp2
  go_ret
  exact ⟨rfl, rfl⟩

theorem sn_51 (w : World) : Calls Tryz.prog 88 #[.agg #[.iface 122 (.pointer (some ⟨0, 51, none⟩)), .int .u64 22, .pointer none, .pointer none, .bool false, .bool false, .bool false, .bool false, .bool false], .agg #[.iface 122 (.pointer (some ⟨0, 51, none⟩)), .int .u64 22, .pointer none, .pointer none, .bool false, .bool false, .bool false, .bool false, .bool false]] w fun e w' => e = .returned (.bool true) ∧ ∃ n, ((w.alloc (.cells #[.iface 122 (.pointer (some ⟨0, 51, none⟩)), .int .u64 22, .pointer none, .pointer none, .bool false, .bool false, .bool false, .bool false, .bool false] 43)).alloc (.cells #[.iface 122 (.pointer (some ⟨0, 51, none⟩)), .int .u64 22, .pointer none, .pointer none, .bool false, .bool false, .bool false, .bool false, .bool false] 43)).drewN n = w' := by
  go_enter Tryz.func88, Tryz.ntmps88
  go_wp2_with fail
  go_quiet ((go_at_call 90; exact Calls.quiet_of_same (string_at _ 51 _ _ str_51 (by simp))))
  go_wp2
  go_ret
  exact ⟨rfl, _, rfl⟩

theorem sn_35 (w : World) : Calls Tryz.prog 88 #[.agg #[.iface 122 (.pointer (some ⟨0, 35, none⟩)), .int .u64 23, .pointer none, .pointer none, .bool false, .bool false, .bool false, .bool false, .bool false], .agg #[.iface 122 (.pointer (some ⟨0, 35, none⟩)), .int .u64 23, .pointer none, .pointer none, .bool false, .bool false, .bool false, .bool false, .bool false]] w fun e w' => e = .returned (.bool true) ∧ ∃ n, ((w.alloc (.cells #[.iface 122 (.pointer (some ⟨0, 35, none⟩)), .int .u64 23, .pointer none, .pointer none, .bool false, .bool false, .bool false, .bool false, .bool false] 43)).alloc (.cells #[.iface 122 (.pointer (some ⟨0, 35, none⟩)), .int .u64 23, .pointer none, .pointer none, .bool false, .bool false, .bool false, .bool false, .bool false] 43)).drewN n = w' := by
  go_enter Tryz.func88, Tryz.ntmps88
  go_wp2_with fail
  go_quiet ((go_at_call 90; exact Calls.quiet_of_same (string_at _ 35 _ _ str_35 (by simp))))
  go_wp2
  go_ret
  exact ⟨rfl, _, rfl⟩

theorem sn_4 (w : World) : Calls Tryz.prog 88 #[.agg #[.iface 122 (.pointer (some ⟨0, 4, none⟩)), .int .u64 1, .pointer none, .pointer none, .bool false, .bool false, .bool false, .bool false, .bool false], .agg #[.iface 122 (.pointer (some ⟨0, 4, none⟩)), .int .u64 1, .pointer none, .pointer none, .bool false, .bool false, .bool false, .bool false, .bool false]] w fun e w' => e = .returned (.bool true) ∧ ∃ n, ((w.alloc (.cells #[.iface 122 (.pointer (some ⟨0, 4, none⟩)), .int .u64 1, .pointer none, .pointer none, .bool false, .bool false, .bool false, .bool false, .bool false] 43)).alloc (.cells #[.iface 122 (.pointer (some ⟨0, 4, none⟩)), .int .u64 1, .pointer none, .pointer none, .bool false, .bool false, .bool false, .bool false, .bool false] 43)).drewN n = w' := by
  go_enter Tryz.func88, Tryz.ntmps88
  go_wp2_with fail
  go_quiet ((go_at_call 90; exact Calls.quiet_of_same (string_at _ 4 _ _ str_4 (by simp))))
  go_wp2
  go_ret
  exact ⟨rfl, _, rfl⟩

theorem sn_25 (w : World) : Calls Tryz.prog 88 #[.agg #[.iface 122 (.pointer (some ⟨0, 25, none⟩)), .int .u64 20, .pointer none, .pointer none, .bool false, .bool false, .bool false, .bool false, .bool false], .agg #[.iface 122 (.pointer (some ⟨0, 25, none⟩)), .int .u64 20, .pointer none, .pointer none, .bool false, .bool false, .bool false, .bool false, .bool false]] w fun e w' => e = .returned (.bool true) ∧ ∃ n, ((w.alloc (.cells #[.iface 122 (.pointer (some ⟨0, 25, none⟩)), .int .u64 20, .pointer none, .pointer none, .bool false, .bool false, .bool false, .bool false, .bool false] 43)).alloc (.cells #[.iface 122 (.pointer (some ⟨0, 25, none⟩)), .int .u64 20, .pointer none, .pointer none, .bool false, .bool false, .bool false, .bool false, .bool false] 43)).drewN n = w' := by
  go_enter Tryz.func88, Tryz.ntmps88
  go_wp2_with fail
  go_quiet ((go_at_call 90; exact Calls.quiet_of_same (string_at _ 25 _ _ str_25 (by simp))))
  go_wp2
  go_ret
  exact ⟨rfl, _, rfl⟩

theorem sn_26 (w : World) : Calls Tryz.prog 88 #[.agg #[.iface 122 (.pointer (some ⟨0, 26, none⟩)), .int .u64 13, .pointer none, .pointer none, .bool false, .bool false, .bool false, .bool false, .bool true], .agg #[.iface 122 (.pointer (some ⟨0, 26, none⟩)), .int .u64 13, .pointer none, .pointer none, .bool false, .bool false, .bool false, .bool false, .bool true]] w fun e w' => e = .returned (.bool true) ∧ ∃ n, ((w.alloc (.cells #[.iface 122 (.pointer (some ⟨0, 26, none⟩)), .int .u64 13, .pointer none, .pointer none, .bool false, .bool false, .bool false, .bool false, .bool true] 43)).alloc (.cells #[.iface 122 (.pointer (some ⟨0, 26, none⟩)), .int .u64 13, .pointer none, .pointer none, .bool false, .bool false, .bool false, .bool false, .bool true] 43)).drewN n = w' := by
  go_enter Tryz.func88, Tryz.ntmps88
  go_wp2_with fail
  go_quiet ((go_at_call 90; exact Calls.quiet_of_same (string_at _ 26 _ _ str_26 (by simp))))
  go_wp2
  go_ret
  exact ⟨rfl, _, rfl⟩

theorem sn_27 (w : World) : Calls Tryz.prog 88 #[.agg #[.iface 122 (.pointer (some ⟨0, 27, none⟩)), .int .u64 14, .pointer none, .pointer none, .bool false, .bool false, .bool false, .bool false, .bool true], .agg #[.iface 122 (.pointer (some ⟨0, 27, none⟩)), .int .u64 14, .pointer none, .pointer none, .bool false, .bool false, .bool false, .bool false, .bool true]] w fun e w' => e = .returned (.bool true) ∧ ∃ n, ((w.alloc (.cells #[.iface 122 (.pointer (some ⟨0, 27, none⟩)), .int .u64 14, .pointer none, .pointer none, .bool false, .bool false, .bool false, .bool false, .bool true] 43)).alloc (.cells #[.iface 122 (.pointer (some ⟨0, 27, none⟩)), .int .u64 14, .pointer none, .pointer none, .bool false, .bool false, .bool false, .bool false, .bool true] 43)).drewN n = w' := by
  go_enter Tryz.func88, Tryz.ntmps88
  go_wp2_with fail
  go_quiet ((go_at_call 90; exact Calls.quiet_of_same (string_at _ 27 _ _ str_27 (by simp))))
  go_wp2
  go_ret
  exact ⟨rfl, _, rfl⟩

theorem sn_3 (w : World) : Calls Tryz.prog 88 #[.agg #[.iface 122 (.pointer (some ⟨0, 3, none⟩)), .int .u64 2, .pointer none, .pointer none, .bool false, .bool false, .bool false, .bool true, .bool false], .agg #[.iface 122 (.pointer (some ⟨0, 3, none⟩)), .int .u64 2, .pointer none, .pointer none, .bool false, .bool false, .bool false, .bool true, .bool false]] w fun e w' => e = .returned (.bool true) ∧ ∃ n, ((w.alloc (.cells #[.iface 122 (.pointer (some ⟨0, 3, none⟩)), .int .u64 2, .pointer none, .pointer none, .bool false, .bool false, .bool false, .bool true, .bool false] 43)).alloc (.cells #[.iface 122 (.pointer (some ⟨0, 3, none⟩)), .int .u64 2, .pointer none, .pointer none, .bool false, .bool false, .bool false, .bool true, .bool false] 43)).drewN n = w' := by
  go_enter Tryz.func88, Tryz.ntmps88
  go_wp2_with fail
  go_quiet ((go_at_call 90; exact Calls.quiet_of_same (string_at _ 3 _ _ str_3 (by simp))))
  go_wp2
  go_ret
  exact ⟨rfl, _, rfl⟩

theorem sn_2 (w : World) : Calls Tryz.prog 88 #[.agg #[.iface 122 (.pointer (some ⟨0, 2, none⟩)), .int .u64 6, .pointer none, .pointer none, .bool false, .bool false, .bool false, .bool true, .bool false], .agg #[.iface 122 (.pointer (some ⟨0, 2, none⟩)), .int .u64 6, .pointer none, .pointer none, .bool false, .bool false, .bool false, .bool true, .bool false]] w fun e w' => e = .returned (.bool true) ∧ ∃ n, ((w.alloc (.cells #[.iface 122 (.pointer (some ⟨0, 2, none⟩)), .int .u64 6, .pointer none, .pointer none, .bool false, .bool false, .bool false, .bool true, .bool false] 43)).alloc (.cells #[.iface 122 (.pointer (some ⟨0, 2, none⟩)), .int .u64 6, .pointer none, .pointer none, .bool false, .bool false, .bool false, .bool true, .bool false] 43)).drewN n = w' := by
  go_enter Tryz.func88, Tryz.ntmps88
  go_wp2_with fail
  go_quiet ((go_at_call 90; exact Calls.quiet_of_same (string_at _ 2 _ _ str_2 (by simp))))
  go_wp2
  go_ret
  exact ⟨rfl, _, rfl⟩

theorem sn_20 (w : World) : Calls Tryz.prog 88 #[.agg #[.iface 122 (.pointer (some ⟨0, 20, none⟩)), .int .u64 20, .pointer none, .pointer none, .bool false, .bool false, .bool false, .bool false, .bool false], .agg #[.iface 122 (.pointer (some ⟨0, 20, none⟩)), .int .u64 20, .pointer none, .pointer none, .bool false, .bool false, .bool false, .bool false, .bool false]] w fun e w' => e = .returned (.bool true) ∧ ∃ n, ((w.alloc (.cells #[.iface 122 (.pointer (some ⟨0, 20, none⟩)), .int .u64 20, .pointer none, .pointer none, .bool false, .bool false, .bool false, .bool false, .bool false] 43)).alloc (.cells #[.iface 122 (.pointer (some ⟨0, 20, none⟩)), .int .u64 20, .pointer none, .pointer none, .bool false, .bool false, .bool false, .bool false, .bool false] 43)).drewN n = w' := by
  go_enter Tryz.func88, Tryz.ntmps88
  go_wp2_with fail
  go_quiet ((go_at_call 90; exact Calls.quiet_of_same (string_at _ 20 _ _ str_20 (by simp))))
  go_wp2
  go_ret
  exact ⟨rfl, _, rfl⟩

theorem sn_102 (w : World) : Calls Tryz.prog 88 #[.agg #[.iface 122 (.pointer (some ⟨0, 102, none⟩)), .int .u64 21, .pointer none, .pointer none, .bool false, .bool false, .bool false, .bool false, .bool false], .agg #[.iface 122 (.pointer (some ⟨0, 102, none⟩)), .int .u64 21, .pointer none, .pointer none, .bool false, .bool false, .bool false, .bool false, .bool false]] w fun e w' => e = .returned (.bool true) ∧ ∃ n, ((w.alloc (.cells #[.iface 122 (.pointer (some ⟨0, 102, none⟩)), .int .u64 21, .pointer none, .pointer none, .bool false, .bool false, .bool false, .bool false, .bool false] 43)).alloc (.cells #[.iface 122 (.pointer (some ⟨0, 102, none⟩)), .int .u64 21, .pointer none, .pointer none, .bool false, .bool false, .bool false, .bool false, .bool false] 43)).drewN n = w' := by
  go_enter Tryz.func88, Tryz.ntmps88
  go_wp2_with fail
  go_quiet ((go_at_call 90; exact Calls.quiet_of_same (string_at _ 102 _ _ str_102 (by simp))))
  go_wp2
  go_ret
  exact ⟨rfl, _, rfl⟩

theorem sn_9 (w : World) : Calls Tryz.prog 88 #[.agg #[.iface 122 (.pointer (some ⟨0, 9, none⟩)), .int .u64 24, .pointer none, .pointer none, .bool false, .bool false, .bool false, .bool false, .bool false], .agg #[.iface 122 (.pointer (some ⟨0, 9, none⟩)), .int .u64 24, .pointer none, .pointer none, .bool false, .bool false, .bool false, .bool false, .bool false]] w fun e w' => e = .returned (.bool true) ∧ ∃ n, ((w.alloc (.cells #[.iface 122 (.pointer (some ⟨0, 9, none⟩)), .int .u64 24, .pointer none, .pointer none, .bool false, .bool false, .bool false, .bool false, .bool false] 43)).alloc (.cells #[.iface 122 (.pointer (some ⟨0, 9, none⟩)), .int .u64 24, .pointer none, .pointer none, .bool false, .bool false, .bool false, .bool false, .bool false] 43)).drewN n = w' := by
  go_enter Tryz.func88, Tryz.ntmps88
  go_wp2_with fail
  go_quiet ((go_at_call 90; exact Calls.quiet_of_same (string_at _ 9 _ _ str_9 (by simp))))
  go_wp2
  go_ret
  exact ⟨rfl, _, rfl⟩

theorem sn_30 (w : World) : Calls Tryz.prog 88 #[.agg #[.iface 122 (.pointer (some ⟨0, 30, none⟩)), .int .u64 7, .pointer none, .pointer none, .bool false, .bool false, .bool false, .bool true, .bool false], .agg #[.iface 122 (.pointer (some ⟨0, 30, none⟩)), .int .u64 7, .pointer none, .pointer none, .bool false, .bool false, .bool false, .bool true, .bool false]] w fun e w' => e = .returned (.bool true) ∧ ∃ n, ((w.alloc (.cells #[.iface 122 (.pointer (some ⟨0, 30, none⟩)), .int .u64 7, .pointer none, .pointer none, .bool false, .bool false, .bool false, .bool true, .bool false] 43)).alloc (.cells #[.iface 122 (.pointer (some ⟨0, 30, none⟩)), .int .u64 7, .pointer none, .pointer none, .bool false, .bool false, .bool false, .bool true, .bool false] 43)).drewN n = w' := by
  go_enter Tryz.func88, Tryz.ntmps88
  go_wp2_with fail
  go_quiet ((go_at_call 90; exact Calls.quiet_of_same (string_at _ 30 _ _ str_30 (by simp))))
  go_wp2
  go_ret
  exact ⟨rfl, _, rfl⟩

theorem sn_5 (w : World) : Calls Tryz.prog 88 #[.agg #[.iface 122 (.pointer (some ⟨0, 5, none⟩)), .int .u64 8, .pointer none, .pointer none, .bool false, .bool false, .bool false, .bool true, .bool false], .agg #[.iface 122 (.pointer (some ⟨0, 5, none⟩)), .int .u64 8, .pointer none, .pointer none, .bool false, .bool false, .bool false, .bool true, .bool false]] w fun e w' => e = .returned (.bool true) ∧ ∃ n, ((w.alloc (.cells #[.iface 122 (.pointer (some ⟨0, 5, none⟩)), .int .u64 8, .pointer none, .pointer none, .bool false, .bool false, .bool false, .bool true, .bool false] 43)).alloc (.cells #[.iface 122 (.pointer (some ⟨0, 5, none⟩)), .int .u64 8, .pointer none, .pointer none, .bool false, .bool false, .bool false, .bool true, .bool false] 43)).drewN n = w' := by
  go_enter Tryz.func88, Tryz.ntmps88
  go_wp2_with fail
  go_quiet ((go_at_call 90; exact Calls.quiet_of_same (string_at _ 5 _ _ str_5 (by simp))))
  go_wp2
  go_ret
  exact ⟨rfl, _, rfl⟩

theorem bset {w v : World} {p : Addr} (h : Below w.heap.size w v) (hp : w.heap.size ≤ p.block) (u : Value) : Below w.heap.size w (v.setCell p u) := h.setCell hp u
theorem below_drewN {B : Nat} {a w : World} (h : Below B a w) (n : Nat) : Below B a (w.drewN n) := ⟨h.os, h.tape, h.output, h.size, h.block⟩
end Go.Proofs.YtjdnoaojjmejmaaGreat.fnOutAgreesWithPrivateOut
