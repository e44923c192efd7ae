/-
  The walk of FnIsFastMapReadsTypeNotFlags: IsFastMap answers as it did for the reflect type alone, whatever is written into Kind, Nil, Strict, IsInteger and TypeData.
-/
import Derived.Test.YtihjnbfmcemmjaaGreatBase
import Derived.OpenShut
namespace Go.Proofs.YtihjnbfmcemmjaaGreat.fnIsFastMapReadsTypeNotFlags
open Go.RowKit
set_option maxRecDepth 100000
set_option maxHeartbeats 1000000
set_option linter.unusedVariables false
theorem bal {w v : World} (h : Below w.heap.size w v) (o : Obj) : Below w.heap.size w (v.alloc o) := h.alloc h.size o
@[go_sem] theorem kind_100 (w : World) : (callFunc 230 #[.pointer (some ⟨0, 100, none⟩)]).run Tryz.prog w = .ok (.value (.int .u64 21)) w := by kernel_rfl

@[go_sem] theorem kind_109 (w : World) : (callFunc 230 #[.pointer (some ⟨0, 109, none⟩)]).run Tryz.prog w = .ok (.value (.int .u64 21)) w := by kernel_rfl

@[go_sem] theorem kind_110 (w : World) : (callFunc 230 #[.pointer (some ⟨0, 110, none⟩)]).run Tryz.prog w = .ok (.value (.int .u64 21)) w := by kernel_rfl

@[go_sem] theorem kind_111 (w : World) : (callFunc 230 #[.pointer (some ⟨0, 111, none⟩)]).run Tryz.prog w = .ok (.value (.int .u64 21)) w := by kernel_rfl

@[go_sem] theorem kind_87 (w : World) : (callFunc 230 #[.pointer (some ⟨0, 87, none⟩)]).run Tryz.prog w = .ok (.value (.int .u64 23)) w := by kernel_rfl

@[go_sem] theorem kind_9 (w : World) : (callFunc 230 #[.pointer (some ⟨0, 9, none⟩)]).run Tryz.prog w = .ok (.value (.int .u64 24)) w := by kernel_rfl

@[go_sem] theorem kind_112 (w : World) : (callFunc 230 #[.pointer (some ⟨0, 112, none⟩)]).run Tryz.prog w = .ok (.value (.int .u64 22)) w := by kernel_rfl

@[go_sem] theorem kind_113 (w : World) : (callFunc 230 #[.pointer (some ⟨0, 113, none⟩)]).run Tryz.prog w = .ok (.value (.int .u64 21)) w := by kernel_rfl

@[go_sem] theorem kind_114 (w : World) : (callFunc 230 #[.pointer (some ⟨0, 114, none⟩)]).run Tryz.prog w = .ok (.value (.int .u64 21)) w := by kernel_rfl

theorem from_100 (c : Option Addr) (w : World) : Calls Tryz.prog 113 #[.pointer c, .iface 133 (.pointer (some ⟨0, 100, none⟩))] w fun e w' => e = .returned (.agg #[.iface 133 (.pointer (some ⟨0, 100, none⟩)), .int .u64 21, .pointer none, .pointer none, .bool false, .bool false, .bool false, .bool false, .bool false]) ∧ w.alloc (.cells #[.iface 133 (.pointer (some ⟨0, 100, none⟩)), .int .u64 21, .pointer none, .pointer none, .bool false, .bool false, .bool false, .bool false, .bool false] 42) = w' :=
  from_plain c 100 21 kind_100 rfl rfl rfl rfl rfl rfl rfl rfl rfl rfl rfl rfl rfl rfl rfl w

theorem from_109 (c : Option Addr) (w : World) : Calls Tryz.prog 113 #[.pointer c, .iface 133 (.pointer (some ⟨0, 109, none⟩))] w fun e w' => e = .returned (.agg #[.iface 133 (.pointer (some ⟨0, 109, none⟩)), .int .u64 21, .pointer none, .pointer none, .bool false, .bool false, .bool false, .bool false, .bool false]) ∧ w.alloc (.cells #[.iface 133 (.pointer (some ⟨0, 109, none⟩)), .int .u64 21, .pointer none, .pointer none, .bool false, .bool false, .bool false, .bool false, .bool false] 42) = w' :=
  from_plain c 109 21 kind_109 rfl rfl rfl rfl rfl rfl rfl rfl rfl rfl rfl rfl rfl rfl rfl w

theorem from_110 (c : Option Addr) (w : World) : Calls Tryz.prog 113 #[.pointer c, .iface 133 (.pointer (some ⟨0, 110, none⟩))] w fun e w' => e = .returned (.agg #[.iface 133 (.pointer (some ⟨0, 110, none⟩)), .int .u64 21, .pointer none, .pointer none, .bool false, .bool false, .bool false, .bool false, .bool false]) ∧ w.alloc (.cells #[.iface 133 (.pointer (some ⟨0, 110, none⟩)), .int .u64 21, .pointer none, .pointer none, .bool false, .bool false, .bool false, .bool false, .bool false] 42) = w' :=
  from_plain c 110 21 kind_110 rfl rfl rfl rfl rfl rfl rfl rfl rfl rfl rfl rfl rfl rfl rfl w

theorem from_111 (c : Option Addr) (w : World) : Calls Tryz.prog 113 #[.pointer c, .iface 133 (.pointer (some ⟨0, 111, none⟩))] w fun e w' => e = .returned (.agg #[.iface 133 (.pointer (some ⟨0, 111, none⟩)), .int .u64 21, .pointer none, .pointer none, .bool false, .bool false, .bool false, .bool false, .bool false]) ∧ w.alloc (.cells #[.iface 133 (.pointer (some ⟨0, 111, none⟩)), .int .u64 21, .pointer none, .pointer none, .bool false, .bool false, .bool false, .bool false, .bool false] 42) = w' :=
  from_plain c 111 21 kind_111 rfl rfl rfl rfl rfl rfl rfl rfl rfl rfl rfl rfl rfl rfl rfl w

theorem from_87 (c : Option Addr) (w : World) : Calls Tryz.prog 113 #[.pointer c, .iface 133 (.pointer (some ⟨0, 87, none⟩))] w fun e w' => e = .returned (.agg #[.iface 133 (.pointer (some ⟨0, 87, none⟩)), .int .u64 23, .pointer none, .pointer none, .bool false, .bool false, .bool false, .bool false, .bool false]) ∧ w.alloc (.cells #[.iface 133 (.pointer (some ⟨0, 87, none⟩)), .int .u64 23, .pointer none, .pointer none, .bool false, .bool false, .bool false, .bool false, .bool false] 42) = w' :=
  from_plain c 87 23 kind_87 rfl rfl rfl rfl rfl rfl rfl rfl rfl rfl rfl rfl rfl rfl rfl w

theorem from_9 (c : Option Addr) (w : World) : Calls Tryz.prog 113 #[.pointer c, .iface 133 (.pointer (some ⟨0, 9, none⟩))] w fun e w' => e = .returned (.agg #[.iface 133 (.pointer (some ⟨0, 9, none⟩)), .int .u64 24, .pointer none, .pointer none, .bool false, .bool false, .bool false, .bool false, .bool false]) ∧ w.alloc (.cells #[.iface 133 (.pointer (some ⟨0, 9, none⟩)), .int .u64 24, .pointer none, .pointer none, .bool false, .bool false, .bool false, .bool false, .bool false] 42) = w' :=
  from_plain c 9 24 kind_9 rfl rfl rfl rfl rfl rfl rfl rfl rfl rfl rfl rfl rfl rfl rfl w

theorem from_112 (c : Option Addr) (w : World) : Calls Tryz.prog 113 #[.pointer c, .iface 133 (.pointer (some ⟨0, 112, none⟩))] w fun e w' => e = .returned (.agg #[.iface 133 (.pointer (some ⟨0, 112, none⟩)), .int .u64 22, .pointer none, .pointer none, .bool false, .bool false, .bool false, .bool false, .bool false]) ∧ w.alloc (.cells #[.iface 133 (.pointer (some ⟨0, 112, none⟩)), .int .u64 22, .pointer none, .pointer none, .bool false, .bool false, .bool false, .bool false, .bool false] 42) = w' :=
  from_plain c 112 22 kind_112 rfl rfl rfl rfl rfl rfl rfl rfl rfl rfl rfl rfl rfl rfl rfl w

theorem from_113 (c : Option Addr) (w : World) : Calls Tryz.prog 113 #[.pointer c, .iface 133 (.pointer (some ⟨0, 113, none⟩))] w fun e w' => e = .returned (.agg #[.iface 133 (.pointer (some ⟨0, 113, none⟩)), .int .u64 21, .pointer none, .pointer none, .bool false, .bool false, .bool false, .bool false, .bool false]) ∧ w.alloc (.cells #[.iface 133 (.pointer (some ⟨0, 113, none⟩)), .int .u64 21, .pointer none, .pointer none, .bool false, .bool false, .bool false, .bool false, .bool false] 42) = w' :=
  from_plain c 113 21 kind_113 rfl rfl rfl rfl rfl rfl rfl rfl rfl rfl rfl rfl rfl rfl rfl w

theorem from_114 (c : Option Addr) (w : World) : Calls Tryz.prog 113 #[.pointer c, .iface 133 (.pointer (some ⟨0, 114, none⟩))] w fun e w' => e = .returned (.agg #[.iface 133 (.pointer (some ⟨0, 114, none⟩)), .int .u64 21, .pointer none, .pointer none, .bool false, .bool false, .bool false, .bool false, .bool false]) ∧ w.alloc (.cells #[.iface 133 (.pointer (some ⟨0, 114, none⟩)), .int .u64 21, .pointer none, .pointer none, .bool false, .bool false, .bool false, .bool false, .bool false] 42) = w' :=
  from_plain c 114 21 kind_114 rfl rfl rfl rfl rfl rfl rfl rfl rfl rfl rfl rfl rfl rfl rfl w

theorem ft_100 (w : World) : Calls Tryz.prog 115 #[.iface 133 (.pointer (some ⟨0, 100, none⟩))] w fun e w' => e = .returned (.agg #[.iface 133 (.pointer (some ⟨0, 100, none⟩)), .int .u64 21, .pointer none, .pointer none, .bool false, .bool false, .bool false, .bool false, .bool false]) ∧ (w.alloc (.cells #[.iface 133 (.pointer (some ⟨0, 100, none⟩)), .int .u64 21, .pointer none, .pointer none, .bool false, .bool false, .bool false, .bool false, .bool false] 42)).alloc (.cells #[.iface 133 (.pointer (some ⟨0, 100, none⟩)), .int .u64 21, .pointer none, .pointer none, .bool false, .bool false, .bool false, .bool false, .bool false] 42) = w' :=
  ft_plain 100 21 kind_100 rfl rfl rfl rfl rfl rfl rfl rfl rfl rfl rfl rfl rfl rfl rfl w

theorem ft_109 (w : World) : Calls Tryz.prog 115 #[.iface 133 (.pointer (some ⟨0, 109, none⟩))] w fun e w' => e = .returned (.agg #[.iface 133 (.pointer (some ⟨0, 109, none⟩)), .int .u64 21, .pointer none, .pointer none, .bool false, .bool false, .bool false, .bool false, .bool false]) ∧ (w.alloc (.cells #[.iface 133 (.pointer (some ⟨0, 109, none⟩)), .int .u64 21, .pointer none, .pointer none, .bool false, .bool false, .bool false, .bool false, .bool false] 42)).alloc (.cells #[.iface 133 (.pointer (some ⟨0, 109, none⟩)), .int .u64 21, .pointer none, .pointer none, .bool false, .bool false, .bool false, .bool false, .bool false] 42) = w' :=
  ft_plain 109 21 kind_109 rfl rfl rfl rfl rfl rfl rfl rfl rfl rfl rfl rfl rfl rfl rfl w

theorem ft_110 (w : World) : Calls Tryz.prog 115 #[.iface 133 (.pointer (some ⟨0, 110, none⟩))] w fun e w' => e = .returned (.agg #[.iface 133 (.pointer (some ⟨0, 110, none⟩)), .int .u64 21, .pointer none, .pointer none, .bool false, .bool false, .bool false, .bool false, .bool false]) ∧ (w.alloc (.cells #[.iface 133 (.pointer (some ⟨0, 110, none⟩)), .int .u64 21, .pointer none, .pointer none, .bool false, .bool false, .bool false, .bool false, .bool false] 42)).alloc (.cells #[.iface 133 (.pointer (some ⟨0, 110, none⟩)), .int .u64 21, .pointer none, .pointer none, .bool false, .bool false, .bool false, .bool false, .bool false] 42) = w' :=
  ft_plain 110 21 kind_110 rfl rfl rfl rfl rfl rfl rfl rfl rfl rfl rfl rfl rfl rfl rfl w

theorem ft_111 (w : World) : Calls Tryz.prog 115 #[.iface 133 (.pointer (some ⟨0, 111, none⟩))] w fun e w' => e = .returned (.agg #[.iface 133 (.pointer (some ⟨0, 111, none⟩)), .int .u64 21, .pointer none, .pointer none, .bool false, .bool false, .bool false, .bool false, .bool false]) ∧ (w.alloc (.cells #[.iface 133 (.pointer (some ⟨0, 111, none⟩)), .int .u64 21, .pointer none, .pointer none, .bool false, .bool false, .bool false, .bool false, .bool false] 42)).alloc (.cells #[.iface 133 (.pointer (some ⟨0, 111, none⟩)), .int .u64 21, .pointer none, .pointer none, .bool false, .bool false, .bool false, .bool false, .bool false] 42) = w' :=
  ft_plain 111 21 kind_111 rfl rfl rfl rfl rfl rfl rfl rfl rfl rfl rfl rfl rfl rfl rfl w

theorem ft_87 (w : World) : Calls Tryz.prog 115 #[.iface 133 (.pointer (some ⟨0, 87, none⟩))] w fun e w' => e = .returned (.agg #[.iface 133 (.pointer (some ⟨0, 87, none⟩)), .int .u64 23, .pointer none, .pointer none, .bool false, .bool false, .bool false, .bool false, .bool false]) ∧ (w.alloc (.cells #[.iface 133 (.pointer (some ⟨0, 87, none⟩)), .int .u64 23, .pointer none, .pointer none, .bool false, .bool false, .bool false, .bool false, .bool false] 42)).alloc (.cells #[.iface 133 (.pointer (some ⟨0, 87, none⟩)), .int .u64 23, .pointer none, .pointer none, .bool false, .bool false, .bool false, .bool false, .bool false] 42) = w' :=
  ft_plain 87 23 kind_87 rfl rfl rfl rfl rfl rfl rfl rfl rfl rfl rfl rfl rfl rfl rfl w

theorem ft_9 (w : World) : Calls Tryz.prog 115 #[.iface 133 (.pointer (some ⟨0, 9, none⟩))] w fun e w' => e = .returned (.agg #[.iface 133 (.pointer (some ⟨0, 9, none⟩)), .int .u64 24, .pointer none, .pointer none, .bool false, .bool false, .bool false, .bool false, .bool false]) ∧ (w.alloc (.cells #[.iface 133 (.pointer (some ⟨0, 9, none⟩)), .int .u64 24, .pointer none, .pointer none, .bool false, .bool false, .bool false, .bool false, .bool false] 42)).alloc (.cells #[.iface 133 (.pointer (some ⟨0, 9, none⟩)), .int .u64 24, .pointer none, .pointer none, .bool false, .bool false, .bool false, .bool false, .bool false] 42) = w' :=
  ft_plain 9 24 kind_9 rfl rfl rfl rfl rfl rfl rfl rfl rfl rfl rfl rfl rfl rfl rfl w

theorem ft_112 (w : World) : Calls Tryz.prog 115 #[.iface 133 (.pointer (some ⟨0, 112, none⟩))] w fun e w' => e = .returned (.agg #[.iface 133 (.pointer (some ⟨0, 112, none⟩)), .int .u64 22, .pointer none, .pointer none, .bool false, .bool false, .bool false, .bool false, .bool false]) ∧ (w.alloc (.cells #[.iface 133 (.pointer (some ⟨0, 112, none⟩)), .int .u64 22, .pointer none, .pointer none, .bool false, .bool false, .bool false, .bool false, .bool false] 42)).alloc (.cells #[.iface 133 (.pointer (some ⟨0, 112, none⟩)), .int .u64 22, .pointer none, .pointer none, .bool false, .bool false, .bool false, .bool false, .bool false] 42) = w' :=
  ft_plain 112 22 kind_112 rfl rfl rfl rfl rfl rfl rfl rfl rfl rfl rfl rfl rfl rfl rfl w

theorem ft_113 (w : World) : Calls Tryz.prog 115 #[.iface 133 (.pointer (some ⟨0, 113, none⟩))] w fun e w' => e = .returned (.agg #[.iface 133 (.pointer (some ⟨0, 113, none⟩)), .int .u64 21, .pointer none, .pointer none, .bool false, .bool false, .bool false, .bool false, .bool false]) ∧ (w.alloc (.cells #[.iface 133 (.pointer (some ⟨0, 113, none⟩)), .int .u64 21, .pointer none, .pointer none, .bool false, .bool false, .bool false, .bool false, .bool false] 42)).alloc (.cells #[.iface 133 (.pointer (some ⟨0, 113, none⟩)), .int .u64 21, .pointer none, .pointer none, .bool false, .bool false, .bool false, .bool false, .bool false] 42) = w' :=
  ft_plain 113 21 kind_113 rfl rfl rfl rfl rfl rfl rfl rfl rfl rfl rfl rfl rfl rfl rfl w

theorem ft_114 (w : World) : Calls Tryz.prog 115 #[.iface 133 (.pointer (some ⟨0, 114, none⟩))] w fun e w' => e = .returned (.agg #[.iface 133 (.pointer (some ⟨0, 114, none⟩)), .int .u64 21, .pointer none, .pointer none, .bool false, .bool false, .bool false, .bool false, .bool false]) ∧ (w.alloc (.cells #[.iface 133 (.pointer (some ⟨0, 114, none⟩)), .int .u64 21, .pointer none, .pointer none, .bool false, .bool false, .bool false, .bool false, .bool false] 42)).alloc (.cells #[.iface 133 (.pointer (some ⟨0, 114, none⟩)), .int .u64 21, .pointer none, .pointer none, .bool false, .bool false, .bool false, .bool false, .bool false] 42) = w' :=
  ft_plain 114 21 kind_114 rfl rfl rfl rfl rfl rfl rfl rfl rfl rfl rfl rfl rfl rfl rfl w

theorem c_60  (w : World) : Calls Tryz.prog 60 #[] w fun e w' => e = .returned (.agg #[Value.iface 133 (Value.pointer (some { block := 0, off := 100 })), Value.int IntKind.u64 21, Value.pointer none, Value.pointer none, Value.bool false, Value.bool false, Value.bool false, Value.bool false, Value.bool false]) ∧ (((w.alloc (Obj.cells #[Value.iface 133 (Value.pointer (some { block := 0, off := 100 })), Value.int IntKind.u64 21, Value.pointer none, Value.pointer none, Value.bool false, Value.bool false, Value.bool false, Value.bool false, Value.bool false] 42)).alloc (Obj.map #[] 0)).alloc (Obj.cells #[Value.iface 133 (Value.pointer (some { block := 0, off := 100 })), Value.int IntKind.u64 21, Value.pointer none, Value.pointer none, Value.bool false, Value.bool false, Value.bool false, Value.bool false, Value.bool false] 42)).alloc (Obj.cells #[Value.iface 133 (Value.pointer (some { block := 0, off := 100 })), Value.int IntKind.u64 21, Value.pointer none, Value.pointer none, Value.bool false, Value.bool false, Value.bool false, Value.bool false, Value.bool false] 42) = w' := by
  go_enter Tryz.func60, Tryz.ntmps60
  go_wp2_with (first | (go_at_call 115; ((with_reducible refine (ft_100 _).mono ?_); rintro e w' ⟨rfl, rfl⟩)))
  exact bodyPost_ret (v := .agg #[Value.iface 133 (Value.pointer (some { block := 0, off := 100 })), Value.int IntKind.u64 21, Value.pointer none, Value.pointer none, Value.bool false, Value.bool false, Value.bool false, Value.bool false, Value.bool false]) (by simp [results, Tryz.results60, go_sem]) rfl ⟨rfl, rfl⟩

theorem c_61  (w : World) : Calls Tryz.prog 61 #[] w fun e w' => e = .returned (.agg #[Value.iface 133 (Value.pointer (some { block := 0, off := 109 })), Value.int IntKind.u64 21, Value.pointer none, Value.pointer none, Value.bool false, Value.bool false, Value.bool false, Value.bool false, Value.bool false]) ∧ (((w.alloc (Obj.cells #[Value.iface 133 (Value.pointer (some { block := 0, off := 109 })), Value.int IntKind.u64 21, Value.pointer none, Value.pointer none, Value.bool false, Value.bool false, Value.bool false, Value.bool false, Value.bool false] 42)).alloc (Obj.map #[] 0)).alloc (Obj.cells #[Value.iface 133 (Value.pointer (some { block := 0, off := 109 })), Value.int IntKind.u64 21, Value.pointer none, Value.pointer none, Value.bool false, Value.bool false, Value.bool false, Value.bool false, Value.bool false] 42)).alloc (Obj.cells #[Value.iface 133 (Value.pointer (some { block := 0, off := 109 })), Value.int IntKind.u64 21, Value.pointer none, Value.pointer none, Value.bool false, Value.bool false, Value.bool false, Value.bool false, Value.bool false] 42) = w' := by
  go_enter Tryz.func61, Tryz.ntmps61
  go_wp2_with (first | (go_at_call 115; ((with_reducible refine (ft_109 _).mono ?_); rintro e w' ⟨rfl, rfl⟩)))
  exact bodyPost_ret (v := .agg #[Value.iface 133 (Value.pointer (some { block := 0, off := 109 })), Value.int IntKind.u64 21, Value.pointer none, Value.pointer none, Value.bool false, Value.bool false, Value.bool false, Value.bool false, Value.bool false]) (by simp [results, Tryz.results61, go_sem]) rfl ⟨rfl, rfl⟩

theorem c_62  (w : World) : Calls Tryz.prog 62 #[] w fun e w' => e = .returned (.agg #[Value.iface 133 (Value.pointer (some { block := 0, off := 110 })), Value.int IntKind.u64 21, Value.pointer none, Value.pointer none, Value.bool false, Value.bool false, Value.bool false, Value.bool false, Value.bool false]) ∧ (((w.alloc (Obj.cells #[Value.iface 133 (Value.pointer (some { block := 0, off := 110 })), Value.int IntKind.u64 21, Value.pointer none, Value.pointer none, Value.bool false, Value.bool false, Value.bool false, Value.bool false, Value.bool false] 42)).alloc (Obj.map #[] 0)).alloc (Obj.cells #[Value.iface 133 (Value.pointer (some { block := 0, off := 110 })), Value.int IntKind.u64 21, Value.pointer none, Value.pointer none, Value.bool false, Value.bool false, Value.bool false, Value.bool false, Value.bool false] 42)).alloc (Obj.cells #[Value.iface 133 (Value.pointer (some { block := 0, off := 110 })), Value.int IntKind.u64 21, Value.pointer none, Value.pointer none, Value.bool false, Value.bool false, Value.bool false, Value.bool false, Value.bool false] 42) = w' := by
  go_enter Tryz.func62, Tryz.ntmps62
  go_wp2_with (first | (go_at_call 115; ((with_reducible refine (ft_110 _).mono ?_); rintro e w' ⟨rfl, rfl⟩)))
  exact bodyPost_ret (v := .agg #[Value.iface 133 (Value.pointer (some { block := 0, off := 110 })), Value.int IntKind.u64 21, Value.pointer none, Value.pointer none, Value.bool false, Value.bool false, Value.bool false, Value.bool false, Value.bool false]) (by simp [results, Tryz.results62, go_sem]) rfl ⟨rfl, rfl⟩

theorem c_63  (w : World) : Calls Tryz.prog 63 #[] w fun e w' => e = .returned (.agg #[Value.iface 133 (Value.pointer (some { block := 0, off := 111 })), Value.int IntKind.u64 21, Value.pointer none, Value.pointer none, Value.bool false, Value.bool false, Value.bool false, Value.bool false, Value.bool false]) ∧ (((w.alloc (Obj.cells #[Value.iface 133 (Value.pointer (some { block := 0, off := 111 })), Value.int IntKind.u64 21, Value.pointer none, Value.pointer none, Value.bool false, Value.bool false, Value.bool false, Value.bool false, Value.bool false] 42)).alloc (Obj.map #[] 0)).alloc (Obj.cells #[Value.iface 133 (Value.pointer (some { block := 0, off := 111 })), Value.int IntKind.u64 21, Value.pointer none, Value.pointer none, Value.bool false, Value.bool false, Value.bool false, Value.bool false, Value.bool false] 42)).alloc (Obj.cells #[Value.iface 133 (Value.pointer (some { block := 0, off := 111 })), Value.int IntKind.u64 21, Value.pointer none, Value.pointer none, Value.bool false, Value.bool false, Value.bool false, Value.bool false, Value.bool false] 42) = w' := by
  go_enter Tryz.func63, Tryz.ntmps63
  go_wp2_with (first | (go_at_call 115; ((with_reducible refine (ft_111 _).mono ?_); rintro e w' ⟨rfl, rfl⟩)))
  exact bodyPost_ret (v := .agg #[Value.iface 133 (Value.pointer (some { block := 0, off := 111 })), Value.int IntKind.u64 21, Value.pointer none, Value.pointer none, Value.bool false, Value.bool false, Value.bool false, Value.bool false, Value.bool false]) (by simp [results, Tryz.results63, go_sem]) rfl ⟨rfl, rfl⟩

theorem c_64  (w : World) : Calls Tryz.prog 64 #[] w fun e w' => e = .returned (.agg #[Value.iface 133 (Value.pointer (some { block := 0, off := 87 })), Value.int IntKind.u64 23, Value.pointer none, Value.pointer none, Value.bool false, Value.bool false, Value.bool false, Value.bool false, Value.bool false]) ∧ (((w.alloc (Obj.cells #[Value.iface 133 (Value.pointer (some { block := 0, off := 87 })), Value.int IntKind.u64 23, Value.pointer none, Value.pointer none, Value.bool false, Value.bool false, Value.bool false, Value.bool false, Value.bool false] 42)).alloc (Obj.cells #[] 20)).alloc (Obj.cells #[Value.iface 133 (Value.pointer (some { block := 0, off := 87 })), Value.int IntKind.u64 23, Value.pointer none, Value.pointer none, Value.bool false, Value.bool false, Value.bool false, Value.bool false, Value.bool false] 42)).alloc (Obj.cells #[Value.iface 133 (Value.pointer (some { block := 0, off := 87 })), Value.int IntKind.u64 23, Value.pointer none, Value.pointer none, Value.bool false, Value.bool false, Value.bool false, Value.bool false, Value.bool false] 42) = w' := by
  go_enter Tryz.func64, Tryz.ntmps64
  go_wp2_with (first | (go_at_call 115; ((with_reducible refine (ft_87 _).mono ?_); rintro e w' ⟨rfl, rfl⟩)))
  exact bodyPost_ret (v := .agg #[Value.iface 133 (Value.pointer (some { block := 0, off := 87 })), Value.int IntKind.u64 23, Value.pointer none, Value.pointer none, Value.bool false, Value.bool false, Value.bool false, Value.bool false, Value.bool false]) (by simp [results, Tryz.results64, go_sem]) rfl ⟨rfl, rfl⟩

theorem c_65  (w : World) : Calls Tryz.prog 65 #[] w fun e w' => e = .returned (.agg #[Value.iface 133 (Value.pointer (some { block := 0, off := 9 })), Value.int IntKind.u64 24, Value.pointer none, Value.pointer none, Value.bool false, Value.bool false, Value.bool false, Value.bool false, Value.bool false]) ∧ ((w.alloc (Obj.cells #[Value.iface 133 (Value.pointer (some { block := 0, off := 9 })), Value.int IntKind.u64 24, Value.pointer none, Value.pointer none, Value.bool false, Value.bool false, Value.bool false, Value.bool false, Value.bool false] 42)).alloc (Obj.cells #[Value.iface 133 (Value.pointer (some { block := 0, off := 9 })), Value.int IntKind.u64 24, Value.pointer none, Value.pointer none, Value.bool false, Value.bool false, Value.bool false, Value.bool false, Value.bool false] 42)).alloc (Obj.cells #[Value.iface 133 (Value.pointer (some { block := 0, off := 9 })), Value.int IntKind.u64 24, Value.pointer none, Value.pointer none, Value.bool false, Value.bool false, Value.bool false, Value.bool false, Value.bool false] 42) = w' := by
  go_enter Tryz.func65, Tryz.ntmps65
  go_wp2_with (first | (go_at_call 115; ((with_reducible refine (ft_9 _).mono ?_); rintro e w' ⟨rfl, rfl⟩)))
  exact bodyPost_ret (v := .agg #[Value.iface 133 (Value.pointer (some { block := 0, off := 9 })), Value.int IntKind.u64 24, Value.pointer none, Value.pointer none, Value.bool false, Value.bool false, Value.bool false, Value.bool false, Value.bool false]) (by simp [results, Tryz.results65, go_sem]) rfl ⟨rfl, rfl⟩

theorem c_66  (w : World) : Calls Tryz.prog 66 #[] w fun e w' => e = .returned (.agg #[Value.iface 133 (Value.pointer (some { block := 0, off := 112 })), Value.int IntKind.u64 22, Value.pointer none, Value.pointer none, Value.bool false, Value.bool false, Value.bool false, Value.bool false, Value.bool false]) ∧ ((w.alloc (Obj.cells #[Value.iface 133 (Value.pointer (some { block := 0, off := 112 })), Value.int IntKind.u64 22, Value.pointer none, Value.pointer none, Value.bool false, Value.bool false, Value.bool false, Value.bool false, Value.bool false] 42)).alloc (Obj.cells #[Value.iface 133 (Value.pointer (some { block := 0, off := 112 })), Value.int IntKind.u64 22, Value.pointer none, Value.pointer none, Value.bool false, Value.bool false, Value.bool false, Value.bool false, Value.bool false] 42)).alloc (Obj.cells #[Value.iface 133 (Value.pointer (some { block := 0, off := 112 })), Value.int IntKind.u64 22, Value.pointer none, Value.pointer none, Value.bool false, Value.bool false, Value.bool false, Value.bool false, Value.bool false] 42) = w' := by
  go_enter Tryz.func66, Tryz.ntmps66
  go_wp2_with (first | (go_at_call 115; ((with_reducible refine (ft_112 _).mono ?_); rintro e w' ⟨rfl, rfl⟩)))
  exact bodyPost_ret (v := .agg #[Value.iface 133 (Value.pointer (some { block := 0, off := 112 })), Value.int IntKind.u64 22, Value.pointer none, Value.pointer none, Value.bool false, Value.bool false, Value.bool false, Value.bool false, Value.bool false]) (by simp [results, Tryz.results66, go_sem]) rfl ⟨rfl, rfl⟩

theorem c_67  (w : World) : Calls Tryz.prog 67 #[] w fun e w' => e = .returned (.agg #[Value.iface 133 (Value.pointer (some { block := 0, off := 113 })), Value.int IntKind.u64 21, Value.pointer none, Value.pointer none, Value.bool false, Value.bool false, Value.bool false, Value.bool false, Value.bool false]) ∧ (((w.alloc (Obj.cells #[Value.iface 133 (Value.pointer (some { block := 0, off := 113 })), Value.int IntKind.u64 21, Value.pointer none, Value.pointer none, Value.bool false, Value.bool false, Value.bool false, Value.bool false, Value.bool false] 42)).alloc (Obj.map #[] 0)).alloc (Obj.cells #[Value.iface 133 (Value.pointer (some { block := 0, off := 113 })), Value.int IntKind.u64 21, Value.pointer none, Value.pointer none, Value.bool false, Value.bool false, Value.bool false, Value.bool false, Value.bool false] 42)).alloc (Obj.cells #[Value.iface 133 (Value.pointer (some { block := 0, off := 113 })), Value.int IntKind.u64 21, Value.pointer none, Value.pointer none, Value.bool false, Value.bool false, Value.bool false, Value.bool false, Value.bool false] 42) = w' := by
  go_enter Tryz.func67, Tryz.ntmps67
  go_wp2_with (first | (go_at_call 115; ((with_reducible refine (ft_113 _).mono ?_); rintro e w' ⟨rfl, rfl⟩)))
  exact bodyPost_ret (v := .agg #[Value.iface 133 (Value.pointer (some { block := 0, off := 113 })), Value.int IntKind.u64 21, Value.pointer none, Value.pointer none, Value.bool false, Value.bool false, Value.bool false, Value.bool false, Value.bool false]) (by simp [results, Tryz.results67, go_sem]) rfl ⟨rfl, rfl⟩

theorem c_68  (w : World) : Calls Tryz.prog 68 #[] w fun e w' => e = .returned (.agg #[Value.iface 133 (Value.pointer (some { block := 0, off := 114 })), Value.int IntKind.u64 21, Value.pointer none, Value.pointer none, Value.bool false, Value.bool false, Value.bool false, Value.bool false, Value.bool false]) ∧ (((w.alloc (Obj.cells #[Value.iface 133 (Value.pointer (some { block := 0, off := 114 })), Value.int IntKind.u64 21, Value.pointer none, Value.pointer none, Value.bool false, Value.bool false, Value.bool false, Value.bool false, Value.bool false] 42)).alloc (Obj.map #[] 0)).alloc (Obj.cells #[Value.iface 133 (Value.pointer (some { block := 0, off := 114 })), Value.int IntKind.u64 21, Value.pointer none, Value.pointer none, Value.bool false, Value.bool false, Value.bool false, Value.bool false, Value.bool false] 42)).alloc (Obj.cells #[Value.iface 133 (Value.pointer (some { block := 0, off := 114 })), Value.int IntKind.u64 21, Value.pointer none, Value.pointer none, Value.bool false, Value.bool false, Value.bool false, Value.bool false, Value.bool false] 42) = w' := by
  go_enter Tryz.func68, Tryz.ntmps68
  go_wp2_with (first | (go_at_call 115; ((with_reducible refine (ft_114 _).mono ?_); rintro e w' ⟨rfl, rfl⟩)))
  exact bodyPost_ret (v := .agg #[Value.iface 133 (Value.pointer (some { block := 0, off := 114 })), Value.int IntKind.u64 21, Value.pointer none, Value.pointer none, Value.bool false, Value.bool false, Value.bool false, Value.bool false, Value.bool false]) (by simp [results, Tryz.results68, go_sem]) rfl ⟨rfl, rfl⟩

@[go_sem] theorem kind_20 (w : World) : (callFunc 230 #[.pointer (some ⟨0, 20, none⟩)]).run Tryz.prog w = .ok (.value (.int .u64 20)) w := by kernel_rfl

@[go_sem] theorem Key_100 (w : World) : (callFunc 229 #[.pointer (some ⟨0, 100, none⟩)]).run Tryz.prog w = .ok (.value (.iface 133 (.pointer (some ⟨0, 9, none⟩)))) w := by kernel_rfl

@[go_sem] theorem Elem_100 (w : World) : (callFunc 218 #[.pointer (some ⟨0, 100, none⟩)]).run Tryz.prog w = .ok (.value (.iface 133 (.pointer (some ⟨0, 20, none⟩)))) w := by kernel_rfl

@[go_sem] theorem kind_3 (w : World) : (callFunc 230 #[.pointer (some ⟨0, 3, none⟩)]).run Tryz.prog w = .ok (.value (.int .u64 2)) w := by kernel_rfl

@[go_sem] theorem Key_109 (w : World) : (callFunc 229 #[.pointer (some ⟨0, 109, none⟩)]).run Tryz.prog w = .ok (.value (.iface 133 (.pointer (some ⟨0, 9, none⟩)))) w := by kernel_rfl

@[go_sem] theorem Elem_109 (w : World) : (callFunc 218 #[.pointer (some ⟨0, 109, none⟩)]).run Tryz.prog w = .ok (.value (.iface 133 (.pointer (some ⟨0, 3, none⟩)))) w := by kernel_rfl

@[go_sem] theorem Key_110 (w : World) : (callFunc 229 #[.pointer (some ⟨0, 110, none⟩)]).run Tryz.prog w = .ok (.value (.iface 133 (.pointer (some ⟨0, 3, none⟩)))) w := by kernel_rfl

@[go_sem] theorem Elem_110 (w : World) : (callFunc 218 #[.pointer (some ⟨0, 110, none⟩)]).run Tryz.prog w = .ok (.value (.iface 133 (.pointer (some ⟨0, 20, none⟩)))) w := by kernel_rfl

@[go_sem] theorem kind_25 (w : World) : (callFunc 230 #[.pointer (some ⟨0, 25, none⟩)]).run Tryz.prog w = .ok (.value (.int .u64 20)) w := by kernel_rfl

@[go_sem] theorem Key_111 (w : World) : (callFunc 229 #[.pointer (some ⟨0, 111, none⟩)]).run Tryz.prog w = .ok (.value (.iface 133 (.pointer (some ⟨0, 9, none⟩)))) w := by kernel_rfl

@[go_sem] theorem Elem_111 (w : World) : (callFunc 218 #[.pointer (some ⟨0, 111, none⟩)]).run Tryz.prog w = .ok (.value (.iface 133 (.pointer (some ⟨0, 25, none⟩)))) w := by kernel_rfl

@[go_sem] theorem Key_113 (w : World) : (callFunc 229 #[.pointer (some ⟨0, 113, none⟩)]).run Tryz.prog w = .ok (.value (.iface 133 (.pointer (some ⟨0, 9, none⟩)))) w := by kernel_rfl

@[go_sem] theorem Elem_113 (w : World) : (callFunc 218 #[.pointer (some ⟨0, 113, none⟩)]).run Tryz.prog w = .ok (.value (.iface 133 (.pointer (some ⟨0, 87, none⟩)))) w := by kernel_rfl

@[go_sem] theorem kind_219 (w : World) : (callFunc 230 #[.pointer (some ⟨0, 219, none⟩)]).run Tryz.prog w = .ok (.value (.int .u64 24)) w := by kernel_rfl

@[go_sem] theorem Key_114 (w : World) : (callFunc 229 #[.pointer (some ⟨0, 114, none⟩)]).run Tryz.prog w = .ok (.value (.iface 133 (.pointer (some ⟨0, 219, none⟩)))) w := by kernel_rfl

@[go_sem] theorem Elem_114 (w : World) : (callFunc 218 #[.pointer (some ⟨0, 114, none⟩)]).run Tryz.prog w = .ok (.value (.iface 133 (.pointer (some ⟨0, 20, none⟩)))) w := by kernel_rfl

theorem sample_0 (a : Int) (h0 : 0 ≤ a) (h1 : a ≤ 255) (h : a % 10 = 0) (w : World) : Calls Tryz.prog 14 #[.int .u8 a] w fun e w' => e = .returned (.agg #[Value.iface 133 (Value.pointer (some { block := 0, off := 100 })), Value.int IntKind.u64 21, Value.pointer none, Value.pointer none, Value.bool false, Value.bool false, Value.bool false, Value.bool false, Value.bool false]) ∧ ((((w.alloc (Obj.cells #[Value.iface 133 (Value.pointer (some { block := 0, off := 100 })), Value.int IntKind.u64 21, Value.pointer none, Value.pointer none, Value.bool false, Value.bool false, Value.bool false, Value.bool false, Value.bool false] 42)).alloc (Obj.cells #[Value.iface 133 (Value.pointer (some { block := 0, off := 100 })), Value.int IntKind.u64 21, Value.pointer none, Value.pointer none, Value.bool false, Value.bool false, Value.bool false, Value.bool false, Value.bool false] 42)).alloc (Obj.map #[] 0)).alloc (Obj.cells #[Value.iface 133 (Value.pointer (some { block := 0, off := 100 })), Value.int IntKind.u64 21, Value.pointer none, Value.pointer none, Value.bool false, Value.bool false, Value.bool false, Value.bool false, Value.bool false] 42)).alloc (Obj.cells #[Value.iface 133 (Value.pointer (some { block := 0, off := 100 })), Value.int IntKind.u64 21, Value.pointer none, Value.pointer none, Value.bool false, Value.bool false, Value.bool false, Value.bool false, Value.bool false] 42) = w' := by
  go_enter Tryz.func14, Tryz.ntmps14
  go_wp2_with (first | (go_at_call 60; ((with_reducible refine (c_60 _).mono ?_); rintro e w' ⟨rfl, rfl⟩)))
  exact bodyPost_ret (v := .agg #[Value.iface 133 (Value.pointer (some { block := 0, off := 100 })), Value.int IntKind.u64 21, Value.pointer none, Value.pointer none, Value.bool false, Value.bool false, Value.bool false, Value.bool false, Value.bool false]) (by simp [results, Tryz.results14, go_sem]) rfl ⟨rfl, rfl⟩

theorem sample_1 (a : Int) (h0 : 0 ≤ a) (h1 : a ≤ 255) (h : a % 10 = 1) (w : World) : Calls Tryz.prog 14 #[.int .u8 a] w fun e w' => e = .returned (.agg #[Value.iface 133 (Value.pointer (some { block := 0, off := 109 })), Value.int IntKind.u64 21, Value.pointer none, Value.pointer none, Value.bool false, Value.bool false, Value.bool false, Value.bool false, Value.bool false]) ∧ ((((w.alloc (Obj.cells #[Value.iface 133 (Value.pointer (some { block := 0, off := 109 })), Value.int IntKind.u64 21, Value.pointer none, Value.pointer none, Value.bool false, Value.bool false, Value.bool false, Value.bool false, Value.bool false] 42)).alloc (Obj.cells #[Value.iface 133 (Value.pointer (some { block := 0, off := 109 })), Value.int IntKind.u64 21, Value.pointer none, Value.pointer none, Value.bool false, Value.bool false, Value.bool false, Value.bool false, Value.bool false] 42)).alloc (Obj.map #[] 0)).alloc (Obj.cells #[Value.iface 133 (Value.pointer (some { block := 0, off := 109 })), Value.int IntKind.u64 21, Value.pointer none, Value.pointer none, Value.bool false, Value.bool false, Value.bool false, Value.bool false, Value.bool false] 42)).alloc (Obj.cells #[Value.iface 133 (Value.pointer (some { block := 0, off := 109 })), Value.int IntKind.u64 21, Value.pointer none, Value.pointer none, Value.bool false, Value.bool false, Value.bool false, Value.bool false, Value.bool false] 42) = w' := by
  go_enter Tryz.func14, Tryz.ntmps14
  go_wp2_with (first | (go_at_call 61; ((with_reducible refine (c_61 _).mono ?_); rintro e w' ⟨rfl, rfl⟩)))
  exact bodyPost_ret (v := .agg #[Value.iface 133 (Value.pointer (some { block := 0, off := 109 })), Value.int IntKind.u64 21, Value.pointer none, Value.pointer none, Value.bool false, Value.bool false, Value.bool false, Value.bool false, Value.bool false]) (by simp [results, Tryz.results14, go_sem]) rfl ⟨rfl, rfl⟩

theorem sample_2 (a : Int) (h0 : 0 ≤ a) (h1 : a ≤ 255) (h : a % 10 = 2) (w : World) : Calls Tryz.prog 14 #[.int .u8 a] w fun e w' => e = .returned (.agg #[Value.iface 133 (Value.pointer (some { block := 0, off := 110 })), Value.int IntKind.u64 21, Value.pointer none, Value.pointer none, Value.bool false, Value.bool false, Value.bool false, Value.bool false, Value.bool false]) ∧ ((((w.alloc (Obj.cells #[Value.iface 133 (Value.pointer (some { block := 0, off := 110 })), Value.int IntKind.u64 21, Value.pointer none, Value.pointer none, Value.bool false, Value.bool false, Value.bool false, Value.bool false, Value.bool false] 42)).alloc (Obj.cells #[Value.iface 133 (Value.pointer (some { block := 0, off := 110 })), Value.int IntKind.u64 21, Value.pointer none, Value.pointer none, Value.bool false, Value.bool false, Value.bool false, Value.bool false, Value.bool false] 42)).alloc (Obj.map #[] 0)).alloc (Obj.cells #[Value.iface 133 (Value.pointer (some { block := 0, off := 110 })), Value.int IntKind.u64 21, Value.pointer none, Value.pointer none, Value.bool false, Value.bool false, Value.bool false, Value.bool false, Value.bool false] 42)).alloc (Obj.cells #[Value.iface 133 (Value.pointer (some { block := 0, off := 110 })), Value.int IntKind.u64 21, Value.pointer none, Value.pointer none, Value.bool false, Value.bool false, Value.bool false, Value.bool false, Value.bool false] 42) = w' := by
  go_enter Tryz.func14, Tryz.ntmps14
  go_wp2_with (first | (go_at_call 62; ((with_reducible refine (c_62 _).mono ?_); rintro e w' ⟨rfl, rfl⟩)))
  exact bodyPost_ret (v := .agg #[Value.iface 133 (Value.pointer (some { block := 0, off := 110 })), Value.int IntKind.u64 21, Value.pointer none, Value.pointer none, Value.bool false, Value.bool false, Value.bool false, Value.bool false, Value.bool false]) (by simp [results, Tryz.results14, go_sem]) rfl ⟨rfl, rfl⟩

theorem sample_3 (a : Int) (h0 : 0 ≤ a) (h1 : a ≤ 255) (h : a % 10 = 3) (w : World) : Calls Tryz.prog 14 #[.int .u8 a] w fun e w' => e = .returned (.agg #[Value.iface 133 (Value.pointer (some { block := 0, off := 111 })), Value.int IntKind.u64 21, Value.pointer none, Value.pointer none, Value.bool false, Value.bool false, Value.bool false, Value.bool false, Value.bool false]) ∧ ((((w.alloc (Obj.cells #[Value.iface 133 (Value.pointer (some { block := 0, off := 111 })), Value.int IntKind.u64 21, Value.pointer none, Value.pointer none, Value.bool false, Value.bool false, Value.bool false, Value.bool false, Value.bool false] 42)).alloc (Obj.cells #[Value.iface 133 (Value.pointer (some { block := 0, off := 111 })), Value.int IntKind.u64 21, Value.pointer none, Value.pointer none, Value.bool false, Value.bool false, Value.bool false, Value.bool false, Value.bool false] 42)).alloc (Obj.map #[] 0)).alloc (Obj.cells #[Value.iface 133 (Value.pointer (some { block := 0, off := 111 })), Value.int IntKind.u64 21, Value.pointer none, Value.pointer none, Value.bool false, Value.bool false, Value.bool false, Value.bool false, Value.bool false] 42)).alloc (Obj.cells #[Value.iface 133 (Value.pointer (some { block := 0, off := 111 })), Value.int IntKind.u64 21, Value.pointer none, Value.pointer none, Value.bool false, Value.bool false, Value.bool false, Value.bool false, Value.bool false] 42) = w' := by
  go_enter Tryz.func14, Tryz.ntmps14
  go_wp2_with (first | (go_at_call 63; ((with_reducible refine (c_63 _).mono ?_); rintro e w' ⟨rfl, rfl⟩)))
  exact bodyPost_ret (v := .agg #[Value.iface 133 (Value.pointer (some { block := 0, off := 111 })), Value.int IntKind.u64 21, Value.pointer none, Value.pointer none, Value.bool false, Value.bool false, Value.bool false, Value.bool false, Value.bool false]) (by simp [results, Tryz.results14, go_sem]) rfl ⟨rfl, rfl⟩

theorem sample_4 (a : Int) (h0 : 0 ≤ a) (h1 : a ≤ 255) (h : a % 10 = 4) (w : World) : Calls Tryz.prog 14 #[.int .u8 a] w fun e w' => e = .returned (.agg #[Value.iface 133 (Value.pointer (some { block := 0, off := 87 })), Value.int IntKind.u64 23, Value.pointer none, Value.pointer none, Value.bool false, Value.bool false, Value.bool false, Value.bool false, Value.bool false]) ∧ ((((w.alloc (Obj.cells #[Value.iface 133 (Value.pointer (some { block := 0, off := 87 })), Value.int IntKind.u64 23, Value.pointer none, Value.pointer none, Value.bool false, Value.bool false, Value.bool false, Value.bool false, Value.bool false] 42)).alloc (Obj.cells #[Value.iface 133 (Value.pointer (some { block := 0, off := 87 })), Value.int IntKind.u64 23, Value.pointer none, Value.pointer none, Value.bool false, Value.bool false, Value.bool false, Value.bool false, Value.bool false] 42)).alloc (Obj.cells #[] 20)).alloc (Obj.cells #[Value.iface 133 (Value.pointer (some { block := 0, off := 87 })), Value.int IntKind.u64 23, Value.pointer none, Value.pointer none, Value.bool false, Value.bool false, Value.bool false, Value.bool false, Value.bool false] 42)).alloc (Obj.cells #[Value.iface 133 (Value.pointer (some { block := 0, off := 87 })), Value.int IntKind.u64 23, Value.pointer none, Value.pointer none, Value.bool false, Value.bool false, Value.bool false, Value.bool false, Value.bool false] 42) = w' := by
  go_enter Tryz.func14, Tryz.ntmps14
  go_wp2_with (first | (go_at_call 64; ((with_reducible refine (c_64 _).mono ?_); rintro e w' ⟨rfl, rfl⟩)))
  exact bodyPost_ret (v := .agg #[Value.iface 133 (Value.pointer (some { block := 0, off := 87 })), Value.int IntKind.u64 23, Value.pointer none, Value.pointer none, Value.bool false, Value.bool false, Value.bool false, Value.bool false, Value.bool false]) (by simp [results, Tryz.results14, go_sem]) rfl ⟨rfl, rfl⟩

theorem sample_5 (a : Int) (h0 : 0 ≤ a) (h1 : a ≤ 255) (h : a % 10 = 5) (w : World) : Calls Tryz.prog 14 #[.int .u8 a] w fun e w' => e = .returned (.agg #[Value.iface 133 (Value.pointer (some { block := 0, off := 9 })), Value.int IntKind.u64 24, Value.pointer none, Value.pointer none, Value.bool false, Value.bool false, Value.bool false, Value.bool false, Value.bool false]) ∧ (((w.alloc (Obj.cells #[Value.iface 133 (Value.pointer (some { block := 0, off := 9 })), Value.int IntKind.u64 24, Value.pointer none, Value.pointer none, Value.bool false, Value.bool false, Value.bool false, Value.bool false, Value.bool false] 42)).alloc (Obj.cells #[Value.iface 133 (Value.pointer (some { block := 0, off := 9 })), Value.int IntKind.u64 24, Value.pointer none, Value.pointer none, Value.bool false, Value.bool false, Value.bool false, Value.bool false, Value.bool false] 42)).alloc (Obj.cells #[Value.iface 133 (Value.pointer (some { block := 0, off := 9 })), Value.int IntKind.u64 24, Value.pointer none, Value.pointer none, Value.bool false, Value.bool false, Value.bool false, Value.bool false, Value.bool false] 42)).alloc (Obj.cells #[Value.iface 133 (Value.pointer (some { block := 0, off := 9 })), Value.int IntKind.u64 24, Value.pointer none, Value.pointer none, Value.bool false, Value.bool false, Value.bool false, Value.bool false, Value.bool false] 42) = w' := by
  go_enter Tryz.func14, Tryz.ntmps14
  go_wp2_with (first | (go_at_call 65; ((with_reducible refine (c_65 _).mono ?_); rintro e w' ⟨rfl, rfl⟩)))
  exact bodyPost_ret (v := .agg #[Value.iface 133 (Value.pointer (some { block := 0, off := 9 })), Value.int IntKind.u64 24, Value.pointer none, Value.pointer none, Value.bool false, Value.bool false, Value.bool false, Value.bool false, Value.bool false]) (by simp [results, Tryz.results14, go_sem]) rfl ⟨rfl, rfl⟩

theorem sample_6 (a : Int) (h0 : 0 ≤ a) (h1 : a ≤ 255) (h : a % 10 = 6) (w : World) : Calls Tryz.prog 14 #[.int .u8 a] w fun e w' => e = .returned (.agg #[Value.iface 133 (Value.pointer (some { block := 0, off := 112 })), Value.int IntKind.u64 22, Value.pointer none, Value.pointer none, Value.bool false, Value.bool false, Value.bool false, Value.bool false, Value.bool false]) ∧ (((w.alloc (Obj.cells #[Value.iface 133 (Value.pointer (some { block := 0, off := 112 })), Value.int IntKind.u64 22, Value.pointer none, Value.pointer none, Value.bool false, Value.bool false, Value.bool false, Value.bool false, Value.bool false] 42)).alloc (Obj.cells #[Value.iface 133 (Value.pointer (some { block := 0, off := 112 })), Value.int IntKind.u64 22, Value.pointer none, Value.pointer none, Value.bool false, Value.bool false, Value.bool false, Value.bool false, Value.bool false] 42)).alloc (Obj.cells #[Value.iface 133 (Value.pointer (some { block := 0, off := 112 })), Value.int IntKind.u64 22, Value.pointer none, Value.pointer none, Value.bool false, Value.bool false, Value.bool false, Value.bool false, Value.bool false] 42)).alloc (Obj.cells #[Value.iface 133 (Value.pointer (some { block := 0, off := 112 })), Value.int IntKind.u64 22, Value.pointer none, Value.pointer none, Value.bool false, Value.bool false, Value.bool false, Value.bool false, Value.bool false] 42) = w' := by
  go_enter Tryz.func14, Tryz.ntmps14
  go_wp2_with (first | (go_at_call 66; ((with_reducible refine (c_66 _).mono ?_); rintro e w' ⟨rfl, rfl⟩)))
  exact bodyPost_ret (v := .agg #[Value.iface 133 (Value.pointer (some { block := 0, off := 112 })), Value.int IntKind.u64 22, Value.pointer none, Value.pointer none, Value.bool false, Value.bool false, Value.bool false, Value.bool false, Value.bool false]) (by simp [results, Tryz.results14, go_sem]) rfl ⟨rfl, rfl⟩

theorem sample_7 (a : Int) (h0 : 0 ≤ a) (h1 : a ≤ 255) (h : a % 10 = 7) (w : World) : Calls Tryz.prog 14 #[.int .u8 a] w fun e w' => e = .returned (.agg #[Value.iface 133 (Value.pointer (some { block := 0, off := 113 })), Value.int IntKind.u64 21, Value.pointer none, Value.pointer none, Value.bool false, Value.bool false, Value.bool false, Value.bool false, Value.bool false]) ∧ ((((w.alloc (Obj.cells #[Value.iface 133 (Value.pointer (some { block := 0, off := 113 })), Value.int IntKind.u64 21, Value.pointer none, Value.pointer none, Value.bool false, Value.bool false, Value.bool false, Value.bool false, Value.bool false] 42)).alloc (Obj.cells #[Value.iface 133 (Value.pointer (some { block := 0, off := 113 })), Value.int IntKind.u64 21, Value.pointer none, Value.pointer none, Value.bool false, Value.bool false, Value.bool false, Value.bool false, Value.bool false] 42)).alloc (Obj.map #[] 0)).alloc (Obj.cells #[Value.iface 133 (Value.pointer (some { block := 0, off := 113 })), Value.int IntKind.u64 21, Value.pointer none, Value.pointer none, Value.bool false, Value.bool false, Value.bool false, Value.bool false, Value.bool false] 42)).alloc (Obj.cells #[Value.iface 133 (Value.pointer (some { block := 0, off := 113 })), Value.int IntKind.u64 21, Value.pointer none, Value.pointer none, Value.bool false, Value.bool false, Value.bool false, Value.bool false, Value.bool false] 42) = w' := by
  go_enter Tryz.func14, Tryz.ntmps14
  go_wp2_with (first | (go_at_call 67; ((with_reducible refine (c_67 _).mono ?_); rintro e w' ⟨rfl, rfl⟩)))
  exact bodyPost_ret (v := .agg #[Value.iface 133 (Value.pointer (some { block := 0, off := 113 })), Value.int IntKind.u64 21, Value.pointer none, Value.pointer none, Value.bool false, Value.bool false, Value.bool false, Value.bool false, Value.bool false]) (by simp [results, Tryz.results14, go_sem]) rfl ⟨rfl, rfl⟩

theorem sample_8 (a : Int) (h0 : 0 ≤ a) (h1 : a ≤ 255) (h : a % 10 = 8) (w : World) : Calls Tryz.prog 14 #[.int .u8 a] w fun e w' => e = .returned (.agg #[Value.iface 133 (Value.pointer (some { block := 0, off := 114 })), Value.int IntKind.u64 21, Value.pointer none, Value.pointer none, Value.bool false, Value.bool false, Value.bool false, Value.bool false, Value.bool false]) ∧ ((((w.alloc (Obj.cells #[Value.iface 133 (Value.pointer (some { block := 0, off := 114 })), Value.int IntKind.u64 21, Value.pointer none, Value.pointer none, Value.bool false, Value.bool false, Value.bool false, Value.bool false, Value.bool false] 42)).alloc (Obj.cells #[Value.iface 133 (Value.pointer (some { block := 0, off := 114 })), Value.int IntKind.u64 21, Value.pointer none, Value.pointer none, Value.bool false, Value.bool false, Value.bool false, Value.bool false, Value.bool false] 42)).alloc (Obj.map #[] 0)).alloc (Obj.cells #[Value.iface 133 (Value.pointer (some { block := 0, off := 114 })), Value.int IntKind.u64 21, Value.pointer none, Value.pointer none, Value.bool false, Value.bool false, Value.bool false, Value.bool false, Value.bool false] 42)).alloc (Obj.cells #[Value.iface 133 (Value.pointer (some { block := 0, off := 114 })), Value.int IntKind.u64 21, Value.pointer none, Value.pointer none, Value.bool false, Value.bool false, Value.bool false, Value.bool false, Value.bool false] 42) = w' := by
  go_enter Tryz.func14, Tryz.ntmps14
  go_wp2_with (first | (go_at_call 68; ((with_reducible refine (c_68 _).mono ?_); rintro e w' ⟨rfl, rfl⟩)))
  exact bodyPost_ret (v := .agg #[Value.iface 133 (Value.pointer (some { block := 0, off := 114 })), Value.int IntKind.u64 21, Value.pointer none, Value.pointer none, Value.bool false, Value.bool false, Value.bool false, Value.bool false, Value.bool false]) (by simp [results, Tryz.results14, go_sem]) rfl ⟨rfl, rfl⟩

theorem sample_9 (a : Int) (h0 : 0 ≤ a) (h1 : a ≤ 255) (h : a % 10 = 9) (w : World) : Calls Tryz.prog 14 #[.int .u8 a] w fun e w' => e = .returned (.agg #[Value.nilIface, Value.int IntKind.u64 0, Value.pointer none, Value.pointer none, Value.bool false, Value.bool false, Value.bool false, Value.bool false, Value.bool false]) ∧ w.alloc (Obj.cells #[Value.nilIface, Value.int IntKind.u64 0, Value.pointer none, Value.pointer none, Value.bool false, Value.bool false, Value.bool false, Value.bool false, Value.bool false] 42) = w' := by
  go_enter Tryz.func14, Tryz.ntmps14
  go_wp2
  exact bodyPost_ret (v := .agg #[Value.nilIface, Value.int IntKind.u64 0, Value.pointer none, Value.pointer none, Value.bool false, Value.bool false, Value.bool false, Value.bool false, Value.bool false]) (by simp [results, Tryz.results14, go_sem]) rfl ⟨rfl, rfl⟩
theorem case_0_true (a k : Int) (b1 b2 b3 : Bool) (h0 : 0 ≤ a) (h1 : a ≤ 255) (h : a % 10 = 0) (w : World) : Calls Tryz.prog 13 #[.int .u8 a, .int .u64 k, .bool b1, .bool b2, .bool b3, .bool true] w fun e w' => e = .returned (.bool true) ∧ Below w.heap.size w w' := by
  go_enter Tryz.func13, Tryz.ntmps13
  go_wp2_with (first | (go_at_call 14; ((with_reducible refine (sample_0 _ h0 h1 h _).mono ?_); rintro e w' ⟨rfl, rfl⟩)) | (go_at_call 15; go_in) | (go_at_call 16; go_in) | (go_at_call 59; go_in))
  go_ret
  refine ⟨rfl, ?_⟩
  repeat (refine Below.alloc ?_ (by simp <;> omega) _)
  exact Below.refl _ _
theorem case_0_false (a k : Int) (b1 b2 b3 : Bool) (h0 : 0 ≤ a) (h1 : a ≤ 255) (h : a % 10 = 0) (w : World) : Calls Tryz.prog 13 #[.int .u8 a, .int .u64 k, .bool b1, .bool b2, .bool b3, .bool false] w fun e w' => e = .returned (.bool true) ∧ Below w.heap.size w w' := by
  go_enter Tryz.func13, Tryz.ntmps13
  go_wp2_with (first | (go_at_call 14; ((with_reducible refine (sample_0 _ h0 h1 h _).mono ?_); rintro e w' ⟨rfl, rfl⟩)) | (go_at_call 15; go_in) | (go_at_call 16; go_in) | (go_at_call 59; go_in))
  go_ret
  refine ⟨rfl, ?_⟩
  repeat (refine Below.alloc ?_ (by simp <;> omega) _)
  exact Below.refl _ _
theorem case_1_true (a k : Int) (b1 b2 b3 : Bool) (h0 : 0 ≤ a) (h1 : a ≤ 255) (h : a % 10 = 1) (w : World) : Calls Tryz.prog 13 #[.int .u8 a, .int .u64 k, .bool b1, .bool b2, .bool b3, .bool true] w fun e w' => e = .returned (.bool true) ∧ Below w.heap.size w w' := by
  go_enter Tryz.func13, Tryz.ntmps13
  go_wp2_with (first | (go_at_call 14; ((with_reducible refine (sample_1 _ h0 h1 h _).mono ?_); rintro e w' ⟨rfl, rfl⟩)) | (go_at_call 15; go_in) | (go_at_call 16; go_in) | (go_at_call 59; go_in))
  go_ret
  refine ⟨rfl, ?_⟩
  repeat (refine Below.alloc ?_ (by simp <;> omega) _)
  exact Below.refl _ _
theorem case_1_false (a k : Int) (b1 b2 b3 : Bool) (h0 : 0 ≤ a) (h1 : a ≤ 255) (h : a % 10 = 1) (w : World) : Calls Tryz.prog 13 #[.int .u8 a, .int .u64 k, .bool b1, .bool b2, .bool b3, .bool false] w fun e w' => e = .returned (.bool true) ∧ Below w.heap.size w w' := by
  go_enter Tryz.func13, Tryz.ntmps13
  go_wp2_with (first | (go_at_call 14; ((with_reducible refine (sample_1 _ h0 h1 h _).mono ?_); rintro e w' ⟨rfl, rfl⟩)) | (go_at_call 15; go_in) | (go_at_call 16; go_in) | (go_at_call 59; go_in))
  go_ret
  refine ⟨rfl, ?_⟩
  repeat (refine Below.alloc ?_ (by simp <;> omega) _)
  exact Below.refl _ _
theorem case_2_true (a k : Int) (b1 b2 b3 : Bool) (h0 : 0 ≤ a) (h1 : a ≤ 255) (h : a % 10 = 2) (w : World) : Calls Tryz.prog 13 #[.int .u8 a, .int .u64 k, .bool b1, .bool b2, .bool b3, .bool true] w fun e w' => e = .returned (.bool true) ∧ Below w.heap.size w w' := by
  go_enter Tryz.func13, Tryz.ntmps13
  go_wp2_with (first | (go_at_call 14; ((with_reducible refine (sample_2 _ h0 h1 h _).mono ?_); rintro e w' ⟨rfl, rfl⟩)) | (go_at_call 15; go_in) | (go_at_call 16; go_in) | (go_at_call 59; go_in))
  go_ret
  refine ⟨rfl, ?_⟩
  repeat (refine Below.alloc ?_ (by simp <;> omega) _)
  exact Below.refl _ _
theorem case_2_false (a k : Int) (b1 b2 b3 : Bool) (h0 : 0 ≤ a) (h1 : a ≤ 255) (h : a % 10 = 2) (w : World) : Calls Tryz.prog 13 #[.int .u8 a, .int .u64 k, .bool b1, .bool b2, .bool b3, .bool false] w fun e w' => e = .returned (.bool true) ∧ Below w.heap.size w w' := by
  go_enter Tryz.func13, Tryz.ntmps13
  go_wp2_with (first | (go_at_call 14; ((with_reducible refine (sample_2 _ h0 h1 h _).mono ?_); rintro e w' ⟨rfl, rfl⟩)) | (go_at_call 15; go_in) | (go_at_call 16; go_in) | (go_at_call 59; go_in))
  go_ret
  refine ⟨rfl, ?_⟩
  repeat (refine Below.alloc ?_ (by simp <;> omega) _)
  exact Below.refl _ _
theorem case_3_true (a k : Int) (b1 b2 b3 : Bool) (h0 : 0 ≤ a) (h1 : a ≤ 255) (h : a % 10 = 3) (w : World) : Calls Tryz.prog 13 #[.int .u8 a, .int .u64 k, .bool b1, .bool b2, .bool b3, .bool true] w fun e w' => e = .returned (.bool true) ∧ Below w.heap.size w w' := by
  go_enter Tryz.func13, Tryz.ntmps13
  go_wp2_with (first | (go_at_call 14; ((with_reducible refine (sample_3 _ h0 h1 h _).mono ?_); rintro e w' ⟨rfl, rfl⟩)) | (go_at_call 15; go_in) | (go_at_call 16; go_in) | (go_at_call 59; go_in))
  go_ret
  refine ⟨rfl, ?_⟩
  repeat (refine Below.alloc ?_ (by simp <;> omega) _)
  exact Below.refl _ _
theorem case_3_false (a k : Int) (b1 b2 b3 : Bool) (h0 : 0 ≤ a) (h1 : a ≤ 255) (h : a % 10 = 3) (w : World) : Calls Tryz.prog 13 #[.int .u8 a, .int .u64 k, .bool b1, .bool b2, .bool b3, .bool false] w fun e w' => e = .returned (.bool true) ∧ Below w.heap.size w w' := by
  go_enter Tryz.func13, Tryz.ntmps13
  go_wp2_with (first | (go_at_call 14; ((with_reducible refine (sample_3 _ h0 h1 h _).mono ?_); rintro e w' ⟨rfl, rfl⟩)) | (go_at_call 15; go_in) | (go_at_call 16; go_in) | (go_at_call 59; go_in))
  go_ret
  refine ⟨rfl, ?_⟩
  repeat (refine Below.alloc ?_ (by simp <;> omega) _)
  exact Below.refl _ _
theorem case_4_true (a k : Int) (b1 b2 b3 : Bool) (h0 : 0 ≤ a) (h1 : a ≤ 255) (h : a % 10 = 4) (w : World) : Calls Tryz.prog 13 #[.int .u8 a, .int .u64 k, .bool b1, .bool b2, .bool b3, .bool true] w fun e w' => e = .returned (.bool true) ∧ Below w.heap.size w w' := by
  go_enter Tryz.func13, Tryz.ntmps13
  go_wp2_with (first | (go_at_call 14; ((with_reducible refine (sample_4 _ h0 h1 h _).mono ?_); rintro e w' ⟨rfl, rfl⟩)) | (go_at_call 15; go_in) | (go_at_call 16; go_in) | (go_at_call 59; go_in))
  go_ret
  refine ⟨rfl, ?_⟩
  repeat (refine Below.alloc ?_ (by simp <;> omega) _)
  exact Below.refl _ _
theorem case_4_false (a k : Int) (b1 b2 b3 : Bool) (h0 : 0 ≤ a) (h1 : a ≤ 255) (h : a % 10 = 4) (w : World) : Calls Tryz.prog 13 #[.int .u8 a, .int .u64 k, .bool b1, .bool b2, .bool b3, .bool false] w fun e w' => e = .returned (.bool true) ∧ Below w.heap.size w w' := by
  go_enter Tryz.func13, Tryz.ntmps13
  go_wp2_with (first | (go_at_call 14; ((with_reducible refine (sample_4 _ h0 h1 h _).mono ?_); rintro e w' ⟨rfl, rfl⟩)) | (go_at_call 15; go_in) | (go_at_call 16; go_in) | (go_at_call 59; go_in))
  go_ret
  refine ⟨rfl, ?_⟩
  repeat (refine Below.alloc ?_ (by simp <;> omega) _)
  exact Below.refl _ _
theorem case_5_true (a k : Int) (b1 b2 b3 : Bool) (h0 : 0 ≤ a) (h1 : a ≤ 255) (h : a % 10 = 5) (w : World) : Calls Tryz.prog 13 #[.int .u8 a, .int .u64 k, .bool b1, .bool b2, .bool b3, .bool true] w fun e w' => e = .returned (.bool true) ∧ Below w.heap.size w w' := by
  go_enter Tryz.func13, Tryz.ntmps13
  go_wp2_with (first | (go_at_call 14; ((with_reducible refine (sample_5 _ h0 h1 h _).mono ?_); rintro e w' ⟨rfl, rfl⟩)) | (go_at_call 15; go_in) | (go_at_call 16; go_in) | (go_at_call 59; go_in))
  go_ret
  refine ⟨rfl, ?_⟩
  repeat (refine Below.alloc ?_ (by simp <;> omega) _)
  exact Below.refl _ _
theorem case_5_false (a k : Int) (b1 b2 b3 : Bool) (h0 : 0 ≤ a) (h1 : a ≤ 255) (h : a % 10 = 5) (w : World) : Calls Tryz.prog 13 #[.int .u8 a, .int .u64 k, .bool b1, .bool b2, .bool b3, .bool false] w fun e w' => e = .returned (.bool true) ∧ Below w.heap.size w w' := by
  go_enter Tryz.func13, Tryz.ntmps13
  go_wp2_with (first | (go_at_call 14; ((with_reducible refine (sample_5 _ h0 h1 h _).mono ?_); rintro e w' ⟨rfl, rfl⟩)) | (go_at_call 15; go_in) | (go_at_call 16; go_in) | (go_at_call 59; go_in))
  go_ret
  refine ⟨rfl, ?_⟩
  repeat (refine Below.alloc ?_ (by simp <;> omega) _)
  exact Below.refl _ _
theorem case_6_true (a k : Int) (b1 b2 b3 : Bool) (h0 : 0 ≤ a) (h1 : a ≤ 255) (h : a % 10 = 6) (w : World) : Calls Tryz.prog 13 #[.int .u8 a, .int .u64 k, .bool b1, .bool b2, .bool b3, .bool true] w fun e w' => e = .returned (.bool true) ∧ Below w.heap.size w w' := by
  go_enter Tryz.func13, Tryz.ntmps13
  go_wp2_with (first | (go_at_call 14; ((with_reducible refine (sample_6 _ h0 h1 h _).mono ?_); rintro e w' ⟨rfl, rfl⟩)) | (go_at_call 15; go_in) | (go_at_call 16; go_in) | (go_at_call 59; go_in))
  go_ret
  refine ⟨rfl, ?_⟩
  repeat (refine Below.alloc ?_ (by simp <;> omega) _)
  exact Below.refl _ _
theorem case_6_false (a k : Int) (b1 b2 b3 : Bool) (h0 : 0 ≤ a) (h1 : a ≤ 255) (h : a % 10 = 6) (w : World) : Calls Tryz.prog 13 #[.int .u8 a, .int .u64 k, .bool b1, .bool b2, .bool b3, .bool false] w fun e w' => e = .returned (.bool true) ∧ Below w.heap.size w w' := by
  go_enter Tryz.func13, Tryz.ntmps13
  go_wp2_with (first | (go_at_call 14; ((with_reducible refine (sample_6 _ h0 h1 h _).mono ?_); rintro e w' ⟨rfl, rfl⟩)) | (go_at_call 15; go_in) | (go_at_call 16; go_in) | (go_at_call 59; go_in))
  go_ret
  refine ⟨rfl, ?_⟩
  repeat (refine Below.alloc ?_ (by simp <;> omega) _)
  exact Below.refl _ _
theorem case_7_true (a k : Int) (b1 b2 b3 : Bool) (h0 : 0 ≤ a) (h1 : a ≤ 255) (h : a % 10 = 7) (w : World) : Calls Tryz.prog 13 #[.int .u8 a, .int .u64 k, .bool b1, .bool b2, .bool b3, .bool true] w fun e w' => e = .returned (.bool true) ∧ Below w.heap.size w w' := by
  go_enter Tryz.func13, Tryz.ntmps13
  go_wp2_with (first | (go_at_call 14; ((with_reducible refine (sample_7 _ h0 h1 h _).mono ?_); rintro e w' ⟨rfl, rfl⟩)) | (go_at_call 15; go_in) | (go_at_call 16; go_in) | (go_at_call 59; go_in))
  go_ret
  refine ⟨rfl, ?_⟩
  repeat (refine Below.alloc ?_ (by simp <;> omega) _)
  exact Below.refl _ _
theorem case_7_false (a k : Int) (b1 b2 b3 : Bool) (h0 : 0 ≤ a) (h1 : a ≤ 255) (h : a % 10 = 7) (w : World) : Calls Tryz.prog 13 #[.int .u8 a, .int .u64 k, .bool b1, .bool b2, .bool b3, .bool false] w fun e w' => e = .returned (.bool true) ∧ Below w.heap.size w w' := by
  go_enter Tryz.func13, Tryz.ntmps13
  go_wp2_with (first | (go_at_call 14; ((with_reducible refine (sample_7 _ h0 h1 h _).mono ?_); rintro e w' ⟨rfl, rfl⟩)) | (go_at_call 15; go_in) | (go_at_call 16; go_in) | (go_at_call 59; go_in))
  go_ret
  refine ⟨rfl, ?_⟩
  repeat (refine Below.alloc ?_ (by simp <;> omega) _)
  exact Below.refl _ _
theorem case_8_true (a k : Int) (b1 b2 b3 : Bool) (h0 : 0 ≤ a) (h1 : a ≤ 255) (h : a % 10 = 8) (w : World) : Calls Tryz.prog 13 #[.int .u8 a, .int .u64 k, .bool b1, .bool b2, .bool b3, .bool true] w fun e w' => e = .returned (.bool true) ∧ Below w.heap.size w w' := by
  go_enter Tryz.func13, Tryz.ntmps13
  go_wp2_with (first | (go_at_call 14; ((with_reducible refine (sample_8 _ h0 h1 h _).mono ?_); rintro e w' ⟨rfl, rfl⟩)) | (go_at_call 15; go_in) | (go_at_call 16; go_in) | (go_at_call 59; go_in))
  go_ret
  refine ⟨rfl, ?_⟩
  repeat (refine Below.alloc ?_ (by simp <;> omega) _)
  exact Below.refl _ _
theorem case_8_false (a k : Int) (b1 b2 b3 : Bool) (h0 : 0 ≤ a) (h1 : a ≤ 255) (h : a % 10 = 8) (w : World) : Calls Tryz.prog 13 #[.int .u8 a, .int .u64 k, .bool b1, .bool b2, .bool b3, .bool false] w fun e w' => e = .returned (.bool true) ∧ Below w.heap.size w w' := by
  go_enter Tryz.func13, Tryz.ntmps13
  go_wp2_with (first | (go_at_call 14; ((with_reducible refine (sample_8 _ h0 h1 h _).mono ?_); rintro e w' ⟨rfl, rfl⟩)) | (go_at_call 15; go_in) | (go_at_call 16; go_in) | (go_at_call 59; go_in))
  go_ret
  refine ⟨rfl, ?_⟩
  repeat (refine Below.alloc ?_ (by simp <;> omega) _)
  exact Below.refl _ _
theorem case_9_true (a k : Int) (b1 b2 b3 : Bool) (h0 : 0 ≤ a) (h1 : a ≤ 255) (h : a % 10 = 9) (w : World) : Calls Tryz.prog 13 #[.int .u8 a, .int .u64 k, .bool b1, .bool b2, .bool b3, .bool true] w fun e w' => e = .returned (.bool true) ∧ Below w.heap.size w w' := by
  go_enter Tryz.func13, Tryz.ntmps13
  go_wp2_with (first | (go_at_call 14; ((with_reducible refine (sample_9 _ h0 h1 h _).mono ?_); rintro e w' ⟨rfl, rfl⟩)) | (go_at_call 15; go_in) | (go_at_call 16; go_in) | (go_at_call 59; go_in))
  go_ret
  refine ⟨rfl, ?_⟩
  repeat (refine Below.alloc ?_ (by simp <;> omega) _)
  exact Below.refl _ _
theorem case_9_false (a k : Int) (b1 b2 b3 : Bool) (h0 : 0 ≤ a) (h1 : a ≤ 255) (h : a % 10 = 9) (w : World) : Calls Tryz.prog 13 #[.int .u8 a, .int .u64 k, .bool b1, .bool b2, .bool b3, .bool false] w fun e w' => e = .returned (.bool true) ∧ Below w.heap.size w w' := by
  go_enter Tryz.func13, Tryz.ntmps13
  go_wp2_with (first | (go_at_call 14; ((with_reducible refine (sample_9 _ h0 h1 h _).mono ?_); rintro e w' ⟨rfl, rfl⟩)) | (go_at_call 15; go_in) | (go_at_call 16; go_in) | (go_at_call 59; go_in))
  go_ret
  refine ⟨rfl, ?_⟩
  repeat (refine Below.alloc ?_ (by simp <;> omega) _)
  exact Below.refl _ _
theorem walk (a k : Int) (b1 b2 b3 b4 : Bool) (w : World) (w0 : (Lit.int .u8 a).wf = true) (w1 : (Lit.int .u64 k).wf = true) : Calls Tryz.prog 13 #[.int .u8 a, .int .u64 k, .bool b1, .bool b2, .bool b3, .bool b4] w fun e w' => e = .returned (.bool true) ∧ Below w.heap.size w w' := by
  obtain ⟨h0, h1⟩ := bounds_u8 w0
  have hs : a % 10 = 0 ∨ a % 10 = 1 ∨ a % 10 = 2 ∨ a % 10 = 3 ∨ a % 10 = 4 ∨ a % 10 = 5 ∨ a % 10 = 6 ∨ a % 10 = 7 ∨ a % 10 = 8 ∨ a % 10 = 9 := by omega
  cases b4
  · rcases hs with h | h | h | h | h | h | h | h | h | h
    · exact case_0_false a k b1 b2 b3 h0 h1 h w
    · exact case_1_false a k b1 b2 b3 h0 h1 h w
    · exact case_2_false a k b1 b2 b3 h0 h1 h w
    · exact case_3_false a k b1 b2 b3 h0 h1 h w
    · exact case_4_false a k b1 b2 b3 h0 h1 h w
    · exact case_5_false a k b1 b2 b3 h0 h1 h w
    · exact case_6_false a k b1 b2 b3 h0 h1 h w
    · exact case_7_false a k b1 b2 b3 h0 h1 h w
    · exact case_8_false a k b1 b2 b3 h0 h1 h w
    · exact case_9_false a k b1 b2 b3 h0 h1 h w
  · rcases hs with h | h | h | h | h | h | h | h | h | h
    · exact case_0_true a k b1 b2 b3 h0 h1 h w
    · exact case_1_true a k b1 b2 b3 h0 h1 h w
    · exact case_2_true a k b1 b2 b3 h0 h1 h w
    · exact case_3_true a k b1 b2 b3 h0 h1 h w
    · exact case_4_true a k b1 b2 b3 h0 h1 h w
    · exact case_5_true a k b1 b2 b3 h0 h1 h w
    · exact case_6_true a k b1 b2 b3 h0 h1 h w
    · exact case_7_true a k b1 b2 b3 h0 h1 h w
    · exact case_8_true a k b1 b2 b3 h0 h1 h w
    · exact case_9_true a k b1 b2 b3 h0 h1 h w
end Go.Proofs.YtihjnbfmcemmjaaGreat.fnIsFastMapReadsTypeNotFlags
