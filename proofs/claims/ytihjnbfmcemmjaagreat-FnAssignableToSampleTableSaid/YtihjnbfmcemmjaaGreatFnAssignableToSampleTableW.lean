/-
  The walk of FnAssignableToSampleTable: AssignableTo over every pair of the twelve samples answers as the table says.
-/
import Derived.Test.YtihjnbfmcemmjaaGreatBase
import Derived.RegionTactic
import Derived.ChangeAlike
import Derived.Deep.QuietTactic
import Derived.BigQuiet
import Derived.WalkSmall
namespace Go.Proofs.YtihjnbfmcemmjaaGreat.fnAssignableToSampleTable
open Go.RowKit
set_option maxRecDepth 100000
set_option maxHeartbeats 1000000
set_option linter.unusedVariables false
theorem bal {w v : World} (h : Below w.heap.size w v) (o : Obj) : Below w.heap.size w (v.alloc o) := h.alloc h.size o
@[go_sem] theorem kind_3 (w : World) : (callFunc 230 #[.pointer (some ⟨0, 3, none⟩)]).run Tryz.prog w = .ok (.value (.int .u64 2)) w := by kernel_rfl

@[go_sem] theorem kind_2 (w : World) : (callFunc 230 #[.pointer (some ⟨0, 2, none⟩)]).run Tryz.prog w = .ok (.value (.int .u64 6)) w := by kernel_rfl

@[go_sem] theorem kind_9 (w : World) : (callFunc 230 #[.pointer (some ⟨0, 9, none⟩)]).run Tryz.prog w = .ok (.value (.int .u64 24)) w := by kernel_rfl

@[go_sem] theorem kind_93 (w : World) : (callFunc 230 #[.pointer (some ⟨0, 93, none⟩)]).run Tryz.prog w = .ok (.value (.int .u64 23)) w := by kernel_rfl

@[go_sem] theorem kind_120 (w : World) : (callFunc 230 #[.pointer (some ⟨0, 120, none⟩)]).run Tryz.prog w = .ok (.value (.int .u64 22)) w := by kernel_rfl

@[go_sem] theorem kind_109 (w : World) : (callFunc 230 #[.pointer (some ⟨0, 109, none⟩)]).run Tryz.prog w = .ok (.value (.int .u64 21)) w := by kernel_rfl

@[go_sem] theorem kind_1 (w : World) : (callFunc 230 #[.pointer (some ⟨0, 1, none⟩)]).run Tryz.prog w = .ok (.value (.int .u64 19)) w := by kernel_rfl

@[go_sem] theorem kind_54 (w : World) : (callFunc 230 #[.pointer (some ⟨0, 54, none⟩)]).run Tryz.prog w = .ok (.value (.int .u64 22)) w := by kernel_rfl

theorem bi_3  (w : World) : Calls Tryz.prog 127 #[.iface 133 (.pointer (some ⟨0, 3, none⟩))] w fun e w' => e = .returned (Value.bool true) ∧ w = w' := by
  go_enter Tryz.func127, Tryz.ntmps127
  go_wp2
  go_ret
  exact ⟨rfl, rfl⟩

theorem bi_2  (w : World) : Calls Tryz.prog 127 #[.iface 133 (.pointer (some ⟨0, 2, none⟩))] w fun e w' => e = .returned (Value.bool true) ∧ w = w' := by
  go_enter Tryz.func127, Tryz.ntmps127
  go_wp2
  go_ret
  exact ⟨rfl, rfl⟩

theorem from_9 (c : Option Addr) (w : World) : Calls Tryz.prog 113 #[.pointer c, .iface 133 (.pointer (some ⟨0, 9, none⟩))] w fun e w' => e = .returned (.agg #[.iface 133 (.pointer (some ⟨0, 9, none⟩)), .int .u64 24, .pointer none, .pointer none, .bool false, .bool false, .bool false, .bool false, .bool false]) ∧ w.alloc (.cells #[.iface 133 (.pointer (some ⟨0, 9, none⟩)), .int .u64 24, .pointer none, .pointer none, .bool false, .bool false, .bool false, .bool false, .bool false] 42) = w' :=
  from_plain c 9 24 kind_9 rfl rfl rfl rfl rfl rfl rfl rfl rfl rfl rfl rfl rfl rfl rfl w

theorem from_93 (c : Option Addr) (w : World) : Calls Tryz.prog 113 #[.pointer c, .iface 133 (.pointer (some ⟨0, 93, none⟩))] w fun e w' => e = .returned (.agg #[.iface 133 (.pointer (some ⟨0, 93, none⟩)), .int .u64 23, .pointer none, .pointer none, .bool false, .bool false, .bool false, .bool false, .bool false]) ∧ w.alloc (.cells #[.iface 133 (.pointer (some ⟨0, 93, none⟩)), .int .u64 23, .pointer none, .pointer none, .bool false, .bool false, .bool false, .bool false, .bool false] 42) = w' :=
  from_plain c 93 23 kind_93 rfl rfl rfl rfl rfl rfl rfl rfl rfl rfl rfl rfl rfl rfl rfl w

theorem from_120 (c : Option Addr) (w : World) : Calls Tryz.prog 113 #[.pointer c, .iface 133 (.pointer (some ⟨0, 120, none⟩))] w fun e w' => e = .returned (.agg #[.iface 133 (.pointer (some ⟨0, 120, none⟩)), .int .u64 22, .pointer none, .pointer none, .bool false, .bool false, .bool false, .bool false, .bool false]) ∧ w.alloc (.cells #[.iface 133 (.pointer (some ⟨0, 120, none⟩)), .int .u64 22, .pointer none, .pointer none, .bool false, .bool false, .bool false, .bool false, .bool false] 42) = w' :=
  from_plain c 120 22 kind_120 rfl rfl rfl rfl rfl rfl rfl rfl rfl rfl rfl rfl rfl rfl rfl w

theorem from_109 (c : Option Addr) (w : World) : Calls Tryz.prog 113 #[.pointer c, .iface 133 (.pointer (some ⟨0, 109, none⟩))] w fun e w' => e = .returned (.agg #[.iface 133 (.pointer (some ⟨0, 109, none⟩)), .int .u64 21, .pointer none, .pointer none, .bool false, .bool false, .bool false, .bool false, .bool false]) ∧ w.alloc (.cells #[.iface 133 (.pointer (some ⟨0, 109, none⟩)), .int .u64 21, .pointer none, .pointer none, .bool false, .bool false, .bool false, .bool false, .bool false] 42) = w' :=
  from_plain c 109 21 kind_109 rfl rfl rfl rfl rfl rfl rfl rfl rfl rfl rfl rfl rfl rfl rfl w

theorem from_54 (c : Option Addr) (w : World) : Calls Tryz.prog 113 #[.pointer c, .iface 133 (.pointer (some ⟨0, 54, none⟩))] w fun e w' => e = .returned (.agg #[.iface 133 (.pointer (some ⟨0, 54, none⟩)), .int .u64 22, .pointer none, .pointer none, .bool false, .bool false, .bool false, .bool false, .bool false]) ∧ w.alloc (.cells #[.iface 133 (.pointer (some ⟨0, 54, none⟩)), .int .u64 22, .pointer none, .pointer none, .bool false, .bool false, .bool false, .bool false, .bool false] 42) = w' :=
  from_plain c 54 22 kind_54 rfl rfl rfl rfl rfl rfl rfl rfl rfl rfl rfl rfl rfl rfl rfl w

theorem from_3 (c : Option Addr) (w : World) : Calls Tryz.prog 113 #[.pointer c, .iface 133 (.pointer (some ⟨0, 3, none⟩))] w fun e w' => e = .returned (.agg #[Value.iface 133 (Value.pointer (some { block := 0, off := 3 })), Value.int IntKind.u64 2, Value.pointer none, Value.pointer none, Value.bool false, Value.bool false, Value.bool false, Value.bool true, Value.bool false]) ∧ w.alloc (Obj.cells #[Value.iface 133 (Value.pointer (some { block := 0, off := 3 })), Value.int IntKind.u64 2, Value.pointer none, Value.pointer none, Value.bool false, Value.bool false, Value.bool false, Value.bool true, Value.bool false] 42) = w' := by
  go_enter Tryz.func113, Tryz.ntmps113
  go_wp2_with (first | (go_at_call 127; ((with_reducible refine (bi_3 _).mono ?_); rintro e w' ⟨rfl, rfl⟩)))
  exact bodyPost_ret (v := .agg #[Value.iface 133 (Value.pointer (some { block := 0, off := 3 })), Value.int IntKind.u64 2, Value.pointer none, Value.pointer none, Value.bool false, Value.bool false, Value.bool false, Value.bool true, Value.bool false]) (by simp [results, Tryz.results113, go_sem]) rfl ⟨rfl, rfl⟩

theorem from_2 (c : Option Addr) (w : World) : Calls Tryz.prog 113 #[.pointer c, .iface 133 (.pointer (some ⟨0, 2, none⟩))] w fun e w' => e = .returned (.agg #[Value.iface 133 (Value.pointer (some { block := 0, off := 2 })), Value.int IntKind.u64 6, Value.pointer none, Value.pointer none, Value.bool false, Value.bool false, Value.bool false, Value.bool true, Value.bool false]) ∧ w.alloc (Obj.cells #[Value.iface 133 (Value.pointer (some { block := 0, off := 2 })), Value.int IntKind.u64 6, Value.pointer none, Value.pointer none, Value.bool false, Value.bool false, Value.bool false, Value.bool true, Value.bool false] 42) = w' := by
  go_enter Tryz.func113, Tryz.ntmps113
  go_wp2_with (first | (go_at_call 127; ((with_reducible refine (bi_2 _).mono ?_); rintro e w' ⟨rfl, rfl⟩)))
  exact bodyPost_ret (v := .agg #[Value.iface 133 (Value.pointer (some { block := 0, off := 2 })), Value.int IntKind.u64 6, Value.pointer none, Value.pointer none, Value.bool false, Value.bool false, Value.bool false, Value.bool true, Value.bool false]) (by simp [results, Tryz.results113, go_sem]) rfl ⟨rfl, rfl⟩

theorem from_1 (c : Option Addr) (w : World) : Calls Tryz.prog 113 #[.pointer c, .iface 133 (.pointer (some ⟨0, 1, none⟩))] w fun e w' => e = .returned (.agg #[Value.iface 133 (Value.pointer (some { block := 0, off := 1 })), Value.int IntKind.u64 19, Value.pointer (some { block := w.heap.size + 1, off := 0 }), Value.pointer none, Value.bool false, Value.bool false, Value.bool false, Value.bool false, Value.bool false]) ∧ (w.alloc (Obj.cells #[Value.iface 133 (Value.pointer (some { block := 0, off := 1 })), Value.int IntKind.u64 19, Value.pointer (some { block := w.heap.size + 1, off := 0 }), Value.pointer none, Value.bool false, Value.bool false, Value.bool false, Value.bool false, Value.bool false] 42)).alloc (Obj.cells #[Value.pointer none, Value.pointer none, Value.map none, Value.pointer none, Value.pointer none, Value.int IntKind.i64 0, Value.pointer none, Value.pointer none, Value.int IntKind.i64 0, Value.int IntKind.i64 0, Value.bool false, Value.bool false, Value.bool false, Value.bool false] 66) = w' := by
  go_enter Tryz.func113, Tryz.ntmps113
  go_wp2
  exact bodyPost_ret (v := .agg #[Value.iface 133 (Value.pointer (some { block := 0, off := 1 })), Value.int IntKind.u64 19, Value.pointer (some { block := w.heap.size + 1, off := 0 }), Value.pointer none, Value.bool false, Value.bool false, Value.bool false, Value.bool false, Value.bool false]) (by simp [results, Tryz.results113, go_sem]) rfl ⟨rfl, rfl⟩

theorem ft_9 (w : World) : Calls Tryz.prog 115 #[.iface 133 (.pointer (some ⟨0, 9, none⟩))] w fun e w' => e = .returned (.agg #[.iface 133 (.pointer (some ⟨0, 9, none⟩)), .int .u64 24, .pointer none, .pointer none, .bool false, .bool false, .bool false, .bool false, .bool false]) ∧ (w.alloc (.cells #[.iface 133 (.pointer (some ⟨0, 9, none⟩)), .int .u64 24, .pointer none, .pointer none, .bool false, .bool false, .bool false, .bool false, .bool false] 42)).alloc (.cells #[.iface 133 (.pointer (some ⟨0, 9, none⟩)), .int .u64 24, .pointer none, .pointer none, .bool false, .bool false, .bool false, .bool false, .bool false] 42) = w' :=
  ft_plain 9 24 kind_9 rfl rfl rfl rfl rfl rfl rfl rfl rfl rfl rfl rfl rfl rfl rfl w

theorem ft_93 (w : World) : Calls Tryz.prog 115 #[.iface 133 (.pointer (some ⟨0, 93, none⟩))] w fun e w' => e = .returned (.agg #[.iface 133 (.pointer (some ⟨0, 93, none⟩)), .int .u64 23, .pointer none, .pointer none, .bool false, .bool false, .bool false, .bool false, .bool false]) ∧ (w.alloc (.cells #[.iface 133 (.pointer (some ⟨0, 93, none⟩)), .int .u64 23, .pointer none, .pointer none, .bool false, .bool false, .bool false, .bool false, .bool false] 42)).alloc (.cells #[.iface 133 (.pointer (some ⟨0, 93, none⟩)), .int .u64 23, .pointer none, .pointer none, .bool false, .bool false, .bool false, .bool false, .bool false] 42) = w' :=
  ft_plain 93 23 kind_93 rfl rfl rfl rfl rfl rfl rfl rfl rfl rfl rfl rfl rfl rfl rfl w

theorem ft_120 (w : World) : Calls Tryz.prog 115 #[.iface 133 (.pointer (some ⟨0, 120, none⟩))] w fun e w' => e = .returned (.agg #[.iface 133 (.pointer (some ⟨0, 120, none⟩)), .int .u64 22, .pointer none, .pointer none, .bool false, .bool false, .bool false, .bool false, .bool false]) ∧ (w.alloc (.cells #[.iface 133 (.pointer (some ⟨0, 120, none⟩)), .int .u64 22, .pointer none, .pointer none, .bool false, .bool false, .bool false, .bool false, .bool false] 42)).alloc (.cells #[.iface 133 (.pointer (some ⟨0, 120, none⟩)), .int .u64 22, .pointer none, .pointer none, .bool false, .bool false, .bool false, .bool false, .bool false] 42) = w' :=
  ft_plain 120 22 kind_120 rfl rfl rfl rfl rfl rfl rfl rfl rfl rfl rfl rfl rfl rfl rfl w

theorem ft_109 (w : World) : Calls Tryz.prog 115 #[.iface 133 (.pointer (some ⟨0, 109, none⟩))] w fun e w' => e = .returned (.agg #[.iface 133 (.pointer (some ⟨0, 109, none⟩)), .int .u64 21, .pointer none, .pointer none, .bool false, .bool false, .bool false, .bool false, .bool false]) ∧ (w.alloc (.cells #[.iface 133 (.pointer (some ⟨0, 109, none⟩)), .int .u64 21, .pointer none, .pointer none, .bool false, .bool false, .bool false, .bool false, .bool false] 42)).alloc (.cells #[.iface 133 (.pointer (some ⟨0, 109, none⟩)), .int .u64 21, .pointer none, .pointer none, .bool false, .bool false, .bool false, .bool false, .bool false] 42) = w' :=
  ft_plain 109 21 kind_109 rfl rfl rfl rfl rfl rfl rfl rfl rfl rfl rfl rfl rfl rfl rfl w

theorem ft_54 (w : World) : Calls Tryz.prog 115 #[.iface 133 (.pointer (some ⟨0, 54, none⟩))] w fun e w' => e = .returned (.agg #[.iface 133 (.pointer (some ⟨0, 54, none⟩)), .int .u64 22, .pointer none, .pointer none, .bool false, .bool false, .bool false, .bool false, .bool false]) ∧ (w.alloc (.cells #[.iface 133 (.pointer (some ⟨0, 54, none⟩)), .int .u64 22, .pointer none, .pointer none, .bool false, .bool false, .bool false, .bool false, .bool false] 42)).alloc (.cells #[.iface 133 (.pointer (some ⟨0, 54, none⟩)), .int .u64 22, .pointer none, .pointer none, .bool false, .bool false, .bool false, .bool false, .bool false] 42) = w' :=
  ft_plain 54 22 kind_54 rfl rfl rfl rfl rfl rfl rfl rfl rfl rfl rfl rfl rfl rfl rfl w

theorem ft_3  (w : World) : Calls Tryz.prog 115 #[.iface 133 (.pointer (some ⟨0, 3, none⟩))] w fun e w' => e = .returned (.agg #[Value.iface 133 (Value.pointer (some { block := 0, off := 3 })), Value.int IntKind.u64 2, Value.pointer none, Value.pointer none, Value.bool false, Value.bool false, Value.bool false, Value.bool true, Value.bool false]) ∧ (w.alloc (Obj.cells #[Value.iface 133 (Value.pointer (some { block := 0, off := 3 })), Value.int IntKind.u64 2, Value.pointer none, Value.pointer none, Value.bool false, Value.bool false, Value.bool false, Value.bool true, Value.bool false] 42)).alloc (Obj.cells #[Value.iface 133 (Value.pointer (some { block := 0, off := 3 })), Value.int IntKind.u64 2, Value.pointer none, Value.pointer none, Value.bool false, Value.bool false, Value.bool false, Value.bool true, Value.bool false] 42) = w' := by
  go_enter Tryz.func115, Tryz.ntmps115
  go_wp2_with (first | (go_at_call 113; ((with_reducible refine (from_3 _ _).mono ?_); rintro e w' ⟨rfl, rfl⟩)))
  exact bodyPost_ret (v := .agg #[Value.iface 133 (Value.pointer (some { block := 0, off := 3 })), Value.int IntKind.u64 2, Value.pointer none, Value.pointer none, Value.bool false, Value.bool false, Value.bool false, Value.bool true, Value.bool false]) (by simp [results, Tryz.results115, go_sem]) rfl ⟨rfl, rfl⟩

theorem ft_2  (w : World) : Calls Tryz.prog 115 #[.iface 133 (.pointer (some ⟨0, 2, none⟩))] w fun e w' => e = .returned (.agg #[Value.iface 133 (Value.pointer (some { block := 0, off := 2 })), Value.int IntKind.u64 6, Value.pointer none, Value.pointer none, Value.bool false, Value.bool false, Value.bool false, Value.bool true, Value.bool false]) ∧ (w.alloc (Obj.cells #[Value.iface 133 (Value.pointer (some { block := 0, off := 2 })), Value.int IntKind.u64 6, Value.pointer none, Value.pointer none, Value.bool false, Value.bool false, Value.bool false, Value.bool true, Value.bool false] 42)).alloc (Obj.cells #[Value.iface 133 (Value.pointer (some { block := 0, off := 2 })), Value.int IntKind.u64 6, Value.pointer none, Value.pointer none, Value.bool false, Value.bool false, Value.bool false, Value.bool true, Value.bool false] 42) = w' := by
  go_enter Tryz.func115, Tryz.ntmps115
  go_wp2_with (first | (go_at_call 113; ((with_reducible refine (from_2 _ _).mono ?_); rintro e w' ⟨rfl, rfl⟩)))
  exact bodyPost_ret (v := .agg #[Value.iface 133 (Value.pointer (some { block := 0, off := 2 })), Value.int IntKind.u64 6, Value.pointer none, Value.pointer none, Value.bool false, Value.bool false, Value.bool false, Value.bool true, Value.bool false]) (by simp [results, Tryz.results115, go_sem]) rfl ⟨rfl, rfl⟩

theorem ft_1  (w : World) : Calls Tryz.prog 115 #[.iface 133 (.pointer (some ⟨0, 1, none⟩))] w fun e w' => e = .returned (.agg #[Value.iface 133 (Value.pointer (some { block := 0, off := 1 })), Value.int IntKind.u64 19, Value.pointer (some { block := w.heap.size + 1 + 1, off := 0 }), Value.pointer none, Value.bool false, Value.bool false, Value.bool false, Value.bool false, Value.bool false]) ∧ ((w.alloc (Obj.cells #[Value.iface 133 (Value.pointer (some { block := 0, off := 1 })), Value.int IntKind.u64 19, Value.pointer (some { block := w.heap.size + 1 + 1, off := 0 }), Value.pointer none, Value.bool false, Value.bool false, Value.bool false, Value.bool false, Value.bool false] 42)).alloc (Obj.cells #[Value.iface 133 (Value.pointer (some { block := 0, off := 1 })), Value.int IntKind.u64 19, Value.pointer (some { block := w.heap.size + 1 + 1, off := 0 }), Value.pointer none, Value.bool false, Value.bool false, Value.bool false, Value.bool false, Value.bool false] 42)).alloc (Obj.cells #[Value.pointer none, Value.pointer none, Value.map none, Value.pointer none, Value.pointer none, Value.int IntKind.i64 0, Value.pointer none, Value.pointer none, Value.int IntKind.i64 0, Value.int IntKind.i64 0, Value.bool false, Value.bool false, Value.bool false, Value.bool false] 66) = w' := by
  go_enter Tryz.func115, Tryz.ntmps115
  go_wp2_with (first | (go_at_call 113; ((with_reducible refine (from_1 _ _).mono ?_); rintro e w' ⟨rfl, rfl⟩)))
  exact bodyPost_ret (v := .agg #[Value.iface 133 (Value.pointer (some { block := 0, off := 1 })), Value.int IntKind.u64 19, Value.pointer (some { block := w.heap.size + 1 + 1, off := 0 }), Value.pointer none, Value.bool false, Value.bool false, Value.bool false, Value.bool false, Value.bool false]) (by simp [results, Tryz.results115, go_sem]) rfl ⟨rfl, rfl⟩

theorem c_85  (w : World) : Calls Tryz.prog 85 #[] w fun e w' => e = .returned (.agg #[Value.iface 133 (Value.pointer (some { block := 0, off := 3 })), Value.int IntKind.u64 2, Value.pointer none, Value.pointer none, Value.bool false, Value.bool false, Value.bool false, Value.bool true, Value.bool false]) ∧ ((w.alloc (Obj.cells #[Value.iface 133 (Value.pointer (some { block := 0, off := 3 })), Value.int IntKind.u64 2, Value.pointer none, Value.pointer none, Value.bool false, Value.bool false, Value.bool false, Value.bool true, Value.bool false] 42)).alloc (Obj.cells #[Value.iface 133 (Value.pointer (some { block := 0, off := 3 })), Value.int IntKind.u64 2, Value.pointer none, Value.pointer none, Value.bool false, Value.bool false, Value.bool false, Value.bool true, Value.bool false] 42)).alloc (Obj.cells #[Value.iface 133 (Value.pointer (some { block := 0, off := 3 })), Value.int IntKind.u64 2, Value.pointer none, Value.pointer none, Value.bool false, Value.bool false, Value.bool false, Value.bool true, Value.bool false] 42) = w' := by
  go_enter Tryz.func85, Tryz.ntmps85
  go_wp2_with (first | (go_at_call 115; ((with_reducible refine (ft_3 _).mono ?_); rintro e w' ⟨rfl, rfl⟩)))
  exact bodyPost_ret (v := .agg #[Value.iface 133 (Value.pointer (some { block := 0, off := 3 })), Value.int IntKind.u64 2, Value.pointer none, Value.pointer none, Value.bool false, Value.bool false, Value.bool false, Value.bool true, Value.bool false]) (by simp [results, Tryz.results85, go_sem]) rfl ⟨rfl, rfl⟩

theorem c_86  (w : World) : Calls Tryz.prog 86 #[] w fun e w' => e = .returned (.agg #[Value.iface 133 (Value.pointer (some { block := 0, off := 2 })), Value.int IntKind.u64 6, Value.pointer none, Value.pointer none, Value.bool false, Value.bool false, Value.bool false, Value.bool true, Value.bool false]) ∧ ((w.alloc (Obj.cells #[Value.iface 133 (Value.pointer (some { block := 0, off := 2 })), Value.int IntKind.u64 6, Value.pointer none, Value.pointer none, Value.bool false, Value.bool false, Value.bool false, Value.bool true, Value.bool false] 42)).alloc (Obj.cells #[Value.iface 133 (Value.pointer (some { block := 0, off := 2 })), Value.int IntKind.u64 6, Value.pointer none, Value.pointer none, Value.bool false, Value.bool false, Value.bool false, Value.bool true, Value.bool false] 42)).alloc (Obj.cells #[Value.iface 133 (Value.pointer (some { block := 0, off := 2 })), Value.int IntKind.u64 6, Value.pointer none, Value.pointer none, Value.bool false, Value.bool false, Value.bool false, Value.bool true, Value.bool false] 42) = w' := by
  go_enter Tryz.func86, Tryz.ntmps86
  go_wp2_with (first | (go_at_call 115; ((with_reducible refine (ft_2 _).mono ?_); rintro e w' ⟨rfl, rfl⟩)))
  exact bodyPost_ret (v := .agg #[Value.iface 133 (Value.pointer (some { block := 0, off := 2 })), Value.int IntKind.u64 6, Value.pointer none, Value.pointer none, Value.bool false, Value.bool false, Value.bool false, Value.bool true, Value.bool false]) (by simp [results, Tryz.results86, go_sem]) rfl ⟨rfl, rfl⟩

theorem c_87  (w : World) : Calls Tryz.prog 87 #[] w fun e w' => e = .returned (.agg #[Value.iface 133 (Value.pointer (some { block := 0, off := 9 })), Value.int IntKind.u64 24, Value.pointer none, Value.pointer none, Value.bool false, Value.bool false, Value.bool false, Value.bool false, Value.bool false]) ∧ ((w.alloc (Obj.cells #[Value.iface 133 (Value.pointer (some { block := 0, off := 9 })), Value.int IntKind.u64 24, Value.pointer none, Value.pointer none, Value.bool false, Value.bool false, Value.bool false, Value.bool false, Value.bool false] 42)).alloc (Obj.cells #[Value.iface 133 (Value.pointer (some { block := 0, off := 9 })), Value.int IntKind.u64 24, Value.pointer none, Value.pointer none, Value.bool false, Value.bool false, Value.bool false, Value.bool false, Value.bool false] 42)).alloc (Obj.cells #[Value.iface 133 (Value.pointer (some { block := 0, off := 9 })), Value.int IntKind.u64 24, Value.pointer none, Value.pointer none, Value.bool false, Value.bool false, Value.bool false, Value.bool false, Value.bool false] 42) = w' := by
  go_enter Tryz.func87, Tryz.ntmps87
  go_wp2_with (first | (go_at_call 115; ((with_reducible refine (ft_9 _).mono ?_); rintro e w' ⟨rfl, rfl⟩)))
  exact bodyPost_ret (v := .agg #[Value.iface 133 (Value.pointer (some { block := 0, off := 9 })), Value.int IntKind.u64 24, Value.pointer none, Value.pointer none, Value.bool false, Value.bool false, Value.bool false, Value.bool false, Value.bool false]) (by simp [results, Tryz.results87, go_sem]) rfl ⟨rfl, rfl⟩

theorem c_88  (w : World) : Calls Tryz.prog 88 #[] w fun e w' => e = .returned (.agg #[Value.iface 133 (Value.pointer (some { block := 0, off := 93 })), Value.int IntKind.u64 23, Value.pointer none, Value.pointer none, Value.bool false, Value.bool false, Value.bool false, Value.bool false, Value.bool false]) ∧ ((w.alloc (Obj.cells #[Value.iface 133 (Value.pointer (some { block := 0, off := 93 })), Value.int IntKind.u64 23, Value.pointer none, Value.pointer none, Value.bool false, Value.bool false, Value.bool false, Value.bool false, Value.bool false] 42)).alloc (Obj.cells #[Value.iface 133 (Value.pointer (some { block := 0, off := 93 })), Value.int IntKind.u64 23, Value.pointer none, Value.pointer none, Value.bool false, Value.bool false, Value.bool false, Value.bool false, Value.bool false] 42)).alloc (Obj.cells #[Value.iface 133 (Value.pointer (some { block := 0, off := 93 })), Value.int IntKind.u64 23, Value.pointer none, Value.pointer none, Value.bool false, Value.bool false, Value.bool false, Value.bool false, Value.bool false] 42) = w' := by
  go_enter Tryz.func88, Tryz.ntmps88
  go_wp2_with (first | (go_at_call 115; ((with_reducible refine (ft_93 _).mono ?_); rintro e w' ⟨rfl, rfl⟩)))
  exact bodyPost_ret (v := .agg #[Value.iface 133 (Value.pointer (some { block := 0, off := 93 })), Value.int IntKind.u64 23, Value.pointer none, Value.pointer none, Value.bool false, Value.bool false, Value.bool false, Value.bool false, Value.bool false]) (by simp [results, Tryz.results88, go_sem]) rfl ⟨rfl, rfl⟩

theorem c_89  (w : World) : Calls Tryz.prog 89 #[] w fun e w' => e = .returned (.agg #[Value.iface 133 (Value.pointer (some { block := 0, off := 120 })), Value.int IntKind.u64 22, Value.pointer none, Value.pointer none, Value.bool false, Value.bool false, Value.bool false, Value.bool false, Value.bool false]) ∧ ((w.alloc (Obj.cells #[Value.iface 133 (Value.pointer (some { block := 0, off := 120 })), Value.int IntKind.u64 22, Value.pointer none, Value.pointer none, Value.bool false, Value.bool false, Value.bool false, Value.bool false, Value.bool false] 42)).alloc (Obj.cells #[Value.iface 133 (Value.pointer (some { block := 0, off := 120 })), Value.int IntKind.u64 22, Value.pointer none, Value.pointer none, Value.bool false, Value.bool false, Value.bool false, Value.bool false, Value.bool false] 42)).alloc (Obj.cells #[Value.iface 133 (Value.pointer (some { block := 0, off := 120 })), Value.int IntKind.u64 22, Value.pointer none, Value.pointer none, Value.bool false, Value.bool false, Value.bool false, Value.bool false, Value.bool false] 42) = w' := by
  go_enter Tryz.func89, Tryz.ntmps89
  go_wp2_with (first | (go_at_call 115; ((with_reducible refine (ft_120 _).mono ?_); rintro e w' ⟨rfl, rfl⟩)))
  exact bodyPost_ret (v := .agg #[Value.iface 133 (Value.pointer (some { block := 0, off := 120 })), Value.int IntKind.u64 22, Value.pointer none, Value.pointer none, Value.bool false, Value.bool false, Value.bool false, Value.bool false, Value.bool false]) (by simp [results, Tryz.results89, go_sem]) rfl ⟨rfl, rfl⟩

theorem c_90  (w : World) : Calls Tryz.prog 90 #[] w fun e w' => e = .returned (.agg #[Value.iface 133 (Value.pointer (some { block := 0, off := 109 })), Value.int IntKind.u64 21, Value.pointer none, Value.pointer none, Value.bool false, Value.bool false, Value.bool false, Value.bool false, Value.bool false]) ∧ ((w.alloc (Obj.cells #[Value.iface 133 (Value.pointer (some { block := 0, off := 109 })), Value.int IntKind.u64 21, Value.pointer none, Value.pointer none, Value.bool false, Value.bool false, Value.bool false, Value.bool false, Value.bool false] 42)).alloc (Obj.cells #[Value.iface 133 (Value.pointer (some { block := 0, off := 109 })), Value.int IntKind.u64 21, Value.pointer none, Value.pointer none, Value.bool false, Value.bool false, Value.bool false, Value.bool false, Value.bool false] 42)).alloc (Obj.cells #[Value.iface 133 (Value.pointer (some { block := 0, off := 109 })), Value.int IntKind.u64 21, Value.pointer none, Value.pointer none, Value.bool false, Value.bool false, Value.bool false, Value.bool false, Value.bool false] 42) = w' := by
  go_enter Tryz.func90, Tryz.ntmps90
  go_wp2_with (first | (go_at_call 115; ((with_reducible refine (ft_109 _).mono ?_); rintro e w' ⟨rfl, rfl⟩)))
  exact bodyPost_ret (v := .agg #[Value.iface 133 (Value.pointer (some { block := 0, off := 109 })), Value.int IntKind.u64 21, Value.pointer none, Value.pointer none, Value.bool false, Value.bool false, Value.bool false, Value.bool false, Value.bool false]) (by simp [results, Tryz.results90, go_sem]) rfl ⟨rfl, rfl⟩

theorem c_91  (w : World) : Calls Tryz.prog 91 #[] w fun e w' => e = .returned (.agg #[Value.iface 133 (Value.pointer (some { block := 0, off := 1 })), Value.int IntKind.u64 19, Value.pointer (some { block := w.heap.size + 1 + 1 + 1, off := 0 }), Value.pointer none, Value.bool false, Value.bool false, Value.bool false, Value.bool false, Value.bool false]) ∧ (((w.alloc (Obj.cells #[Value.iface 133 (Value.pointer (some { block := 0, off := 1 })), Value.int IntKind.u64 19, Value.pointer (some { block := w.heap.size + 1 + 1 + 1, off := 0 }), Value.pointer none, Value.bool false, Value.bool false, Value.bool false, Value.bool false, Value.bool false] 42)).alloc (Obj.cells #[Value.iface 133 (Value.pointer (some { block := 0, off := 1 })), Value.int IntKind.u64 19, Value.pointer (some { block := w.heap.size + 1 + 1 + 1, off := 0 }), Value.pointer none, Value.bool false, Value.bool false, Value.bool false, Value.bool false, Value.bool false] 42)).alloc (Obj.cells #[Value.iface 133 (Value.pointer (some { block := 0, off := 1 })), Value.int IntKind.u64 19, Value.pointer (some { block := w.heap.size + 1 + 1 + 1, off := 0 }), Value.pointer none, Value.bool false, Value.bool false, Value.bool false, Value.bool false, Value.bool false] 42)).alloc (Obj.cells #[Value.pointer none, Value.pointer none, Value.map none, Value.pointer none, Value.pointer none, Value.int IntKind.i64 0, Value.pointer none, Value.pointer none, Value.int IntKind.i64 0, Value.int IntKind.i64 0, Value.bool false, Value.bool false, Value.bool false, Value.bool false] 66) = w' := by
  go_enter Tryz.func91, Tryz.ntmps91
  go_wp2_with (first | (go_at_call 115; ((with_reducible refine (ft_1 _).mono ?_); rintro e w' ⟨rfl, rfl⟩)))
  exact bodyPost_ret (v := .agg #[Value.iface 133 (Value.pointer (some { block := 0, off := 1 })), Value.int IntKind.u64 19, Value.pointer (some { block := w.heap.size + 1 + 1 + 1, off := 0 }), Value.pointer none, Value.bool false, Value.bool false, Value.bool false, Value.bool false, Value.bool false]) (by simp [results, Tryz.results91, go_sem]) rfl ⟨rfl, rfl⟩

theorem c_94  (w : World) : Calls Tryz.prog 94 #[] w fun e w' => e = .returned (.agg #[Value.iface 133 (Value.pointer (some { block := 0, off := 54 })), Value.int IntKind.u64 22, Value.pointer none, Value.pointer none, Value.bool false, Value.bool false, Value.bool false, Value.bool false, Value.bool false]) ∧ ((w.alloc (Obj.cells #[Value.iface 133 (Value.pointer (some { block := 0, off := 54 })), Value.int IntKind.u64 22, Value.pointer none, Value.pointer none, Value.bool false, Value.bool false, Value.bool false, Value.bool false, Value.bool false] 42)).alloc (Obj.cells #[Value.iface 133 (Value.pointer (some { block := 0, off := 54 })), Value.int IntKind.u64 22, Value.pointer none, Value.pointer none, Value.bool false, Value.bool false, Value.bool false, Value.bool false, Value.bool false] 42)).alloc (Obj.cells #[Value.iface 133 (Value.pointer (some { block := 0, off := 54 })), Value.int IntKind.u64 22, Value.pointer none, Value.pointer none, Value.bool false, Value.bool false, Value.bool false, Value.bool false, Value.bool false] 42) = w' := by
  go_enter Tryz.func94, Tryz.ntmps94
  go_wp2_with (first | (go_at_call 115; ((with_reducible refine (ft_54 _).mono ?_); rintro e w' ⟨rfl, rfl⟩)))
  exact bodyPost_ret (v := .agg #[Value.iface 133 (Value.pointer (some { block := 0, off := 54 })), Value.int IntKind.u64 22, Value.pointer none, Value.pointer none, Value.bool false, Value.bool false, Value.bool false, Value.bool false, Value.bool false]) (by simp [results, Tryz.results94, go_sem]) rfl ⟨rfl, rfl⟩

@[go_sem] theorem kind_20 (w : World) : (callFunc 230 #[.pointer (some ⟨0, 20, none⟩)]).run Tryz.prog w = .ok (.value (.int .u64 20)) w := by kernel_rfl

@[go_sem] theorem kind_25 (w : World) : (callFunc 230 #[.pointer (some ⟨0, 25, none⟩)]).run Tryz.prog w = .ok (.value (.int .u64 20)) w := by kernel_rfl

theorem from_20 (c : Option Addr) (w : World) : Calls Tryz.prog 113 #[.pointer c, .iface 133 (.pointer (some ⟨0, 20, none⟩))] w fun e w' => e = .returned (.agg #[.iface 133 (.pointer (some ⟨0, 20, none⟩)), .int .u64 20, .pointer none, .pointer none, .bool false, .bool false, .bool false, .bool false, .bool false]) ∧ w.alloc (.cells #[.iface 133 (.pointer (some ⟨0, 20, none⟩)), .int .u64 20, .pointer none, .pointer none, .bool false, .bool false, .bool false, .bool false, .bool false] 42) = w' :=
  from_plain c 20 20 kind_20 rfl rfl rfl rfl rfl rfl rfl rfl rfl rfl rfl rfl rfl rfl rfl w

theorem from_25 (c : Option Addr) (w : World) : Calls Tryz.prog 113 #[.pointer c, .iface 133 (.pointer (some ⟨0, 25, none⟩))] w fun e w' => e = .returned (.agg #[.iface 133 (.pointer (some ⟨0, 25, none⟩)), .int .u64 20, .pointer none, .pointer none, .bool false, .bool false, .bool false, .bool false, .bool false]) ∧ w.alloc (.cells #[.iface 133 (.pointer (some ⟨0, 25, none⟩)), .int .u64 20, .pointer none, .pointer none, .bool false, .bool false, .bool false, .bool false, .bool false] 42) = w' :=
  from_plain c 25 20 kind_25 rfl rfl rfl rfl rfl rfl rfl rfl rfl rfl rfl rfl rfl rfl rfl w

theorem ft_20 (w : World) : Calls Tryz.prog 115 #[.iface 133 (.pointer (some ⟨0, 20, none⟩))] w fun e w' => e = .returned (.agg #[.iface 133 (.pointer (some ⟨0, 20, none⟩)), .int .u64 20, .pointer none, .pointer none, .bool false, .bool false, .bool false, .bool false, .bool false]) ∧ (w.alloc (.cells #[.iface 133 (.pointer (some ⟨0, 20, none⟩)), .int .u64 20, .pointer none, .pointer none, .bool false, .bool false, .bool false, .bool false, .bool false] 42)).alloc (.cells #[.iface 133 (.pointer (some ⟨0, 20, none⟩)), .int .u64 20, .pointer none, .pointer none, .bool false, .bool false, .bool false, .bool false, .bool false] 42) = w' :=
  ft_plain 20 20 kind_20 rfl rfl rfl rfl rfl rfl rfl rfl rfl rfl rfl rfl rfl rfl rfl w

theorem ft_25 (w : World) : Calls Tryz.prog 115 #[.iface 133 (.pointer (some ⟨0, 25, none⟩))] w fun e w' => e = .returned (.agg #[.iface 133 (.pointer (some ⟨0, 25, none⟩)), .int .u64 20, .pointer none, .pointer none, .bool false, .bool false, .bool false, .bool false, .bool false]) ∧ (w.alloc (.cells #[.iface 133 (.pointer (some ⟨0, 25, none⟩)), .int .u64 20, .pointer none, .pointer none, .bool false, .bool false, .bool false, .bool false, .bool false] 42)).alloc (.cells #[.iface 133 (.pointer (some ⟨0, 25, none⟩)), .int .u64 20, .pointer none, .pointer none, .bool false, .bool false, .bool false, .bool false, .bool false] 42) = w' :=
  ft_plain 25 20 kind_25 rfl rfl rfl rfl rfl rfl rfl rfl rfl rfl rfl rfl rfl rfl rfl w

@[go_sem] theorem Elem_123 (w : World) : (callFunc 218 #[.pointer (some ⟨0, 123, none⟩)]).run Tryz.prog w = .ok (.value (.iface 133 (.pointer (some ⟨0, 20, none⟩)))) w := by kernel_rfl

@[go_sem] theorem Elem_124 (w : World) : (callFunc 218 #[.pointer (some ⟨0, 124, none⟩)]).run Tryz.prog w = .ok (.value (.iface 133 (.pointer (some ⟨0, 25, none⟩)))) w := by kernel_rfl

theorem c_92  (w : World) : Calls Tryz.prog 92 #[] w fun e w' => e = .returned (.agg #[Value.iface 133 (Value.pointer (some { block := 0, off := 20 })), Value.int IntKind.u64 20, Value.pointer none, Value.pointer none, Value.bool false, Value.bool false, Value.bool false, Value.bool false, Value.bool false]) ∧ ((w.alloc (Obj.cells #[Value.iface 133 (Value.pointer (some { block := 0, off := 20 })), Value.int IntKind.u64 20, Value.pointer none, Value.pointer none, Value.bool false, Value.bool false, Value.bool false, Value.bool false, Value.bool false] 42)).alloc (Obj.cells #[Value.iface 133 (Value.pointer (some { block := 0, off := 20 })), Value.int IntKind.u64 20, Value.pointer none, Value.pointer none, Value.bool false, Value.bool false, Value.bool false, Value.bool false, Value.bool false] 42)).alloc (Obj.cells #[Value.iface 133 (Value.pointer (some { block := 0, off := 20 })), Value.int IntKind.u64 20, Value.pointer none, Value.pointer none, Value.bool false, Value.bool false, Value.bool false, Value.bool false, Value.bool false] 42) = w' := by
  go_enter Tryz.func92, Tryz.ntmps92
  go_wp2_with (first | (go_at_call 115; ((with_reducible refine (ft_20 _).mono ?_); rintro e w' ⟨rfl, rfl⟩)))
  exact bodyPost_ret (v := .agg #[Value.iface 133 (Value.pointer (some { block := 0, off := 20 })), Value.int IntKind.u64 20, Value.pointer none, Value.pointer none, Value.bool false, Value.bool false, Value.bool false, Value.bool false, Value.bool false]) (by simp [results, Tryz.results92, go_sem]) rfl ⟨rfl, rfl⟩

theorem c_93  (w : World) : Calls Tryz.prog 93 #[] w fun e w' => e = .returned (.agg #[Value.iface 133 (Value.pointer (some { block := 0, off := 25 })), Value.int IntKind.u64 20, Value.pointer none, Value.pointer none, Value.bool false, Value.bool false, Value.bool false, Value.bool false, Value.bool false]) ∧ ((w.alloc (Obj.cells #[Value.iface 133 (Value.pointer (some { block := 0, off := 25 })), Value.int IntKind.u64 20, Value.pointer none, Value.pointer none, Value.bool false, Value.bool false, Value.bool false, Value.bool false, Value.bool false] 42)).alloc (Obj.cells #[Value.iface 133 (Value.pointer (some { block := 0, off := 25 })), Value.int IntKind.u64 20, Value.pointer none, Value.pointer none, Value.bool false, Value.bool false, Value.bool false, Value.bool false, Value.bool false] 42)).alloc (Obj.cells #[Value.iface 133 (Value.pointer (some { block := 0, off := 25 })), Value.int IntKind.u64 20, Value.pointer none, Value.pointer none, Value.bool false, Value.bool false, Value.bool false, Value.bool false, Value.bool false] 42) = w' := by
  go_enter Tryz.func93, Tryz.ntmps93
  go_wp2_with (first | (go_at_call 115; ((with_reducible refine (ft_25 _).mono ?_); rintro e w' ⟨rfl, rfl⟩)))
  exact bodyPost_ret (v := .agg #[Value.iface 133 (Value.pointer (some { block := 0, off := 25 })), Value.int IntKind.u64 20, Value.pointer none, Value.pointer none, Value.bool false, Value.bool false, Value.bool false, Value.bool false, Value.bool false]) (by simp [results, Tryz.results93, go_sem]) rfl ⟨rfl, rfl⟩

theorem nc_nil  (w : World) : Calls Tryz.prog 130 #[.pointer none, .nilIface] w fun e w' => e = .returned (.agg #[Value.nilIface, Value.int IntKind.u64 0, Value.pointer none, Value.pointer none, Value.bool true, Value.bool false, Value.bool false, Value.bool false, Value.bool false]) ∧ w.alloc (Obj.cells #[Value.nilIface, Value.int IntKind.u64 0, Value.pointer none, Value.pointer none, Value.bool true, Value.bool false, Value.bool false, Value.bool false, Value.bool false] 42) = w' := by
  go_enter Tryz.func130, Tryz.ntmps130
  go_wp2
  exact bodyPost_ret (v := .agg #[Value.nilIface, Value.int IntKind.u64 0, Value.pointer none, Value.pointer none, Value.bool true, Value.bool false, Value.bool false, Value.bool false, Value.bool false]) (by simp [results, Tryz.results130, go_sem]) rfl ⟨rfl, rfl⟩

theorem no_nil  (w : World) : Calls Tryz.prog 121 #[.nilIface] w fun e w' => e = .returned (.agg #[Value.nilIface, Value.int IntKind.u64 0, Value.pointer none, Value.pointer none, Value.bool true, Value.bool false, Value.bool false, Value.bool false, Value.bool false]) ∧ (w.alloc (Obj.cells #[Value.nilIface, Value.int IntKind.u64 0, Value.pointer none, Value.pointer none, Value.bool true, Value.bool false, Value.bool false, Value.bool false, Value.bool false] 42)).alloc (Obj.cells #[Value.nilIface, Value.int IntKind.u64 0, Value.pointer none, Value.pointer none, Value.bool true, Value.bool false, Value.bool false, Value.bool false, Value.bool false] 42) = w' := by
  go_enter Tryz.func121, Tryz.ntmps121
  go_wp2_with (first | (go_at_call 130; ((with_reducible refine (nc_nil _).mono ?_); rintro e w' ⟨rfl, rfl⟩)))
  exact bodyPost_ret (v := .agg #[Value.nilIface, Value.int IntKind.u64 0, Value.pointer none, Value.pointer none, Value.bool true, Value.bool false, Value.bool false, Value.bool false, Value.bool false]) (by simp [results, Tryz.results121, go_sem]) rfl ⟨rfl, rfl⟩

theorem c_95  (w : World) : Calls Tryz.prog 95 #[] w fun e w' => e = .returned (.agg #[Value.nilIface, Value.int IntKind.u64 0, Value.pointer none, Value.pointer none, Value.bool true, Value.bool false, Value.bool false, Value.bool false, Value.bool false]) ∧ ((w.alloc (Obj.cells #[Value.nilIface, Value.int IntKind.u64 0, Value.pointer none, Value.pointer none, Value.bool true, Value.bool false, Value.bool false, Value.bool false, Value.bool false] 42)).alloc (Obj.cells #[Value.nilIface, Value.int IntKind.u64 0, Value.pointer none, Value.pointer none, Value.bool true, Value.bool false, Value.bool false, Value.bool false, Value.bool false] 42)).alloc (Obj.cells #[Value.nilIface, Value.int IntKind.u64 0, Value.pointer none, Value.pointer none, Value.bool true, Value.bool false, Value.bool false, Value.bool false, Value.bool false] 42) = w' := by
  go_enter Tryz.func95, Tryz.ntmps95
  go_wp2_with (first | (go_at_call 121; ((with_reducible refine (no_nil _).mono ?_); rintro e w' ⟨rfl, rfl⟩)))
  exact bodyPost_ret (v := .agg #[Value.nilIface, Value.int IntKind.u64 0, Value.pointer none, Value.pointer none, Value.bool true, Value.bool false, Value.bool false, Value.bool false, Value.bool false]) (by simp [results, Tryz.results95, go_sem]) rfl ⟨rfl, rfl⟩

theorem sample_0  (w : World) : Calls Tryz.prog 23 #[.int .i64 0] w fun e w' => e = .returned (.agg #[Value.iface 133 (Value.pointer (some { block := 0, off := 3 })), Value.int IntKind.u64 2, Value.pointer none, Value.pointer none, Value.bool false, Value.bool false, Value.bool false, Value.bool true, Value.bool false]) ∧ (((w.alloc (Obj.cells #[Value.iface 133 (Value.pointer (some { block := 0, off := 3 })), Value.int IntKind.u64 2, Value.pointer none, Value.pointer none, Value.bool false, Value.bool false, Value.bool false, Value.bool true, Value.bool false] 42)).alloc (Obj.cells #[Value.iface 133 (Value.pointer (some { block := 0, off := 3 })), Value.int IntKind.u64 2, Value.pointer none, Value.pointer none, Value.bool false, Value.bool false, Value.bool false, Value.bool true, Value.bool false] 42)).alloc (Obj.cells #[Value.iface 133 (Value.pointer (some { block := 0, off := 3 })), Value.int IntKind.u64 2, Value.pointer none, Value.pointer none, Value.bool false, Value.bool false, Value.bool false, Value.bool true, Value.bool false] 42)).alloc (Obj.cells #[Value.iface 133 (Value.pointer (some { block := 0, off := 3 })), Value.int IntKind.u64 2, Value.pointer none, Value.pointer none, Value.bool false, Value.bool false, Value.bool false, Value.bool true, Value.bool false] 42) = w' := by
  go_enter Tryz.func23, Tryz.ntmps23
  go_wp2_with (first | (go_at_call 85; ((with_reducible refine (c_85 _).mono ?_); rintro e w' ⟨rfl, rfl⟩)))
  exact bodyPost_ret (v := .agg #[Value.iface 133 (Value.pointer (some { block := 0, off := 3 })), Value.int IntKind.u64 2, Value.pointer none, Value.pointer none, Value.bool false, Value.bool false, Value.bool false, Value.bool true, Value.bool false]) (by simp [results, Tryz.results23, go_sem]) rfl ⟨rfl, rfl⟩

theorem sample_1  (w : World) : Calls Tryz.prog 23 #[.int .i64 1] w fun e w' => e = .returned (.agg #[Value.iface 133 (Value.pointer (some { block := 0, off := 2 })), Value.int IntKind.u64 6, Value.pointer none, Value.pointer none, Value.bool false, Value.bool false, Value.bool false, Value.bool true, Value.bool false]) ∧ (((w.alloc (Obj.cells #[Value.iface 133 (Value.pointer (some { block := 0, off := 2 })), Value.int IntKind.u64 6, Value.pointer none, Value.pointer none, Value.bool false, Value.bool false, Value.bool false, Value.bool true, Value.bool false] 42)).alloc (Obj.cells #[Value.iface 133 (Value.pointer (some { block := 0, off := 2 })), Value.int IntKind.u64 6, Value.pointer none, Value.pointer none, Value.bool false, Value.bool false, Value.bool false, Value.bool true, Value.bool false] 42)).alloc (Obj.cells #[Value.iface 133 (Value.pointer (some { block := 0, off := 2 })), Value.int IntKind.u64 6, Value.pointer none, Value.pointer none, Value.bool false, Value.bool false, Value.bool false, Value.bool true, Value.bool false] 42)).alloc (Obj.cells #[Value.iface 133 (Value.pointer (some { block := 0, off := 2 })), Value.int IntKind.u64 6, Value.pointer none, Value.pointer none, Value.bool false, Value.bool false, Value.bool false, Value.bool true, Value.bool false] 42) = w' := by
  go_enter Tryz.func23, Tryz.ntmps23
  go_wp2_with (first | (go_at_call 86; ((with_reducible refine (c_86 _).mono ?_); rintro e w' ⟨rfl, rfl⟩)))
  exact bodyPost_ret (v := .agg #[Value.iface 133 (Value.pointer (some { block := 0, off := 2 })), Value.int IntKind.u64 6, Value.pointer none, Value.pointer none, Value.bool false, Value.bool false, Value.bool false, Value.bool true, Value.bool false]) (by simp [results, Tryz.results23, go_sem]) rfl ⟨rfl, rfl⟩

theorem sample_2  (w : World) : Calls Tryz.prog 23 #[.int .i64 2] w fun e w' => e = .returned (.agg #[Value.iface 133 (Value.pointer (some { block := 0, off := 9 })), Value.int IntKind.u64 24, Value.pointer none, Value.pointer none, Value.bool false, Value.bool false, Value.bool false, Value.bool false, Value.bool false]) ∧ (((w.alloc (Obj.cells #[Value.iface 133 (Value.pointer (some { block := 0, off := 9 })), Value.int IntKind.u64 24, Value.pointer none, Value.pointer none, Value.bool false, Value.bool false, Value.bool false, Value.bool false, Value.bool false] 42)).alloc (Obj.cells #[Value.iface 133 (Value.pointer (some { block := 0, off := 9 })), Value.int IntKind.u64 24, Value.pointer none, Value.pointer none, Value.bool false, Value.bool false, Value.bool false, Value.bool false, Value.bool false] 42)).alloc (Obj.cells #[Value.iface 133 (Value.pointer (some { block := 0, off := 9 })), Value.int IntKind.u64 24, Value.pointer none, Value.pointer none, Value.bool false, Value.bool false, Value.bool false, Value.bool false, Value.bool false] 42)).alloc (Obj.cells #[Value.iface 133 (Value.pointer (some { block := 0, off := 9 })), Value.int IntKind.u64 24, Value.pointer none, Value.pointer none, Value.bool false, Value.bool false, Value.bool false, Value.bool false, Value.bool false] 42) = w' := by
  go_enter Tryz.func23, Tryz.ntmps23
  go_wp2_with (first | (go_at_call 87; ((with_reducible refine (c_87 _).mono ?_); rintro e w' ⟨rfl, rfl⟩)))
  exact bodyPost_ret (v := .agg #[Value.iface 133 (Value.pointer (some { block := 0, off := 9 })), Value.int IntKind.u64 24, Value.pointer none, Value.pointer none, Value.bool false, Value.bool false, Value.bool false, Value.bool false, Value.bool false]) (by simp [results, Tryz.results23, go_sem]) rfl ⟨rfl, rfl⟩

theorem sample_3  (w : World) : Calls Tryz.prog 23 #[.int .i64 3] w fun e w' => e = .returned (.agg #[Value.iface 133 (Value.pointer (some { block := 0, off := 93 })), Value.int IntKind.u64 23, Value.pointer none, Value.pointer none, Value.bool false, Value.bool false, Value.bool false, Value.bool false, Value.bool false]) ∧ (((w.alloc (Obj.cells #[Value.iface 133 (Value.pointer (some { block := 0, off := 93 })), Value.int IntKind.u64 23, Value.pointer none, Value.pointer none, Value.bool false, Value.bool false, Value.bool false, Value.bool false, Value.bool false] 42)).alloc (Obj.cells #[Value.iface 133 (Value.pointer (some { block := 0, off := 93 })), Value.int IntKind.u64 23, Value.pointer none, Value.pointer none, Value.bool false, Value.bool false, Value.bool false, Value.bool false, Value.bool false] 42)).alloc (Obj.cells #[Value.iface 133 (Value.pointer (some { block := 0, off := 93 })), Value.int IntKind.u64 23, Value.pointer none, Value.pointer none, Value.bool false, Value.bool false, Value.bool false, Value.bool false, Value.bool false] 42)).alloc (Obj.cells #[Value.iface 133 (Value.pointer (some { block := 0, off := 93 })), Value.int IntKind.u64 23, Value.pointer none, Value.pointer none, Value.bool false, Value.bool false, Value.bool false, Value.bool false, Value.bool false] 42) = w' := by
  go_enter Tryz.func23, Tryz.ntmps23
  go_wp2_with (first | (go_at_call 88; ((with_reducible refine (c_88 _).mono ?_); rintro e w' ⟨rfl, rfl⟩)))
  exact bodyPost_ret (v := .agg #[Value.iface 133 (Value.pointer (some { block := 0, off := 93 })), Value.int IntKind.u64 23, Value.pointer none, Value.pointer none, Value.bool false, Value.bool false, Value.bool false, Value.bool false, Value.bool false]) (by simp [results, Tryz.results23, go_sem]) rfl ⟨rfl, rfl⟩

theorem sample_4  (w : World) : Calls Tryz.prog 23 #[.int .i64 4] w fun e w' => e = .returned (.agg #[Value.iface 133 (Value.pointer (some { block := 0, off := 120 })), Value.int IntKind.u64 22, Value.pointer none, Value.pointer none, Value.bool false, Value.bool false, Value.bool false, Value.bool false, Value.bool false]) ∧ (((w.alloc (Obj.cells #[Value.iface 133 (Value.pointer (some { block := 0, off := 120 })), Value.int IntKind.u64 22, Value.pointer none, Value.pointer none, Value.bool false, Value.bool false, Value.bool false, Value.bool false, Value.bool false] 42)).alloc (Obj.cells #[Value.iface 133 (Value.pointer (some { block := 0, off := 120 })), Value.int IntKind.u64 22, Value.pointer none, Value.pointer none, Value.bool false, Value.bool false, Value.bool false, Value.bool false, Value.bool false] 42)).alloc (Obj.cells #[Value.iface 133 (Value.pointer (some { block := 0, off := 120 })), Value.int IntKind.u64 22, Value.pointer none, Value.pointer none, Value.bool false, Value.bool false, Value.bool false, Value.bool false, Value.bool false] 42)).alloc (Obj.cells #[Value.iface 133 (Value.pointer (some { block := 0, off := 120 })), Value.int IntKind.u64 22, Value.pointer none, Value.pointer none, Value.bool false, Value.bool false, Value.bool false, Value.bool false, Value.bool false] 42) = w' := by
  go_enter Tryz.func23, Tryz.ntmps23
  go_wp2_with (first | (go_at_call 89; ((with_reducible refine (c_89 _).mono ?_); rintro e w' ⟨rfl, rfl⟩)))
  exact bodyPost_ret (v := .agg #[Value.iface 133 (Value.pointer (some { block := 0, off := 120 })), Value.int IntKind.u64 22, Value.pointer none, Value.pointer none, Value.bool false, Value.bool false, Value.bool false, Value.bool false, Value.bool false]) (by simp [results, Tryz.results23, go_sem]) rfl ⟨rfl, rfl⟩

theorem sample_5  (w : World) : Calls Tryz.prog 23 #[.int .i64 5] w fun e w' => e = .returned (.agg #[Value.iface 133 (Value.pointer (some { block := 0, off := 109 })), Value.int IntKind.u64 21, Value.pointer none, Value.pointer none, Value.bool false, Value.bool false, Value.bool false, Value.bool false, Value.bool false]) ∧ (((w.alloc (Obj.cells #[Value.iface 133 (Value.pointer (some { block := 0, off := 109 })), Value.int IntKind.u64 21, Value.pointer none, Value.pointer none, Value.bool false, Value.bool false, Value.bool false, Value.bool false, Value.bool false] 42)).alloc (Obj.cells #[Value.iface 133 (Value.pointer (some { block := 0, off := 109 })), Value.int IntKind.u64 21, Value.pointer none, Value.pointer none, Value.bool false, Value.bool false, Value.bool false, Value.bool false, Value.bool false] 42)).alloc (Obj.cells #[Value.iface 133 (Value.pointer (some { block := 0, off := 109 })), Value.int IntKind.u64 21, Value.pointer none, Value.pointer none, Value.bool false, Value.bool false, Value.bool false, Value.bool false, Value.bool false] 42)).alloc (Obj.cells #[Value.iface 133 (Value.pointer (some { block := 0, off := 109 })), Value.int IntKind.u64 21, Value.pointer none, Value.pointer none, Value.bool false, Value.bool false, Value.bool false, Value.bool false, Value.bool false] 42) = w' := by
  go_enter Tryz.func23, Tryz.ntmps23
  go_wp2_with (first | (go_at_call 90; ((with_reducible refine (c_90 _).mono ?_); rintro e w' ⟨rfl, rfl⟩)))
  exact bodyPost_ret (v := .agg #[Value.iface 133 (Value.pointer (some { block := 0, off := 109 })), Value.int IntKind.u64 21, Value.pointer none, Value.pointer none, Value.bool false, Value.bool false, Value.bool false, Value.bool false, Value.bool false]) (by simp [results, Tryz.results23, go_sem]) rfl ⟨rfl, rfl⟩

theorem sample_6  (w : World) : Calls Tryz.prog 23 #[.int .i64 6] w fun e w' => e = .returned (.agg #[Value.iface 133 (Value.pointer (some { block := 0, off := 1 })), Value.int IntKind.u64 19, Value.pointer (some { block := w.heap.size + 1 + 1 + 1 + 1, off := 0 }), Value.pointer none, Value.bool false, Value.bool false, Value.bool false, Value.bool false, Value.bool false]) ∧ ((((w.alloc (Obj.cells #[Value.iface 133 (Value.pointer (some { block := 0, off := 1 })), Value.int IntKind.u64 19, Value.pointer (some { block := w.heap.size + 1 + 1 + 1 + 1, off := 0 }), Value.pointer none, Value.bool false, Value.bool false, Value.bool false, Value.bool false, Value.bool false] 42)).alloc (Obj.cells #[Value.iface 133 (Value.pointer (some { block := 0, off := 1 })), Value.int IntKind.u64 19, Value.pointer (some { block := w.heap.size + 1 + 1 + 1 + 1, off := 0 }), Value.pointer none, Value.bool false, Value.bool false, Value.bool false, Value.bool false, Value.bool false] 42)).alloc (Obj.cells #[Value.iface 133 (Value.pointer (some { block := 0, off := 1 })), Value.int IntKind.u64 19, Value.pointer (some { block := w.heap.size + 1 + 1 + 1 + 1, off := 0 }), Value.pointer none, Value.bool false, Value.bool false, Value.bool false, Value.bool false, Value.bool false] 42)).alloc (Obj.cells #[Value.iface 133 (Value.pointer (some { block := 0, off := 1 })), Value.int IntKind.u64 19, Value.pointer (some { block := w.heap.size + 1 + 1 + 1 + 1, off := 0 }), Value.pointer none, Value.bool false, Value.bool false, Value.bool false, Value.bool false, Value.bool false] 42)).alloc (Obj.cells #[Value.pointer none, Value.pointer none, Value.map none, Value.pointer none, Value.pointer none, Value.int IntKind.i64 0, Value.pointer none, Value.pointer none, Value.int IntKind.i64 0, Value.int IntKind.i64 0, Value.bool false, Value.bool false, Value.bool false, Value.bool false] 66) = w' := by
  go_enter Tryz.func23, Tryz.ntmps23
  go_wp2_with (first | (go_at_call 91; ((with_reducible refine (c_91 _).mono ?_); rintro e w' ⟨rfl, rfl⟩)))
  exact bodyPost_ret (v := .agg #[Value.iface 133 (Value.pointer (some { block := 0, off := 1 })), Value.int IntKind.u64 19, Value.pointer (some { block := w.heap.size + 1 + 1 + 1 + 1, off := 0 }), Value.pointer none, Value.bool false, Value.bool false, Value.bool false, Value.bool false, Value.bool false]) (by simp [results, Tryz.results23, go_sem]) rfl ⟨rfl, rfl⟩

theorem sample_7  (w : World) : Calls Tryz.prog 23 #[.int .i64 7] w fun e w' => e = .returned (.agg #[Value.iface 133 (Value.pointer (some { block := 0, off := 20 })), Value.int IntKind.u64 20, Value.pointer none, Value.pointer none, Value.bool false, Value.bool false, Value.bool false, Value.bool false, Value.bool false]) ∧ (((w.alloc (Obj.cells #[Value.iface 133 (Value.pointer (some { block := 0, off := 20 })), Value.int IntKind.u64 20, Value.pointer none, Value.pointer none, Value.bool false, Value.bool false, Value.bool false, Value.bool false, Value.bool false] 42)).alloc (Obj.cells #[Value.iface 133 (Value.pointer (some { block := 0, off := 20 })), Value.int IntKind.u64 20, Value.pointer none, Value.pointer none, Value.bool false, Value.bool false, Value.bool false, Value.bool false, Value.bool false] 42)).alloc (Obj.cells #[Value.iface 133 (Value.pointer (some { block := 0, off := 20 })), Value.int IntKind.u64 20, Value.pointer none, Value.pointer none, Value.bool false, Value.bool false, Value.bool false, Value.bool false, Value.bool false] 42)).alloc (Obj.cells #[Value.iface 133 (Value.pointer (some { block := 0, off := 20 })), Value.int IntKind.u64 20, Value.pointer none, Value.pointer none, Value.bool false, Value.bool false, Value.bool false, Value.bool false, Value.bool false] 42) = w' := by
  go_enter Tryz.func23, Tryz.ntmps23
  go_wp2_with (first | (go_at_call 92; ((with_reducible refine (c_92 _).mono ?_); rintro e w' ⟨rfl, rfl⟩)))
  exact bodyPost_ret (v := .agg #[Value.iface 133 (Value.pointer (some { block := 0, off := 20 })), Value.int IntKind.u64 20, Value.pointer none, Value.pointer none, Value.bool false, Value.bool false, Value.bool false, Value.bool false, Value.bool false]) (by simp [results, Tryz.results23, go_sem]) rfl ⟨rfl, rfl⟩

theorem sample_8  (w : World) : Calls Tryz.prog 23 #[.int .i64 8] w fun e w' => e = .returned (.agg #[Value.iface 133 (Value.pointer (some { block := 0, off := 25 })), Value.int IntKind.u64 20, Value.pointer none, Value.pointer none, Value.bool false, Value.bool false, Value.bool false, Value.bool false, Value.bool false]) ∧ (((w.alloc (Obj.cells #[Value.iface 133 (Value.pointer (some { block := 0, off := 25 })), Value.int IntKind.u64 20, Value.pointer none, Value.pointer none, Value.bool false, Value.bool false, Value.bool false, Value.bool false, Value.bool false] 42)).alloc (Obj.cells #[Value.iface 133 (Value.pointer (some { block := 0, off := 25 })), Value.int IntKind.u64 20, Value.pointer none, Value.pointer none, Value.bool false, Value.bool false, Value.bool false, Value.bool false, Value.bool false] 42)).alloc (Obj.cells #[Value.iface 133 (Value.pointer (some { block := 0, off := 25 })), Value.int IntKind.u64 20, Value.pointer none, Value.pointer none, Value.bool false, Value.bool false, Value.bool false, Value.bool false, Value.bool false] 42)).alloc (Obj.cells #[Value.iface 133 (Value.pointer (some { block := 0, off := 25 })), Value.int IntKind.u64 20, Value.pointer none, Value.pointer none, Value.bool false, Value.bool false, Value.bool false, Value.bool false, Value.bool false] 42) = w' := by
  go_enter Tryz.func23, Tryz.ntmps23
  go_wp2_with (first | (go_at_call 93; ((with_reducible refine (c_93 _).mono ?_); rintro e w' ⟨rfl, rfl⟩)))
  exact bodyPost_ret (v := .agg #[Value.iface 133 (Value.pointer (some { block := 0, off := 25 })), Value.int IntKind.u64 20, Value.pointer none, Value.pointer none, Value.bool false, Value.bool false, Value.bool false, Value.bool false, Value.bool false]) (by simp [results, Tryz.results23, go_sem]) rfl ⟨rfl, rfl⟩

theorem sample_9  (w : World) : Calls Tryz.prog 23 #[.int .i64 9] w fun e w' => e = .returned (.agg #[Value.iface 133 (Value.pointer (some { block := 0, off := 54 })), Value.int IntKind.u64 22, Value.pointer none, Value.pointer none, Value.bool false, Value.bool false, Value.bool false, Value.bool false, Value.bool false]) ∧ (((w.alloc (Obj.cells #[Value.iface 133 (Value.pointer (some { block := 0, off := 54 })), Value.int IntKind.u64 22, Value.pointer none, Value.pointer none, Value.bool false, Value.bool false, Value.bool false, Value.bool false, Value.bool false] 42)).alloc (Obj.cells #[Value.iface 133 (Value.pointer (some { block := 0, off := 54 })), Value.int IntKind.u64 22, Value.pointer none, Value.pointer none, Value.bool false, Value.bool false, Value.bool false, Value.bool false, Value.bool false] 42)).alloc (Obj.cells #[Value.iface 133 (Value.pointer (some { block := 0, off := 54 })), Value.int IntKind.u64 22, Value.pointer none, Value.pointer none, Value.bool false, Value.bool false, Value.bool false, Value.bool false, Value.bool false] 42)).alloc (Obj.cells #[Value.iface 133 (Value.pointer (some { block := 0, off := 54 })), Value.int IntKind.u64 22, Value.pointer none, Value.pointer none, Value.bool false, Value.bool false, Value.bool false, Value.bool false, Value.bool false] 42) = w' := by
  go_enter Tryz.func23, Tryz.ntmps23
  go_wp2_with (first | (go_at_call 94; ((with_reducible refine (c_94 _).mono ?_); rintro e w' ⟨rfl, rfl⟩)))
  exact bodyPost_ret (v := .agg #[Value.iface 133 (Value.pointer (some { block := 0, off := 54 })), Value.int IntKind.u64 22, Value.pointer none, Value.pointer none, Value.bool false, Value.bool false, Value.bool false, Value.bool false, Value.bool false]) (by simp [results, Tryz.results23, go_sem]) rfl ⟨rfl, rfl⟩

theorem sample_10  (w : World) : Calls Tryz.prog 23 #[.int .i64 10] w fun e w' => e = .returned (.agg #[Value.nilIface, Value.int IntKind.u64 0, Value.pointer none, Value.pointer none, Value.bool true, Value.bool false, Value.bool false, Value.bool false, Value.bool false]) ∧ (((w.alloc (Obj.cells #[Value.nilIface, Value.int IntKind.u64 0, Value.pointer none, Value.pointer none, Value.bool true, Value.bool false, Value.bool false, Value.bool false, Value.bool false] 42)).alloc (Obj.cells #[Value.nilIface, Value.int IntKind.u64 0, Value.pointer none, Value.pointer none, Value.bool true, Value.bool false, Value.bool false, Value.bool false, Value.bool false] 42)).alloc (Obj.cells #[Value.nilIface, Value.int IntKind.u64 0, Value.pointer none, Value.pointer none, Value.bool true, Value.bool false, Value.bool false, Value.bool false, Value.bool false] 42)).alloc (Obj.cells #[Value.nilIface, Value.int IntKind.u64 0, Value.pointer none, Value.pointer none, Value.bool true, Value.bool false, Value.bool false, Value.bool false, Value.bool false] 42) = w' := by
  go_enter Tryz.func23, Tryz.ntmps23
  go_wp2_with (first | (go_at_call 95; ((with_reducible refine (c_95 _).mono ?_); rintro e w' ⟨rfl, rfl⟩)))
  exact bodyPost_ret (v := .agg #[Value.nilIface, Value.int IntKind.u64 0, Value.pointer none, Value.pointer none, Value.bool true, Value.bool false, Value.bool false, Value.bool false, Value.bool false]) (by simp [results, Tryz.results23, go_sem]) rfl ⟨rfl, rfl⟩

theorem sample_11  (w : World) : Calls Tryz.prog 23 #[.int .i64 11] w fun e w' => e = .returned (.agg #[Value.nilIface, Value.int IntKind.u64 0, Value.pointer none, Value.pointer none, Value.bool false, Value.bool false, Value.bool false, Value.bool false, Value.bool false]) ∧ w.alloc (Obj.cells #[Value.nilIface, Value.int IntKind.u64 0, Value.pointer none, Value.pointer none, Value.bool false, Value.bool false, Value.bool false, Value.bool false, Value.bool false] 42) = w' := by
  go_enter Tryz.func23, Tryz.ntmps23
  go_wp2
  exact bodyPost_ret (v := .agg #[Value.nilIface, Value.int IntKind.u64 0, Value.pointer none, Value.pointer none, Value.bool false, Value.bool false, Value.bool false, Value.bool false, Value.bool false]) (by simp [results, Tryz.results23, go_sem]) rfl ⟨rfl, rfl⟩

def vT (i : Int) : Value := match i.toNat with
  | 0 => .iface 133 (.pointer (some ⟨0, 3, none⟩))
  | 1 => .iface 133 (.pointer (some ⟨0, 2, none⟩))
  | 2 => .iface 133 (.pointer (some ⟨0, 9, none⟩))
  | 3 => .iface 133 (.pointer (some ⟨0, 93, none⟩))
  | 4 => .iface 133 (.pointer (some ⟨0, 120, none⟩))
  | 5 => .iface 133 (.pointer (some ⟨0, 109, none⟩))
  | 6 => .iface 133 (.pointer (some ⟨0, 1, none⟩))
  | 7 => .iface 133 (.pointer (some ⟨0, 20, none⟩))
  | 8 => .iface 133 (.pointer (some ⟨0, 25, none⟩))
  | 9 => .iface 133 (.pointer (some ⟨0, 54, none⟩))
  | 10 => .nilIface
  | _ => .nilIface
def vK (i : Int) : Int := match i.toNat with
  | 0 => 2
  | 1 => 6
  | 2 => 24
  | 3 => 23
  | 4 => 22
  | 5 => 21
  | 6 => 19
  | 7 => 20
  | 8 => 20
  | 9 => 22
  | 10 => 0
  | _ => 0
def vNil (i : Int) : Bool := i == 10
def vInt (i : Int) : Bool := i == 0 || i == 1

def tt (i : Int) : Nat := match i.toNat with
  | 0 => 3
  | 1 => 2
  | 2 => 9
  | 3 => 93
  | 4 => 120
  | 5 => 109
  | 6 => 1
  | 7 => 20
  | 8 => 25
  | 9 => 54
  | _ => 0

theorem vT_typed (i : Int) (h0 : 0 ≤ i) (h1 : i < 10) : vT i = .iface 133 (.pointer (some ⟨0, tt i, none⟩)) ∧ vNil i = false := by
  have hs : i = 0 ∨ i = 1 ∨ i = 2 ∨ i = 3 ∨ i = 4 ∨ i = 5 ∨ i = 6 ∨ i = 7 ∨ i = 8 ∨ i = 9 := by omega
  rcases hs with rfl | rfl | rfl | rfl | rfl | rfl | rfl | rfl | rfl | rfl <;> exact ⟨rfl, rfl⟩
theorem sample_typed (i : Int) (h0 : 0 ≤ i) (h1 : i < 10) (w : World) : Calls Tryz.prog 23 #[.int .i64 i] w fun e w' => ∃ tp, e = .returned (.agg #[.iface 133 (.pointer (some ⟨0, tt i, none⟩)), .int .u64 (vK i), .pointer tp, .pointer none, .bool false, .bool false, .bool false, .bool (vInt i), .bool false]) ∧ Below w.heap.size w w' ∧ w.heap.size < w'.heap.size := by
  have hs : i = 0 ∨ i = 1 ∨ i = 2 ∨ i = 3 ∨ i = 4 ∨ i = 5 ∨ i = 6 ∨ i = 7 ∨ i = 8 ∨ i = 9 := by omega
  rcases hs with rfl | rfl | rfl | rfl | rfl | rfl | rfl | rfl | rfl | rfl
  · refine (sample_0 w).mono fun e w' ⟨he, hw⟩ => ⟨_, he, ?_, ?_⟩
    · subst hw
      repeat (refine bal ?_ _)
      exact Below.refl _ _
    · subst hw
      simp
      try omega
  · refine (sample_1 w).mono fun e w' ⟨he, hw⟩ => ⟨_, he, ?_, ?_⟩
    · subst hw
      repeat (refine bal ?_ _)
      exact Below.refl _ _
    · subst hw
      simp
      try omega
  · refine (sample_2 w).mono fun e w' ⟨he, hw⟩ => ⟨_, he, ?_, ?_⟩
    · subst hw
      repeat (refine bal ?_ _)
      exact Below.refl _ _
    · subst hw
      simp
      try omega
  · refine (sample_3 w).mono fun e w' ⟨he, hw⟩ => ⟨_, he, ?_, ?_⟩
    · subst hw
      repeat (refine bal ?_ _)
      exact Below.refl _ _
    · subst hw
      simp
      try omega
  · refine (sample_4 w).mono fun e w' ⟨he, hw⟩ => ⟨_, he, ?_, ?_⟩
    · subst hw
      repeat (refine bal ?_ _)
      exact Below.refl _ _
    · subst hw
      simp
      try omega
  · refine (sample_5 w).mono fun e w' ⟨he, hw⟩ => ⟨_, he, ?_, ?_⟩
    · subst hw
      repeat (refine bal ?_ _)
      exact Below.refl _ _
    · subst hw
      simp
      try omega
  · refine (sample_6 w).mono fun e w' ⟨he, hw⟩ => ⟨_, he, ?_, ?_⟩
    · subst hw
      repeat (refine bal ?_ _)
      exact Below.refl _ _
    · subst hw
      simp
      try omega
  · refine (sample_7 w).mono fun e w' ⟨he, hw⟩ => ⟨_, he, ?_, ?_⟩
    · subst hw
      repeat (refine bal ?_ _)
      exact Below.refl _ _
    · subst hw
      simp
      try omega
  · refine (sample_8 w).mono fun e w' ⟨he, hw⟩ => ⟨_, he, ?_, ?_⟩
    · subst hw
      repeat (refine bal ?_ _)
      exact Below.refl _ _
    · subst hw
      simp
      try omega
  · refine (sample_9 w).mono fun e w' ⟨he, hw⟩ => ⟨_, he, ?_, ?_⟩
    · subst hw
      repeat (refine bal ?_ _)
      exact Below.refl _ _
    · subst hw
      simp
      try omega
theorem sample_un (i : Int) (h : i = 10 ∨ i = 11) (w : World) : Calls Tryz.prog 23 #[.int .i64 i] w fun e w' => e = .returned (.agg #[.nilIface, .int .u64 0, .pointer none, .pointer none, .bool (vNil i), .bool false, .bool false, .bool false, .bool false]) ∧ Below w.heap.size w w' ∧ w.heap.size < w'.heap.size := by
  rcases h with rfl | rfl
  · refine (sample_10 w).mono fun e w' ⟨he, hw⟩ => ⟨he, ?_, ?_⟩
    · subst hw
      repeat (refine bal ?_ _)
      exact Below.refl _ _
    · subst hw
      simp
      try omega
  · refine (sample_11 w).mono fun e w' ⟨he, hw⟩ => ⟨he, ?_, ?_⟩
    · subst hw
      repeat (refine bal ?_ _)
      exact Below.refl _ _
    · subst hw
      simp
      try omega

theorem nilsrc_2 (b : Nat) (td : Value) (nl2 i2 : Bool) (w : World) (hb : b < w.heap.size) (hc0 : w.cell? ⟨b, 0, none⟩ = some .nilIface) (hc1 : w.cell? ⟨b, 1, none⟩ = some (.int .u64 0)) (hc4 : w.cell? ⟨b, 4, none⟩ = some (.bool true)) (T2 : Value) : Calls Tryz.prog 24 #[.pointer (some ⟨b, 0, none⟩), .agg #[T2, .int .u64 2, td, .pointer none, .bool nl2, .bool false, .bool false, .bool i2, .bool false]] w fun e w' => e = .returned (.bool false) ∧ Below w.heap.size w w' := by
  go_enter Tryz.func24, Tryz.ntmps24
  go_wp2
  go_quiet (fail)
  go_wp2
  go_ret
  refine ⟨rfl, ?_⟩
  repeat (first | refine bal ?_ _ | refine Below.drew ?_ | refine below_drewN ?_ _)
  exact Below.refl _ _

theorem nilsrc_6 (b : Nat) (td : Value) (nl2 i2 : Bool) (w : World) (hb : b < w.heap.size) (hc0 : w.cell? ⟨b, 0, none⟩ = some .nilIface) (hc1 : w.cell? ⟨b, 1, none⟩ = some (.int .u64 0)) (hc4 : w.cell? ⟨b, 4, none⟩ = some (.bool true)) (T2 : Value) : Calls Tryz.prog 24 #[.pointer (some ⟨b, 0, none⟩), .agg #[T2, .int .u64 6, td, .pointer none, .bool nl2, .bool false, .bool false, .bool i2, .bool false]] w fun e w' => e = .returned (.bool false) ∧ Below w.heap.size w w' := by
  go_enter Tryz.func24, Tryz.ntmps24
  go_wp2
  go_quiet (fail)
  go_wp2
  go_ret
  refine ⟨rfl, ?_⟩
  repeat (first | refine bal ?_ _ | refine Below.drew ?_ | refine below_drewN ?_ _)
  exact Below.refl _ _

theorem nilsrc_24 (b : Nat) (td : Value) (nl2 i2 : Bool) (w : World) (hb : b < w.heap.size) (hc0 : w.cell? ⟨b, 0, none⟩ = some .nilIface) (hc1 : w.cell? ⟨b, 1, none⟩ = some (.int .u64 0)) (hc4 : w.cell? ⟨b, 4, none⟩ = some (.bool true)) (T2 : Value) : Calls Tryz.prog 24 #[.pointer (some ⟨b, 0, none⟩), .agg #[T2, .int .u64 24, td, .pointer none, .bool nl2, .bool false, .bool false, .bool i2, .bool false]] w fun e w' => e = .returned (.bool false) ∧ Below w.heap.size w w' := by
  go_enter Tryz.func24, Tryz.ntmps24
  go_wp2
  go_quiet (fail)
  go_wp2
  go_ret
  refine ⟨rfl, ?_⟩
  repeat (first | refine bal ?_ _ | refine Below.drew ?_ | refine below_drewN ?_ _)
  exact Below.refl _ _

theorem nilsrc_23 (b : Nat) (td : Value) (nl2 i2 : Bool) (w : World) (hb : b < w.heap.size) (hc0 : w.cell? ⟨b, 0, none⟩ = some .nilIface) (hc1 : w.cell? ⟨b, 1, none⟩ = some (.int .u64 0)) (hc4 : w.cell? ⟨b, 4, none⟩ = some (.bool true)) (T2 : Value) : Calls Tryz.prog 24 #[.pointer (some ⟨b, 0, none⟩), .agg #[T2, .int .u64 23, td, .pointer none, .bool nl2, .bool false, .bool false, .bool i2, .bool false]] w fun e w' => e = .returned (.bool true) ∧ Below w.heap.size w w' := by
  go_enter Tryz.func24, Tryz.ntmps24
  go_wp2
  go_ret
  refine ⟨rfl, ?_⟩
  repeat (first | refine bal ?_ _ | refine Below.drew ?_ | refine below_drewN ?_ _)
  exact Below.refl _ _

theorem nilsrc_22 (b : Nat) (td : Value) (nl2 i2 : Bool) (w : World) (hb : b < w.heap.size) (hc0 : w.cell? ⟨b, 0, none⟩ = some .nilIface) (hc1 : w.cell? ⟨b, 1, none⟩ = some (.int .u64 0)) (hc4 : w.cell? ⟨b, 4, none⟩ = some (.bool true)) (T2 : Value) : Calls Tryz.prog 24 #[.pointer (some ⟨b, 0, none⟩), .agg #[T2, .int .u64 22, td, .pointer none, .bool nl2, .bool false, .bool false, .bool i2, .bool false]] w fun e w' => e = .returned (.bool true) ∧ Below w.heap.size w w' := by
  go_enter Tryz.func24, Tryz.ntmps24
  go_wp2
  go_ret
  refine ⟨rfl, ?_⟩
  repeat (first | refine bal ?_ _ | refine Below.drew ?_ | refine below_drewN ?_ _)
  exact Below.refl _ _

theorem nilsrc_21 (b : Nat) (td : Value) (nl2 i2 : Bool) (w : World) (hb : b < w.heap.size) (hc0 : w.cell? ⟨b, 0, none⟩ = some .nilIface) (hc1 : w.cell? ⟨b, 1, none⟩ = some (.int .u64 0)) (hc4 : w.cell? ⟨b, 4, none⟩ = some (.bool true)) (T2 : Value) : Calls Tryz.prog 24 #[.pointer (some ⟨b, 0, none⟩), .agg #[T2, .int .u64 21, td, .pointer none, .bool nl2, .bool false, .bool false, .bool i2, .bool false]] w fun e w' => e = .returned (.bool true) ∧ Below w.heap.size w w' := by
  go_enter Tryz.func24, Tryz.ntmps24
  go_wp2
  go_ret
  refine ⟨rfl, ?_⟩
  repeat (first | refine bal ?_ _ | refine Below.drew ?_ | refine below_drewN ?_ _)
  exact Below.refl _ _

theorem nilsrc_19 (b : Nat) (td : Value) (nl2 i2 : Bool) (w : World) (hb : b < w.heap.size) (hc0 : w.cell? ⟨b, 0, none⟩ = some .nilIface) (hc1 : w.cell? ⟨b, 1, none⟩ = some (.int .u64 0)) (hc4 : w.cell? ⟨b, 4, none⟩ = some (.bool true)) (T2 : Value) : Calls Tryz.prog 24 #[.pointer (some ⟨b, 0, none⟩), .agg #[T2, .int .u64 19, td, .pointer none, .bool nl2, .bool false, .bool false, .bool i2, .bool false]] w fun e w' => e = .returned (.bool true) ∧ Below w.heap.size w w' := by
  go_enter Tryz.func24, Tryz.ntmps24
  go_wp2
  go_ret
  refine ⟨rfl, ?_⟩
  repeat (first | refine bal ?_ _ | refine Below.drew ?_ | refine below_drewN ?_ _)
  exact Below.refl _ _

theorem nilsrc_20 (b : Nat) (td : Value) (nl2 i2 : Bool) (w : World) (hb : b < w.heap.size) (hc0 : w.cell? ⟨b, 0, none⟩ = some .nilIface) (hc1 : w.cell? ⟨b, 1, none⟩ = some (.int .u64 0)) (hc4 : w.cell? ⟨b, 4, none⟩ = some (.bool true)) (T2 : Value) : Calls Tryz.prog 24 #[.pointer (some ⟨b, 0, none⟩), .agg #[T2, .int .u64 20, td, .pointer none, .bool nl2, .bool false, .bool false, .bool i2, .bool false]] w fun e w' => e = .returned (.bool true) ∧ Below w.heap.size w w' := by
  go_enter Tryz.func24, Tryz.ntmps24
  go_wp2
  go_ret
  refine ⟨rfl, ?_⟩
  repeat (first | refine bal ?_ _ | refine Below.drew ?_ | refine below_drewN ?_ _)
  exact Below.refl _ _

theorem nilsrc_0 (b : Nat) (td : Value) (nl2 i2 : Bool) (w : World) (hb : b < w.heap.size) (hc0 : w.cell? ⟨b, 0, none⟩ = some .nilIface) (hc1 : w.cell? ⟨b, 1, none⟩ = some (.int .u64 0)) (hc4 : w.cell? ⟨b, 4, none⟩ = some (.bool true)) (T2 : Value) : Calls Tryz.prog 24 #[.pointer (some ⟨b, 0, none⟩), .agg #[T2, .int .u64 0, td, .pointer none, .bool nl2, .bool false, .bool false, .bool i2, .bool false]] w fun e w' => e = .returned (.bool false) ∧ Below w.heap.size w w' := by
  go_enter Tryz.func24, Tryz.ntmps24
  go_wp2
  go_quiet (fail)
  go_wp2
  go_ret
  refine ⟨rfl, ?_⟩
  repeat (first | refine bal ?_ _ | refine Below.drew ?_ | refine below_drewN ?_ _)
  exact Below.refl _ _

theorem untyped (b : Nat) (td : Value) (nl2 i2 : Bool) (w : World) (hb : b < w.heap.size) (hc0 : w.cell? ⟨b, 0, none⟩ = some .nilIface) (hc1 : w.cell? ⟨b, 1, none⟩ = some (.int .u64 0)) (hc4 : w.cell? ⟨b, 4, none⟩ = some (.bool false)) (T2 : Value) (k2 : Int) : Calls Tryz.prog 24 #[.pointer (some ⟨b, 0, none⟩), .agg #[T2, .int .u64 k2, td, .pointer none, .bool nl2, .bool false, .bool false, .bool i2, .bool false]] w fun e w' => e = .returned (.bool false) ∧ Below w.heap.size w w' := by
  go_enter Tryz.func24, Tryz.ntmps24
  go_wp2
  go_quiet (fail)
  go_wp2
  go_ret
  refine ⟨rfl, ?_⟩
  repeat (first | refine bal ?_ _ | refine Below.drew ?_ | refine below_drewN ?_ _)
  exact Below.refl _ _

theorem totnil (b : Nat) (td : Value) (nl2 i2 : Bool) (w : World) (hb : b < w.heap.size) (t1 : Nat) (k1 : Int) (hc0 : w.cell? ⟨b, 0, none⟩ = some (.iface 133 (.pointer (some ⟨0, t1, none⟩)))) (hc1 : w.cell? ⟨b, 1, none⟩ = some (.int .u64 k1)) (hc4 : w.cell? ⟨b, 4, none⟩ = some (.bool false)) : Calls Tryz.prog 24 #[.pointer (some ⟨b, 0, none⟩), .agg #[.nilIface, .int .u64 0, td, .pointer none, .bool nl2, .bool false, .bool false, .bool i2, .bool false]] w fun e w' => e = .returned (.bool false) ∧ Below w.heap.size w w' := by
  go_enter Tryz.func24, Tryz.ntmps24
  go_wp2
  go_quiet (fail)
  go_wp2
  go_ret
  refine ⟨rfl, ?_⟩
  repeat (first | refine bal ?_ _ | refine Below.drew ?_ | refine below_drewN ?_ _)
  exact Below.refl _ _

theorem differ (b : Nat) (td : Value) (nl2 i2 : Bool) (w : World) (hb : b < w.heap.size) (t1 t2 : Nat) (k1 k2 : Int) (hk : (k1 != k2) = true) (hk2 : (k2 != 20) = true) (hc0 : w.cell? ⟨b, 0, none⟩ = some (.iface 133 (.pointer (some ⟨0, t1, none⟩)))) (hc1 : w.cell? ⟨b, 1, none⟩ = some (.int .u64 k1)) (hc4 : w.cell? ⟨b, 4, none⟩ = some (.bool false)) : Calls Tryz.prog 24 #[.pointer (some ⟨b, 0, none⟩), .agg #[.iface 133 (.pointer (some ⟨0, t2, none⟩)), .int .u64 k2, td, .pointer none, .bool nl2, .bool false, .bool false, .bool i2, .bool false]] w fun e w' => e = .returned (.bool false) ∧ Below w.heap.size w w' := by
  go_enter Tryz.func24, Tryz.ntmps24
  go_wp2
  go_quiet (fail)
  go_wp2
  go_ret
  refine ⟨rfl, ?_⟩
  repeat (first | refine bal ?_ _ | refine Below.drew ?_ | refine below_drewN ?_ _)
  exact Below.refl _ _

theorem asks (b : Nat) (td : Value) (nl2 i2 : Bool) (w : World) (hb : b < w.heap.size) (t1 t2 : Nat) (k1 k2 : Int) (r : Bool) (hk : (k1 != k2) = false) (hx : ∀ v, (callFunc 211 #[.pointer (some ⟨0, t1, none⟩), .iface 133 (.pointer (some ⟨0, t2, none⟩))]).run Tryz.prog v = .ok (.value (.bool r)) v) (hc0 : w.cell? ⟨b, 0, none⟩ = some (.iface 133 (.pointer (some ⟨0, t1, none⟩)))) (hc1 : w.cell? ⟨b, 1, none⟩ = some (.int .u64 k1)) (hc4 : w.cell? ⟨b, 4, none⟩ = some (.bool false)) : Calls Tryz.prog 24 #[.pointer (some ⟨b, 0, none⟩), .agg #[.iface 133 (.pointer (some ⟨0, t2, none⟩)), .int .u64 k2, td, .pointer none, .bool nl2, .bool false, .bool false, .bool i2, .bool false]] w fun e w' => e = .returned (.bool r) ∧ Below w.heap.size w w' := by
  go_enter Tryz.func24, Tryz.ntmps24
  go_wp2
  go_quiet (fail)
  go_wp2
  go_region
  go_wp2
  go_ret
  refine ⟨rfl, ?_⟩
  repeat (first | refine bal ?_ _ | refine Below.drew ?_ | refine below_drewN ?_ _)
  exact Below.refl _ _

theorem asks20 (b : Nat) (td : Value) (nl2 i2 : Bool) (w : World) (hb : b < w.heap.size) (t1 t2 : Nat) (k1 : Int) (r : Bool) (hk : (k1 != 20) = true) (hx : ∀ v, (callFunc 211 #[.pointer (some ⟨0, t1, none⟩), .iface 133 (.pointer (some ⟨0, t2, none⟩))]).run Tryz.prog v = .ok (.value (.bool r)) v) (hc0 : w.cell? ⟨b, 0, none⟩ = some (.iface 133 (.pointer (some ⟨0, t1, none⟩)))) (hc1 : w.cell? ⟨b, 1, none⟩ = some (.int .u64 k1)) (hc4 : w.cell? ⟨b, 4, none⟩ = some (.bool false)) : Calls Tryz.prog 24 #[.pointer (some ⟨b, 0, none⟩), .agg #[.iface 133 (.pointer (some ⟨0, t2, none⟩)), .int .u64 20, td, .pointer none, .bool nl2, .bool false, .bool false, .bool i2, .bool false]] w fun e w' => e = .returned (.bool r) ∧ Below w.heap.size w w' := by
  go_enter Tryz.func24, Tryz.ntmps24
  go_wp2
  go_quiet (fail)
  go_wp2
  go_region
  go_wp2
  go_ret
  refine ⟨rfl, ?_⟩
  repeat (first | refine bal ?_ _ | refine Below.drew ?_ | refine below_drewN ?_ _)
  exact Below.refl _ _

theorem missing_some (want : Array (String × TypeId)) (got : Array Method) (n : String) (s : TypeId) (h : (n, s) ∈ want.toList) (hg : got.any (fun m => m.name == n && m.sig == s) = false) : (Instr.missingMethod want got).isNone = false := by
  unfold Instr.missingMethod
  have hne : ((want.toList.filter fun (name, sig) => !got.any fun m => m.name == name && m.sig == sig).map (·.1)) ≠ [] := by
    intro h0
    have h1 := List.map_eq_nil_iff.mp h0
    have h2 : (n, s) ∈ (want.toList.filter fun (name, sig) => !got.any fun m => m.name == name && m.sig == sig) := by
      rw [List.mem_filter]
      exact ⟨h, by simp only [hg]; rfl⟩
    rw [h1] at h2
    exact absurd h2 List.not_mem_nil
  generalize ((want.toList.filter fun (name, sig) => !got.any fun m => m.name == name && m.sig == sig).map (·.1)) = missing at hne
  simp only [List.partition_eq_filter_filter]
  cases he : missing.filter (not ∘ fun x => x.contains '.') with
  | cons a l => simp [Instr.least]
  | nil =>
    cases hu : missing.filter (fun x => x.contains '.') with
    | cons a l => simp [Instr.least]
    | nil =>
      cases missing with
      | nil => exact absurd rfl hne
      | cons a l =>
        have x1 : a ∉ (a :: l).filter (not ∘ fun x => x.contains '.') := by rw [he]; exact List.not_mem_nil
        have x2 : a ∉ (a :: l).filter (fun x => x.contains '.') := by rw [hu]; exact List.not_mem_nil
        rw [List.mem_filter] at x1 x2
        cases hp : a.contains '.' <;> simp_all

def ans (i j : Int) : Bool := if i = 10 then (3 ≤ j && j ≤ 9) else if i = 11 || j = 10 || j = 11 then false else (i = j || j = 7)

theorem noerr_3 (v : World) : (callFunc 211 #[.pointer (some ⟨0, 3, none⟩), .iface 133 (.pointer (some ⟨0, 25, none⟩))]).run Tryz.prog v = .ok (.value (.bool false)) v := by
  have h : (callFunc 211 #[.pointer (some ⟨0, 3, none⟩), .iface 133 (.pointer (some ⟨0, 25, none⟩))]).run Tryz.prog v = .ok (.value (.bool (false || (Instr.missingMethod #[("Error", 47)] (((Tryz.prog.info? 3).map (·.methods)).getD #[])).isNone))) v := by kernel_rfl
  have m : (((Tryz.prog.info? 3).map (·.methods)).getD #[]).any (fun m => m.name == "Error" && m.sig == 47) = false := by kernel_rfl
  rw [h, missing_some _ _ "Error" 47 (by simp) m]
  rfl

theorem noerr_2 (v : World) : (callFunc 211 #[.pointer (some ⟨0, 2, none⟩), .iface 133 (.pointer (some ⟨0, 25, none⟩))]).run Tryz.prog v = .ok (.value (.bool false)) v := by
  have h : (callFunc 211 #[.pointer (some ⟨0, 2, none⟩), .iface 133 (.pointer (some ⟨0, 25, none⟩))]).run Tryz.prog v = .ok (.value (.bool (false || (Instr.missingMethod #[("Error", 47)] (((Tryz.prog.info? 2).map (·.methods)).getD #[])).isNone))) v := by kernel_rfl
  have m : (((Tryz.prog.info? 2).map (·.methods)).getD #[]).any (fun m => m.name == "Error" && m.sig == 47) = false := by kernel_rfl
  rw [h, missing_some _ _ "Error" 47 (by simp) m]
  rfl

theorem noerr_9 (v : World) : (callFunc 211 #[.pointer (some ⟨0, 9, none⟩), .iface 133 (.pointer (some ⟨0, 25, none⟩))]).run Tryz.prog v = .ok (.value (.bool false)) v := by
  have h : (callFunc 211 #[.pointer (some ⟨0, 9, none⟩), .iface 133 (.pointer (some ⟨0, 25, none⟩))]).run Tryz.prog v = .ok (.value (.bool (false || (Instr.missingMethod #[("Error", 47)] (((Tryz.prog.info? 9).map (·.methods)).getD #[])).isNone))) v := by kernel_rfl
  have m : (((Tryz.prog.info? 9).map (·.methods)).getD #[]).any (fun m => m.name == "Error" && m.sig == 47) = false := by kernel_rfl
  rw [h, missing_some _ _ "Error" 47 (by simp) m]
  rfl

theorem noerr_93 (v : World) : (callFunc 211 #[.pointer (some ⟨0, 93, none⟩), .iface 133 (.pointer (some ⟨0, 25, none⟩))]).run Tryz.prog v = .ok (.value (.bool false)) v := by
  have h : (callFunc 211 #[.pointer (some ⟨0, 93, none⟩), .iface 133 (.pointer (some ⟨0, 25, none⟩))]).run Tryz.prog v = .ok (.value (.bool (false || (Instr.missingMethod #[("Error", 47)] (((Tryz.prog.info? 93).map (·.methods)).getD #[])).isNone))) v := by kernel_rfl
  have m : (((Tryz.prog.info? 93).map (·.methods)).getD #[]).any (fun m => m.name == "Error" && m.sig == 47) = false := by kernel_rfl
  rw [h, missing_some _ _ "Error" 47 (by simp) m]
  rfl

theorem noerr_120 (v : World) : (callFunc 211 #[.pointer (some ⟨0, 120, none⟩), .iface 133 (.pointer (some ⟨0, 25, none⟩))]).run Tryz.prog v = .ok (.value (.bool false)) v := by
  have h : (callFunc 211 #[.pointer (some ⟨0, 120, none⟩), .iface 133 (.pointer (some ⟨0, 25, none⟩))]).run Tryz.prog v = .ok (.value (.bool (false || (Instr.missingMethod #[("Error", 47)] (((Tryz.prog.info? 120).map (·.methods)).getD #[])).isNone))) v := by kernel_rfl
  have m : (((Tryz.prog.info? 120).map (·.methods)).getD #[]).any (fun m => m.name == "Error" && m.sig == 47) = false := by kernel_rfl
  rw [h, missing_some _ _ "Error" 47 (by simp) m]
  rfl

theorem noerr_109 (v : World) : (callFunc 211 #[.pointer (some ⟨0, 109, none⟩), .iface 133 (.pointer (some ⟨0, 25, none⟩))]).run Tryz.prog v = .ok (.value (.bool false)) v := by
  have h : (callFunc 211 #[.pointer (some ⟨0, 109, none⟩), .iface 133 (.pointer (some ⟨0, 25, none⟩))]).run Tryz.prog v = .ok (.value (.bool (false || (Instr.missingMethod #[("Error", 47)] (((Tryz.prog.info? 109).map (·.methods)).getD #[])).isNone))) v := by kernel_rfl
  have m : (((Tryz.prog.info? 109).map (·.methods)).getD #[]).any (fun m => m.name == "Error" && m.sig == 47) = false := by kernel_rfl
  rw [h, missing_some _ _ "Error" 47 (by simp) m]
  rfl

theorem noerr_1 (v : World) : (callFunc 211 #[.pointer (some ⟨0, 1, none⟩), .iface 133 (.pointer (some ⟨0, 25, none⟩))]).run Tryz.prog v = .ok (.value (.bool false)) v := by
  have h : (callFunc 211 #[.pointer (some ⟨0, 1, none⟩), .iface 133 (.pointer (some ⟨0, 25, none⟩))]).run Tryz.prog v = .ok (.value (.bool (false || (Instr.missingMethod #[("Error", 47)] (((Tryz.prog.info? 1).map (·.methods)).getD #[])).isNone))) v := by kernel_rfl
  have m : (((Tryz.prog.info? 1).map (·.methods)).getD #[]).any (fun m => m.name == "Error" && m.sig == 47) = false := by kernel_rfl
  rw [h, missing_some _ _ "Error" 47 (by simp) m]
  rfl

theorem noerr_54 (v : World) : (callFunc 211 #[.pointer (some ⟨0, 54, none⟩), .iface 133 (.pointer (some ⟨0, 25, none⟩))]).run Tryz.prog v = .ok (.value (.bool false)) v := by
  have h : (callFunc 211 #[.pointer (some ⟨0, 54, none⟩), .iface 133 (.pointer (some ⟨0, 25, none⟩))]).run Tryz.prog v = .ok (.value (.bool (false || (Instr.missingMethod #[("Error", 47)] (((Tryz.prog.info? 54).map (·.methods)).getD #[])).isNone))) v := by kernel_rfl
  have m : (((Tryz.prog.info? 54).map (·.methods)).getD #[]).any (fun m => m.name == "Error" && m.sig == 47) = false := by kernel_rfl
  rw [h, missing_some _ _ "Error" 47 (by simp) m]
  rfl

theorem pair_0_0 (b : Nat) (td : Value) (w : World) (hb : b < w.heap.size) (hc0 : w.cell? ⟨b, 0, none⟩ = some (vT 0)) (hc1 : w.cell? ⟨b, 1, none⟩ = some (.int .u64 (vK 0))) (hc4 : w.cell? ⟨b, 4, none⟩ = some (.bool (vNil 0))) : Calls Tryz.prog 24 #[.pointer (some ⟨b, 0, none⟩), .agg #[vT 0, .int .u64 (vK 0), td, .pointer none, .bool (vNil 0), .bool false, .bool false, .bool (vInt 0), .bool false]] w fun e w' => e = .returned (.bool true) ∧ Below w.heap.size w w' :=
  asks b td _ _ w hb 3 3 2 2 true rfl (fun v => by kernel_rfl) hc0 hc1 hc4

theorem pair_0_1 (b : Nat) (td : Value) (w : World) (hb : b < w.heap.size) (hc0 : w.cell? ⟨b, 0, none⟩ = some (vT 0)) (hc1 : w.cell? ⟨b, 1, none⟩ = some (.int .u64 (vK 0))) (hc4 : w.cell? ⟨b, 4, none⟩ = some (.bool (vNil 0))) : Calls Tryz.prog 24 #[.pointer (some ⟨b, 0, none⟩), .agg #[vT 1, .int .u64 (vK 1), td, .pointer none, .bool (vNil 1), .bool false, .bool false, .bool (vInt 1), .bool false]] w fun e w' => e = .returned (.bool false) ∧ Below w.heap.size w w' :=
  differ b td _ _ w hb 3 2 2 6 rfl rfl hc0 hc1 hc4

theorem pair_0_2 (b : Nat) (td : Value) (w : World) (hb : b < w.heap.size) (hc0 : w.cell? ⟨b, 0, none⟩ = some (vT 0)) (hc1 : w.cell? ⟨b, 1, none⟩ = some (.int .u64 (vK 0))) (hc4 : w.cell? ⟨b, 4, none⟩ = some (.bool (vNil 0))) : Calls Tryz.prog 24 #[.pointer (some ⟨b, 0, none⟩), .agg #[vT 2, .int .u64 (vK 2), td, .pointer none, .bool (vNil 2), .bool false, .bool false, .bool (vInt 2), .bool false]] w fun e w' => e = .returned (.bool false) ∧ Below w.heap.size w w' :=
  differ b td _ _ w hb 3 9 2 24 rfl rfl hc0 hc1 hc4

theorem pair_0_3 (b : Nat) (td : Value) (w : World) (hb : b < w.heap.size) (hc0 : w.cell? ⟨b, 0, none⟩ = some (vT 0)) (hc1 : w.cell? ⟨b, 1, none⟩ = some (.int .u64 (vK 0))) (hc4 : w.cell? ⟨b, 4, none⟩ = some (.bool (vNil 0))) : Calls Tryz.prog 24 #[.pointer (some ⟨b, 0, none⟩), .agg #[vT 3, .int .u64 (vK 3), td, .pointer none, .bool (vNil 3), .bool false, .bool false, .bool (vInt 3), .bool false]] w fun e w' => e = .returned (.bool false) ∧ Below w.heap.size w w' :=
  differ b td _ _ w hb 3 93 2 23 rfl rfl hc0 hc1 hc4

theorem pair_0_4 (b : Nat) (td : Value) (w : World) (hb : b < w.heap.size) (hc0 : w.cell? ⟨b, 0, none⟩ = some (vT 0)) (hc1 : w.cell? ⟨b, 1, none⟩ = some (.int .u64 (vK 0))) (hc4 : w.cell? ⟨b, 4, none⟩ = some (.bool (vNil 0))) : Calls Tryz.prog 24 #[.pointer (some ⟨b, 0, none⟩), .agg #[vT 4, .int .u64 (vK 4), td, .pointer none, .bool (vNil 4), .bool false, .bool false, .bool (vInt 4), .bool false]] w fun e w' => e = .returned (.bool false) ∧ Below w.heap.size w w' :=
  differ b td _ _ w hb 3 120 2 22 rfl rfl hc0 hc1 hc4

theorem pair_0_5 (b : Nat) (td : Value) (w : World) (hb : b < w.heap.size) (hc0 : w.cell? ⟨b, 0, none⟩ = some (vT 0)) (hc1 : w.cell? ⟨b, 1, none⟩ = some (.int .u64 (vK 0))) (hc4 : w.cell? ⟨b, 4, none⟩ = some (.bool (vNil 0))) : Calls Tryz.prog 24 #[.pointer (some ⟨b, 0, none⟩), .agg #[vT 5, .int .u64 (vK 5), td, .pointer none, .bool (vNil 5), .bool false, .bool false, .bool (vInt 5), .bool false]] w fun e w' => e = .returned (.bool false) ∧ Below w.heap.size w w' :=
  differ b td _ _ w hb 3 109 2 21 rfl rfl hc0 hc1 hc4

theorem pair_0_6 (b : Nat) (td : Value) (w : World) (hb : b < w.heap.size) (hc0 : w.cell? ⟨b, 0, none⟩ = some (vT 0)) (hc1 : w.cell? ⟨b, 1, none⟩ = some (.int .u64 (vK 0))) (hc4 : w.cell? ⟨b, 4, none⟩ = some (.bool (vNil 0))) : Calls Tryz.prog 24 #[.pointer (some ⟨b, 0, none⟩), .agg #[vT 6, .int .u64 (vK 6), td, .pointer none, .bool (vNil 6), .bool false, .bool false, .bool (vInt 6), .bool false]] w fun e w' => e = .returned (.bool false) ∧ Below w.heap.size w w' :=
  differ b td _ _ w hb 3 1 2 19 rfl rfl hc0 hc1 hc4

theorem pair_0_7 (b : Nat) (td : Value) (w : World) (hb : b < w.heap.size) (hc0 : w.cell? ⟨b, 0, none⟩ = some (vT 0)) (hc1 : w.cell? ⟨b, 1, none⟩ = some (.int .u64 (vK 0))) (hc4 : w.cell? ⟨b, 4, none⟩ = some (.bool (vNil 0))) : Calls Tryz.prog 24 #[.pointer (some ⟨b, 0, none⟩), .agg #[vT 7, .int .u64 (vK 7), td, .pointer none, .bool (vNil 7), .bool false, .bool false, .bool (vInt 7), .bool false]] w fun e w' => e = .returned (.bool true) ∧ Below w.heap.size w w' :=
  asks20 b td _ _ w hb 3 20 2 true rfl (fun v => by kernel_rfl) hc0 hc1 hc4

theorem pair_0_8 (b : Nat) (td : Value) (w : World) (hb : b < w.heap.size) (hc0 : w.cell? ⟨b, 0, none⟩ = some (vT 0)) (hc1 : w.cell? ⟨b, 1, none⟩ = some (.int .u64 (vK 0))) (hc4 : w.cell? ⟨b, 4, none⟩ = some (.bool (vNil 0))) : Calls Tryz.prog 24 #[.pointer (some ⟨b, 0, none⟩), .agg #[vT 8, .int .u64 (vK 8), td, .pointer none, .bool (vNil 8), .bool false, .bool false, .bool (vInt 8), .bool false]] w fun e w' => e = .returned (.bool false) ∧ Below w.heap.size w w' :=
  asks20 b td _ _ w hb 3 25 2 false rfl noerr_3 hc0 hc1 hc4

theorem pair_0_9 (b : Nat) (td : Value) (w : World) (hb : b < w.heap.size) (hc0 : w.cell? ⟨b, 0, none⟩ = some (vT 0)) (hc1 : w.cell? ⟨b, 1, none⟩ = some (.int .u64 (vK 0))) (hc4 : w.cell? ⟨b, 4, none⟩ = some (.bool (vNil 0))) : Calls Tryz.prog 24 #[.pointer (some ⟨b, 0, none⟩), .agg #[vT 9, .int .u64 (vK 9), td, .pointer none, .bool (vNil 9), .bool false, .bool false, .bool (vInt 9), .bool false]] w fun e w' => e = .returned (.bool false) ∧ Below w.heap.size w w' :=
  differ b td _ _ w hb 3 54 2 22 rfl rfl hc0 hc1 hc4

theorem pair_0_10 (b : Nat) (td : Value) (w : World) (hb : b < w.heap.size) (hc0 : w.cell? ⟨b, 0, none⟩ = some (vT 0)) (hc1 : w.cell? ⟨b, 1, none⟩ = some (.int .u64 (vK 0))) (hc4 : w.cell? ⟨b, 4, none⟩ = some (.bool (vNil 0))) : Calls Tryz.prog 24 #[.pointer (some ⟨b, 0, none⟩), .agg #[vT 10, .int .u64 (vK 10), td, .pointer none, .bool (vNil 10), .bool false, .bool false, .bool (vInt 10), .bool false]] w fun e w' => e = .returned (.bool false) ∧ Below w.heap.size w w' :=
  totnil b td _ _ w hb 3 _ hc0 hc1 hc4

theorem pair_0_11 (b : Nat) (td : Value) (w : World) (hb : b < w.heap.size) (hc0 : w.cell? ⟨b, 0, none⟩ = some (vT 0)) (hc1 : w.cell? ⟨b, 1, none⟩ = some (.int .u64 (vK 0))) (hc4 : w.cell? ⟨b, 4, none⟩ = some (.bool (vNil 0))) : Calls Tryz.prog 24 #[.pointer (some ⟨b, 0, none⟩), .agg #[vT 11, .int .u64 (vK 11), td, .pointer none, .bool (vNil 11), .bool false, .bool false, .bool (vInt 11), .bool false]] w fun e w' => e = .returned (.bool false) ∧ Below w.heap.size w w' :=
  totnil b td _ _ w hb 3 _ hc0 hc1 hc4

theorem pair_1_0 (b : Nat) (td : Value) (w : World) (hb : b < w.heap.size) (hc0 : w.cell? ⟨b, 0, none⟩ = some (vT 1)) (hc1 : w.cell? ⟨b, 1, none⟩ = some (.int .u64 (vK 1))) (hc4 : w.cell? ⟨b, 4, none⟩ = some (.bool (vNil 1))) : Calls Tryz.prog 24 #[.pointer (some ⟨b, 0, none⟩), .agg #[vT 0, .int .u64 (vK 0), td, .pointer none, .bool (vNil 0), .bool false, .bool false, .bool (vInt 0), .bool false]] w fun e w' => e = .returned (.bool false) ∧ Below w.heap.size w w' :=
  differ b td _ _ w hb 2 3 6 2 rfl rfl hc0 hc1 hc4

theorem pair_1_1 (b : Nat) (td : Value) (w : World) (hb : b < w.heap.size) (hc0 : w.cell? ⟨b, 0, none⟩ = some (vT 1)) (hc1 : w.cell? ⟨b, 1, none⟩ = some (.int .u64 (vK 1))) (hc4 : w.cell? ⟨b, 4, none⟩ = some (.bool (vNil 1))) : Calls Tryz.prog 24 #[.pointer (some ⟨b, 0, none⟩), .agg #[vT 1, .int .u64 (vK 1), td, .pointer none, .bool (vNil 1), .bool false, .bool false, .bool (vInt 1), .bool false]] w fun e w' => e = .returned (.bool true) ∧ Below w.heap.size w w' :=
  asks b td _ _ w hb 2 2 6 6 true rfl (fun v => by kernel_rfl) hc0 hc1 hc4

theorem pair_1_2 (b : Nat) (td : Value) (w : World) (hb : b < w.heap.size) (hc0 : w.cell? ⟨b, 0, none⟩ = some (vT 1)) (hc1 : w.cell? ⟨b, 1, none⟩ = some (.int .u64 (vK 1))) (hc4 : w.cell? ⟨b, 4, none⟩ = some (.bool (vNil 1))) : Calls Tryz.prog 24 #[.pointer (some ⟨b, 0, none⟩), .agg #[vT 2, .int .u64 (vK 2), td, .pointer none, .bool (vNil 2), .bool false, .bool false, .bool (vInt 2), .bool false]] w fun e w' => e = .returned (.bool false) ∧ Below w.heap.size w w' :=
  differ b td _ _ w hb 2 9 6 24 rfl rfl hc0 hc1 hc4

theorem pair_1_3 (b : Nat) (td : Value) (w : World) (hb : b < w.heap.size) (hc0 : w.cell? ⟨b, 0, none⟩ = some (vT 1)) (hc1 : w.cell? ⟨b, 1, none⟩ = some (.int .u64 (vK 1))) (hc4 : w.cell? ⟨b, 4, none⟩ = some (.bool (vNil 1))) : Calls Tryz.prog 24 #[.pointer (some ⟨b, 0, none⟩), .agg #[vT 3, .int .u64 (vK 3), td, .pointer none, .bool (vNil 3), .bool false, .bool false, .bool (vInt 3), .bool false]] w fun e w' => e = .returned (.bool false) ∧ Below w.heap.size w w' :=
  differ b td _ _ w hb 2 93 6 23 rfl rfl hc0 hc1 hc4

theorem pair_1_4 (b : Nat) (td : Value) (w : World) (hb : b < w.heap.size) (hc0 : w.cell? ⟨b, 0, none⟩ = some (vT 1)) (hc1 : w.cell? ⟨b, 1, none⟩ = some (.int .u64 (vK 1))) (hc4 : w.cell? ⟨b, 4, none⟩ = some (.bool (vNil 1))) : Calls Tryz.prog 24 #[.pointer (some ⟨b, 0, none⟩), .agg #[vT 4, .int .u64 (vK 4), td, .pointer none, .bool (vNil 4), .bool false, .bool false, .bool (vInt 4), .bool false]] w fun e w' => e = .returned (.bool false) ∧ Below w.heap.size w w' :=
  differ b td _ _ w hb 2 120 6 22 rfl rfl hc0 hc1 hc4

theorem pair_1_5 (b : Nat) (td : Value) (w : World) (hb : b < w.heap.size) (hc0 : w.cell? ⟨b, 0, none⟩ = some (vT 1)) (hc1 : w.cell? ⟨b, 1, none⟩ = some (.int .u64 (vK 1))) (hc4 : w.cell? ⟨b, 4, none⟩ = some (.bool (vNil 1))) : Calls Tryz.prog 24 #[.pointer (some ⟨b, 0, none⟩), .agg #[vT 5, .int .u64 (vK 5), td, .pointer none, .bool (vNil 5), .bool false, .bool false, .bool (vInt 5), .bool false]] w fun e w' => e = .returned (.bool false) ∧ Below w.heap.size w w' :=
  differ b td _ _ w hb 2 109 6 21 rfl rfl hc0 hc1 hc4

theorem pair_1_6 (b : Nat) (td : Value) (w : World) (hb : b < w.heap.size) (hc0 : w.cell? ⟨b, 0, none⟩ = some (vT 1)) (hc1 : w.cell? ⟨b, 1, none⟩ = some (.int .u64 (vK 1))) (hc4 : w.cell? ⟨b, 4, none⟩ = some (.bool (vNil 1))) : Calls Tryz.prog 24 #[.pointer (some ⟨b, 0, none⟩), .agg #[vT 6, .int .u64 (vK 6), td, .pointer none, .bool (vNil 6), .bool false, .bool false, .bool (vInt 6), .bool false]] w fun e w' => e = .returned (.bool false) ∧ Below w.heap.size w w' :=
  differ b td _ _ w hb 2 1 6 19 rfl rfl hc0 hc1 hc4

theorem pair_1_7 (b : Nat) (td : Value) (w : World) (hb : b < w.heap.size) (hc0 : w.cell? ⟨b, 0, none⟩ = some (vT 1)) (hc1 : w.cell? ⟨b, 1, none⟩ = some (.int .u64 (vK 1))) (hc4 : w.cell? ⟨b, 4, none⟩ = some (.bool (vNil 1))) : Calls Tryz.prog 24 #[.pointer (some ⟨b, 0, none⟩), .agg #[vT 7, .int .u64 (vK 7), td, .pointer none, .bool (vNil 7), .bool false, .bool false, .bool (vInt 7), .bool false]] w fun e w' => e = .returned (.bool true) ∧ Below w.heap.size w w' :=
  asks20 b td _ _ w hb 2 20 6 true rfl (fun v => by kernel_rfl) hc0 hc1 hc4

theorem pair_1_8 (b : Nat) (td : Value) (w : World) (hb : b < w.heap.size) (hc0 : w.cell? ⟨b, 0, none⟩ = some (vT 1)) (hc1 : w.cell? ⟨b, 1, none⟩ = some (.int .u64 (vK 1))) (hc4 : w.cell? ⟨b, 4, none⟩ = some (.bool (vNil 1))) : Calls Tryz.prog 24 #[.pointer (some ⟨b, 0, none⟩), .agg #[vT 8, .int .u64 (vK 8), td, .pointer none, .bool (vNil 8), .bool false, .bool false, .bool (vInt 8), .bool false]] w fun e w' => e = .returned (.bool false) ∧ Below w.heap.size w w' :=
  asks20 b td _ _ w hb 2 25 6 false rfl noerr_2 hc0 hc1 hc4

theorem pair_1_9 (b : Nat) (td : Value) (w : World) (hb : b < w.heap.size) (hc0 : w.cell? ⟨b, 0, none⟩ = some (vT 1)) (hc1 : w.cell? ⟨b, 1, none⟩ = some (.int .u64 (vK 1))) (hc4 : w.cell? ⟨b, 4, none⟩ = some (.bool (vNil 1))) : Calls Tryz.prog 24 #[.pointer (some ⟨b, 0, none⟩), .agg #[vT 9, .int .u64 (vK 9), td, .pointer none, .bool (vNil 9), .bool false, .bool false, .bool (vInt 9), .bool false]] w fun e w' => e = .returned (.bool false) ∧ Below w.heap.size w w' :=
  differ b td _ _ w hb 2 54 6 22 rfl rfl hc0 hc1 hc4

theorem pair_1_10 (b : Nat) (td : Value) (w : World) (hb : b < w.heap.size) (hc0 : w.cell? ⟨b, 0, none⟩ = some (vT 1)) (hc1 : w.cell? ⟨b, 1, none⟩ = some (.int .u64 (vK 1))) (hc4 : w.cell? ⟨b, 4, none⟩ = some (.bool (vNil 1))) : Calls Tryz.prog 24 #[.pointer (some ⟨b, 0, none⟩), .agg #[vT 10, .int .u64 (vK 10), td, .pointer none, .bool (vNil 10), .bool false, .bool false, .bool (vInt 10), .bool false]] w fun e w' => e = .returned (.bool false) ∧ Below w.heap.size w w' :=
  totnil b td _ _ w hb 2 _ hc0 hc1 hc4

theorem pair_1_11 (b : Nat) (td : Value) (w : World) (hb : b < w.heap.size) (hc0 : w.cell? ⟨b, 0, none⟩ = some (vT 1)) (hc1 : w.cell? ⟨b, 1, none⟩ = some (.int .u64 (vK 1))) (hc4 : w.cell? ⟨b, 4, none⟩ = some (.bool (vNil 1))) : Calls Tryz.prog 24 #[.pointer (some ⟨b, 0, none⟩), .agg #[vT 11, .int .u64 (vK 11), td, .pointer none, .bool (vNil 11), .bool false, .bool false, .bool (vInt 11), .bool false]] w fun e w' => e = .returned (.bool false) ∧ Below w.heap.size w w' :=
  totnil b td _ _ w hb 2 _ hc0 hc1 hc4

theorem pair_2_0 (b : Nat) (td : Value) (w : World) (hb : b < w.heap.size) (hc0 : w.cell? ⟨b, 0, none⟩ = some (vT 2)) (hc1 : w.cell? ⟨b, 1, none⟩ = some (.int .u64 (vK 2))) (hc4 : w.cell? ⟨b, 4, none⟩ = some (.bool (vNil 2))) : Calls Tryz.prog 24 #[.pointer (some ⟨b, 0, none⟩), .agg #[vT 0, .int .u64 (vK 0), td, .pointer none, .bool (vNil 0), .bool false, .bool false, .bool (vInt 0), .bool false]] w fun e w' => e = .returned (.bool false) ∧ Below w.heap.size w w' :=
  differ b td _ _ w hb 9 3 24 2 rfl rfl hc0 hc1 hc4

theorem pair_2_1 (b : Nat) (td : Value) (w : World) (hb : b < w.heap.size) (hc0 : w.cell? ⟨b, 0, none⟩ = some (vT 2)) (hc1 : w.cell? ⟨b, 1, none⟩ = some (.int .u64 (vK 2))) (hc4 : w.cell? ⟨b, 4, none⟩ = some (.bool (vNil 2))) : Calls Tryz.prog 24 #[.pointer (some ⟨b, 0, none⟩), .agg #[vT 1, .int .u64 (vK 1), td, .pointer none, .bool (vNil 1), .bool false, .bool false, .bool (vInt 1), .bool false]] w fun e w' => e = .returned (.bool false) ∧ Below w.heap.size w w' :=
  differ b td _ _ w hb 9 2 24 6 rfl rfl hc0 hc1 hc4

theorem pair_2_2 (b : Nat) (td : Value) (w : World) (hb : b < w.heap.size) (hc0 : w.cell? ⟨b, 0, none⟩ = some (vT 2)) (hc1 : w.cell? ⟨b, 1, none⟩ = some (.int .u64 (vK 2))) (hc4 : w.cell? ⟨b, 4, none⟩ = some (.bool (vNil 2))) : Calls Tryz.prog 24 #[.pointer (some ⟨b, 0, none⟩), .agg #[vT 2, .int .u64 (vK 2), td, .pointer none, .bool (vNil 2), .bool false, .bool false, .bool (vInt 2), .bool false]] w fun e w' => e = .returned (.bool true) ∧ Below w.heap.size w w' :=
  asks b td _ _ w hb 9 9 24 24 true rfl (fun v => by kernel_rfl) hc0 hc1 hc4

theorem pair_2_3 (b : Nat) (td : Value) (w : World) (hb : b < w.heap.size) (hc0 : w.cell? ⟨b, 0, none⟩ = some (vT 2)) (hc1 : w.cell? ⟨b, 1, none⟩ = some (.int .u64 (vK 2))) (hc4 : w.cell? ⟨b, 4, none⟩ = some (.bool (vNil 2))) : Calls Tryz.prog 24 #[.pointer (some ⟨b, 0, none⟩), .agg #[vT 3, .int .u64 (vK 3), td, .pointer none, .bool (vNil 3), .bool false, .bool false, .bool (vInt 3), .bool false]] w fun e w' => e = .returned (.bool false) ∧ Below w.heap.size w w' :=
  differ b td _ _ w hb 9 93 24 23 rfl rfl hc0 hc1 hc4

theorem pair_2_4 (b : Nat) (td : Value) (w : World) (hb : b < w.heap.size) (hc0 : w.cell? ⟨b, 0, none⟩ = some (vT 2)) (hc1 : w.cell? ⟨b, 1, none⟩ = some (.int .u64 (vK 2))) (hc4 : w.cell? ⟨b, 4, none⟩ = some (.bool (vNil 2))) : Calls Tryz.prog 24 #[.pointer (some ⟨b, 0, none⟩), .agg #[vT 4, .int .u64 (vK 4), td, .pointer none, .bool (vNil 4), .bool false, .bool false, .bool (vInt 4), .bool false]] w fun e w' => e = .returned (.bool false) ∧ Below w.heap.size w w' :=
  differ b td _ _ w hb 9 120 24 22 rfl rfl hc0 hc1 hc4

theorem pair_2_5 (b : Nat) (td : Value) (w : World) (hb : b < w.heap.size) (hc0 : w.cell? ⟨b, 0, none⟩ = some (vT 2)) (hc1 : w.cell? ⟨b, 1, none⟩ = some (.int .u64 (vK 2))) (hc4 : w.cell? ⟨b, 4, none⟩ = some (.bool (vNil 2))) : Calls Tryz.prog 24 #[.pointer (some ⟨b, 0, none⟩), .agg #[vT 5, .int .u64 (vK 5), td, .pointer none, .bool (vNil 5), .bool false, .bool false, .bool (vInt 5), .bool false]] w fun e w' => e = .returned (.bool false) ∧ Below w.heap.size w w' :=
  differ b td _ _ w hb 9 109 24 21 rfl rfl hc0 hc1 hc4

theorem pair_2_6 (b : Nat) (td : Value) (w : World) (hb : b < w.heap.size) (hc0 : w.cell? ⟨b, 0, none⟩ = some (vT 2)) (hc1 : w.cell? ⟨b, 1, none⟩ = some (.int .u64 (vK 2))) (hc4 : w.cell? ⟨b, 4, none⟩ = some (.bool (vNil 2))) : Calls Tryz.prog 24 #[.pointer (some ⟨b, 0, none⟩), .agg #[vT 6, .int .u64 (vK 6), td, .pointer none, .bool (vNil 6), .bool false, .bool false, .bool (vInt 6), .bool false]] w fun e w' => e = .returned (.bool false) ∧ Below w.heap.size w w' :=
  differ b td _ _ w hb 9 1 24 19 rfl rfl hc0 hc1 hc4

theorem pair_2_7 (b : Nat) (td : Value) (w : World) (hb : b < w.heap.size) (hc0 : w.cell? ⟨b, 0, none⟩ = some (vT 2)) (hc1 : w.cell? ⟨b, 1, none⟩ = some (.int .u64 (vK 2))) (hc4 : w.cell? ⟨b, 4, none⟩ = some (.bool (vNil 2))) : Calls Tryz.prog 24 #[.pointer (some ⟨b, 0, none⟩), .agg #[vT 7, .int .u64 (vK 7), td, .pointer none, .bool (vNil 7), .bool false, .bool false, .bool (vInt 7), .bool false]] w fun e w' => e = .returned (.bool true) ∧ Below w.heap.size w w' :=
  asks20 b td _ _ w hb 9 20 24 true rfl (fun v => by kernel_rfl) hc0 hc1 hc4

theorem pair_2_8 (b : Nat) (td : Value) (w : World) (hb : b < w.heap.size) (hc0 : w.cell? ⟨b, 0, none⟩ = some (vT 2)) (hc1 : w.cell? ⟨b, 1, none⟩ = some (.int .u64 (vK 2))) (hc4 : w.cell? ⟨b, 4, none⟩ = some (.bool (vNil 2))) : Calls Tryz.prog 24 #[.pointer (some ⟨b, 0, none⟩), .agg #[vT 8, .int .u64 (vK 8), td, .pointer none, .bool (vNil 8), .bool false, .bool false, .bool (vInt 8), .bool false]] w fun e w' => e = .returned (.bool false) ∧ Below w.heap.size w w' :=
  asks20 b td _ _ w hb 9 25 24 false rfl noerr_9 hc0 hc1 hc4

theorem pair_2_9 (b : Nat) (td : Value) (w : World) (hb : b < w.heap.size) (hc0 : w.cell? ⟨b, 0, none⟩ = some (vT 2)) (hc1 : w.cell? ⟨b, 1, none⟩ = some (.int .u64 (vK 2))) (hc4 : w.cell? ⟨b, 4, none⟩ = some (.bool (vNil 2))) : Calls Tryz.prog 24 #[.pointer (some ⟨b, 0, none⟩), .agg #[vT 9, .int .u64 (vK 9), td, .pointer none, .bool (vNil 9), .bool false, .bool false, .bool (vInt 9), .bool false]] w fun e w' => e = .returned (.bool false) ∧ Below w.heap.size w w' :=
  differ b td _ _ w hb 9 54 24 22 rfl rfl hc0 hc1 hc4

theorem pair_2_10 (b : Nat) (td : Value) (w : World) (hb : b < w.heap.size) (hc0 : w.cell? ⟨b, 0, none⟩ = some (vT 2)) (hc1 : w.cell? ⟨b, 1, none⟩ = some (.int .u64 (vK 2))) (hc4 : w.cell? ⟨b, 4, none⟩ = some (.bool (vNil 2))) : Calls Tryz.prog 24 #[.pointer (some ⟨b, 0, none⟩), .agg #[vT 10, .int .u64 (vK 10), td, .pointer none, .bool (vNil 10), .bool false, .bool false, .bool (vInt 10), .bool false]] w fun e w' => e = .returned (.bool false) ∧ Below w.heap.size w w' :=
  totnil b td _ _ w hb 9 _ hc0 hc1 hc4

theorem pair_2_11 (b : Nat) (td : Value) (w : World) (hb : b < w.heap.size) (hc0 : w.cell? ⟨b, 0, none⟩ = some (vT 2)) (hc1 : w.cell? ⟨b, 1, none⟩ = some (.int .u64 (vK 2))) (hc4 : w.cell? ⟨b, 4, none⟩ = some (.bool (vNil 2))) : Calls Tryz.prog 24 #[.pointer (some ⟨b, 0, none⟩), .agg #[vT 11, .int .u64 (vK 11), td, .pointer none, .bool (vNil 11), .bool false, .bool false, .bool (vInt 11), .bool false]] w fun e w' => e = .returned (.bool false) ∧ Below w.heap.size w w' :=
  totnil b td _ _ w hb 9 _ hc0 hc1 hc4

theorem pair_3_0 (b : Nat) (td : Value) (w : World) (hb : b < w.heap.size) (hc0 : w.cell? ⟨b, 0, none⟩ = some (vT 3)) (hc1 : w.cell? ⟨b, 1, none⟩ = some (.int .u64 (vK 3))) (hc4 : w.cell? ⟨b, 4, none⟩ = some (.bool (vNil 3))) : Calls Tryz.prog 24 #[.pointer (some ⟨b, 0, none⟩), .agg #[vT 0, .int .u64 (vK 0), td, .pointer none, .bool (vNil 0), .bool false, .bool false, .bool (vInt 0), .bool false]] w fun e w' => e = .returned (.bool false) ∧ Below w.heap.size w w' :=
  differ b td _ _ w hb 93 3 23 2 rfl rfl hc0 hc1 hc4

theorem pair_3_1 (b : Nat) (td : Value) (w : World) (hb : b < w.heap.size) (hc0 : w.cell? ⟨b, 0, none⟩ = some (vT 3)) (hc1 : w.cell? ⟨b, 1, none⟩ = some (.int .u64 (vK 3))) (hc4 : w.cell? ⟨b, 4, none⟩ = some (.bool (vNil 3))) : Calls Tryz.prog 24 #[.pointer (some ⟨b, 0, none⟩), .agg #[vT 1, .int .u64 (vK 1), td, .pointer none, .bool (vNil 1), .bool false, .bool false, .bool (vInt 1), .bool false]] w fun e w' => e = .returned (.bool false) ∧ Below w.heap.size w w' :=
  differ b td _ _ w hb 93 2 23 6 rfl rfl hc0 hc1 hc4

theorem pair_3_2 (b : Nat) (td : Value) (w : World) (hb : b < w.heap.size) (hc0 : w.cell? ⟨b, 0, none⟩ = some (vT 3)) (hc1 : w.cell? ⟨b, 1, none⟩ = some (.int .u64 (vK 3))) (hc4 : w.cell? ⟨b, 4, none⟩ = some (.bool (vNil 3))) : Calls Tryz.prog 24 #[.pointer (some ⟨b, 0, none⟩), .agg #[vT 2, .int .u64 (vK 2), td, .pointer none, .bool (vNil 2), .bool false, .bool false, .bool (vInt 2), .bool false]] w fun e w' => e = .returned (.bool false) ∧ Below w.heap.size w w' :=
  differ b td _ _ w hb 93 9 23 24 rfl rfl hc0 hc1 hc4

theorem pair_3_3 (b : Nat) (td : Value) (w : World) (hb : b < w.heap.size) (hc0 : w.cell? ⟨b, 0, none⟩ = some (vT 3)) (hc1 : w.cell? ⟨b, 1, none⟩ = some (.int .u64 (vK 3))) (hc4 : w.cell? ⟨b, 4, none⟩ = some (.bool (vNil 3))) : Calls Tryz.prog 24 #[.pointer (some ⟨b, 0, none⟩), .agg #[vT 3, .int .u64 (vK 3), td, .pointer none, .bool (vNil 3), .bool false, .bool false, .bool (vInt 3), .bool false]] w fun e w' => e = .returned (.bool true) ∧ Below w.heap.size w w' :=
  asks b td _ _ w hb 93 93 23 23 true rfl (fun v => by kernel_rfl) hc0 hc1 hc4

theorem pair_3_4 (b : Nat) (td : Value) (w : World) (hb : b < w.heap.size) (hc0 : w.cell? ⟨b, 0, none⟩ = some (vT 3)) (hc1 : w.cell? ⟨b, 1, none⟩ = some (.int .u64 (vK 3))) (hc4 : w.cell? ⟨b, 4, none⟩ = some (.bool (vNil 3))) : Calls Tryz.prog 24 #[.pointer (some ⟨b, 0, none⟩), .agg #[vT 4, .int .u64 (vK 4), td, .pointer none, .bool (vNil 4), .bool false, .bool false, .bool (vInt 4), .bool false]] w fun e w' => e = .returned (.bool false) ∧ Below w.heap.size w w' :=
  differ b td _ _ w hb 93 120 23 22 rfl rfl hc0 hc1 hc4

theorem pair_3_5 (b : Nat) (td : Value) (w : World) (hb : b < w.heap.size) (hc0 : w.cell? ⟨b, 0, none⟩ = some (vT 3)) (hc1 : w.cell? ⟨b, 1, none⟩ = some (.int .u64 (vK 3))) (hc4 : w.cell? ⟨b, 4, none⟩ = some (.bool (vNil 3))) : Calls Tryz.prog 24 #[.pointer (some ⟨b, 0, none⟩), .agg #[vT 5, .int .u64 (vK 5), td, .pointer none, .bool (vNil 5), .bool false, .bool false, .bool (vInt 5), .bool false]] w fun e w' => e = .returned (.bool false) ∧ Below w.heap.size w w' :=
  differ b td _ _ w hb 93 109 23 21 rfl rfl hc0 hc1 hc4

theorem pair_3_6 (b : Nat) (td : Value) (w : World) (hb : b < w.heap.size) (hc0 : w.cell? ⟨b, 0, none⟩ = some (vT 3)) (hc1 : w.cell? ⟨b, 1, none⟩ = some (.int .u64 (vK 3))) (hc4 : w.cell? ⟨b, 4, none⟩ = some (.bool (vNil 3))) : Calls Tryz.prog 24 #[.pointer (some ⟨b, 0, none⟩), .agg #[vT 6, .int .u64 (vK 6), td, .pointer none, .bool (vNil 6), .bool false, .bool false, .bool (vInt 6), .bool false]] w fun e w' => e = .returned (.bool false) ∧ Below w.heap.size w w' :=
  differ b td _ _ w hb 93 1 23 19 rfl rfl hc0 hc1 hc4

theorem pair_3_7 (b : Nat) (td : Value) (w : World) (hb : b < w.heap.size) (hc0 : w.cell? ⟨b, 0, none⟩ = some (vT 3)) (hc1 : w.cell? ⟨b, 1, none⟩ = some (.int .u64 (vK 3))) (hc4 : w.cell? ⟨b, 4, none⟩ = some (.bool (vNil 3))) : Calls Tryz.prog 24 #[.pointer (some ⟨b, 0, none⟩), .agg #[vT 7, .int .u64 (vK 7), td, .pointer none, .bool (vNil 7), .bool false, .bool false, .bool (vInt 7), .bool false]] w fun e w' => e = .returned (.bool true) ∧ Below w.heap.size w w' :=
  asks20 b td _ _ w hb 93 20 23 true rfl (fun v => by kernel_rfl) hc0 hc1 hc4

theorem pair_3_8 (b : Nat) (td : Value) (w : World) (hb : b < w.heap.size) (hc0 : w.cell? ⟨b, 0, none⟩ = some (vT 3)) (hc1 : w.cell? ⟨b, 1, none⟩ = some (.int .u64 (vK 3))) (hc4 : w.cell? ⟨b, 4, none⟩ = some (.bool (vNil 3))) : Calls Tryz.prog 24 #[.pointer (some ⟨b, 0, none⟩), .agg #[vT 8, .int .u64 (vK 8), td, .pointer none, .bool (vNil 8), .bool false, .bool false, .bool (vInt 8), .bool false]] w fun e w' => e = .returned (.bool false) ∧ Below w.heap.size w w' :=
  asks20 b td _ _ w hb 93 25 23 false rfl noerr_93 hc0 hc1 hc4

theorem pair_3_9 (b : Nat) (td : Value) (w : World) (hb : b < w.heap.size) (hc0 : w.cell? ⟨b, 0, none⟩ = some (vT 3)) (hc1 : w.cell? ⟨b, 1, none⟩ = some (.int .u64 (vK 3))) (hc4 : w.cell? ⟨b, 4, none⟩ = some (.bool (vNil 3))) : Calls Tryz.prog 24 #[.pointer (some ⟨b, 0, none⟩), .agg #[vT 9, .int .u64 (vK 9), td, .pointer none, .bool (vNil 9), .bool false, .bool false, .bool (vInt 9), .bool false]] w fun e w' => e = .returned (.bool false) ∧ Below w.heap.size w w' :=
  differ b td _ _ w hb 93 54 23 22 rfl rfl hc0 hc1 hc4

theorem pair_3_10 (b : Nat) (td : Value) (w : World) (hb : b < w.heap.size) (hc0 : w.cell? ⟨b, 0, none⟩ = some (vT 3)) (hc1 : w.cell? ⟨b, 1, none⟩ = some (.int .u64 (vK 3))) (hc4 : w.cell? ⟨b, 4, none⟩ = some (.bool (vNil 3))) : Calls Tryz.prog 24 #[.pointer (some ⟨b, 0, none⟩), .agg #[vT 10, .int .u64 (vK 10), td, .pointer none, .bool (vNil 10), .bool false, .bool false, .bool (vInt 10), .bool false]] w fun e w' => e = .returned (.bool false) ∧ Below w.heap.size w w' :=
  totnil b td _ _ w hb 93 _ hc0 hc1 hc4

theorem pair_3_11 (b : Nat) (td : Value) (w : World) (hb : b < w.heap.size) (hc0 : w.cell? ⟨b, 0, none⟩ = some (vT 3)) (hc1 : w.cell? ⟨b, 1, none⟩ = some (.int .u64 (vK 3))) (hc4 : w.cell? ⟨b, 4, none⟩ = some (.bool (vNil 3))) : Calls Tryz.prog 24 #[.pointer (some ⟨b, 0, none⟩), .agg #[vT 11, .int .u64 (vK 11), td, .pointer none, .bool (vNil 11), .bool false, .bool false, .bool (vInt 11), .bool false]] w fun e w' => e = .returned (.bool false) ∧ Below w.heap.size w w' :=
  totnil b td _ _ w hb 93 _ hc0 hc1 hc4

theorem pair_4_0 (b : Nat) (td : Value) (w : World) (hb : b < w.heap.size) (hc0 : w.cell? ⟨b, 0, none⟩ = some (vT 4)) (hc1 : w.cell? ⟨b, 1, none⟩ = some (.int .u64 (vK 4))) (hc4 : w.cell? ⟨b, 4, none⟩ = some (.bool (vNil 4))) : Calls Tryz.prog 24 #[.pointer (some ⟨b, 0, none⟩), .agg #[vT 0, .int .u64 (vK 0), td, .pointer none, .bool (vNil 0), .bool false, .bool false, .bool (vInt 0), .bool false]] w fun e w' => e = .returned (.bool false) ∧ Below w.heap.size w w' :=
  differ b td _ _ w hb 120 3 22 2 rfl rfl hc0 hc1 hc4

theorem pair_4_1 (b : Nat) (td : Value) (w : World) (hb : b < w.heap.size) (hc0 : w.cell? ⟨b, 0, none⟩ = some (vT 4)) (hc1 : w.cell? ⟨b, 1, none⟩ = some (.int .u64 (vK 4))) (hc4 : w.cell? ⟨b, 4, none⟩ = some (.bool (vNil 4))) : Calls Tryz.prog 24 #[.pointer (some ⟨b, 0, none⟩), .agg #[vT 1, .int .u64 (vK 1), td, .pointer none, .bool (vNil 1), .bool false, .bool false, .bool (vInt 1), .bool false]] w fun e w' => e = .returned (.bool false) ∧ Below w.heap.size w w' :=
  differ b td _ _ w hb 120 2 22 6 rfl rfl hc0 hc1 hc4

theorem pair_4_2 (b : Nat) (td : Value) (w : World) (hb : b < w.heap.size) (hc0 : w.cell? ⟨b, 0, none⟩ = some (vT 4)) (hc1 : w.cell? ⟨b, 1, none⟩ = some (.int .u64 (vK 4))) (hc4 : w.cell? ⟨b, 4, none⟩ = some (.bool (vNil 4))) : Calls Tryz.prog 24 #[.pointer (some ⟨b, 0, none⟩), .agg #[vT 2, .int .u64 (vK 2), td, .pointer none, .bool (vNil 2), .bool false, .bool false, .bool (vInt 2), .bool false]] w fun e w' => e = .returned (.bool false) ∧ Below w.heap.size w w' :=
  differ b td _ _ w hb 120 9 22 24 rfl rfl hc0 hc1 hc4

theorem pair_4_3 (b : Nat) (td : Value) (w : World) (hb : b < w.heap.size) (hc0 : w.cell? ⟨b, 0, none⟩ = some (vT 4)) (hc1 : w.cell? ⟨b, 1, none⟩ = some (.int .u64 (vK 4))) (hc4 : w.cell? ⟨b, 4, none⟩ = some (.bool (vNil 4))) : Calls Tryz.prog 24 #[.pointer (some ⟨b, 0, none⟩), .agg #[vT 3, .int .u64 (vK 3), td, .pointer none, .bool (vNil 3), .bool false, .bool false, .bool (vInt 3), .bool false]] w fun e w' => e = .returned (.bool false) ∧ Below w.heap.size w w' :=
  differ b td _ _ w hb 120 93 22 23 rfl rfl hc0 hc1 hc4

theorem pair_4_4 (b : Nat) (td : Value) (w : World) (hb : b < w.heap.size) (hc0 : w.cell? ⟨b, 0, none⟩ = some (vT 4)) (hc1 : w.cell? ⟨b, 1, none⟩ = some (.int .u64 (vK 4))) (hc4 : w.cell? ⟨b, 4, none⟩ = some (.bool (vNil 4))) : Calls Tryz.prog 24 #[.pointer (some ⟨b, 0, none⟩), .agg #[vT 4, .int .u64 (vK 4), td, .pointer none, .bool (vNil 4), .bool false, .bool false, .bool (vInt 4), .bool false]] w fun e w' => e = .returned (.bool true) ∧ Below w.heap.size w w' :=
  asks b td _ _ w hb 120 120 22 22 true rfl (fun v => by kernel_rfl) hc0 hc1 hc4

theorem pair_4_5 (b : Nat) (td : Value) (w : World) (hb : b < w.heap.size) (hc0 : w.cell? ⟨b, 0, none⟩ = some (vT 4)) (hc1 : w.cell? ⟨b, 1, none⟩ = some (.int .u64 (vK 4))) (hc4 : w.cell? ⟨b, 4, none⟩ = some (.bool (vNil 4))) : Calls Tryz.prog 24 #[.pointer (some ⟨b, 0, none⟩), .agg #[vT 5, .int .u64 (vK 5), td, .pointer none, .bool (vNil 5), .bool false, .bool false, .bool (vInt 5), .bool false]] w fun e w' => e = .returned (.bool false) ∧ Below w.heap.size w w' :=
  differ b td _ _ w hb 120 109 22 21 rfl rfl hc0 hc1 hc4

theorem pair_4_6 (b : Nat) (td : Value) (w : World) (hb : b < w.heap.size) (hc0 : w.cell? ⟨b, 0, none⟩ = some (vT 4)) (hc1 : w.cell? ⟨b, 1, none⟩ = some (.int .u64 (vK 4))) (hc4 : w.cell? ⟨b, 4, none⟩ = some (.bool (vNil 4))) : Calls Tryz.prog 24 #[.pointer (some ⟨b, 0, none⟩), .agg #[vT 6, .int .u64 (vK 6), td, .pointer none, .bool (vNil 6), .bool false, .bool false, .bool (vInt 6), .bool false]] w fun e w' => e = .returned (.bool false) ∧ Below w.heap.size w w' :=
  differ b td _ _ w hb 120 1 22 19 rfl rfl hc0 hc1 hc4

theorem pair_4_7 (b : Nat) (td : Value) (w : World) (hb : b < w.heap.size) (hc0 : w.cell? ⟨b, 0, none⟩ = some (vT 4)) (hc1 : w.cell? ⟨b, 1, none⟩ = some (.int .u64 (vK 4))) (hc4 : w.cell? ⟨b, 4, none⟩ = some (.bool (vNil 4))) : Calls Tryz.prog 24 #[.pointer (some ⟨b, 0, none⟩), .agg #[vT 7, .int .u64 (vK 7), td, .pointer none, .bool (vNil 7), .bool false, .bool false, .bool (vInt 7), .bool false]] w fun e w' => e = .returned (.bool true) ∧ Below w.heap.size w w' :=
  asks20 b td _ _ w hb 120 20 22 true rfl (fun v => by kernel_rfl) hc0 hc1 hc4

theorem pair_4_8 (b : Nat) (td : Value) (w : World) (hb : b < w.heap.size) (hc0 : w.cell? ⟨b, 0, none⟩ = some (vT 4)) (hc1 : w.cell? ⟨b, 1, none⟩ = some (.int .u64 (vK 4))) (hc4 : w.cell? ⟨b, 4, none⟩ = some (.bool (vNil 4))) : Calls Tryz.prog 24 #[.pointer (some ⟨b, 0, none⟩), .agg #[vT 8, .int .u64 (vK 8), td, .pointer none, .bool (vNil 8), .bool false, .bool false, .bool (vInt 8), .bool false]] w fun e w' => e = .returned (.bool false) ∧ Below w.heap.size w w' :=
  asks20 b td _ _ w hb 120 25 22 false rfl noerr_120 hc0 hc1 hc4

theorem pair_4_9 (b : Nat) (td : Value) (w : World) (hb : b < w.heap.size) (hc0 : w.cell? ⟨b, 0, none⟩ = some (vT 4)) (hc1 : w.cell? ⟨b, 1, none⟩ = some (.int .u64 (vK 4))) (hc4 : w.cell? ⟨b, 4, none⟩ = some (.bool (vNil 4))) : Calls Tryz.prog 24 #[.pointer (some ⟨b, 0, none⟩), .agg #[vT 9, .int .u64 (vK 9), td, .pointer none, .bool (vNil 9), .bool false, .bool false, .bool (vInt 9), .bool false]] w fun e w' => e = .returned (.bool false) ∧ Below w.heap.size w w' :=
  asks b td _ _ w hb 120 54 22 22 false rfl (fun v => by kernel_rfl) hc0 hc1 hc4

theorem pair_4_10 (b : Nat) (td : Value) (w : World) (hb : b < w.heap.size) (hc0 : w.cell? ⟨b, 0, none⟩ = some (vT 4)) (hc1 : w.cell? ⟨b, 1, none⟩ = some (.int .u64 (vK 4))) (hc4 : w.cell? ⟨b, 4, none⟩ = some (.bool (vNil 4))) : Calls Tryz.prog 24 #[.pointer (some ⟨b, 0, none⟩), .agg #[vT 10, .int .u64 (vK 10), td, .pointer none, .bool (vNil 10), .bool false, .bool false, .bool (vInt 10), .bool false]] w fun e w' => e = .returned (.bool false) ∧ Below w.heap.size w w' :=
  totnil b td _ _ w hb 120 _ hc0 hc1 hc4

theorem pair_4_11 (b : Nat) (td : Value) (w : World) (hb : b < w.heap.size) (hc0 : w.cell? ⟨b, 0, none⟩ = some (vT 4)) (hc1 : w.cell? ⟨b, 1, none⟩ = some (.int .u64 (vK 4))) (hc4 : w.cell? ⟨b, 4, none⟩ = some (.bool (vNil 4))) : Calls Tryz.prog 24 #[.pointer (some ⟨b, 0, none⟩), .agg #[vT 11, .int .u64 (vK 11), td, .pointer none, .bool (vNil 11), .bool false, .bool false, .bool (vInt 11), .bool false]] w fun e w' => e = .returned (.bool false) ∧ Below w.heap.size w w' :=
  totnil b td _ _ w hb 120 _ hc0 hc1 hc4

theorem pair_5_0 (b : Nat) (td : Value) (w : World) (hb : b < w.heap.size) (hc0 : w.cell? ⟨b, 0, none⟩ = some (vT 5)) (hc1 : w.cell? ⟨b, 1, none⟩ = some (.int .u64 (vK 5))) (hc4 : w.cell? ⟨b, 4, none⟩ = some (.bool (vNil 5))) : Calls Tryz.prog 24 #[.pointer (some ⟨b, 0, none⟩), .agg #[vT 0, .int .u64 (vK 0), td, .pointer none, .bool (vNil 0), .bool false, .bool false, .bool (vInt 0), .bool false]] w fun e w' => e = .returned (.bool false) ∧ Below w.heap.size w w' :=
  differ b td _ _ w hb 109 3 21 2 rfl rfl hc0 hc1 hc4

theorem pair_5_1 (b : Nat) (td : Value) (w : World) (hb : b < w.heap.size) (hc0 : w.cell? ⟨b, 0, none⟩ = some (vT 5)) (hc1 : w.cell? ⟨b, 1, none⟩ = some (.int .u64 (vK 5))) (hc4 : w.cell? ⟨b, 4, none⟩ = some (.bool (vNil 5))) : Calls Tryz.prog 24 #[.pointer (some ⟨b, 0, none⟩), .agg #[vT 1, .int .u64 (vK 1), td, .pointer none, .bool (vNil 1), .bool false, .bool false, .bool (vInt 1), .bool false]] w fun e w' => e = .returned (.bool false) ∧ Below w.heap.size w w' :=
  differ b td _ _ w hb 109 2 21 6 rfl rfl hc0 hc1 hc4

theorem pair_5_2 (b : Nat) (td : Value) (w : World) (hb : b < w.heap.size) (hc0 : w.cell? ⟨b, 0, none⟩ = some (vT 5)) (hc1 : w.cell? ⟨b, 1, none⟩ = some (.int .u64 (vK 5))) (hc4 : w.cell? ⟨b, 4, none⟩ = some (.bool (vNil 5))) : Calls Tryz.prog 24 #[.pointer (some ⟨b, 0, none⟩), .agg #[vT 2, .int .u64 (vK 2), td, .pointer none, .bool (vNil 2), .bool false, .bool false, .bool (vInt 2), .bool false]] w fun e w' => e = .returned (.bool false) ∧ Below w.heap.size w w' :=
  differ b td _ _ w hb 109 9 21 24 rfl rfl hc0 hc1 hc4

theorem pair_5_3 (b : Nat) (td : Value) (w : World) (hb : b < w.heap.size) (hc0 : w.cell? ⟨b, 0, none⟩ = some (vT 5)) (hc1 : w.cell? ⟨b, 1, none⟩ = some (.int .u64 (vK 5))) (hc4 : w.cell? ⟨b, 4, none⟩ = some (.bool (vNil 5))) : Calls Tryz.prog 24 #[.pointer (some ⟨b, 0, none⟩), .agg #[vT 3, .int .u64 (vK 3), td, .pointer none, .bool (vNil 3), .bool false, .bool false, .bool (vInt 3), .bool false]] w fun e w' => e = .returned (.bool false) ∧ Below w.heap.size w w' :=
  differ b td _ _ w hb 109 93 21 23 rfl rfl hc0 hc1 hc4

theorem pair_5_4 (b : Nat) (td : Value) (w : World) (hb : b < w.heap.size) (hc0 : w.cell? ⟨b, 0, none⟩ = some (vT 5)) (hc1 : w.cell? ⟨b, 1, none⟩ = some (.int .u64 (vK 5))) (hc4 : w.cell? ⟨b, 4, none⟩ = some (.bool (vNil 5))) : Calls Tryz.prog 24 #[.pointer (some ⟨b, 0, none⟩), .agg #[vT 4, .int .u64 (vK 4), td, .pointer none, .bool (vNil 4), .bool false, .bool false, .bool (vInt 4), .bool false]] w fun e w' => e = .returned (.bool false) ∧ Below w.heap.size w w' :=
  differ b td _ _ w hb 109 120 21 22 rfl rfl hc0 hc1 hc4

theorem pair_5_5 (b : Nat) (td : Value) (w : World) (hb : b < w.heap.size) (hc0 : w.cell? ⟨b, 0, none⟩ = some (vT 5)) (hc1 : w.cell? ⟨b, 1, none⟩ = some (.int .u64 (vK 5))) (hc4 : w.cell? ⟨b, 4, none⟩ = some (.bool (vNil 5))) : Calls Tryz.prog 24 #[.pointer (some ⟨b, 0, none⟩), .agg #[vT 5, .int .u64 (vK 5), td, .pointer none, .bool (vNil 5), .bool false, .bool false, .bool (vInt 5), .bool false]] w fun e w' => e = .returned (.bool true) ∧ Below w.heap.size w w' :=
  asks b td _ _ w hb 109 109 21 21 true rfl (fun v => by kernel_rfl) hc0 hc1 hc4

theorem pair_5_6 (b : Nat) (td : Value) (w : World) (hb : b < w.heap.size) (hc0 : w.cell? ⟨b, 0, none⟩ = some (vT 5)) (hc1 : w.cell? ⟨b, 1, none⟩ = some (.int .u64 (vK 5))) (hc4 : w.cell? ⟨b, 4, none⟩ = some (.bool (vNil 5))) : Calls Tryz.prog 24 #[.pointer (some ⟨b, 0, none⟩), .agg #[vT 6, .int .u64 (vK 6), td, .pointer none, .bool (vNil 6), .bool false, .bool false, .bool (vInt 6), .bool false]] w fun e w' => e = .returned (.bool false) ∧ Below w.heap.size w w' :=
  differ b td _ _ w hb 109 1 21 19 rfl rfl hc0 hc1 hc4

theorem pair_5_7 (b : Nat) (td : Value) (w : World) (hb : b < w.heap.size) (hc0 : w.cell? ⟨b, 0, none⟩ = some (vT 5)) (hc1 : w.cell? ⟨b, 1, none⟩ = some (.int .u64 (vK 5))) (hc4 : w.cell? ⟨b, 4, none⟩ = some (.bool (vNil 5))) : Calls Tryz.prog 24 #[.pointer (some ⟨b, 0, none⟩), .agg #[vT 7, .int .u64 (vK 7), td, .pointer none, .bool (vNil 7), .bool false, .bool false, .bool (vInt 7), .bool false]] w fun e w' => e = .returned (.bool true) ∧ Below w.heap.size w w' :=
  asks20 b td _ _ w hb 109 20 21 true rfl (fun v => by kernel_rfl) hc0 hc1 hc4

theorem pair_5_8 (b : Nat) (td : Value) (w : World) (hb : b < w.heap.size) (hc0 : w.cell? ⟨b, 0, none⟩ = some (vT 5)) (hc1 : w.cell? ⟨b, 1, none⟩ = some (.int .u64 (vK 5))) (hc4 : w.cell? ⟨b, 4, none⟩ = some (.bool (vNil 5))) : Calls Tryz.prog 24 #[.pointer (some ⟨b, 0, none⟩), .agg #[vT 8, .int .u64 (vK 8), td, .pointer none, .bool (vNil 8), .bool false, .bool false, .bool (vInt 8), .bool false]] w fun e w' => e = .returned (.bool false) ∧ Below w.heap.size w w' :=
  asks20 b td _ _ w hb 109 25 21 false rfl noerr_109 hc0 hc1 hc4

theorem pair_5_9 (b : Nat) (td : Value) (w : World) (hb : b < w.heap.size) (hc0 : w.cell? ⟨b, 0, none⟩ = some (vT 5)) (hc1 : w.cell? ⟨b, 1, none⟩ = some (.int .u64 (vK 5))) (hc4 : w.cell? ⟨b, 4, none⟩ = some (.bool (vNil 5))) : Calls Tryz.prog 24 #[.pointer (some ⟨b, 0, none⟩), .agg #[vT 9, .int .u64 (vK 9), td, .pointer none, .bool (vNil 9), .bool false, .bool false, .bool (vInt 9), .bool false]] w fun e w' => e = .returned (.bool false) ∧ Below w.heap.size w w' :=
  differ b td _ _ w hb 109 54 21 22 rfl rfl hc0 hc1 hc4

theorem pair_5_10 (b : Nat) (td : Value) (w : World) (hb : b < w.heap.size) (hc0 : w.cell? ⟨b, 0, none⟩ = some (vT 5)) (hc1 : w.cell? ⟨b, 1, none⟩ = some (.int .u64 (vK 5))) (hc4 : w.cell? ⟨b, 4, none⟩ = some (.bool (vNil 5))) : Calls Tryz.prog 24 #[.pointer (some ⟨b, 0, none⟩), .agg #[vT 10, .int .u64 (vK 10), td, .pointer none, .bool (vNil 10), .bool false, .bool false, .bool (vInt 10), .bool false]] w fun e w' => e = .returned (.bool false) ∧ Below w.heap.size w w' :=
  totnil b td _ _ w hb 109 _ hc0 hc1 hc4

theorem pair_5_11 (b : Nat) (td : Value) (w : World) (hb : b < w.heap.size) (hc0 : w.cell? ⟨b, 0, none⟩ = some (vT 5)) (hc1 : w.cell? ⟨b, 1, none⟩ = some (.int .u64 (vK 5))) (hc4 : w.cell? ⟨b, 4, none⟩ = some (.bool (vNil 5))) : Calls Tryz.prog 24 #[.pointer (some ⟨b, 0, none⟩), .agg #[vT 11, .int .u64 (vK 11), td, .pointer none, .bool (vNil 11), .bool false, .bool false, .bool (vInt 11), .bool false]] w fun e w' => e = .returned (.bool false) ∧ Below w.heap.size w w' :=
  totnil b td _ _ w hb 109 _ hc0 hc1 hc4

theorem pair_6_0 (b : Nat) (td : Value) (w : World) (hb : b < w.heap.size) (hc0 : w.cell? ⟨b, 0, none⟩ = some (vT 6)) (hc1 : w.cell? ⟨b, 1, none⟩ = some (.int .u64 (vK 6))) (hc4 : w.cell? ⟨b, 4, none⟩ = some (.bool (vNil 6))) : Calls Tryz.prog 24 #[.pointer (some ⟨b, 0, none⟩), .agg #[vT 0, .int .u64 (vK 0), td, .pointer none, .bool (vNil 0), .bool false, .bool false, .bool (vInt 0), .bool false]] w fun e w' => e = .returned (.bool false) ∧ Below w.heap.size w w' :=
  differ b td _ _ w hb 1 3 19 2 rfl rfl hc0 hc1 hc4

theorem pair_6_1 (b : Nat) (td : Value) (w : World) (hb : b < w.heap.size) (hc0 : w.cell? ⟨b, 0, none⟩ = some (vT 6)) (hc1 : w.cell? ⟨b, 1, none⟩ = some (.int .u64 (vK 6))) (hc4 : w.cell? ⟨b, 4, none⟩ = some (.bool (vNil 6))) : Calls Tryz.prog 24 #[.pointer (some ⟨b, 0, none⟩), .agg #[vT 1, .int .u64 (vK 1), td, .pointer none, .bool (vNil 1), .bool false, .bool false, .bool (vInt 1), .bool false]] w fun e w' => e = .returned (.bool false) ∧ Below w.heap.size w w' :=
  differ b td _ _ w hb 1 2 19 6 rfl rfl hc0 hc1 hc4

theorem pair_6_2 (b : Nat) (td : Value) (w : World) (hb : b < w.heap.size) (hc0 : w.cell? ⟨b, 0, none⟩ = some (vT 6)) (hc1 : w.cell? ⟨b, 1, none⟩ = some (.int .u64 (vK 6))) (hc4 : w.cell? ⟨b, 4, none⟩ = some (.bool (vNil 6))) : Calls Tryz.prog 24 #[.pointer (some ⟨b, 0, none⟩), .agg #[vT 2, .int .u64 (vK 2), td, .pointer none, .bool (vNil 2), .bool false, .bool false, .bool (vInt 2), .bool false]] w fun e w' => e = .returned (.bool false) ∧ Below w.heap.size w w' :=
  differ b td _ _ w hb 1 9 19 24 rfl rfl hc0 hc1 hc4

theorem pair_6_3 (b : Nat) (td : Value) (w : World) (hb : b < w.heap.size) (hc0 : w.cell? ⟨b, 0, none⟩ = some (vT 6)) (hc1 : w.cell? ⟨b, 1, none⟩ = some (.int .u64 (vK 6))) (hc4 : w.cell? ⟨b, 4, none⟩ = some (.bool (vNil 6))) : Calls Tryz.prog 24 #[.pointer (some ⟨b, 0, none⟩), .agg #[vT 3, .int .u64 (vK 3), td, .pointer none, .bool (vNil 3), .bool false, .bool false, .bool (vInt 3), .bool false]] w fun e w' => e = .returned (.bool false) ∧ Below w.heap.size w w' :=
  differ b td _ _ w hb 1 93 19 23 rfl rfl hc0 hc1 hc4

theorem pair_6_4 (b : Nat) (td : Value) (w : World) (hb : b < w.heap.size) (hc0 : w.cell? ⟨b, 0, none⟩ = some (vT 6)) (hc1 : w.cell? ⟨b, 1, none⟩ = some (.int .u64 (vK 6))) (hc4 : w.cell? ⟨b, 4, none⟩ = some (.bool (vNil 6))) : Calls Tryz.prog 24 #[.pointer (some ⟨b, 0, none⟩), .agg #[vT 4, .int .u64 (vK 4), td, .pointer none, .bool (vNil 4), .bool false, .bool false, .bool (vInt 4), .bool false]] w fun e w' => e = .returned (.bool false) ∧ Below w.heap.size w w' :=
  differ b td _ _ w hb 1 120 19 22 rfl rfl hc0 hc1 hc4

theorem pair_6_5 (b : Nat) (td : Value) (w : World) (hb : b < w.heap.size) (hc0 : w.cell? ⟨b, 0, none⟩ = some (vT 6)) (hc1 : w.cell? ⟨b, 1, none⟩ = some (.int .u64 (vK 6))) (hc4 : w.cell? ⟨b, 4, none⟩ = some (.bool (vNil 6))) : Calls Tryz.prog 24 #[.pointer (some ⟨b, 0, none⟩), .agg #[vT 5, .int .u64 (vK 5), td, .pointer none, .bool (vNil 5), .bool false, .bool false, .bool (vInt 5), .bool false]] w fun e w' => e = .returned (.bool false) ∧ Below w.heap.size w w' :=
  differ b td _ _ w hb 1 109 19 21 rfl rfl hc0 hc1 hc4

theorem pair_6_6 (b : Nat) (td : Value) (w : World) (hb : b < w.heap.size) (hc0 : w.cell? ⟨b, 0, none⟩ = some (vT 6)) (hc1 : w.cell? ⟨b, 1, none⟩ = some (.int .u64 (vK 6))) (hc4 : w.cell? ⟨b, 4, none⟩ = some (.bool (vNil 6))) : Calls Tryz.prog 24 #[.pointer (some ⟨b, 0, none⟩), .agg #[vT 6, .int .u64 (vK 6), td, .pointer none, .bool (vNil 6), .bool false, .bool false, .bool (vInt 6), .bool false]] w fun e w' => e = .returned (.bool true) ∧ Below w.heap.size w w' :=
  asks b td _ _ w hb 1 1 19 19 true rfl (fun v => by kernel_rfl) hc0 hc1 hc4

theorem pair_6_7 (b : Nat) (td : Value) (w : World) (hb : b < w.heap.size) (hc0 : w.cell? ⟨b, 0, none⟩ = some (vT 6)) (hc1 : w.cell? ⟨b, 1, none⟩ = some (.int .u64 (vK 6))) (hc4 : w.cell? ⟨b, 4, none⟩ = some (.bool (vNil 6))) : Calls Tryz.prog 24 #[.pointer (some ⟨b, 0, none⟩), .agg #[vT 7, .int .u64 (vK 7), td, .pointer none, .bool (vNil 7), .bool false, .bool false, .bool (vInt 7), .bool false]] w fun e w' => e = .returned (.bool true) ∧ Below w.heap.size w w' :=
  asks20 b td _ _ w hb 1 20 19 true rfl (fun v => by kernel_rfl) hc0 hc1 hc4

theorem pair_6_8 (b : Nat) (td : Value) (w : World) (hb : b < w.heap.size) (hc0 : w.cell? ⟨b, 0, none⟩ = some (vT 6)) (hc1 : w.cell? ⟨b, 1, none⟩ = some (.int .u64 (vK 6))) (hc4 : w.cell? ⟨b, 4, none⟩ = some (.bool (vNil 6))) : Calls Tryz.prog 24 #[.pointer (some ⟨b, 0, none⟩), .agg #[vT 8, .int .u64 (vK 8), td, .pointer none, .bool (vNil 8), .bool false, .bool false, .bool (vInt 8), .bool false]] w fun e w' => e = .returned (.bool false) ∧ Below w.heap.size w w' :=
  asks20 b td _ _ w hb 1 25 19 false rfl noerr_1 hc0 hc1 hc4

theorem pair_6_9 (b : Nat) (td : Value) (w : World) (hb : b < w.heap.size) (hc0 : w.cell? ⟨b, 0, none⟩ = some (vT 6)) (hc1 : w.cell? ⟨b, 1, none⟩ = some (.int .u64 (vK 6))) (hc4 : w.cell? ⟨b, 4, none⟩ = some (.bool (vNil 6))) : Calls Tryz.prog 24 #[.pointer (some ⟨b, 0, none⟩), .agg #[vT 9, .int .u64 (vK 9), td, .pointer none, .bool (vNil 9), .bool false, .bool false, .bool (vInt 9), .bool false]] w fun e w' => e = .returned (.bool false) ∧ Below w.heap.size w w' :=
  differ b td _ _ w hb 1 54 19 22 rfl rfl hc0 hc1 hc4

theorem pair_6_10 (b : Nat) (td : Value) (w : World) (hb : b < w.heap.size) (hc0 : w.cell? ⟨b, 0, none⟩ = some (vT 6)) (hc1 : w.cell? ⟨b, 1, none⟩ = some (.int .u64 (vK 6))) (hc4 : w.cell? ⟨b, 4, none⟩ = some (.bool (vNil 6))) : Calls Tryz.prog 24 #[.pointer (some ⟨b, 0, none⟩), .agg #[vT 10, .int .u64 (vK 10), td, .pointer none, .bool (vNil 10), .bool false, .bool false, .bool (vInt 10), .bool false]] w fun e w' => e = .returned (.bool false) ∧ Below w.heap.size w w' :=
  totnil b td _ _ w hb 1 _ hc0 hc1 hc4

theorem pair_6_11 (b : Nat) (td : Value) (w : World) (hb : b < w.heap.size) (hc0 : w.cell? ⟨b, 0, none⟩ = some (vT 6)) (hc1 : w.cell? ⟨b, 1, none⟩ = some (.int .u64 (vK 6))) (hc4 : w.cell? ⟨b, 4, none⟩ = some (.bool (vNil 6))) : Calls Tryz.prog 24 #[.pointer (some ⟨b, 0, none⟩), .agg #[vT 11, .int .u64 (vK 11), td, .pointer none, .bool (vNil 11), .bool false, .bool false, .bool (vInt 11), .bool false]] w fun e w' => e = .returned (.bool false) ∧ Below w.heap.size w w' :=
  totnil b td _ _ w hb 1 _ hc0 hc1 hc4

theorem pair_7_0 (b : Nat) (td : Value) (w : World) (hb : b < w.heap.size) (hc0 : w.cell? ⟨b, 0, none⟩ = some (vT 7)) (hc1 : w.cell? ⟨b, 1, none⟩ = some (.int .u64 (vK 7))) (hc4 : w.cell? ⟨b, 4, none⟩ = some (.bool (vNil 7))) : Calls Tryz.prog 24 #[.pointer (some ⟨b, 0, none⟩), .agg #[vT 0, .int .u64 (vK 0), td, .pointer none, .bool (vNil 0), .bool false, .bool false, .bool (vInt 0), .bool false]] w fun e w' => e = .returned (.bool false) ∧ Below w.heap.size w w' :=
  differ b td _ _ w hb 20 3 20 2 rfl rfl hc0 hc1 hc4

theorem pair_7_1 (b : Nat) (td : Value) (w : World) (hb : b < w.heap.size) (hc0 : w.cell? ⟨b, 0, none⟩ = some (vT 7)) (hc1 : w.cell? ⟨b, 1, none⟩ = some (.int .u64 (vK 7))) (hc4 : w.cell? ⟨b, 4, none⟩ = some (.bool (vNil 7))) : Calls Tryz.prog 24 #[.pointer (some ⟨b, 0, none⟩), .agg #[vT 1, .int .u64 (vK 1), td, .pointer none, .bool (vNil 1), .bool false, .bool false, .bool (vInt 1), .bool false]] w fun e w' => e = .returned (.bool false) ∧ Below w.heap.size w w' :=
  differ b td _ _ w hb 20 2 20 6 rfl rfl hc0 hc1 hc4

theorem pair_7_2 (b : Nat) (td : Value) (w : World) (hb : b < w.heap.size) (hc0 : w.cell? ⟨b, 0, none⟩ = some (vT 7)) (hc1 : w.cell? ⟨b, 1, none⟩ = some (.int .u64 (vK 7))) (hc4 : w.cell? ⟨b, 4, none⟩ = some (.bool (vNil 7))) : Calls Tryz.prog 24 #[.pointer (some ⟨b, 0, none⟩), .agg #[vT 2, .int .u64 (vK 2), td, .pointer none, .bool (vNil 2), .bool false, .bool false, .bool (vInt 2), .bool false]] w fun e w' => e = .returned (.bool false) ∧ Below w.heap.size w w' :=
  differ b td _ _ w hb 20 9 20 24 rfl rfl hc0 hc1 hc4

theorem pair_7_3 (b : Nat) (td : Value) (w : World) (hb : b < w.heap.size) (hc0 : w.cell? ⟨b, 0, none⟩ = some (vT 7)) (hc1 : w.cell? ⟨b, 1, none⟩ = some (.int .u64 (vK 7))) (hc4 : w.cell? ⟨b, 4, none⟩ = some (.bool (vNil 7))) : Calls Tryz.prog 24 #[.pointer (some ⟨b, 0, none⟩), .agg #[vT 3, .int .u64 (vK 3), td, .pointer none, .bool (vNil 3), .bool false, .bool false, .bool (vInt 3), .bool false]] w fun e w' => e = .returned (.bool false) ∧ Below w.heap.size w w' :=
  differ b td _ _ w hb 20 93 20 23 rfl rfl hc0 hc1 hc4

theorem pair_7_4 (b : Nat) (td : Value) (w : World) (hb : b < w.heap.size) (hc0 : w.cell? ⟨b, 0, none⟩ = some (vT 7)) (hc1 : w.cell? ⟨b, 1, none⟩ = some (.int .u64 (vK 7))) (hc4 : w.cell? ⟨b, 4, none⟩ = some (.bool (vNil 7))) : Calls Tryz.prog 24 #[.pointer (some ⟨b, 0, none⟩), .agg #[vT 4, .int .u64 (vK 4), td, .pointer none, .bool (vNil 4), .bool false, .bool false, .bool (vInt 4), .bool false]] w fun e w' => e = .returned (.bool false) ∧ Below w.heap.size w w' :=
  differ b td _ _ w hb 20 120 20 22 rfl rfl hc0 hc1 hc4

theorem pair_7_5 (b : Nat) (td : Value) (w : World) (hb : b < w.heap.size) (hc0 : w.cell? ⟨b, 0, none⟩ = some (vT 7)) (hc1 : w.cell? ⟨b, 1, none⟩ = some (.int .u64 (vK 7))) (hc4 : w.cell? ⟨b, 4, none⟩ = some (.bool (vNil 7))) : Calls Tryz.prog 24 #[.pointer (some ⟨b, 0, none⟩), .agg #[vT 5, .int .u64 (vK 5), td, .pointer none, .bool (vNil 5), .bool false, .bool false, .bool (vInt 5), .bool false]] w fun e w' => e = .returned (.bool false) ∧ Below w.heap.size w w' :=
  differ b td _ _ w hb 20 109 20 21 rfl rfl hc0 hc1 hc4

theorem pair_7_6 (b : Nat) (td : Value) (w : World) (hb : b < w.heap.size) (hc0 : w.cell? ⟨b, 0, none⟩ = some (vT 7)) (hc1 : w.cell? ⟨b, 1, none⟩ = some (.int .u64 (vK 7))) (hc4 : w.cell? ⟨b, 4, none⟩ = some (.bool (vNil 7))) : Calls Tryz.prog 24 #[.pointer (some ⟨b, 0, none⟩), .agg #[vT 6, .int .u64 (vK 6), td, .pointer none, .bool (vNil 6), .bool false, .bool false, .bool (vInt 6), .bool false]] w fun e w' => e = .returned (.bool false) ∧ Below w.heap.size w w' :=
  differ b td _ _ w hb 20 1 20 19 rfl rfl hc0 hc1 hc4

theorem pair_7_7 (b : Nat) (td : Value) (w : World) (hb : b < w.heap.size) (hc0 : w.cell? ⟨b, 0, none⟩ = some (vT 7)) (hc1 : w.cell? ⟨b, 1, none⟩ = some (.int .u64 (vK 7))) (hc4 : w.cell? ⟨b, 4, none⟩ = some (.bool (vNil 7))) : Calls Tryz.prog 24 #[.pointer (some ⟨b, 0, none⟩), .agg #[vT 7, .int .u64 (vK 7), td, .pointer none, .bool (vNil 7), .bool false, .bool false, .bool (vInt 7), .bool false]] w fun e w' => e = .returned (.bool true) ∧ Below w.heap.size w w' :=
  asks b td _ _ w hb 20 20 20 20 true rfl (fun v => by kernel_rfl) hc0 hc1 hc4

theorem pair_7_8 (b : Nat) (td : Value) (w : World) (hb : b < w.heap.size) (hc0 : w.cell? ⟨b, 0, none⟩ = some (vT 7)) (hc1 : w.cell? ⟨b, 1, none⟩ = some (.int .u64 (vK 7))) (hc4 : w.cell? ⟨b, 4, none⟩ = some (.bool (vNil 7))) : Calls Tryz.prog 24 #[.pointer (some ⟨b, 0, none⟩), .agg #[vT 8, .int .u64 (vK 8), td, .pointer none, .bool (vNil 8), .bool false, .bool false, .bool (vInt 8), .bool false]] w fun e w' => e = .returned (.bool false) ∧ Below w.heap.size w w' :=
  asks b td _ _ w hb 20 25 20 20 false rfl (fun v => by kernel_rfl) hc0 hc1 hc4

theorem pair_7_9 (b : Nat) (td : Value) (w : World) (hb : b < w.heap.size) (hc0 : w.cell? ⟨b, 0, none⟩ = some (vT 7)) (hc1 : w.cell? ⟨b, 1, none⟩ = some (.int .u64 (vK 7))) (hc4 : w.cell? ⟨b, 4, none⟩ = some (.bool (vNil 7))) : Calls Tryz.prog 24 #[.pointer (some ⟨b, 0, none⟩), .agg #[vT 9, .int .u64 (vK 9), td, .pointer none, .bool (vNil 9), .bool false, .bool false, .bool (vInt 9), .bool false]] w fun e w' => e = .returned (.bool false) ∧ Below w.heap.size w w' :=
  differ b td _ _ w hb 20 54 20 22 rfl rfl hc0 hc1 hc4

theorem pair_7_10 (b : Nat) (td : Value) (w : World) (hb : b < w.heap.size) (hc0 : w.cell? ⟨b, 0, none⟩ = some (vT 7)) (hc1 : w.cell? ⟨b, 1, none⟩ = some (.int .u64 (vK 7))) (hc4 : w.cell? ⟨b, 4, none⟩ = some (.bool (vNil 7))) : Calls Tryz.prog 24 #[.pointer (some ⟨b, 0, none⟩), .agg #[vT 10, .int .u64 (vK 10), td, .pointer none, .bool (vNil 10), .bool false, .bool false, .bool (vInt 10), .bool false]] w fun e w' => e = .returned (.bool false) ∧ Below w.heap.size w w' :=
  totnil b td _ _ w hb 20 _ hc0 hc1 hc4

theorem pair_7_11 (b : Nat) (td : Value) (w : World) (hb : b < w.heap.size) (hc0 : w.cell? ⟨b, 0, none⟩ = some (vT 7)) (hc1 : w.cell? ⟨b, 1, none⟩ = some (.int .u64 (vK 7))) (hc4 : w.cell? ⟨b, 4, none⟩ = some (.bool (vNil 7))) : Calls Tryz.prog 24 #[.pointer (some ⟨b, 0, none⟩), .agg #[vT 11, .int .u64 (vK 11), td, .pointer none, .bool (vNil 11), .bool false, .bool false, .bool (vInt 11), .bool false]] w fun e w' => e = .returned (.bool false) ∧ Below w.heap.size w w' :=
  totnil b td _ _ w hb 20 _ hc0 hc1 hc4

theorem pair_8_0 (b : Nat) (td : Value) (w : World) (hb : b < w.heap.size) (hc0 : w.cell? ⟨b, 0, none⟩ = some (vT 8)) (hc1 : w.cell? ⟨b, 1, none⟩ = some (.int .u64 (vK 8))) (hc4 : w.cell? ⟨b, 4, none⟩ = some (.bool (vNil 8))) : Calls Tryz.prog 24 #[.pointer (some ⟨b, 0, none⟩), .agg #[vT 0, .int .u64 (vK 0), td, .pointer none, .bool (vNil 0), .bool false, .bool false, .bool (vInt 0), .bool false]] w fun e w' => e = .returned (.bool false) ∧ Below w.heap.size w w' :=
  differ b td _ _ w hb 25 3 20 2 rfl rfl hc0 hc1 hc4

theorem pair_8_1 (b : Nat) (td : Value) (w : World) (hb : b < w.heap.size) (hc0 : w.cell? ⟨b, 0, none⟩ = some (vT 8)) (hc1 : w.cell? ⟨b, 1, none⟩ = some (.int .u64 (vK 8))) (hc4 : w.cell? ⟨b, 4, none⟩ = some (.bool (vNil 8))) : Calls Tryz.prog 24 #[.pointer (some ⟨b, 0, none⟩), .agg #[vT 1, .int .u64 (vK 1), td, .pointer none, .bool (vNil 1), .bool false, .bool false, .bool (vInt 1), .bool false]] w fun e w' => e = .returned (.bool false) ∧ Below w.heap.size w w' :=
  differ b td _ _ w hb 25 2 20 6 rfl rfl hc0 hc1 hc4

theorem pair_8_2 (b : Nat) (td : Value) (w : World) (hb : b < w.heap.size) (hc0 : w.cell? ⟨b, 0, none⟩ = some (vT 8)) (hc1 : w.cell? ⟨b, 1, none⟩ = some (.int .u64 (vK 8))) (hc4 : w.cell? ⟨b, 4, none⟩ = some (.bool (vNil 8))) : Calls Tryz.prog 24 #[.pointer (some ⟨b, 0, none⟩), .agg #[vT 2, .int .u64 (vK 2), td, .pointer none, .bool (vNil 2), .bool false, .bool false, .bool (vInt 2), .bool false]] w fun e w' => e = .returned (.bool false) ∧ Below w.heap.size w w' :=
  differ b td _ _ w hb 25 9 20 24 rfl rfl hc0 hc1 hc4

theorem pair_8_3 (b : Nat) (td : Value) (w : World) (hb : b < w.heap.size) (hc0 : w.cell? ⟨b, 0, none⟩ = some (vT 8)) (hc1 : w.cell? ⟨b, 1, none⟩ = some (.int .u64 (vK 8))) (hc4 : w.cell? ⟨b, 4, none⟩ = some (.bool (vNil 8))) : Calls Tryz.prog 24 #[.pointer (some ⟨b, 0, none⟩), .agg #[vT 3, .int .u64 (vK 3), td, .pointer none, .bool (vNil 3), .bool false, .bool false, .bool (vInt 3), .bool false]] w fun e w' => e = .returned (.bool false) ∧ Below w.heap.size w w' :=
  differ b td _ _ w hb 25 93 20 23 rfl rfl hc0 hc1 hc4

theorem pair_8_4 (b : Nat) (td : Value) (w : World) (hb : b < w.heap.size) (hc0 : w.cell? ⟨b, 0, none⟩ = some (vT 8)) (hc1 : w.cell? ⟨b, 1, none⟩ = some (.int .u64 (vK 8))) (hc4 : w.cell? ⟨b, 4, none⟩ = some (.bool (vNil 8))) : Calls Tryz.prog 24 #[.pointer (some ⟨b, 0, none⟩), .agg #[vT 4, .int .u64 (vK 4), td, .pointer none, .bool (vNil 4), .bool false, .bool false, .bool (vInt 4), .bool false]] w fun e w' => e = .returned (.bool false) ∧ Below w.heap.size w w' :=
  differ b td _ _ w hb 25 120 20 22 rfl rfl hc0 hc1 hc4

theorem pair_8_5 (b : Nat) (td : Value) (w : World) (hb : b < w.heap.size) (hc0 : w.cell? ⟨b, 0, none⟩ = some (vT 8)) (hc1 : w.cell? ⟨b, 1, none⟩ = some (.int .u64 (vK 8))) (hc4 : w.cell? ⟨b, 4, none⟩ = some (.bool (vNil 8))) : Calls Tryz.prog 24 #[.pointer (some ⟨b, 0, none⟩), .agg #[vT 5, .int .u64 (vK 5), td, .pointer none, .bool (vNil 5), .bool false, .bool false, .bool (vInt 5), .bool false]] w fun e w' => e = .returned (.bool false) ∧ Below w.heap.size w w' :=
  differ b td _ _ w hb 25 109 20 21 rfl rfl hc0 hc1 hc4

theorem pair_8_6 (b : Nat) (td : Value) (w : World) (hb : b < w.heap.size) (hc0 : w.cell? ⟨b, 0, none⟩ = some (vT 8)) (hc1 : w.cell? ⟨b, 1, none⟩ = some (.int .u64 (vK 8))) (hc4 : w.cell? ⟨b, 4, none⟩ = some (.bool (vNil 8))) : Calls Tryz.prog 24 #[.pointer (some ⟨b, 0, none⟩), .agg #[vT 6, .int .u64 (vK 6), td, .pointer none, .bool (vNil 6), .bool false, .bool false, .bool (vInt 6), .bool false]] w fun e w' => e = .returned (.bool false) ∧ Below w.heap.size w w' :=
  differ b td _ _ w hb 25 1 20 19 rfl rfl hc0 hc1 hc4

theorem pair_8_7 (b : Nat) (td : Value) (w : World) (hb : b < w.heap.size) (hc0 : w.cell? ⟨b, 0, none⟩ = some (vT 8)) (hc1 : w.cell? ⟨b, 1, none⟩ = some (.int .u64 (vK 8))) (hc4 : w.cell? ⟨b, 4, none⟩ = some (.bool (vNil 8))) : Calls Tryz.prog 24 #[.pointer (some ⟨b, 0, none⟩), .agg #[vT 7, .int .u64 (vK 7), td, .pointer none, .bool (vNil 7), .bool false, .bool false, .bool (vInt 7), .bool false]] w fun e w' => e = .returned (.bool true) ∧ Below w.heap.size w w' :=
  asks b td _ _ w hb 25 20 20 20 true rfl (fun v => by kernel_rfl) hc0 hc1 hc4

theorem pair_8_8 (b : Nat) (td : Value) (w : World) (hb : b < w.heap.size) (hc0 : w.cell? ⟨b, 0, none⟩ = some (vT 8)) (hc1 : w.cell? ⟨b, 1, none⟩ = some (.int .u64 (vK 8))) (hc4 : w.cell? ⟨b, 4, none⟩ = some (.bool (vNil 8))) : Calls Tryz.prog 24 #[.pointer (some ⟨b, 0, none⟩), .agg #[vT 8, .int .u64 (vK 8), td, .pointer none, .bool (vNil 8), .bool false, .bool false, .bool (vInt 8), .bool false]] w fun e w' => e = .returned (.bool true) ∧ Below w.heap.size w w' :=
  asks b td _ _ w hb 25 25 20 20 true rfl (fun v => by kernel_rfl) hc0 hc1 hc4

theorem pair_8_9 (b : Nat) (td : Value) (w : World) (hb : b < w.heap.size) (hc0 : w.cell? ⟨b, 0, none⟩ = some (vT 8)) (hc1 : w.cell? ⟨b, 1, none⟩ = some (.int .u64 (vK 8))) (hc4 : w.cell? ⟨b, 4, none⟩ = some (.bool (vNil 8))) : Calls Tryz.prog 24 #[.pointer (some ⟨b, 0, none⟩), .agg #[vT 9, .int .u64 (vK 9), td, .pointer none, .bool (vNil 9), .bool false, .bool false, .bool (vInt 9), .bool false]] w fun e w' => e = .returned (.bool false) ∧ Below w.heap.size w w' :=
  differ b td _ _ w hb 25 54 20 22 rfl rfl hc0 hc1 hc4

theorem pair_8_10 (b : Nat) (td : Value) (w : World) (hb : b < w.heap.size) (hc0 : w.cell? ⟨b, 0, none⟩ = some (vT 8)) (hc1 : w.cell? ⟨b, 1, none⟩ = some (.int .u64 (vK 8))) (hc4 : w.cell? ⟨b, 4, none⟩ = some (.bool (vNil 8))) : Calls Tryz.prog 24 #[.pointer (some ⟨b, 0, none⟩), .agg #[vT 10, .int .u64 (vK 10), td, .pointer none, .bool (vNil 10), .bool false, .bool false, .bool (vInt 10), .bool false]] w fun e w' => e = .returned (.bool false) ∧ Below w.heap.size w w' :=
  totnil b td _ _ w hb 25 _ hc0 hc1 hc4

theorem pair_8_11 (b : Nat) (td : Value) (w : World) (hb : b < w.heap.size) (hc0 : w.cell? ⟨b, 0, none⟩ = some (vT 8)) (hc1 : w.cell? ⟨b, 1, none⟩ = some (.int .u64 (vK 8))) (hc4 : w.cell? ⟨b, 4, none⟩ = some (.bool (vNil 8))) : Calls Tryz.prog 24 #[.pointer (some ⟨b, 0, none⟩), .agg #[vT 11, .int .u64 (vK 11), td, .pointer none, .bool (vNil 11), .bool false, .bool false, .bool (vInt 11), .bool false]] w fun e w' => e = .returned (.bool false) ∧ Below w.heap.size w w' :=
  totnil b td _ _ w hb 25 _ hc0 hc1 hc4

theorem pair_9_0 (b : Nat) (td : Value) (w : World) (hb : b < w.heap.size) (hc0 : w.cell? ⟨b, 0, none⟩ = some (vT 9)) (hc1 : w.cell? ⟨b, 1, none⟩ = some (.int .u64 (vK 9))) (hc4 : w.cell? ⟨b, 4, none⟩ = some (.bool (vNil 9))) : Calls Tryz.prog 24 #[.pointer (some ⟨b, 0, none⟩), .agg #[vT 0, .int .u64 (vK 0), td, .pointer none, .bool (vNil 0), .bool false, .bool false, .bool (vInt 0), .bool false]] w fun e w' => e = .returned (.bool false) ∧ Below w.heap.size w w' :=
  differ b td _ _ w hb 54 3 22 2 rfl rfl hc0 hc1 hc4

theorem pair_9_1 (b : Nat) (td : Value) (w : World) (hb : b < w.heap.size) (hc0 : w.cell? ⟨b, 0, none⟩ = some (vT 9)) (hc1 : w.cell? ⟨b, 1, none⟩ = some (.int .u64 (vK 9))) (hc4 : w.cell? ⟨b, 4, none⟩ = some (.bool (vNil 9))) : Calls Tryz.prog 24 #[.pointer (some ⟨b, 0, none⟩), .agg #[vT 1, .int .u64 (vK 1), td, .pointer none, .bool (vNil 1), .bool false, .bool false, .bool (vInt 1), .bool false]] w fun e w' => e = .returned (.bool false) ∧ Below w.heap.size w w' :=
  differ b td _ _ w hb 54 2 22 6 rfl rfl hc0 hc1 hc4

theorem pair_9_2 (b : Nat) (td : Value) (w : World) (hb : b < w.heap.size) (hc0 : w.cell? ⟨b, 0, none⟩ = some (vT 9)) (hc1 : w.cell? ⟨b, 1, none⟩ = some (.int .u64 (vK 9))) (hc4 : w.cell? ⟨b, 4, none⟩ = some (.bool (vNil 9))) : Calls Tryz.prog 24 #[.pointer (some ⟨b, 0, none⟩), .agg #[vT 2, .int .u64 (vK 2), td, .pointer none, .bool (vNil 2), .bool false, .bool false, .bool (vInt 2), .bool false]] w fun e w' => e = .returned (.bool false) ∧ Below w.heap.size w w' :=
  differ b td _ _ w hb 54 9 22 24 rfl rfl hc0 hc1 hc4

theorem pair_9_3 (b : Nat) (td : Value) (w : World) (hb : b < w.heap.size) (hc0 : w.cell? ⟨b, 0, none⟩ = some (vT 9)) (hc1 : w.cell? ⟨b, 1, none⟩ = some (.int .u64 (vK 9))) (hc4 : w.cell? ⟨b, 4, none⟩ = some (.bool (vNil 9))) : Calls Tryz.prog 24 #[.pointer (some ⟨b, 0, none⟩), .agg #[vT 3, .int .u64 (vK 3), td, .pointer none, .bool (vNil 3), .bool false, .bool false, .bool (vInt 3), .bool false]] w fun e w' => e = .returned (.bool false) ∧ Below w.heap.size w w' :=
  differ b td _ _ w hb 54 93 22 23 rfl rfl hc0 hc1 hc4

theorem pair_9_4 (b : Nat) (td : Value) (w : World) (hb : b < w.heap.size) (hc0 : w.cell? ⟨b, 0, none⟩ = some (vT 9)) (hc1 : w.cell? ⟨b, 1, none⟩ = some (.int .u64 (vK 9))) (hc4 : w.cell? ⟨b, 4, none⟩ = some (.bool (vNil 9))) : Calls Tryz.prog 24 #[.pointer (some ⟨b, 0, none⟩), .agg #[vT 4, .int .u64 (vK 4), td, .pointer none, .bool (vNil 4), .bool false, .bool false, .bool (vInt 4), .bool false]] w fun e w' => e = .returned (.bool false) ∧ Below w.heap.size w w' :=
  asks b td _ _ w hb 54 120 22 22 false rfl (fun v => by kernel_rfl) hc0 hc1 hc4

theorem pair_9_5 (b : Nat) (td : Value) (w : World) (hb : b < w.heap.size) (hc0 : w.cell? ⟨b, 0, none⟩ = some (vT 9)) (hc1 : w.cell? ⟨b, 1, none⟩ = some (.int .u64 (vK 9))) (hc4 : w.cell? ⟨b, 4, none⟩ = some (.bool (vNil 9))) : Calls Tryz.prog 24 #[.pointer (some ⟨b, 0, none⟩), .agg #[vT 5, .int .u64 (vK 5), td, .pointer none, .bool (vNil 5), .bool false, .bool false, .bool (vInt 5), .bool false]] w fun e w' => e = .returned (.bool false) ∧ Below w.heap.size w w' :=
  differ b td _ _ w hb 54 109 22 21 rfl rfl hc0 hc1 hc4

theorem pair_9_6 (b : Nat) (td : Value) (w : World) (hb : b < w.heap.size) (hc0 : w.cell? ⟨b, 0, none⟩ = some (vT 9)) (hc1 : w.cell? ⟨b, 1, none⟩ = some (.int .u64 (vK 9))) (hc4 : w.cell? ⟨b, 4, none⟩ = some (.bool (vNil 9))) : Calls Tryz.prog 24 #[.pointer (some ⟨b, 0, none⟩), .agg #[vT 6, .int .u64 (vK 6), td, .pointer none, .bool (vNil 6), .bool false, .bool false, .bool (vInt 6), .bool false]] w fun e w' => e = .returned (.bool false) ∧ Below w.heap.size w w' :=
  differ b td _ _ w hb 54 1 22 19 rfl rfl hc0 hc1 hc4

theorem pair_9_7 (b : Nat) (td : Value) (w : World) (hb : b < w.heap.size) (hc0 : w.cell? ⟨b, 0, none⟩ = some (vT 9)) (hc1 : w.cell? ⟨b, 1, none⟩ = some (.int .u64 (vK 9))) (hc4 : w.cell? ⟨b, 4, none⟩ = some (.bool (vNil 9))) : Calls Tryz.prog 24 #[.pointer (some ⟨b, 0, none⟩), .agg #[vT 7, .int .u64 (vK 7), td, .pointer none, .bool (vNil 7), .bool false, .bool false, .bool (vInt 7), .bool false]] w fun e w' => e = .returned (.bool true) ∧ Below w.heap.size w w' :=
  asks20 b td _ _ w hb 54 20 22 true rfl (fun v => by kernel_rfl) hc0 hc1 hc4

theorem pair_9_8 (b : Nat) (td : Value) (w : World) (hb : b < w.heap.size) (hc0 : w.cell? ⟨b, 0, none⟩ = some (vT 9)) (hc1 : w.cell? ⟨b, 1, none⟩ = some (.int .u64 (vK 9))) (hc4 : w.cell? ⟨b, 4, none⟩ = some (.bool (vNil 9))) : Calls Tryz.prog 24 #[.pointer (some ⟨b, 0, none⟩), .agg #[vT 8, .int .u64 (vK 8), td, .pointer none, .bool (vNil 8), .bool false, .bool false, .bool (vInt 8), .bool false]] w fun e w' => e = .returned (.bool false) ∧ Below w.heap.size w w' :=
  asks20 b td _ _ w hb 54 25 22 false rfl noerr_54 hc0 hc1 hc4

theorem pair_9_9 (b : Nat) (td : Value) (w : World) (hb : b < w.heap.size) (hc0 : w.cell? ⟨b, 0, none⟩ = some (vT 9)) (hc1 : w.cell? ⟨b, 1, none⟩ = some (.int .u64 (vK 9))) (hc4 : w.cell? ⟨b, 4, none⟩ = some (.bool (vNil 9))) : Calls Tryz.prog 24 #[.pointer (some ⟨b, 0, none⟩), .agg #[vT 9, .int .u64 (vK 9), td, .pointer none, .bool (vNil 9), .bool false, .bool false, .bool (vInt 9), .bool false]] w fun e w' => e = .returned (.bool true) ∧ Below w.heap.size w w' :=
  asks b td _ _ w hb 54 54 22 22 true rfl (fun v => by kernel_rfl) hc0 hc1 hc4

theorem pair_9_10 (b : Nat) (td : Value) (w : World) (hb : b < w.heap.size) (hc0 : w.cell? ⟨b, 0, none⟩ = some (vT 9)) (hc1 : w.cell? ⟨b, 1, none⟩ = some (.int .u64 (vK 9))) (hc4 : w.cell? ⟨b, 4, none⟩ = some (.bool (vNil 9))) : Calls Tryz.prog 24 #[.pointer (some ⟨b, 0, none⟩), .agg #[vT 10, .int .u64 (vK 10), td, .pointer none, .bool (vNil 10), .bool false, .bool false, .bool (vInt 10), .bool false]] w fun e w' => e = .returned (.bool false) ∧ Below w.heap.size w w' :=
  totnil b td _ _ w hb 54 _ hc0 hc1 hc4

theorem pair_9_11 (b : Nat) (td : Value) (w : World) (hb : b < w.heap.size) (hc0 : w.cell? ⟨b, 0, none⟩ = some (vT 9)) (hc1 : w.cell? ⟨b, 1, none⟩ = some (.int .u64 (vK 9))) (hc4 : w.cell? ⟨b, 4, none⟩ = some (.bool (vNil 9))) : Calls Tryz.prog 24 #[.pointer (some ⟨b, 0, none⟩), .agg #[vT 11, .int .u64 (vK 11), td, .pointer none, .bool (vNil 11), .bool false, .bool false, .bool (vInt 11), .bool false]] w fun e w' => e = .returned (.bool false) ∧ Below w.heap.size w w' :=
  totnil b td _ _ w hb 54 _ hc0 hc1 hc4

theorem pair_10_0 (b : Nat) (td : Value) (w : World) (hb : b < w.heap.size) (hc0 : w.cell? ⟨b, 0, none⟩ = some (vT 10)) (hc1 : w.cell? ⟨b, 1, none⟩ = some (.int .u64 (vK 10))) (hc4 : w.cell? ⟨b, 4, none⟩ = some (.bool (vNil 10))) : Calls Tryz.prog 24 #[.pointer (some ⟨b, 0, none⟩), .agg #[vT 0, .int .u64 (vK 0), td, .pointer none, .bool (vNil 0), .bool false, .bool false, .bool (vInt 0), .bool false]] w fun e w' => e = .returned (.bool false) ∧ Below w.heap.size w w' :=
  nilsrc_2 b td _ _ w hb hc0 hc1 hc4 _

theorem pair_10_1 (b : Nat) (td : Value) (w : World) (hb : b < w.heap.size) (hc0 : w.cell? ⟨b, 0, none⟩ = some (vT 10)) (hc1 : w.cell? ⟨b, 1, none⟩ = some (.int .u64 (vK 10))) (hc4 : w.cell? ⟨b, 4, none⟩ = some (.bool (vNil 10))) : Calls Tryz.prog 24 #[.pointer (some ⟨b, 0, none⟩), .agg #[vT 1, .int .u64 (vK 1), td, .pointer none, .bool (vNil 1), .bool false, .bool false, .bool (vInt 1), .bool false]] w fun e w' => e = .returned (.bool false) ∧ Below w.heap.size w w' :=
  nilsrc_6 b td _ _ w hb hc0 hc1 hc4 _

theorem pair_10_2 (b : Nat) (td : Value) (w : World) (hb : b < w.heap.size) (hc0 : w.cell? ⟨b, 0, none⟩ = some (vT 10)) (hc1 : w.cell? ⟨b, 1, none⟩ = some (.int .u64 (vK 10))) (hc4 : w.cell? ⟨b, 4, none⟩ = some (.bool (vNil 10))) : Calls Tryz.prog 24 #[.pointer (some ⟨b, 0, none⟩), .agg #[vT 2, .int .u64 (vK 2), td, .pointer none, .bool (vNil 2), .bool false, .bool false, .bool (vInt 2), .bool false]] w fun e w' => e = .returned (.bool false) ∧ Below w.heap.size w w' :=
  nilsrc_24 b td _ _ w hb hc0 hc1 hc4 _

theorem pair_10_3 (b : Nat) (td : Value) (w : World) (hb : b < w.heap.size) (hc0 : w.cell? ⟨b, 0, none⟩ = some (vT 10)) (hc1 : w.cell? ⟨b, 1, none⟩ = some (.int .u64 (vK 10))) (hc4 : w.cell? ⟨b, 4, none⟩ = some (.bool (vNil 10))) : Calls Tryz.prog 24 #[.pointer (some ⟨b, 0, none⟩), .agg #[vT 3, .int .u64 (vK 3), td, .pointer none, .bool (vNil 3), .bool false, .bool false, .bool (vInt 3), .bool false]] w fun e w' => e = .returned (.bool true) ∧ Below w.heap.size w w' :=
  nilsrc_23 b td _ _ w hb hc0 hc1 hc4 _

theorem pair_10_4 (b : Nat) (td : Value) (w : World) (hb : b < w.heap.size) (hc0 : w.cell? ⟨b, 0, none⟩ = some (vT 10)) (hc1 : w.cell? ⟨b, 1, none⟩ = some (.int .u64 (vK 10))) (hc4 : w.cell? ⟨b, 4, none⟩ = some (.bool (vNil 10))) : Calls Tryz.prog 24 #[.pointer (some ⟨b, 0, none⟩), .agg #[vT 4, .int .u64 (vK 4), td, .pointer none, .bool (vNil 4), .bool false, .bool false, .bool (vInt 4), .bool false]] w fun e w' => e = .returned (.bool true) ∧ Below w.heap.size w w' :=
  nilsrc_22 b td _ _ w hb hc0 hc1 hc4 _

theorem pair_10_5 (b : Nat) (td : Value) (w : World) (hb : b < w.heap.size) (hc0 : w.cell? ⟨b, 0, none⟩ = some (vT 10)) (hc1 : w.cell? ⟨b, 1, none⟩ = some (.int .u64 (vK 10))) (hc4 : w.cell? ⟨b, 4, none⟩ = some (.bool (vNil 10))) : Calls Tryz.prog 24 #[.pointer (some ⟨b, 0, none⟩), .agg #[vT 5, .int .u64 (vK 5), td, .pointer none, .bool (vNil 5), .bool false, .bool false, .bool (vInt 5), .bool false]] w fun e w' => e = .returned (.bool true) ∧ Below w.heap.size w w' :=
  nilsrc_21 b td _ _ w hb hc0 hc1 hc4 _

theorem pair_10_6 (b : Nat) (td : Value) (w : World) (hb : b < w.heap.size) (hc0 : w.cell? ⟨b, 0, none⟩ = some (vT 10)) (hc1 : w.cell? ⟨b, 1, none⟩ = some (.int .u64 (vK 10))) (hc4 : w.cell? ⟨b, 4, none⟩ = some (.bool (vNil 10))) : Calls Tryz.prog 24 #[.pointer (some ⟨b, 0, none⟩), .agg #[vT 6, .int .u64 (vK 6), td, .pointer none, .bool (vNil 6), .bool false, .bool false, .bool (vInt 6), .bool false]] w fun e w' => e = .returned (.bool true) ∧ Below w.heap.size w w' :=
  nilsrc_19 b td _ _ w hb hc0 hc1 hc4 _

theorem pair_10_7 (b : Nat) (td : Value) (w : World) (hb : b < w.heap.size) (hc0 : w.cell? ⟨b, 0, none⟩ = some (vT 10)) (hc1 : w.cell? ⟨b, 1, none⟩ = some (.int .u64 (vK 10))) (hc4 : w.cell? ⟨b, 4, none⟩ = some (.bool (vNil 10))) : Calls Tryz.prog 24 #[.pointer (some ⟨b, 0, none⟩), .agg #[vT 7, .int .u64 (vK 7), td, .pointer none, .bool (vNil 7), .bool false, .bool false, .bool (vInt 7), .bool false]] w fun e w' => e = .returned (.bool true) ∧ Below w.heap.size w w' :=
  nilsrc_20 b td _ _ w hb hc0 hc1 hc4 _

theorem pair_10_8 (b : Nat) (td : Value) (w : World) (hb : b < w.heap.size) (hc0 : w.cell? ⟨b, 0, none⟩ = some (vT 10)) (hc1 : w.cell? ⟨b, 1, none⟩ = some (.int .u64 (vK 10))) (hc4 : w.cell? ⟨b, 4, none⟩ = some (.bool (vNil 10))) : Calls Tryz.prog 24 #[.pointer (some ⟨b, 0, none⟩), .agg #[vT 8, .int .u64 (vK 8), td, .pointer none, .bool (vNil 8), .bool false, .bool false, .bool (vInt 8), .bool false]] w fun e w' => e = .returned (.bool true) ∧ Below w.heap.size w w' :=
  nilsrc_20 b td _ _ w hb hc0 hc1 hc4 _

theorem pair_10_9 (b : Nat) (td : Value) (w : World) (hb : b < w.heap.size) (hc0 : w.cell? ⟨b, 0, none⟩ = some (vT 10)) (hc1 : w.cell? ⟨b, 1, none⟩ = some (.int .u64 (vK 10))) (hc4 : w.cell? ⟨b, 4, none⟩ = some (.bool (vNil 10))) : Calls Tryz.prog 24 #[.pointer (some ⟨b, 0, none⟩), .agg #[vT 9, .int .u64 (vK 9), td, .pointer none, .bool (vNil 9), .bool false, .bool false, .bool (vInt 9), .bool false]] w fun e w' => e = .returned (.bool true) ∧ Below w.heap.size w w' :=
  nilsrc_22 b td _ _ w hb hc0 hc1 hc4 _

theorem pair_10_10 (b : Nat) (td : Value) (w : World) (hb : b < w.heap.size) (hc0 : w.cell? ⟨b, 0, none⟩ = some (vT 10)) (hc1 : w.cell? ⟨b, 1, none⟩ = some (.int .u64 (vK 10))) (hc4 : w.cell? ⟨b, 4, none⟩ = some (.bool (vNil 10))) : Calls Tryz.prog 24 #[.pointer (some ⟨b, 0, none⟩), .agg #[vT 10, .int .u64 (vK 10), td, .pointer none, .bool (vNil 10), .bool false, .bool false, .bool (vInt 10), .bool false]] w fun e w' => e = .returned (.bool false) ∧ Below w.heap.size w w' :=
  nilsrc_0 b td _ _ w hb hc0 hc1 hc4 _

theorem pair_10_11 (b : Nat) (td : Value) (w : World) (hb : b < w.heap.size) (hc0 : w.cell? ⟨b, 0, none⟩ = some (vT 10)) (hc1 : w.cell? ⟨b, 1, none⟩ = some (.int .u64 (vK 10))) (hc4 : w.cell? ⟨b, 4, none⟩ = some (.bool (vNil 10))) : Calls Tryz.prog 24 #[.pointer (some ⟨b, 0, none⟩), .agg #[vT 11, .int .u64 (vK 11), td, .pointer none, .bool (vNil 11), .bool false, .bool false, .bool (vInt 11), .bool false]] w fun e w' => e = .returned (.bool false) ∧ Below w.heap.size w w' :=
  nilsrc_0 b td _ _ w hb hc0 hc1 hc4 _

theorem pair_11_0 (b : Nat) (td : Value) (w : World) (hb : b < w.heap.size) (hc0 : w.cell? ⟨b, 0, none⟩ = some (vT 11)) (hc1 : w.cell? ⟨b, 1, none⟩ = some (.int .u64 (vK 11))) (hc4 : w.cell? ⟨b, 4, none⟩ = some (.bool (vNil 11))) : Calls Tryz.prog 24 #[.pointer (some ⟨b, 0, none⟩), .agg #[vT 0, .int .u64 (vK 0), td, .pointer none, .bool (vNil 0), .bool false, .bool false, .bool (vInt 0), .bool false]] w fun e w' => e = .returned (.bool false) ∧ Below w.heap.size w w' :=
  untyped b td _ _ w hb hc0 hc1 hc4 _ _

theorem pair_11_1 (b : Nat) (td : Value) (w : World) (hb : b < w.heap.size) (hc0 : w.cell? ⟨b, 0, none⟩ = some (vT 11)) (hc1 : w.cell? ⟨b, 1, none⟩ = some (.int .u64 (vK 11))) (hc4 : w.cell? ⟨b, 4, none⟩ = some (.bool (vNil 11))) : Calls Tryz.prog 24 #[.pointer (some ⟨b, 0, none⟩), .agg #[vT 1, .int .u64 (vK 1), td, .pointer none, .bool (vNil 1), .bool false, .bool false, .bool (vInt 1), .bool false]] w fun e w' => e = .returned (.bool false) ∧ Below w.heap.size w w' :=
  untyped b td _ _ w hb hc0 hc1 hc4 _ _

theorem pair_11_2 (b : Nat) (td : Value) (w : World) (hb : b < w.heap.size) (hc0 : w.cell? ⟨b, 0, none⟩ = some (vT 11)) (hc1 : w.cell? ⟨b, 1, none⟩ = some (.int .u64 (vK 11))) (hc4 : w.cell? ⟨b, 4, none⟩ = some (.bool (vNil 11))) : Calls Tryz.prog 24 #[.pointer (some ⟨b, 0, none⟩), .agg #[vT 2, .int .u64 (vK 2), td, .pointer none, .bool (vNil 2), .bool false, .bool false, .bool (vInt 2), .bool false]] w fun e w' => e = .returned (.bool false) ∧ Below w.heap.size w w' :=
  untyped b td _ _ w hb hc0 hc1 hc4 _ _

theorem pair_11_3 (b : Nat) (td : Value) (w : World) (hb : b < w.heap.size) (hc0 : w.cell? ⟨b, 0, none⟩ = some (vT 11)) (hc1 : w.cell? ⟨b, 1, none⟩ = some (.int .u64 (vK 11))) (hc4 : w.cell? ⟨b, 4, none⟩ = some (.bool (vNil 11))) : Calls Tryz.prog 24 #[.pointer (some ⟨b, 0, none⟩), .agg #[vT 3, .int .u64 (vK 3), td, .pointer none, .bool (vNil 3), .bool false, .bool false, .bool (vInt 3), .bool false]] w fun e w' => e = .returned (.bool false) ∧ Below w.heap.size w w' :=
  untyped b td _ _ w hb hc0 hc1 hc4 _ _

theorem pair_11_4 (b : Nat) (td : Value) (w : World) (hb : b < w.heap.size) (hc0 : w.cell? ⟨b, 0, none⟩ = some (vT 11)) (hc1 : w.cell? ⟨b, 1, none⟩ = some (.int .u64 (vK 11))) (hc4 : w.cell? ⟨b, 4, none⟩ = some (.bool (vNil 11))) : Calls Tryz.prog 24 #[.pointer (some ⟨b, 0, none⟩), .agg #[vT 4, .int .u64 (vK 4), td, .pointer none, .bool (vNil 4), .bool false, .bool false, .bool (vInt 4), .bool false]] w fun e w' => e = .returned (.bool false) ∧ Below w.heap.size w w' :=
  untyped b td _ _ w hb hc0 hc1 hc4 _ _

theorem pair_11_5 (b : Nat) (td : Value) (w : World) (hb : b < w.heap.size) (hc0 : w.cell? ⟨b, 0, none⟩ = some (vT 11)) (hc1 : w.cell? ⟨b, 1, none⟩ = some (.int .u64 (vK 11))) (hc4 : w.cell? ⟨b, 4, none⟩ = some (.bool (vNil 11))) : Calls Tryz.prog 24 #[.pointer (some ⟨b, 0, none⟩), .agg #[vT 5, .int .u64 (vK 5), td, .pointer none, .bool (vNil 5), .bool false, .bool false, .bool (vInt 5), .bool false]] w fun e w' => e = .returned (.bool false) ∧ Below w.heap.size w w' :=
  untyped b td _ _ w hb hc0 hc1 hc4 _ _

theorem pair_11_6 (b : Nat) (td : Value) (w : World) (hb : b < w.heap.size) (hc0 : w.cell? ⟨b, 0, none⟩ = some (vT 11)) (hc1 : w.cell? ⟨b, 1, none⟩ = some (.int .u64 (vK 11))) (hc4 : w.cell? ⟨b, 4, none⟩ = some (.bool (vNil 11))) : Calls Tryz.prog 24 #[.pointer (some ⟨b, 0, none⟩), .agg #[vT 6, .int .u64 (vK 6), td, .pointer none, .bool (vNil 6), .bool false, .bool false, .bool (vInt 6), .bool false]] w fun e w' => e = .returned (.bool false) ∧ Below w.heap.size w w' :=
  untyped b td _ _ w hb hc0 hc1 hc4 _ _

theorem pair_11_7 (b : Nat) (td : Value) (w : World) (hb : b < w.heap.size) (hc0 : w.cell? ⟨b, 0, none⟩ = some (vT 11)) (hc1 : w.cell? ⟨b, 1, none⟩ = some (.int .u64 (vK 11))) (hc4 : w.cell? ⟨b, 4, none⟩ = some (.bool (vNil 11))) : Calls Tryz.prog 24 #[.pointer (some ⟨b, 0, none⟩), .agg #[vT 7, .int .u64 (vK 7), td, .pointer none, .bool (vNil 7), .bool false, .bool false, .bool (vInt 7), .bool false]] w fun e w' => e = .returned (.bool false) ∧ Below w.heap.size w w' :=
  untyped b td _ _ w hb hc0 hc1 hc4 _ _

theorem pair_11_8 (b : Nat) (td : Value) (w : World) (hb : b < w.heap.size) (hc0 : w.cell? ⟨b, 0, none⟩ = some (vT 11)) (hc1 : w.cell? ⟨b, 1, none⟩ = some (.int .u64 (vK 11))) (hc4 : w.cell? ⟨b, 4, none⟩ = some (.bool (vNil 11))) : Calls Tryz.prog 24 #[.pointer (some ⟨b, 0, none⟩), .agg #[vT 8, .int .u64 (vK 8), td, .pointer none, .bool (vNil 8), .bool false, .bool false, .bool (vInt 8), .bool false]] w fun e w' => e = .returned (.bool false) ∧ Below w.heap.size w w' :=
  untyped b td _ _ w hb hc0 hc1 hc4 _ _

theorem pair_11_9 (b : Nat) (td : Value) (w : World) (hb : b < w.heap.size) (hc0 : w.cell? ⟨b, 0, none⟩ = some (vT 11)) (hc1 : w.cell? ⟨b, 1, none⟩ = some (.int .u64 (vK 11))) (hc4 : w.cell? ⟨b, 4, none⟩ = some (.bool (vNil 11))) : Calls Tryz.prog 24 #[.pointer (some ⟨b, 0, none⟩), .agg #[vT 9, .int .u64 (vK 9), td, .pointer none, .bool (vNil 9), .bool false, .bool false, .bool (vInt 9), .bool false]] w fun e w' => e = .returned (.bool false) ∧ Below w.heap.size w w' :=
  untyped b td _ _ w hb hc0 hc1 hc4 _ _

theorem pair_11_10 (b : Nat) (td : Value) (w : World) (hb : b < w.heap.size) (hc0 : w.cell? ⟨b, 0, none⟩ = some (vT 11)) (hc1 : w.cell? ⟨b, 1, none⟩ = some (.int .u64 (vK 11))) (hc4 : w.cell? ⟨b, 4, none⟩ = some (.bool (vNil 11))) : Calls Tryz.prog 24 #[.pointer (some ⟨b, 0, none⟩), .agg #[vT 10, .int .u64 (vK 10), td, .pointer none, .bool (vNil 10), .bool false, .bool false, .bool (vInt 10), .bool false]] w fun e w' => e = .returned (.bool false) ∧ Below w.heap.size w w' :=
  untyped b td _ _ w hb hc0 hc1 hc4 _ _

theorem pair_11_11 (b : Nat) (td : Value) (w : World) (hb : b < w.heap.size) (hc0 : w.cell? ⟨b, 0, none⟩ = some (vT 11)) (hc1 : w.cell? ⟨b, 1, none⟩ = some (.int .u64 (vK 11))) (hc4 : w.cell? ⟨b, 4, none⟩ = some (.bool (vNil 11))) : Calls Tryz.prog 24 #[.pointer (some ⟨b, 0, none⟩), .agg #[vT 11, .int .u64 (vK 11), td, .pointer none, .bool (vNil 11), .bool false, .bool false, .bool (vInt 11), .bool false]] w fun e w' => e = .returned (.bool false) ∧ Below w.heap.size w w' :=
  untyped b td _ _ w hb hc0 hc1 hc4 _ _

theorem pair_any (i j : Int) (i0 : 0 ≤ i) (i1 : i < 12) (j0 : 0 ≤ j) (j1 : j < 12) (b : Nat) (td : Value) (w : World) (hb : b < w.heap.size) (hc0 : w.cell? ⟨b, 0, none⟩ = some (vT i)) (hc1 : w.cell? ⟨b, 1, none⟩ = some (.int .u64 (vK i))) (hc4 : w.cell? ⟨b, 4, none⟩ = some (.bool (vNil i))) : Calls Tryz.prog 24 #[.pointer (some ⟨b, 0, none⟩), .agg #[vT j, .int .u64 (vK j), td, .pointer none, .bool (vNil j), .bool false, .bool false, .bool (vInt j), .bool false]] w fun e w' => e = .returned (.bool (ans i j)) ∧ Below w.heap.size w w' := by
  have hi : i = 0 ∨ i = 1 ∨ i = 2 ∨ i = 3 ∨ i = 4 ∨ i = 5 ∨ i = 6 ∨ i = 7 ∨ i = 8 ∨ i = 9 ∨ i = 10 ∨ i = 11 := by omega
  have hj : j = 0 ∨ j = 1 ∨ j = 2 ∨ j = 3 ∨ j = 4 ∨ j = 5 ∨ j = 6 ∨ j = 7 ∨ j = 8 ∨ j = 9 ∨ j = 10 ∨ j = 11 := by omega
  rcases hi with rfl | rfl | rfl | rfl | rfl | rfl | rfl | rfl | rfl | rfl | rfl | rfl
  · rcases hj with rfl | rfl | rfl | rfl | rfl | rfl | rfl | rfl | rfl | rfl | rfl | rfl
    · exact pair_0_0 b td w hb hc0 hc1 hc4
    · exact pair_0_1 b td w hb hc0 hc1 hc4
    · exact pair_0_2 b td w hb hc0 hc1 hc4
    · exact pair_0_3 b td w hb hc0 hc1 hc4
    · exact pair_0_4 b td w hb hc0 hc1 hc4
    · exact pair_0_5 b td w hb hc0 hc1 hc4
    · exact pair_0_6 b td w hb hc0 hc1 hc4
    · exact pair_0_7 b td w hb hc0 hc1 hc4
    · exact pair_0_8 b td w hb hc0 hc1 hc4
    · exact pair_0_9 b td w hb hc0 hc1 hc4
    · exact pair_0_10 b td w hb hc0 hc1 hc4
    · exact pair_0_11 b td w hb hc0 hc1 hc4
  · rcases hj with rfl | rfl | rfl | rfl | rfl | rfl | rfl | rfl | rfl | rfl | rfl | rfl
    · exact pair_1_0 b td w hb hc0 hc1 hc4
    · exact pair_1_1 b td w hb hc0 hc1 hc4
    · exact pair_1_2 b td w hb hc0 hc1 hc4
    · exact pair_1_3 b td w hb hc0 hc1 hc4
    · exact pair_1_4 b td w hb hc0 hc1 hc4
    · exact pair_1_5 b td w hb hc0 hc1 hc4
    · exact pair_1_6 b td w hb hc0 hc1 hc4
    · exact pair_1_7 b td w hb hc0 hc1 hc4
    · exact pair_1_8 b td w hb hc0 hc1 hc4
    · exact pair_1_9 b td w hb hc0 hc1 hc4
    · exact pair_1_10 b td w hb hc0 hc1 hc4
    · exact pair_1_11 b td w hb hc0 hc1 hc4
  · rcases hj with rfl | rfl | rfl | rfl | rfl | rfl | rfl | rfl | rfl | rfl | rfl | rfl
    · exact pair_2_0 b td w hb hc0 hc1 hc4
    · exact pair_2_1 b td w hb hc0 hc1 hc4
    · exact pair_2_2 b td w hb hc0 hc1 hc4
    · exact pair_2_3 b td w hb hc0 hc1 hc4
    · exact pair_2_4 b td w hb hc0 hc1 hc4
    · exact pair_2_5 b td w hb hc0 hc1 hc4
    · exact pair_2_6 b td w hb hc0 hc1 hc4
    · exact pair_2_7 b td w hb hc0 hc1 hc4
    · exact pair_2_8 b td w hb hc0 hc1 hc4
    · exact pair_2_9 b td w hb hc0 hc1 hc4
    · exact pair_2_10 b td w hb hc0 hc1 hc4
    · exact pair_2_11 b td w hb hc0 hc1 hc4
  · rcases hj with rfl | rfl | rfl | rfl | rfl | rfl | rfl | rfl | rfl | rfl | rfl | rfl
    · exact pair_3_0 b td w hb hc0 hc1 hc4
    · exact pair_3_1 b td w hb hc0 hc1 hc4
    · exact pair_3_2 b td w hb hc0 hc1 hc4
    · exact pair_3_3 b td w hb hc0 hc1 hc4
    · exact pair_3_4 b td w hb hc0 hc1 hc4
    · exact pair_3_5 b td w hb hc0 hc1 hc4
    · exact pair_3_6 b td w hb hc0 hc1 hc4
    · exact pair_3_7 b td w hb hc0 hc1 hc4
    · exact pair_3_8 b td w hb hc0 hc1 hc4
    · exact pair_3_9 b td w hb hc0 hc1 hc4
    · exact pair_3_10 b td w hb hc0 hc1 hc4
    · exact pair_3_11 b td w hb hc0 hc1 hc4
  · rcases hj with rfl | rfl | rfl | rfl | rfl | rfl | rfl | rfl | rfl | rfl | rfl | rfl
    · exact pair_4_0 b td w hb hc0 hc1 hc4
    · exact pair_4_1 b td w hb hc0 hc1 hc4
    · exact pair_4_2 b td w hb hc0 hc1 hc4
    · exact pair_4_3 b td w hb hc0 hc1 hc4
    · exact pair_4_4 b td w hb hc0 hc1 hc4
    · exact pair_4_5 b td w hb hc0 hc1 hc4
    · exact pair_4_6 b td w hb hc0 hc1 hc4
    · exact pair_4_7 b td w hb hc0 hc1 hc4
    · exact pair_4_8 b td w hb hc0 hc1 hc4
    · exact pair_4_9 b td w hb hc0 hc1 hc4
    · exact pair_4_10 b td w hb hc0 hc1 hc4
    · exact pair_4_11 b td w hb hc0 hc1 hc4
  · rcases hj with rfl | rfl | rfl | rfl | rfl | rfl | rfl | rfl | rfl | rfl | rfl | rfl
    · exact pair_5_0 b td w hb hc0 hc1 hc4
    · exact pair_5_1 b td w hb hc0 hc1 hc4
    · exact pair_5_2 b td w hb hc0 hc1 hc4
    · exact pair_5_3 b td w hb hc0 hc1 hc4
    · exact pair_5_4 b td w hb hc0 hc1 hc4
    · exact pair_5_5 b td w hb hc0 hc1 hc4
    · exact pair_5_6 b td w hb hc0 hc1 hc4
    · exact pair_5_7 b td w hb hc0 hc1 hc4
    · exact pair_5_8 b td w hb hc0 hc1 hc4
    · exact pair_5_9 b td w hb hc0 hc1 hc4
    · exact pair_5_10 b td w hb hc0 hc1 hc4
    · exact pair_5_11 b td w hb hc0 hc1 hc4
  · rcases hj with rfl | rfl | rfl | rfl | rfl | rfl | rfl | rfl | rfl | rfl | rfl | rfl
    · exact pair_6_0 b td w hb hc0 hc1 hc4
    · exact pair_6_1 b td w hb hc0 hc1 hc4
    · exact pair_6_2 b td w hb hc0 hc1 hc4
    · exact pair_6_3 b td w hb hc0 hc1 hc4
    · exact pair_6_4 b td w hb hc0 hc1 hc4
    · exact pair_6_5 b td w hb hc0 hc1 hc4
    · exact pair_6_6 b td w hb hc0 hc1 hc4
    · exact pair_6_7 b td w hb hc0 hc1 hc4
    · exact pair_6_8 b td w hb hc0 hc1 hc4
    · exact pair_6_9 b td w hb hc0 hc1 hc4
    · exact pair_6_10 b td w hb hc0 hc1 hc4
    · exact pair_6_11 b td w hb hc0 hc1 hc4
  · rcases hj with rfl | rfl | rfl | rfl | rfl | rfl | rfl | rfl | rfl | rfl | rfl | rfl
    · exact pair_7_0 b td w hb hc0 hc1 hc4
    · exact pair_7_1 b td w hb hc0 hc1 hc4
    · exact pair_7_2 b td w hb hc0 hc1 hc4
    · exact pair_7_3 b td w hb hc0 hc1 hc4
    · exact pair_7_4 b td w hb hc0 hc1 hc4
    · exact pair_7_5 b td w hb hc0 hc1 hc4
    · exact pair_7_6 b td w hb hc0 hc1 hc4
    · exact pair_7_7 b td w hb hc0 hc1 hc4
    · exact pair_7_8 b td w hb hc0 hc1 hc4
    · exact pair_7_9 b td w hb hc0 hc1 hc4
    · exact pair_7_10 b td w hb hc0 hc1 hc4
    · exact pair_7_11 b td w hb hc0 hc1 hc4
  · rcases hj with rfl | rfl | rfl | rfl | rfl | rfl | rfl | rfl | rfl | rfl | rfl | rfl
    · exact pair_8_0 b td w hb hc0 hc1 hc4
    · exact pair_8_1 b td w hb hc0 hc1 hc4
    · exact pair_8_2 b td w hb hc0 hc1 hc4
    · exact pair_8_3 b td w hb hc0 hc1 hc4
    · exact pair_8_4 b td w hb hc0 hc1 hc4
    · exact pair_8_5 b td w hb hc0 hc1 hc4
    · exact pair_8_6 b td w hb hc0 hc1 hc4
    · exact pair_8_7 b td w hb hc0 hc1 hc4
    · exact pair_8_8 b td w hb hc0 hc1 hc4
    · exact pair_8_9 b td w hb hc0 hc1 hc4
    · exact pair_8_10 b td w hb hc0 hc1 hc4
    · exact pair_8_11 b td w hb hc0 hc1 hc4
  · rcases hj with rfl | rfl | rfl | rfl | rfl | rfl | rfl | rfl | rfl | rfl | rfl | rfl
    · exact pair_9_0 b td w hb hc0 hc1 hc4
    · exact pair_9_1 b td w hb hc0 hc1 hc4
    · exact pair_9_2 b td w hb hc0 hc1 hc4
    · exact pair_9_3 b td w hb hc0 hc1 hc4
    · exact pair_9_4 b td w hb hc0 hc1 hc4
    · exact pair_9_5 b td w hb hc0 hc1 hc4
    · exact pair_9_6 b td w hb hc0 hc1 hc4
    · exact pair_9_7 b td w hb hc0 hc1 hc4
    · exact pair_9_8 b td w hb hc0 hc1 hc4
    · exact pair_9_9 b td w hb hc0 hc1 hc4
    · exact pair_9_10 b td w hb hc0 hc1 hc4
    · exact pair_9_11 b td w hb hc0 hc1 hc4
  · rcases hj with rfl | rfl | rfl | rfl | rfl | rfl | rfl | rfl | rfl | rfl | rfl | rfl
    · exact pair_10_0 b td w hb hc0 hc1 hc4
    · exact pair_10_1 b td w hb hc0 hc1 hc4
    · exact pair_10_2 b td w hb hc0 hc1 hc4
    · exact pair_10_3 b td w hb hc0 hc1 hc4
    · exact pair_10_4 b td w hb hc0 hc1 hc4
    · exact pair_10_5 b td w hb hc0 hc1 hc4
    · exact pair_10_6 b td w hb hc0 hc1 hc4
    · exact pair_10_7 b td w hb hc0 hc1 hc4
    · exact pair_10_8 b td w hb hc0 hc1 hc4
    · exact pair_10_9 b td w hb hc0 hc1 hc4
    · exact pair_10_10 b td w hb hc0 hc1 hc4
    · exact pair_10_11 b td w hb hc0 hc1 hc4
  · rcases hj with rfl | rfl | rfl | rfl | rfl | rfl | rfl | rfl | rfl | rfl | rfl | rfl
    · exact pair_11_0 b td w hb hc0 hc1 hc4
    · exact pair_11_1 b td w hb hc0 hc1 hc4
    · exact pair_11_2 b td w hb hc0 hc1 hc4
    · exact pair_11_3 b td w hb hc0 hc1 hc4
    · exact pair_11_4 b td w hb hc0 hc1 hc4
    · exact pair_11_5 b td w hb hc0 hc1 hc4
    · exact pair_11_6 b td w hb hc0 hc1 hc4
    · exact pair_11_7 b td w hb hc0 hc1 hc4
    · exact pair_11_8 b td w hb hc0 hc1 hc4
    · exact pair_11_9 b td w hb hc0 hc1 hc4
    · exact pair_11_10 b td w hb hc0 hc1 hc4
    · exact pair_11_11 b td w hb hc0 hc1 hc4

theorem model_10_0 (w : World) : Calls Tryz.prog 25 #[.int .i64 10, .int .i64 0] w fun e w' => e = .returned (.bool false) ∧ w = w' := by
  go_enter Tryz.func25, Tryz.ntmps25
  go_wp2
  go_ret
  exact ⟨rfl, rfl⟩

theorem model_10_1 (w : World) : Calls Tryz.prog 25 #[.int .i64 10, .int .i64 1] w fun e w' => e = .returned (.bool false) ∧ w = w' := by
  go_enter Tryz.func25, Tryz.ntmps25
  go_wp2
  go_ret
  exact ⟨rfl, rfl⟩

theorem model_10_2 (w : World) : Calls Tryz.prog 25 #[.int .i64 10, .int .i64 2] w fun e w' => e = .returned (.bool false) ∧ w = w' := by
  go_enter Tryz.func25, Tryz.ntmps25
  go_wp2
  go_ret
  exact ⟨rfl, rfl⟩

theorem model_10_3 (w : World) : Calls Tryz.prog 25 #[.int .i64 10, .int .i64 3] w fun e w' => e = .returned (.bool true) ∧ w = w' := by
  go_enter Tryz.func25, Tryz.ntmps25
  go_wp2
  go_ret
  exact ⟨rfl, rfl⟩

theorem model_10_4 (w : World) : Calls Tryz.prog 25 #[.int .i64 10, .int .i64 4] w fun e w' => e = .returned (.bool true) ∧ w = w' := by
  go_enter Tryz.func25, Tryz.ntmps25
  go_wp2
  go_ret
  exact ⟨rfl, rfl⟩

theorem model_10_5 (w : World) : Calls Tryz.prog 25 #[.int .i64 10, .int .i64 5] w fun e w' => e = .returned (.bool true) ∧ w = w' := by
  go_enter Tryz.func25, Tryz.ntmps25
  go_wp2
  go_ret
  exact ⟨rfl, rfl⟩

theorem model_10_6 (w : World) : Calls Tryz.prog 25 #[.int .i64 10, .int .i64 6] w fun e w' => e = .returned (.bool true) ∧ w = w' := by
  go_enter Tryz.func25, Tryz.ntmps25
  go_wp2
  go_ret
  exact ⟨rfl, rfl⟩

theorem model_10_7 (w : World) : Calls Tryz.prog 25 #[.int .i64 10, .int .i64 7] w fun e w' => e = .returned (.bool true) ∧ w = w' := by
  go_enter Tryz.func25, Tryz.ntmps25
  go_wp2
  go_ret
  exact ⟨rfl, rfl⟩

theorem model_10_8 (w : World) : Calls Tryz.prog 25 #[.int .i64 10, .int .i64 8] w fun e w' => e = .returned (.bool true) ∧ w = w' := by
  go_enter Tryz.func25, Tryz.ntmps25
  go_wp2
  go_ret
  exact ⟨rfl, rfl⟩

theorem model_10_9 (w : World) : Calls Tryz.prog 25 #[.int .i64 10, .int .i64 9] w fun e w' => e = .returned (.bool true) ∧ w = w' := by
  go_enter Tryz.func25, Tryz.ntmps25
  go_wp2
  go_ret
  exact ⟨rfl, rfl⟩

theorem model_10_10 (w : World) : Calls Tryz.prog 25 #[.int .i64 10, .int .i64 10] w fun e w' => e = .returned (.bool false) ∧ w = w' := by
  go_enter Tryz.func25, Tryz.ntmps25
  go_wp2
  go_ret
  exact ⟨rfl, rfl⟩

theorem model_10_11 (w : World) : Calls Tryz.prog 25 #[.int .i64 10, .int .i64 11] w fun e w' => e = .returned (.bool false) ∧ w = w' := by
  go_enter Tryz.func25, Tryz.ntmps25
  go_wp2
  go_ret
  exact ⟨rfl, rfl⟩

theorem model_11 (j : Int)  (w : World) : Calls Tryz.prog 25 #[.int .i64 11, .int .i64 j] w fun e w' => e = .returned (.bool false) ∧ w = w' := by
  go_enter Tryz.func25, Tryz.ntmps25
  go_wp2
  go_ret
  exact ⟨rfl, rfl⟩

theorem model_x10 (i : Int) (h : (i == 10) = false) (h2 : (i == 11) = false) (w : World) : Calls Tryz.prog 25 #[.int .i64 i, .int .i64 10] w fun e w' => e = .returned (.bool false) ∧ w = w' := by
  go_enter Tryz.func25, Tryz.ntmps25
  go_wp2
  go_ret
  exact ⟨rfl, rfl⟩

theorem model_x11 (i : Int) (h : (i == 10) = false) (h2 : (i == 11) = false) (w : World) : Calls Tryz.prog 25 #[.int .i64 i, .int .i64 11] w fun e w' => e = .returned (.bool false) ∧ w = w' := by
  go_enter Tryz.func25, Tryz.ntmps25
  go_wp2
  go_ret
  exact ⟨rfl, rfl⟩

theorem model_eq (i : Int) (h : (i == 10) = false) (h2 : (i == 11) = false) (w : World) : Calls Tryz.prog 25 #[.int .i64 i, .int .i64 i] w fun e w' => e = .returned (.bool true) ∧ w = w' := by
  go_enter Tryz.func25, Tryz.ntmps25
  go_wp2
  go_ret
  exact ⟨rfl, rfl⟩

theorem model_7 (i : Int) (h : (i == 10) = false) (h2 : (i == 11) = false) (h3 : (i == 7) = false) (w : World) : Calls Tryz.prog 25 #[.int .i64 i, .int .i64 7] w fun e w' => e = .returned (.bool true) ∧ w = w' := by
  go_enter Tryz.func25, Tryz.ntmps25
  go_wp2
  go_ret
  exact ⟨rfl, rfl⟩

theorem model_no (i j : Int) (h : (i == 10) = false) (h2 : (i == 11) = false) (j1 : (j == 10) = false) (j2 : (j == 11) = false) (h3 : (i == j) = false) (h4 : (j == 7) = false) (w : World) : Calls Tryz.prog 25 #[.int .i64 i, .int .i64 j] w fun e w' => e = .returned (.bool false) ∧ w = w' := by
  go_enter Tryz.func25, Tryz.ntmps25
  go_wp2
  go_ret
  exact ⟨rfl, rfl⟩

theorem model_any (i j : Int) (i0 : 0 ≤ i) (i1 : i < 12) (j0 : 0 ≤ j) (j1 : j < 12) (w : World) : Calls Tryz.prog 25 #[.int .i64 i, .int .i64 j] w fun e w' => e = .returned (.bool (ans i j)) ∧ w = w' := by
  have nb : ∀ x y : Int, x ≠ y → (x == y) = false := fun x y h => beq_eq_false_iff_ne.mpr h
  by_cases h10 : i = 10
  · subst h10
    have hj : j = 0 ∨ j = 1 ∨ j = 2 ∨ j = 3 ∨ j = 4 ∨ j = 5 ∨ j = 6 ∨ j = 7 ∨ j = 8 ∨ j = 9 ∨ j = 10 ∨ j = 11 := by omega
    rcases hj with rfl | rfl | rfl | rfl | rfl | rfl | rfl | rfl | rfl | rfl | rfl | rfl
    · exact model_10_0 w
    · exact model_10_1 w
    · exact model_10_2 w
    · exact model_10_3 w
    · exact model_10_4 w
    · exact model_10_5 w
    · exact model_10_6 w
    · exact model_10_7 w
    · exact model_10_8 w
    · exact model_10_9 w
    · exact model_10_10 w
    · exact model_10_11 w
  by_cases h11 : i = 11
  · subst h11
    have e : ans 11 j = false := by simp [ans]
    rw [e]
    exact model_11 j w
  by_cases k10 : j = 10
  · subst k10
    have e : ans i 10 = false := by simp [ans, h10]
    rw [e]
    exact model_x10 i (nb _ _ h10) (nb _ _ h11) w
  by_cases k11 : j = 11
  · subst k11
    have e : ans i 11 = false := by simp [ans, h10]
    rw [e]
    exact model_x11 i (nb _ _ h10) (nb _ _ h11) w
  by_cases hij : i = j
  · subst hij
    have e : ans i i = true := by simp [ans, h10, h11]
    rw [e]
    exact model_eq i (nb _ _ h10) (nb _ _ h11) w
  by_cases k7 : j = 7
  · subst k7
    have e : ans i 7 = true := by simp [ans, h10, h11]
    rw [e]
    exact model_7 i (nb _ _ h10) (nb _ _ h11) (nb _ _ hij) w
  · have e : ans i j = false := by simp [ans, h10, h11, k10, k11, hij, k7]
    rw [e]
    exact model_no i j (nb _ _ h10) (nb _ _ h11) (nb _ _ k10) (nb _ _ k11) (nb _ _ hij) (nb _ _ k7) w
theorem pair_tt (i j : Int) (i0 : 0 ≤ i) (i1 : i < 10) (j0 : 0 ≤ j) (j1 : j < 10) (b : Nat) (tp : Option Addr) (w : World) (hb : b < w.heap.size) (hc0 : w.cell? ⟨b, 0, none⟩ = some (.iface 133 (.pointer (some ⟨0, tt i, none⟩)))) (hc1 : w.cell? ⟨b, 1, none⟩ = some (.int .u64 (vK i))) (hc4 : w.cell? ⟨b, 4, none⟩ = some (.bool false)) : Calls Tryz.prog 24 #[.pointer (some ⟨b, 0, none⟩), .agg #[.iface 133 (.pointer (some ⟨0, tt j, none⟩)), .int .u64 (vK j), .pointer tp, .pointer none, .bool false, .bool false, .bool false, .bool (vInt j), .bool false]] w fun e w' => e = .returned (.bool (ans i j)) ∧ Below w.heap.size w w' := by
  have P := pair_any i j i0 (by omega) j0 (by omega) b (.pointer tp) w hb
  rw [(vT_typed j j0 j1).1, (vT_typed j j0 j1).2] at P
  rw [(vT_typed i i0 i1).1, (vT_typed i i0 i1).2] at P
  exact P hc0 hc1 hc4
theorem inside_tt (i j : Int) (i0 : 0 ≤ i) (i1 : i < 10) (j0 : 0 ≤ j) (j1 : j < 10) (w : World) : Calls Tryz.prog 6 #[.int .i64 i, .int .i64 j] w fun e w' => e = .returned (.bool true) ∧ Below w.heap.size w w' := by
  have q1 : 0 ≤ i := by omega
  have q2 : i < 12 := by omega
  have q3 : 0 ≤ j := by omega
  have q4 : j < 12 := by omega
  go_enter Tryz.func6, Tryz.ntmps6
  go_wp2_with fail
  refine (sample_typed i i0 i1 _).mono ?_
  rintro e w1 ⟨td1, rfl, hb1, hz1⟩
  go_wp2_with fail
  refine (sample_typed j j0 j1 _).mono ?_
  rintro e w2 ⟨td2, rfl, hb2, hz2⟩
  have g0 : w2.cell? ⟨w1.heap.size, 0, none⟩ = some (.iface 133 (.pointer (some ⟨0, tt i, none⟩))) := by rw [hb2.cell (p := ⟨w1.heap.size, 0, none⟩) (by simp)]; simp
  have g1 : w2.cell? ⟨w1.heap.size, 1, none⟩ = some (.int .u64 (vK i)) := by rw [hb2.cell (p := ⟨w1.heap.size, 1, none⟩) (by simp)]; simp
  have g4 : w2.cell? ⟨w1.heap.size, 4, none⟩ = some (.bool false) := by rw [hb2.cell (p := ⟨w1.heap.size, 4, none⟩) (by simp)]; simp
  have hlt : w1.heap.size < w2.heap.size := by simp at hz2; omega
  go_wp2_with fail
  refine (pair_tt i j i0 i1 j0 j1 _ _ _ (by simp; omega) ?_ ?_ ?_).mono ?_
  · rw [World.cell?_alloc_past _ _ _ hlt]; exact g0
  · rw [World.cell?_alloc_past _ _ _ hlt]; exact g1
  · rw [World.cell?_alloc_past _ _ _ hlt]; exact g4
  rintro e w3 ⟨rfl, hb3⟩
  go_wp2_with fail
  refine (model_any i j q1 q2 q3 q4 _).mono ?_
  rintro e w4 ⟨rfl, rfl⟩
  go_wp2
  go_ret
  refine ⟨by simp, ?_⟩
  have a1 := bal hb1 (.cells #[.iface 133 (.pointer (some ⟨0, tt i, none⟩)), .int .u64 (vK i), .pointer td1, .pointer none, .bool false, .bool false, .bool false, .bool (vInt i), .bool false] 42)
  have a2 := a1.trans (hb2.mono (by have := hb1.size; simp; omega))
  exact (bal a2 _).trans (hb3.mono (by have := a2.size; simp; omega))
theorem pair_tu (i j : Int) (i0 : 0 ≤ i) (i1 : i < 10) (ju : j = 10 ∨ j = 11) (b : Nat) (w : World) (hb : b < w.heap.size) (hc0 : w.cell? ⟨b, 0, none⟩ = some (.iface 133 (.pointer (some ⟨0, tt i, none⟩)))) (hc1 : w.cell? ⟨b, 1, none⟩ = some (.int .u64 (vK i))) (hc4 : w.cell? ⟨b, 4, none⟩ = some (.bool false)) : Calls Tryz.prog 24 #[.pointer (some ⟨b, 0, none⟩), .agg #[.nilIface, .int .u64 0, .pointer none, .pointer none, .bool (vNil j), .bool false, .bool false, .bool false, .bool false]] w fun e w' => e = .returned (.bool (ans i j)) ∧ Below w.heap.size w w' := by
  rcases ju with rfl | rfl
  · have P := pair_any i 10 i0 (by omega) (by omega) (by omega) b (.pointer none) w hb
    rw [(vT_typed i i0 i1).1, (vT_typed i i0 i1).2] at P
    exact P hc0 hc1 hc4
  · have P := pair_any i 11 i0 (by omega) (by omega) (by omega) b (.pointer none) w hb
    rw [(vT_typed i i0 i1).1, (vT_typed i i0 i1).2] at P
    exact P hc0 hc1 hc4
theorem inside_tu (i j : Int) (i0 : 0 ≤ i) (i1 : i < 10) (ju : j = 10 ∨ j = 11) (w : World) : Calls Tryz.prog 6 #[.int .i64 i, .int .i64 j] w fun e w' => e = .returned (.bool true) ∧ Below w.heap.size w w' := by
  have q1 : 0 ≤ i := by omega
  have q2 : i < 12 := by omega
  have q3 : 0 ≤ j := by omega
  have q4 : j < 12 := by omega
  go_enter Tryz.func6, Tryz.ntmps6
  go_wp2_with fail
  refine (sample_typed i i0 i1 _).mono ?_
  rintro e w1 ⟨td1, rfl, hb1, hz1⟩
  go_wp2_with fail
  refine (sample_un j ju _).mono ?_
  rintro e w2 ⟨rfl, hb2, hz2⟩
  have g0 : w2.cell? ⟨w1.heap.size, 0, none⟩ = some (.iface 133 (.pointer (some ⟨0, tt i, none⟩))) := by rw [hb2.cell (p := ⟨w1.heap.size, 0, none⟩) (by simp)]; simp
  have g1 : w2.cell? ⟨w1.heap.size, 1, none⟩ = some (.int .u64 (vK i)) := by rw [hb2.cell (p := ⟨w1.heap.size, 1, none⟩) (by simp)]; simp
  have g4 : w2.cell? ⟨w1.heap.size, 4, none⟩ = some (.bool false) := by rw [hb2.cell (p := ⟨w1.heap.size, 4, none⟩) (by simp)]; simp
  have hlt : w1.heap.size < w2.heap.size := by simp at hz2; omega
  go_wp2_with fail
  refine (pair_tu i j i0 i1 ju _ _ (by simp; omega) ?_ ?_ ?_).mono ?_
  · rw [World.cell?_alloc_past _ _ _ hlt]; exact g0
  · rw [World.cell?_alloc_past _ _ _ hlt]; exact g1
  · rw [World.cell?_alloc_past _ _ _ hlt]; exact g4
  rintro e w3 ⟨rfl, hb3⟩
  go_wp2_with fail
  refine (model_any i j q1 q2 q3 q4 _).mono ?_
  rintro e w4 ⟨rfl, rfl⟩
  go_wp2
  go_ret
  refine ⟨by simp, ?_⟩
  have a1 := bal hb1 (.cells #[.iface 133 (.pointer (some ⟨0, tt i, none⟩)), .int .u64 (vK i), .pointer td1, .pointer none, .bool false, .bool false, .bool false, .bool (vInt i), .bool false] 42)
  have a2 := a1.trans (hb2.mono (by have := hb1.size; simp; omega))
  exact (bal a2 _).trans (hb3.mono (by have := a2.size; simp; omega))
theorem pair_ut (i j : Int) (iu : i = 10 ∨ i = 11) (j0 : 0 ≤ j) (j1 : j < 10) (b : Nat) (tp : Option Addr) (w : World) (hb : b < w.heap.size) (hc0 : w.cell? ⟨b, 0, none⟩ = some (.nilIface)) (hc1 : w.cell? ⟨b, 1, none⟩ = some (.int .u64 0)) (hc4 : w.cell? ⟨b, 4, none⟩ = some (.bool (vNil i))) : Calls Tryz.prog 24 #[.pointer (some ⟨b, 0, none⟩), .agg #[.iface 133 (.pointer (some ⟨0, tt j, none⟩)), .int .u64 (vK j), .pointer tp, .pointer none, .bool false, .bool false, .bool false, .bool (vInt j), .bool false]] w fun e w' => e = .returned (.bool (ans i j)) ∧ Below w.heap.size w w' := by
  rcases iu with rfl | rfl
  · have P := pair_any 10 j (by omega) (by omega) j0 (by omega) b (.pointer tp) w hb
    rw [(vT_typed j j0 j1).1, (vT_typed j j0 j1).2] at P
    exact P hc0 hc1 hc4
  · have P := pair_any 11 j (by omega) (by omega) j0 (by omega) b (.pointer tp) w hb
    rw [(vT_typed j j0 j1).1, (vT_typed j j0 j1).2] at P
    exact P hc0 hc1 hc4
theorem inside_ut (i j : Int) (iu : i = 10 ∨ i = 11) (j0 : 0 ≤ j) (j1 : j < 10) (w : World) : Calls Tryz.prog 6 #[.int .i64 i, .int .i64 j] w fun e w' => e = .returned (.bool true) ∧ Below w.heap.size w w' := by
  have q1 : 0 ≤ i := by omega
  have q2 : i < 12 := by omega
  have q3 : 0 ≤ j := by omega
  have q4 : j < 12 := by omega
  go_enter Tryz.func6, Tryz.ntmps6
  go_wp2_with fail
  refine (sample_un i iu _).mono ?_
  rintro e w1 ⟨rfl, hb1, hz1⟩
  go_wp2_with fail
  refine (sample_typed j j0 j1 _).mono ?_
  rintro e w2 ⟨td2, rfl, hb2, hz2⟩
  have g0 : w2.cell? ⟨w1.heap.size, 0, none⟩ = some (.nilIface) := by rw [hb2.cell (p := ⟨w1.heap.size, 0, none⟩) (by simp)]; simp
  have g1 : w2.cell? ⟨w1.heap.size, 1, none⟩ = some (.int .u64 0) := by rw [hb2.cell (p := ⟨w1.heap.size, 1, none⟩) (by simp)]; simp
  have g4 : w2.cell? ⟨w1.heap.size, 4, none⟩ = some (.bool (vNil i)) := by rw [hb2.cell (p := ⟨w1.heap.size, 4, none⟩) (by simp)]; simp
  have hlt : w1.heap.size < w2.heap.size := by simp at hz2; omega
  go_wp2_with fail
  refine (pair_ut i j iu j0 j1 _ _ _ (by simp; omega) ?_ ?_ ?_).mono ?_
  · rw [World.cell?_alloc_past _ _ _ hlt]; exact g0
  · rw [World.cell?_alloc_past _ _ _ hlt]; exact g1
  · rw [World.cell?_alloc_past _ _ _ hlt]; exact g4
  rintro e w3 ⟨rfl, hb3⟩
  go_wp2_with fail
  refine (model_any i j q1 q2 q3 q4 _).mono ?_
  rintro e w4 ⟨rfl, rfl⟩
  go_wp2
  go_ret
  refine ⟨by simp, ?_⟩
  have a1 := bal hb1 (.cells #[.nilIface, .int .u64 0, .pointer none, .pointer none, .bool (vNil i), .bool false, .bool false, .bool false, .bool false] 42)
  have a2 := a1.trans (hb2.mono (by have := hb1.size; simp; omega))
  exact (bal a2 _).trans (hb3.mono (by have := a2.size; simp; omega))
theorem pair_uu (i j : Int) (iu : i = 10 ∨ i = 11) (ju : j = 10 ∨ j = 11) (b : Nat) (w : World) (hb : b < w.heap.size) (hc0 : w.cell? ⟨b, 0, none⟩ = some (.nilIface)) (hc1 : w.cell? ⟨b, 1, none⟩ = some (.int .u64 0)) (hc4 : w.cell? ⟨b, 4, none⟩ = some (.bool (vNil i))) : Calls Tryz.prog 24 #[.pointer (some ⟨b, 0, none⟩), .agg #[.nilIface, .int .u64 0, .pointer none, .pointer none, .bool (vNil j), .bool false, .bool false, .bool false, .bool false]] w fun e w' => e = .returned (.bool (ans i j)) ∧ Below w.heap.size w w' := by
  rcases iu with rfl | rfl
  · rcases ju with rfl | rfl
    · exact pair_any 10 10 (by omega) (by omega) (by omega) (by omega) b (.pointer none) w hb hc0 hc1 hc4
    · exact pair_any 10 11 (by omega) (by omega) (by omega) (by omega) b (.pointer none) w hb hc0 hc1 hc4
  · rcases ju with rfl | rfl
    · exact pair_any 11 10 (by omega) (by omega) (by omega) (by omega) b (.pointer none) w hb hc0 hc1 hc4
    · exact pair_any 11 11 (by omega) (by omega) (by omega) (by omega) b (.pointer none) w hb hc0 hc1 hc4
theorem inside_uu (i j : Int) (iu : i = 10 ∨ i = 11) (ju : j = 10 ∨ j = 11) (w : World) : Calls Tryz.prog 6 #[.int .i64 i, .int .i64 j] w fun e w' => e = .returned (.bool true) ∧ Below w.heap.size w w' := by
  have q1 : 0 ≤ i := by omega
  have q2 : i < 12 := by omega
  have q3 : 0 ≤ j := by omega
  have q4 : j < 12 := by omega
  go_enter Tryz.func6, Tryz.ntmps6
  go_wp2_with fail
  refine (sample_un i iu _).mono ?_
  rintro e w1 ⟨rfl, hb1, hz1⟩
  go_wp2_with fail
  refine (sample_un j ju _).mono ?_
  rintro e w2 ⟨rfl, hb2, hz2⟩
  have g0 : w2.cell? ⟨w1.heap.size, 0, none⟩ = some (.nilIface) := by rw [hb2.cell (p := ⟨w1.heap.size, 0, none⟩) (by simp)]; simp
  have g1 : w2.cell? ⟨w1.heap.size, 1, none⟩ = some (.int .u64 0) := by rw [hb2.cell (p := ⟨w1.heap.size, 1, none⟩) (by simp)]; simp
  have g4 : w2.cell? ⟨w1.heap.size, 4, none⟩ = some (.bool (vNil i)) := by rw [hb2.cell (p := ⟨w1.heap.size, 4, none⟩) (by simp)]; simp
  have hlt : w1.heap.size < w2.heap.size := by simp at hz2; omega
  go_wp2_with fail
  refine (pair_uu i j iu ju _ _ (by simp; omega) ?_ ?_ ?_).mono ?_
  · rw [World.cell?_alloc_past _ _ _ hlt]; exact g0
  · rw [World.cell?_alloc_past _ _ _ hlt]; exact g1
  · rw [World.cell?_alloc_past _ _ _ hlt]; exact g4
  rintro e w3 ⟨rfl, hb3⟩
  go_wp2_with fail
  refine (model_any i j q1 q2 q3 q4 _).mono ?_
  rintro e w4 ⟨rfl, rfl⟩
  go_wp2
  go_ret
  refine ⟨by simp, ?_⟩
  have a1 := bal hb1 (.cells #[.nilIface, .int .u64 0, .pointer none, .pointer none, .bool (vNil i), .bool false, .bool false, .bool false, .bool false] 42)
  have a2 := a1.trans (hb2.mono (by have := hb1.size; simp; omega))
  exact (bal a2 _).trans (hb3.mono (by have := a2.size; simp; omega))
theorem out1 (i j : Int) (h : i < 0) (w : World) : Calls Tryz.prog 6 #[.int .i64 i, .int .i64 j] w fun e w' => e = .returned (.bool true) ∧ Below w.heap.size w w' := by
  go_enter Tryz.func6, Tryz.ntmps6
  go_wp2
  go_ret
  exact ⟨rfl, Below.refl _ _⟩
theorem out2 (i j : Int) (h1 : 0 ≤ i) (h : 12 ≤ i) (w : World) : Calls Tryz.prog 6 #[.int .i64 i, .int .i64 j] w fun e w' => e = .returned (.bool true) ∧ Below w.heap.size w w' := by
  go_enter Tryz.func6, Tryz.ntmps6
  go_wp2
  go_ret
  exact ⟨rfl, Below.refl _ _⟩
theorem out3 (i j : Int) (h1 : 0 ≤ i) (h2 : i < 12) (h : j < 0) (w : World) : Calls Tryz.prog 6 #[.int .i64 i, .int .i64 j] w fun e w' => e = .returned (.bool true) ∧ Below w.heap.size w w' := by
  go_enter Tryz.func6, Tryz.ntmps6
  go_wp2
  go_ret
  exact ⟨rfl, Below.refl _ _⟩
theorem out4 (i j : Int) (h1 : 0 ≤ i) (h2 : i < 12) (h3 : 0 ≤ j) (h : 12 ≤ j) (w : World) : Calls Tryz.prog 6 #[.int .i64 i, .int .i64 j] w fun e w' => e = .returned (.bool true) ∧ Below w.heap.size w w' := by
  go_enter Tryz.func6, Tryz.ntmps6
  go_wp2
  go_ret
  exact ⟨rfl, Below.refl _ _⟩
theorem walk (i j : Int) (w : World) (w0 : (Lit.int .i64 i).wf = true) (w1 : (Lit.int .i64 j).wf = true) : Calls Tryz.prog 6 #[.int .i64 i, .int .i64 j] w fun e w' => e = .returned (.bool true) ∧ Below w.heap.size w w' := by
  by_cases c1 : i < 0
  · exact out1 i j c1 w
  by_cases c2 : 12 ≤ i
  · exact out2 i j (by omega) c2 w
  by_cases c3 : j < 0
  · exact out3 i j (by omega) (by omega) c3 w
  by_cases c4 : 12 ≤ j
  · exact out4 i j (by omega) (by omega) (by omega) c4 w
  by_cases d1 : i < 10
  · by_cases d2 : j < 10
    · exact inside_tt i j (by omega) d1 (by omega) d2 w
    · exact inside_tu i j (by omega) d1 (by omega) w
  · by_cases d2 : j < 10
    · exact inside_ut i j (by omega) (by omega) d2 w
    · exact inside_uu i j (by omega) (by omega) w
end Go.Proofs.YtihjnbfmcemmjaaGreat.fnAssignableToSampleTable
