/-
  The walk of FnPrivateOutMatchesSignatureTable: The unexported out over the sample signatures returns a nature of the type name, kind and number flags of the table.
-/
import Derived.Test.YtjdnoaojjmejmaaGreatBase
import Derived.RegionTactic
import Derived.ChangeAlike
import Derived.Deep.QuietTactic
import Derived.BigQuiet
import Derived.WalkSmall
namespace Go.Proofs.YtjdnoaojjmejmaaGreat.fnPrivateOutMatchesSignatureTable
open Go.RowKit
set_option maxRecDepth 100000
set_option maxHeartbeats 1000000
set_option linter.unusedVariables false
theorem bal {w v : World} (h : Below w.heap.size w v) (o : Obj) : Below w.heap.size w (v.alloc o) := h.alloc h.size o
@[go_sem] theorem kind_113 (w : World) : (callFunc 246 #[.pointer (some ⟨0, 113, none⟩)]).run Tryz.prog w = .ok (.value (.int .u64 19)) w := by kernel_rfl

@[go_sem] theorem kind_114 (w : World) : (callFunc 246 #[.pointer (some ⟨0, 114, none⟩)]).run Tryz.prog w = .ok (.value (.int .u64 19)) w := by kernel_rfl

@[go_sem] theorem kind_115 (w : World) : (callFunc 246 #[.pointer (some ⟨0, 115, none⟩)]).run Tryz.prog w = .ok (.value (.int .u64 19)) w := by kernel_rfl

@[go_sem] theorem kind_116 (w : World) : (callFunc 246 #[.pointer (some ⟨0, 116, none⟩)]).run Tryz.prog w = .ok (.value (.int .u64 19)) w := by kernel_rfl

@[go_sem] theorem kind_117 (w : World) : (callFunc 246 #[.pointer (some ⟨0, 117, none⟩)]).run Tryz.prog w = .ok (.value (.int .u64 19)) w := by kernel_rfl

@[go_sem] theorem kind_118 (w : World) : (callFunc 246 #[.pointer (some ⟨0, 118, none⟩)]).run Tryz.prog w = .ok (.value (.int .u64 19)) w := by kernel_rfl

theorem from_113 (c : Option Addr) (w : World)  : Calls Tryz.prog 137 #[.pointer c, .iface 122 (.pointer (some ⟨0, 113, none⟩))] w fun e w' => e = .returned (Value.agg #[Value.iface 122 (Value.pointer (some { block := 0, off := 113 })), Value.int IntKind.u64 19, Value.pointer (some { block := w.heap.size + 1, off := 0 }), Value.pointer none, Value.bool false, Value.bool false, Value.bool false, Value.bool false, Value.bool false]) ∧ ((w.alloc (Obj.cells #[Value.iface 122 (Value.pointer (some { block := 0, off := 113 })), Value.int IntKind.u64 19, Value.pointer (some { block := w.heap.size + 1, off := 0 }), Value.pointer none, Value.bool false, Value.bool false, Value.bool false, Value.bool false, Value.bool false] 43)).alloc (Obj.cells #[Value.pointer none, Value.pointer none, Value.map none, Value.pointer none, Value.pointer none, Value.int IntKind.i64 0, Value.pointer none, Value.pointer none, Value.int IntKind.i64 0, Value.int IntKind.i64 0, Value.bool false, Value.bool false, Value.bool false, Value.bool false] 83)) = w' := by
  go_enter Tryz.func137, Tryz.ntmps137
  go_wp2
  exact bodyPost_ret (v := (Value.agg #[Value.iface 122 (Value.pointer (some { block := 0, off := 113 })), Value.int IntKind.u64 19, Value.pointer (some { block := w.heap.size + 1, off := 0 }), Value.pointer none, Value.bool false, Value.bool false, Value.bool false, Value.bool false, Value.bool false])) (by simp [results, Tryz.results137, go_sem]) rfl ⟨rfl, rfl⟩

theorem from_114 (c : Option Addr) (w : World)  : Calls Tryz.prog 137 #[.pointer c, .iface 122 (.pointer (some ⟨0, 114, none⟩))] w fun e w' => e = .returned (Value.agg #[Value.iface 122 (Value.pointer (some { block := 0, off := 114 })), Value.int IntKind.u64 19, Value.pointer (some { block := w.heap.size + 1, off := 0 }), Value.pointer none, Value.bool false, Value.bool false, Value.bool false, Value.bool false, Value.bool false]) ∧ ((w.alloc (Obj.cells #[Value.iface 122 (Value.pointer (some { block := 0, off := 114 })), Value.int IntKind.u64 19, Value.pointer (some { block := w.heap.size + 1, off := 0 }), Value.pointer none, Value.bool false, Value.bool false, Value.bool false, Value.bool false, Value.bool false] 43)).alloc (Obj.cells #[Value.pointer none, Value.pointer none, Value.map none, Value.pointer none, Value.pointer none, Value.int IntKind.i64 0, Value.pointer none, Value.pointer none, Value.int IntKind.i64 0, Value.int IntKind.i64 0, Value.bool false, Value.bool false, Value.bool false, Value.bool false] 83)) = w' := by
  go_enter Tryz.func137, Tryz.ntmps137
  go_wp2
  exact bodyPost_ret (v := (Value.agg #[Value.iface 122 (Value.pointer (some { block := 0, off := 114 })), Value.int IntKind.u64 19, Value.pointer (some { block := w.heap.size + 1, off := 0 }), Value.pointer none, Value.bool false, Value.bool false, Value.bool false, Value.bool false, Value.bool false])) (by simp [results, Tryz.results137, go_sem]) rfl ⟨rfl, rfl⟩

theorem from_115 (c : Option Addr) (w : World)  : Calls Tryz.prog 137 #[.pointer c, .iface 122 (.pointer (some ⟨0, 115, none⟩))] w fun e w' => e = .returned (Value.agg #[Value.iface 122 (Value.pointer (some { block := 0, off := 115 })), Value.int IntKind.u64 19, Value.pointer (some { block := w.heap.size + 1, off := 0 }), Value.pointer none, Value.bool false, Value.bool false, Value.bool false, Value.bool false, Value.bool false]) ∧ ((w.alloc (Obj.cells #[Value.iface 122 (Value.pointer (some { block := 0, off := 115 })), Value.int IntKind.u64 19, Value.pointer (some { block := w.heap.size + 1, off := 0 }), Value.pointer none, Value.bool false, Value.bool false, Value.bool false, Value.bool false, Value.bool false] 43)).alloc (Obj.cells #[Value.pointer none, Value.pointer none, Value.map none, Value.pointer none, Value.pointer none, Value.int IntKind.i64 0, Value.pointer none, Value.pointer none, Value.int IntKind.i64 0, Value.int IntKind.i64 0, Value.bool false, Value.bool false, Value.bool false, Value.bool false] 83)) = w' := by
  go_enter Tryz.func137, Tryz.ntmps137
  go_wp2
  exact bodyPost_ret (v := (Value.agg #[Value.iface 122 (Value.pointer (some { block := 0, off := 115 })), Value.int IntKind.u64 19, Value.pointer (some { block := w.heap.size + 1, off := 0 }), Value.pointer none, Value.bool false, Value.bool false, Value.bool false, Value.bool false, Value.bool false])) (by simp [results, Tryz.results137, go_sem]) rfl ⟨rfl, rfl⟩

theorem from_116 (c : Option Addr) (w : World)  : Calls Tryz.prog 137 #[.pointer c, .iface 122 (.pointer (some ⟨0, 116, none⟩))] w fun e w' => e = .returned (Value.agg #[Value.iface 122 (Value.pointer (some { block := 0, off := 116 })), Value.int IntKind.u64 19, Value.pointer (some { block := w.heap.size + 1, off := 0 }), Value.pointer none, Value.bool false, Value.bool false, Value.bool false, Value.bool false, Value.bool false]) ∧ ((w.alloc (Obj.cells #[Value.iface 122 (Value.pointer (some { block := 0, off := 116 })), Value.int IntKind.u64 19, Value.pointer (some { block := w.heap.size + 1, off := 0 }), Value.pointer none, Value.bool false, Value.bool false, Value.bool false, Value.bool false, Value.bool false] 43)).alloc (Obj.cells #[Value.pointer none, Value.pointer none, Value.map none, Value.pointer none, Value.pointer none, Value.int IntKind.i64 0, Value.pointer none, Value.pointer none, Value.int IntKind.i64 0, Value.int IntKind.i64 0, Value.bool false, Value.bool false, Value.bool false, Value.bool false] 83)) = w' := by
  go_enter Tryz.func137, Tryz.ntmps137
  go_wp2
  exact bodyPost_ret (v := (Value.agg #[Value.iface 122 (Value.pointer (some { block := 0, off := 116 })), Value.int IntKind.u64 19, Value.pointer (some { block := w.heap.size + 1, off := 0 }), Value.pointer none, Value.bool false, Value.bool false, Value.bool false, Value.bool false, Value.bool false])) (by simp [results, Tryz.results137, go_sem]) rfl ⟨rfl, rfl⟩

theorem from_117 (c : Option Addr) (w : World)  : Calls Tryz.prog 137 #[.pointer c, .iface 122 (.pointer (some ⟨0, 117, none⟩))] w fun e w' => e = .returned (Value.agg #[Value.iface 122 (Value.pointer (some { block := 0, off := 117 })), Value.int IntKind.u64 19, Value.pointer (some { block := w.heap.size + 1, off := 0 }), Value.pointer none, Value.bool false, Value.bool false, Value.bool false, Value.bool false, Value.bool false]) ∧ ((w.alloc (Obj.cells #[Value.iface 122 (Value.pointer (some { block := 0, off := 117 })), Value.int IntKind.u64 19, Value.pointer (some { block := w.heap.size + 1, off := 0 }), Value.pointer none, Value.bool false, Value.bool false, Value.bool false, Value.bool false, Value.bool false] 43)).alloc (Obj.cells #[Value.pointer none, Value.pointer none, Value.map none, Value.pointer none, Value.pointer none, Value.int IntKind.i64 0, Value.pointer none, Value.pointer none, Value.int IntKind.i64 0, Value.int IntKind.i64 0, Value.bool false, Value.bool false, Value.bool false, Value.bool false] 83)) = w' := by
  go_enter Tryz.func137, Tryz.ntmps137
  go_wp2
  exact bodyPost_ret (v := (Value.agg #[Value.iface 122 (Value.pointer (some { block := 0, off := 117 })), Value.int IntKind.u64 19, Value.pointer (some { block := w.heap.size + 1, off := 0 }), Value.pointer none, Value.bool false, Value.bool false, Value.bool false, Value.bool false, Value.bool false])) (by simp [results, Tryz.results137, go_sem]) rfl ⟨rfl, rfl⟩

theorem from_118 (c : Option Addr) (w : World)  : Calls Tryz.prog 137 #[.pointer c, .iface 122 (.pointer (some ⟨0, 118, none⟩))] w fun e w' => e = .returned (Value.agg #[Value.iface 122 (Value.pointer (some { block := 0, off := 118 })), Value.int IntKind.u64 19, Value.pointer (some { block := w.heap.size + 1, off := 0 }), Value.pointer none, Value.bool false, Value.bool false, Value.bool false, Value.bool false, Value.bool false]) ∧ ((w.alloc (Obj.cells #[Value.iface 122 (Value.pointer (some { block := 0, off := 118 })), Value.int IntKind.u64 19, Value.pointer (some { block := w.heap.size + 1, off := 0 }), Value.pointer none, Value.bool false, Value.bool false, Value.bool false, Value.bool false, Value.bool false] 43)).alloc (Obj.cells #[Value.pointer none, Value.pointer none, Value.map none, Value.pointer none, Value.pointer none, Value.int IntKind.i64 0, Value.pointer none, Value.pointer none, Value.int IntKind.i64 0, Value.int IntKind.i64 0, Value.bool false, Value.bool false, Value.bool false, Value.bool false] 83)) = w' := by
  go_enter Tryz.func137, Tryz.ntmps137
  go_wp2
  exact bodyPost_ret (v := (Value.agg #[Value.iface 122 (Value.pointer (some { block := 0, off := 118 })), Value.int IntKind.u64 19, Value.pointer (some { block := w.heap.size + 1, off := 0 }), Value.pointer none, Value.bool false, Value.bool false, Value.bool false, Value.bool false, Value.bool false])) (by simp [results, Tryz.results137, go_sem]) rfl ⟨rfl, rfl⟩

theorem nc_113 (x : Value) (w : World)  : Calls Tryz.prog 140 #[.pointer none, .iface 113 x] w fun e w' => e = .returned (Value.agg #[Value.iface 122 (Value.pointer (some { block := 0, off := 113 })), Value.int IntKind.u64 19, Value.pointer (some { block := w.heap.size + 1 + 1, off := 0 }), Value.pointer none, Value.bool false, Value.bool false, Value.bool false, Value.bool false, Value.bool false]) ∧ (((w.alloc (Obj.cells #[Value.iface 122 (Value.pointer (some { block := 0, off := 113 })), Value.int IntKind.u64 19, Value.pointer (some { block := w.heap.size + 1 + 1, off := 0 }), Value.pointer none, Value.bool false, Value.bool false, Value.bool false, Value.bool false, Value.bool false] 43)).alloc (Obj.cells #[Value.iface 122 (Value.pointer (some { block := 0, off := 113 })), Value.int IntKind.u64 19, Value.pointer (some { block := w.heap.size + 1 + 1, off := 0 }), Value.pointer none, Value.bool false, Value.bool false, Value.bool false, Value.bool false, Value.bool false] 43)).alloc (Obj.cells #[Value.pointer none, Value.pointer none, Value.map none, Value.pointer none, Value.pointer none, Value.int IntKind.i64 0, Value.pointer none, Value.pointer none, Value.int IntKind.i64 0, Value.int IntKind.i64 0, Value.bool false, Value.bool false, Value.bool false, Value.bool false] 83)) = w' := by
  go_enter Tryz.func140, Tryz.ntmps140
  go_wp2_with (first | (go_at_call 137; ((with_reducible refine (from_113 _ _).mono ?_); rintro e w' ⟨rfl, rfl⟩)))
  exact bodyPost_ret (v := (Value.agg #[Value.iface 122 (Value.pointer (some { block := 0, off := 113 })), Value.int IntKind.u64 19, Value.pointer (some { block := w.heap.size + 1 + 1, off := 0 }), Value.pointer none, Value.bool false, Value.bool false, Value.bool false, Value.bool false, Value.bool false])) (by simp [results, Tryz.results140, go_sem]) rfl ⟨rfl, rfl⟩

theorem nc_114 (x : Value) (w : World)  : Calls Tryz.prog 140 #[.pointer none, .iface 114 x] w fun e w' => e = .returned (Value.agg #[Value.iface 122 (Value.pointer (some { block := 0, off := 114 })), Value.int IntKind.u64 19, Value.pointer (some { block := w.heap.size + 1 + 1, off := 0 }), Value.pointer none, Value.bool false, Value.bool false, Value.bool false, Value.bool false, Value.bool false]) ∧ (((w.alloc (Obj.cells #[Value.iface 122 (Value.pointer (some { block := 0, off := 114 })), Value.int IntKind.u64 19, Value.pointer (some { block := w.heap.size + 1 + 1, off := 0 }), Value.pointer none, Value.bool false, Value.bool false, Value.bool false, Value.bool false, Value.bool false] 43)).alloc (Obj.cells #[Value.iface 122 (Value.pointer (some { block := 0, off := 114 })), Value.int IntKind.u64 19, Value.pointer (some { block := w.heap.size + 1 + 1, off := 0 }), Value.pointer none, Value.bool false, Value.bool false, Value.bool false, Value.bool false, Value.bool false] 43)).alloc (Obj.cells #[Value.pointer none, Value.pointer none, Value.map none, Value.pointer none, Value.pointer none, Value.int IntKind.i64 0, Value.pointer none, Value.pointer none, Value.int IntKind.i64 0, Value.int IntKind.i64 0, Value.bool false, Value.bool false, Value.bool false, Value.bool false] 83)) = w' := by
  go_enter Tryz.func140, Tryz.ntmps140
  go_wp2_with (first | (go_at_call 137; ((with_reducible refine (from_114 _ _).mono ?_); rintro e w' ⟨rfl, rfl⟩)))
  exact bodyPost_ret (v := (Value.agg #[Value.iface 122 (Value.pointer (some { block := 0, off := 114 })), Value.int IntKind.u64 19, Value.pointer (some { block := w.heap.size + 1 + 1, off := 0 }), Value.pointer none, Value.bool false, Value.bool false, Value.bool false, Value.bool false, Value.bool false])) (by simp [results, Tryz.results140, go_sem]) rfl ⟨rfl, rfl⟩

theorem nc_115 (x : Value) (w : World)  : Calls Tryz.prog 140 #[.pointer none, .iface 115 x] w fun e w' => e = .returned (Value.agg #[Value.iface 122 (Value.pointer (some { block := 0, off := 115 })), Value.int IntKind.u64 19, Value.pointer (some { block := w.heap.size + 1 + 1, off := 0 }), Value.pointer none, Value.bool false, Value.bool false, Value.bool false, Value.bool false, Value.bool false]) ∧ (((w.alloc (Obj.cells #[Value.iface 122 (Value.pointer (some { block := 0, off := 115 })), Value.int IntKind.u64 19, Value.pointer (some { block := w.heap.size + 1 + 1, off := 0 }), Value.pointer none, Value.bool false, Value.bool false, Value.bool false, Value.bool false, Value.bool false] 43)).alloc (Obj.cells #[Value.iface 122 (Value.pointer (some { block := 0, off := 115 })), Value.int IntKind.u64 19, Value.pointer (some { block := w.heap.size + 1 + 1, off := 0 }), Value.pointer none, Value.bool false, Value.bool false, Value.bool false, Value.bool false, Value.bool false] 43)).alloc (Obj.cells #[Value.pointer none, Value.pointer none, Value.map none, Value.pointer none, Value.pointer none, Value.int IntKind.i64 0, Value.pointer none, Value.pointer none, Value.int IntKind.i64 0, Value.int IntKind.i64 0, Value.bool false, Value.bool false, Value.bool false, Value.bool false] 83)) = w' := by
  go_enter Tryz.func140, Tryz.ntmps140
  go_wp2_with (first | (go_at_call 137; ((with_reducible refine (from_115 _ _).mono ?_); rintro e w' ⟨rfl, rfl⟩)))
  exact bodyPost_ret (v := (Value.agg #[Value.iface 122 (Value.pointer (some { block := 0, off := 115 })), Value.int IntKind.u64 19, Value.pointer (some { block := w.heap.size + 1 + 1, off := 0 }), Value.pointer none, Value.bool false, Value.bool false, Value.bool false, Value.bool false, Value.bool false])) (by simp [results, Tryz.results140, go_sem]) rfl ⟨rfl, rfl⟩

theorem nc_116 (x : Value) (w : World)  : Calls Tryz.prog 140 #[.pointer none, .iface 116 x] w fun e w' => e = .returned (Value.agg #[Value.iface 122 (Value.pointer (some { block := 0, off := 116 })), Value.int IntKind.u64 19, Value.pointer (some { block := w.heap.size + 1 + 1, off := 0 }), Value.pointer none, Value.bool false, Value.bool false, Value.bool false, Value.bool false, Value.bool false]) ∧ (((w.alloc (Obj.cells #[Value.iface 122 (Value.pointer (some { block := 0, off := 116 })), Value.int IntKind.u64 19, Value.pointer (some { block := w.heap.size + 1 + 1, off := 0 }), Value.pointer none, Value.bool false, Value.bool false, Value.bool false, Value.bool false, Value.bool false] 43)).alloc (Obj.cells #[Value.iface 122 (Value.pointer (some { block := 0, off := 116 })), Value.int IntKind.u64 19, Value.pointer (some { block := w.heap.size + 1 + 1, off := 0 }), Value.pointer none, Value.bool false, Value.bool false, Value.bool false, Value.bool false, Value.bool false] 43)).alloc (Obj.cells #[Value.pointer none, Value.pointer none, Value.map none, Value.pointer none, Value.pointer none, Value.int IntKind.i64 0, Value.pointer none, Value.pointer none, Value.int IntKind.i64 0, Value.int IntKind.i64 0, Value.bool false, Value.bool false, Value.bool false, Value.bool false] 83)) = w' := by
  go_enter Tryz.func140, Tryz.ntmps140
  go_wp2_with (first | (go_at_call 137; ((with_reducible refine (from_116 _ _).mono ?_); rintro e w' ⟨rfl, rfl⟩)))
  exact bodyPost_ret (v := (Value.agg #[Value.iface 122 (Value.pointer (some { block := 0, off := 116 })), Value.int IntKind.u64 19, Value.pointer (some { block := w.heap.size + 1 + 1, off := 0 }), Value.pointer none, Value.bool false, Value.bool false, Value.bool false, Value.bool false, Value.bool false])) (by simp [results, Tryz.results140, go_sem]) rfl ⟨rfl, rfl⟩

theorem nc_117 (x : Value) (w : World)  : Calls Tryz.prog 140 #[.pointer none, .iface 117 x] w fun e w' => e = .returned (Value.agg #[Value.iface 122 (Value.pointer (some { block := 0, off := 117 })), Value.int IntKind.u64 19, Value.pointer (some { block := w.heap.size + 1 + 1, off := 0 }), Value.pointer none, Value.bool false, Value.bool false, Value.bool false, Value.bool false, Value.bool false]) ∧ (((w.alloc (Obj.cells #[Value.iface 122 (Value.pointer (some { block := 0, off := 117 })), Value.int IntKind.u64 19, Value.pointer (some { block := w.heap.size + 1 + 1, off := 0 }), Value.pointer none, Value.bool false, Value.bool false, Value.bool false, Value.bool false, Value.bool false] 43)).alloc (Obj.cells #[Value.iface 122 (Value.pointer (some { block := 0, off := 117 })), Value.int IntKind.u64 19, Value.pointer (some { block := w.heap.size + 1 + 1, off := 0 }), Value.pointer none, Value.bool false, Value.bool false, Value.bool false, Value.bool false, Value.bool false] 43)).alloc (Obj.cells #[Value.pointer none, Value.pointer none, Value.map none, Value.pointer none, Value.pointer none, Value.int IntKind.i64 0, Value.pointer none, Value.pointer none, Value.int IntKind.i64 0, Value.int IntKind.i64 0, Value.bool false, Value.bool false, Value.bool false, Value.bool false] 83)) = w' := by
  go_enter Tryz.func140, Tryz.ntmps140
  go_wp2_with (first | (go_at_call 137; ((with_reducible refine (from_117 _ _).mono ?_); rintro e w' ⟨rfl, rfl⟩)))
  exact bodyPost_ret (v := (Value.agg #[Value.iface 122 (Value.pointer (some { block := 0, off := 117 })), Value.int IntKind.u64 19, Value.pointer (some { block := w.heap.size + 1 + 1, off := 0 }), Value.pointer none, Value.bool false, Value.bool false, Value.bool false, Value.bool false, Value.bool false])) (by simp [results, Tryz.results140, go_sem]) rfl ⟨rfl, rfl⟩

theorem nc_118 (x : Value) (w : World)  : Calls Tryz.prog 140 #[.pointer none, .iface 118 x] w fun e w' => e = .returned (Value.agg #[Value.iface 122 (Value.pointer (some { block := 0, off := 118 })), Value.int IntKind.u64 19, Value.pointer (some { block := w.heap.size + 1 + 1, off := 0 }), Value.pointer none, Value.bool false, Value.bool false, Value.bool false, Value.bool false, Value.bool false]) ∧ (((w.alloc (Obj.cells #[Value.iface 122 (Value.pointer (some { block := 0, off := 118 })), Value.int IntKind.u64 19, Value.pointer (some { block := w.heap.size + 1 + 1, off := 0 }), Value.pointer none, Value.bool false, Value.bool false, Value.bool false, Value.bool false, Value.bool false] 43)).alloc (Obj.cells #[Value.iface 122 (Value.pointer (some { block := 0, off := 118 })), Value.int IntKind.u64 19, Value.pointer (some { block := w.heap.size + 1 + 1, off := 0 }), Value.pointer none, Value.bool false, Value.bool false, Value.bool false, Value.bool false, Value.bool false] 43)).alloc (Obj.cells #[Value.pointer none, Value.pointer none, Value.map none, Value.pointer none, Value.pointer none, Value.int IntKind.i64 0, Value.pointer none, Value.pointer none, Value.int IntKind.i64 0, Value.int IntKind.i64 0, Value.bool false, Value.bool false, Value.bool false, Value.bool false] 83)) = w' := by
  go_enter Tryz.func140, Tryz.ntmps140
  go_wp2_with (first | (go_at_call 137; ((with_reducible refine (from_118 _ _).mono ?_); rintro e w' ⟨rfl, rfl⟩)))
  exact bodyPost_ret (v := (Value.agg #[Value.iface 122 (Value.pointer (some { block := 0, off := 118 })), Value.int IntKind.u64 19, Value.pointer (some { block := w.heap.size + 1 + 1, off := 0 }), Value.pointer none, Value.bool false, Value.bool false, Value.bool false, Value.bool false, Value.bool false])) (by simp [results, Tryz.results140, go_sem]) rfl ⟨rfl, rfl⟩

theorem no_113 (x : Value) (w : World)  : Calls Tryz.prog 115 #[.iface 113 x] w fun e w' => e = .returned (Value.agg #[Value.iface 122 (Value.pointer (some { block := 0, off := 113 })), Value.int IntKind.u64 19, Value.pointer (some { block := w.heap.size + 1 + 1 + 1, off := 0 }), Value.pointer none, Value.bool false, Value.bool false, Value.bool false, Value.bool false, Value.bool false]) ∧ ((((w.alloc (Obj.cells #[Value.iface 122 (Value.pointer (some { block := 0, off := 113 })), Value.int IntKind.u64 19, Value.pointer (some { block := w.heap.size + 1 + 1 + 1, off := 0 }), Value.pointer none, Value.bool false, Value.bool false, Value.bool false, Value.bool false, Value.bool false] 43)).alloc (Obj.cells #[Value.iface 122 (Value.pointer (some { block := 0, off := 113 })), Value.int IntKind.u64 19, Value.pointer (some { block := w.heap.size + 1 + 1 + 1, off := 0 }), Value.pointer none, Value.bool false, Value.bool false, Value.bool false, Value.bool false, Value.bool false] 43)).alloc (Obj.cells #[Value.iface 122 (Value.pointer (some { block := 0, off := 113 })), Value.int IntKind.u64 19, Value.pointer (some { block := w.heap.size + 1 + 1 + 1, off := 0 }), Value.pointer none, Value.bool false, Value.bool false, Value.bool false, Value.bool false, Value.bool false] 43)).alloc (Obj.cells #[Value.pointer none, Value.pointer none, Value.map none, Value.pointer none, Value.pointer none, Value.int IntKind.i64 0, Value.pointer none, Value.pointer none, Value.int IntKind.i64 0, Value.int IntKind.i64 0, Value.bool false, Value.bool false, Value.bool false, Value.bool false] 83)) = w' := by
  go_enter Tryz.func115, Tryz.ntmps115
  go_wp2_with (first | (go_at_call 140; ((with_reducible refine (nc_113 _ _).mono ?_); rintro e w' ⟨rfl, rfl⟩)))
  exact bodyPost_ret (v := (Value.agg #[Value.iface 122 (Value.pointer (some { block := 0, off := 113 })), Value.int IntKind.u64 19, Value.pointer (some { block := w.heap.size + 1 + 1 + 1, off := 0 }), Value.pointer none, Value.bool false, Value.bool false, Value.bool false, Value.bool false, Value.bool false])) (by simp [results, Tryz.results115, go_sem]) rfl ⟨rfl, rfl⟩

theorem no_114 (x : Value) (w : World)  : Calls Tryz.prog 115 #[.iface 114 x] w fun e w' => e = .returned (Value.agg #[Value.iface 122 (Value.pointer (some { block := 0, off := 114 })), Value.int IntKind.u64 19, Value.pointer (some { block := w.heap.size + 1 + 1 + 1, off := 0 }), Value.pointer none, Value.bool false, Value.bool false, Value.bool false, Value.bool false, Value.bool false]) ∧ ((((w.alloc (Obj.cells #[Value.iface 122 (Value.pointer (some { block := 0, off := 114 })), Value.int IntKind.u64 19, Value.pointer (some { block := w.heap.size + 1 + 1 + 1, off := 0 }), Value.pointer none, Value.bool false, Value.bool false, Value.bool false, Value.bool false, Value.bool false] 43)).alloc (Obj.cells #[Value.iface 122 (Value.pointer (some { block := 0, off := 114 })), Value.int IntKind.u64 19, Value.pointer (some { block := w.heap.size + 1 + 1 + 1, off := 0 }), Value.pointer none, Value.bool false, Value.bool false, Value.bool false, Value.bool false, Value.bool false] 43)).alloc (Obj.cells #[Value.iface 122 (Value.pointer (some { block := 0, off := 114 })), Value.int IntKind.u64 19, Value.pointer (some { block := w.heap.size + 1 + 1 + 1, off := 0 }), Value.pointer none, Value.bool false, Value.bool false, Value.bool false, Value.bool false, Value.bool false] 43)).alloc (Obj.cells #[Value.pointer none, Value.pointer none, Value.map none, Value.pointer none, Value.pointer none, Value.int IntKind.i64 0, Value.pointer none, Value.pointer none, Value.int IntKind.i64 0, Value.int IntKind.i64 0, Value.bool false, Value.bool false, Value.bool false, Value.bool false] 83)) = w' := by
  go_enter Tryz.func115, Tryz.ntmps115
  go_wp2_with (first | (go_at_call 140; ((with_reducible refine (nc_114 _ _).mono ?_); rintro e w' ⟨rfl, rfl⟩)))
  exact bodyPost_ret (v := (Value.agg #[Value.iface 122 (Value.pointer (some { block := 0, off := 114 })), Value.int IntKind.u64 19, Value.pointer (some { block := w.heap.size + 1 + 1 + 1, off := 0 }), Value.pointer none, Value.bool false, Value.bool false, Value.bool false, Value.bool false, Value.bool false])) (by simp [results, Tryz.results115, go_sem]) rfl ⟨rfl, rfl⟩

theorem no_115 (x : Value) (w : World)  : Calls Tryz.prog 115 #[.iface 115 x] w fun e w' => e = .returned (Value.agg #[Value.iface 122 (Value.pointer (some { block := 0, off := 115 })), Value.int IntKind.u64 19, Value.pointer (some { block := w.heap.size + 1 + 1 + 1, off := 0 }), Value.pointer none, Value.bool false, Value.bool false, Value.bool false, Value.bool false, Value.bool false]) ∧ ((((w.alloc (Obj.cells #[Value.iface 122 (Value.pointer (some { block := 0, off := 115 })), Value.int IntKind.u64 19, Value.pointer (some { block := w.heap.size + 1 + 1 + 1, off := 0 }), Value.pointer none, Value.bool false, Value.bool false, Value.bool false, Value.bool false, Value.bool false] 43)).alloc (Obj.cells #[Value.iface 122 (Value.pointer (some { block := 0, off := 115 })), Value.int IntKind.u64 19, Value.pointer (some { block := w.heap.size + 1 + 1 + 1, off := 0 }), Value.pointer none, Value.bool false, Value.bool false, Value.bool false, Value.bool false, Value.bool false] 43)).alloc (Obj.cells #[Value.iface 122 (Value.pointer (some { block := 0, off := 115 })), Value.int IntKind.u64 19, Value.pointer (some { block := w.heap.size + 1 + 1 + 1, off := 0 }), Value.pointer none, Value.bool false, Value.bool false, Value.bool false, Value.bool false, Value.bool false] 43)).alloc (Obj.cells #[Value.pointer none, Value.pointer none, Value.map none, Value.pointer none, Value.pointer none, Value.int IntKind.i64 0, Value.pointer none, Value.pointer none, Value.int IntKind.i64 0, Value.int IntKind.i64 0, Value.bool false, Value.bool false, Value.bool false, Value.bool false] 83)) = w' := by
  go_enter Tryz.func115, Tryz.ntmps115
  go_wp2_with (first | (go_at_call 140; ((with_reducible refine (nc_115 _ _).mono ?_); rintro e w' ⟨rfl, rfl⟩)))
  exact bodyPost_ret (v := (Value.agg #[Value.iface 122 (Value.pointer (some { block := 0, off := 115 })), Value.int IntKind.u64 19, Value.pointer (some { block := w.heap.size + 1 + 1 + 1, off := 0 }), Value.pointer none, Value.bool false, Value.bool false, Value.bool false, Value.bool false, Value.bool false])) (by simp [results, Tryz.results115, go_sem]) rfl ⟨rfl, rfl⟩

theorem no_116 (x : Value) (w : World)  : Calls Tryz.prog 115 #[.iface 116 x] w fun e w' => e = .returned (Value.agg #[Value.iface 122 (Value.pointer (some { block := 0, off := 116 })), Value.int IntKind.u64 19, Value.pointer (some { block := w.heap.size + 1 + 1 + 1, off := 0 }), Value.pointer none, Value.bool false, Value.bool false, Value.bool false, Value.bool false, Value.bool false]) ∧ ((((w.alloc (Obj.cells #[Value.iface 122 (Value.pointer (some { block := 0, off := 116 })), Value.int IntKind.u64 19, Value.pointer (some { block := w.heap.size + 1 + 1 + 1, off := 0 }), Value.pointer none, Value.bool false, Value.bool false, Value.bool false, Value.bool false, Value.bool false] 43)).alloc (Obj.cells #[Value.iface 122 (Value.pointer (some { block := 0, off := 116 })), Value.int IntKind.u64 19, Value.pointer (some { block := w.heap.size + 1 + 1 + 1, off := 0 }), Value.pointer none, Value.bool false, Value.bool false, Value.bool false, Value.bool false, Value.bool false] 43)).alloc (Obj.cells #[Value.iface 122 (Value.pointer (some { block := 0, off := 116 })), Value.int IntKind.u64 19, Value.pointer (some { block := w.heap.size + 1 + 1 + 1, off := 0 }), Value.pointer none, Value.bool false, Value.bool false, Value.bool false, Value.bool false, Value.bool false] 43)).alloc (Obj.cells #[Value.pointer none, Value.pointer none, Value.map none, Value.pointer none, Value.pointer none, Value.int IntKind.i64 0, Value.pointer none, Value.pointer none, Value.int IntKind.i64 0, Value.int IntKind.i64 0, Value.bool false, Value.bool false, Value.bool false, Value.bool false] 83)) = w' := by
  go_enter Tryz.func115, Tryz.ntmps115
  go_wp2_with (first | (go_at_call 140; ((with_reducible refine (nc_116 _ _).mono ?_); rintro e w' ⟨rfl, rfl⟩)))
  exact bodyPost_ret (v := (Value.agg #[Value.iface 122 (Value.pointer (some { block := 0, off := 116 })), Value.int IntKind.u64 19, Value.pointer (some { block := w.heap.size + 1 + 1 + 1, off := 0 }), Value.pointer none, Value.bool false, Value.bool false, Value.bool false, Value.bool false, Value.bool false])) (by simp [results, Tryz.results115, go_sem]) rfl ⟨rfl, rfl⟩

theorem no_117 (x : Value) (w : World)  : Calls Tryz.prog 115 #[.iface 117 x] w fun e w' => e = .returned (Value.agg #[Value.iface 122 (Value.pointer (some { block := 0, off := 117 })), Value.int IntKind.u64 19, Value.pointer (some { block := w.heap.size + 1 + 1 + 1, off := 0 }), Value.pointer none, Value.bool false, Value.bool false, Value.bool false, Value.bool false, Value.bool false]) ∧ ((((w.alloc (Obj.cells #[Value.iface 122 (Value.pointer (some { block := 0, off := 117 })), Value.int IntKind.u64 19, Value.pointer (some { block := w.heap.size + 1 + 1 + 1, off := 0 }), Value.pointer none, Value.bool false, Value.bool false, Value.bool false, Value.bool false, Value.bool false] 43)).alloc (Obj.cells #[Value.iface 122 (Value.pointer (some { block := 0, off := 117 })), Value.int IntKind.u64 19, Value.pointer (some { block := w.heap.size + 1 + 1 + 1, off := 0 }), Value.pointer none, Value.bool false, Value.bool false, Value.bool false, Value.bool false, Value.bool false] 43)).alloc (Obj.cells #[Value.iface 122 (Value.pointer (some { block := 0, off := 117 })), Value.int IntKind.u64 19, Value.pointer (some { block := w.heap.size + 1 + 1 + 1, off := 0 }), Value.pointer none, Value.bool false, Value.bool false, Value.bool false, Value.bool false, Value.bool false] 43)).alloc (Obj.cells #[Value.pointer none, Value.pointer none, Value.map none, Value.pointer none, Value.pointer none, Value.int IntKind.i64 0, Value.pointer none, Value.pointer none, Value.int IntKind.i64 0, Value.int IntKind.i64 0, Value.bool false, Value.bool false, Value.bool false, Value.bool false] 83)) = w' := by
  go_enter Tryz.func115, Tryz.ntmps115
  go_wp2_with (first | (go_at_call 140; ((with_reducible refine (nc_117 _ _).mono ?_); rintro e w' ⟨rfl, rfl⟩)))
  exact bodyPost_ret (v := (Value.agg #[Value.iface 122 (Value.pointer (some { block := 0, off := 117 })), Value.int IntKind.u64 19, Value.pointer (some { block := w.heap.size + 1 + 1 + 1, off := 0 }), Value.pointer none, Value.bool false, Value.bool false, Value.bool false, Value.bool false, Value.bool false])) (by simp [results, Tryz.results115, go_sem]) rfl ⟨rfl, rfl⟩

theorem no_118 (x : Value) (w : World)  : Calls Tryz.prog 115 #[.iface 118 x] w fun e w' => e = .returned (Value.agg #[Value.iface 122 (Value.pointer (some { block := 0, off := 118 })), Value.int IntKind.u64 19, Value.pointer (some { block := w.heap.size + 1 + 1 + 1, off := 0 }), Value.pointer none, Value.bool false, Value.bool false, Value.bool false, Value.bool false, Value.bool false]) ∧ ((((w.alloc (Obj.cells #[Value.iface 122 (Value.pointer (some { block := 0, off := 118 })), Value.int IntKind.u64 19, Value.pointer (some { block := w.heap.size + 1 + 1 + 1, off := 0 }), Value.pointer none, Value.bool false, Value.bool false, Value.bool false, Value.bool false, Value.bool false] 43)).alloc (Obj.cells #[Value.iface 122 (Value.pointer (some { block := 0, off := 118 })), Value.int IntKind.u64 19, Value.pointer (some { block := w.heap.size + 1 + 1 + 1, off := 0 }), Value.pointer none, Value.bool false, Value.bool false, Value.bool false, Value.bool false, Value.bool false] 43)).alloc (Obj.cells #[Value.iface 122 (Value.pointer (some { block := 0, off := 118 })), Value.int IntKind.u64 19, Value.pointer (some { block := w.heap.size + 1 + 1 + 1, off := 0 }), Value.pointer none, Value.bool false, Value.bool false, Value.bool false, Value.bool false, Value.bool false] 43)).alloc (Obj.cells #[Value.pointer none, Value.pointer none, Value.map none, Value.pointer none, Value.pointer none, Value.int IntKind.i64 0, Value.pointer none, Value.pointer none, Value.int IntKind.i64 0, Value.int IntKind.i64 0, Value.bool false, Value.bool false, Value.bool false, Value.bool false] 83)) = w' := by
  go_enter Tryz.func115, Tryz.ntmps115
  go_wp2_with (first | (go_at_call 140; ((with_reducible refine (nc_118 _ _).mono ?_); rintro e w' ⟨rfl, rfl⟩)))
  exact bodyPost_ret (v := (Value.agg #[Value.iface 122 (Value.pointer (some { block := 0, off := 118 })), Value.int IntKind.u64 19, Value.pointer (some { block := w.heap.size + 1 + 1 + 1, off := 0 }), Value.pointer none, Value.bool false, Value.bool false, Value.bool false, Value.bool false, Value.bool false])) (by simp [results, Tryz.results115, go_sem]) rfl ⟨rfl, rfl⟩

theorem c_104  (w : World)  : Calls Tryz.prog 104 #[] w fun e w' => e = .returned (Value.agg #[Value.iface 122 (Value.pointer (some { block := 0, off := 113 })), Value.int IntKind.u64 19, Value.pointer (some { block := w.heap.size + 1 + 1 + 1 + 1, off := 0 }), Value.pointer none, Value.bool false, Value.bool false, Value.bool false, Value.bool false, Value.bool false]) ∧ (((((w.alloc (Obj.cells #[Value.iface 122 (Value.pointer (some { block := 0, off := 113 })), Value.int IntKind.u64 19, Value.pointer (some { block := w.heap.size + 1 + 1 + 1 + 1, off := 0 }), Value.pointer none, Value.bool false, Value.bool false, Value.bool false, Value.bool false, Value.bool false] 43)).alloc (Obj.cells #[Value.iface 122 (Value.pointer (some { block := 0, off := 113 })), Value.int IntKind.u64 19, Value.pointer (some { block := w.heap.size + 1 + 1 + 1 + 1, off := 0 }), Value.pointer none, Value.bool false, Value.bool false, Value.bool false, Value.bool false, Value.bool false] 43)).alloc (Obj.cells #[Value.iface 122 (Value.pointer (some { block := 0, off := 113 })), Value.int IntKind.u64 19, Value.pointer (some { block := w.heap.size + 1 + 1 + 1 + 1, off := 0 }), Value.pointer none, Value.bool false, Value.bool false, Value.bool false, Value.bool false, Value.bool false] 43)).alloc (Obj.cells #[Value.iface 122 (Value.pointer (some { block := 0, off := 113 })), Value.int IntKind.u64 19, Value.pointer (some { block := w.heap.size + 1 + 1 + 1 + 1, off := 0 }), Value.pointer none, Value.bool false, Value.bool false, Value.bool false, Value.bool false, Value.bool false] 43)).alloc (Obj.cells #[Value.pointer none, Value.pointer none, Value.map none, Value.pointer none, Value.pointer none, Value.int IntKind.i64 0, Value.pointer none, Value.pointer none, Value.int IntKind.i64 0, Value.int IntKind.i64 0, Value.bool false, Value.bool false, Value.bool false, Value.bool false] 83)) = w' := by
  go_enter Tryz.func104, Tryz.ntmps104
  go_wp2_with (first | (go_at_call 115; ((with_reducible refine (no_113 _ _).mono ?_); rintro e w' ⟨rfl, rfl⟩)))
  exact bodyPost_ret (v := (Value.agg #[Value.iface 122 (Value.pointer (some { block := 0, off := 113 })), Value.int IntKind.u64 19, Value.pointer (some { block := w.heap.size + 1 + 1 + 1 + 1, off := 0 }), Value.pointer none, Value.bool false, Value.bool false, Value.bool false, Value.bool false, Value.bool false])) (by simp [results, Tryz.results104, go_sem]) rfl ⟨rfl, rfl⟩

theorem c_105  (w : World)  : Calls Tryz.prog 105 #[] w fun e w' => e = .returned (Value.agg #[Value.iface 122 (Value.pointer (some { block := 0, off := 114 })), Value.int IntKind.u64 19, Value.pointer (some { block := w.heap.size + 1 + 1 + 1 + 1, off := 0 }), Value.pointer none, Value.bool false, Value.bool false, Value.bool false, Value.bool false, Value.bool false]) ∧ (((((w.alloc (Obj.cells #[Value.iface 122 (Value.pointer (some { block := 0, off := 114 })), Value.int IntKind.u64 19, Value.pointer (some { block := w.heap.size + 1 + 1 + 1 + 1, off := 0 }), Value.pointer none, Value.bool false, Value.bool false, Value.bool false, Value.bool false, Value.bool false] 43)).alloc (Obj.cells #[Value.iface 122 (Value.pointer (some { block := 0, off := 114 })), Value.int IntKind.u64 19, Value.pointer (some { block := w.heap.size + 1 + 1 + 1 + 1, off := 0 }), Value.pointer none, Value.bool false, Value.bool false, Value.bool false, Value.bool false, Value.bool false] 43)).alloc (Obj.cells #[Value.iface 122 (Value.pointer (some { block := 0, off := 114 })), Value.int IntKind.u64 19, Value.pointer (some { block := w.heap.size + 1 + 1 + 1 + 1, off := 0 }), Value.pointer none, Value.bool false, Value.bool false, Value.bool false, Value.bool false, Value.bool false] 43)).alloc (Obj.cells #[Value.iface 122 (Value.pointer (some { block := 0, off := 114 })), Value.int IntKind.u64 19, Value.pointer (some { block := w.heap.size + 1 + 1 + 1 + 1, off := 0 }), Value.pointer none, Value.bool false, Value.bool false, Value.bool false, Value.bool false, Value.bool false] 43)).alloc (Obj.cells #[Value.pointer none, Value.pointer none, Value.map none, Value.pointer none, Value.pointer none, Value.int IntKind.i64 0, Value.pointer none, Value.pointer none, Value.int IntKind.i64 0, Value.int IntKind.i64 0, Value.bool false, Value.bool false, Value.bool false, Value.bool false] 83)) = w' := by
  go_enter Tryz.func105, Tryz.ntmps105
  go_wp2_with (first | (go_at_call 115; ((with_reducible refine (no_114 _ _).mono ?_); rintro e w' ⟨rfl, rfl⟩)))
  exact bodyPost_ret (v := (Value.agg #[Value.iface 122 (Value.pointer (some { block := 0, off := 114 })), Value.int IntKind.u64 19, Value.pointer (some { block := w.heap.size + 1 + 1 + 1 + 1, off := 0 }), Value.pointer none, Value.bool false, Value.bool false, Value.bool false, Value.bool false, Value.bool false])) (by simp [results, Tryz.results105, go_sem]) rfl ⟨rfl, rfl⟩

theorem c_106  (w : World)  : Calls Tryz.prog 106 #[] w fun e w' => e = .returned (Value.agg #[Value.iface 122 (Value.pointer (some { block := 0, off := 115 })), Value.int IntKind.u64 19, Value.pointer (some { block := w.heap.size + 1 + 1 + 1 + 1, off := 0 }), Value.pointer none, Value.bool false, Value.bool false, Value.bool false, Value.bool false, Value.bool false]) ∧ (((((w.alloc (Obj.cells #[Value.iface 122 (Value.pointer (some { block := 0, off := 115 })), Value.int IntKind.u64 19, Value.pointer (some { block := w.heap.size + 1 + 1 + 1 + 1, off := 0 }), Value.pointer none, Value.bool false, Value.bool false, Value.bool false, Value.bool false, Value.bool false] 43)).alloc (Obj.cells #[Value.iface 122 (Value.pointer (some { block := 0, off := 115 })), Value.int IntKind.u64 19, Value.pointer (some { block := w.heap.size + 1 + 1 + 1 + 1, off := 0 }), Value.pointer none, Value.bool false, Value.bool false, Value.bool false, Value.bool false, Value.bool false] 43)).alloc (Obj.cells #[Value.iface 122 (Value.pointer (some { block := 0, off := 115 })), Value.int IntKind.u64 19, Value.pointer (some { block := w.heap.size + 1 + 1 + 1 + 1, off := 0 }), Value.pointer none, Value.bool false, Value.bool false, Value.bool false, Value.bool false, Value.bool false] 43)).alloc (Obj.cells #[Value.iface 122 (Value.pointer (some { block := 0, off := 115 })), Value.int IntKind.u64 19, Value.pointer (some { block := w.heap.size + 1 + 1 + 1 + 1, off := 0 }), Value.pointer none, Value.bool false, Value.bool false, Value.bool false, Value.bool false, Value.bool false] 43)).alloc (Obj.cells #[Value.pointer none, Value.pointer none, Value.map none, Value.pointer none, Value.pointer none, Value.int IntKind.i64 0, Value.pointer none, Value.pointer none, Value.int IntKind.i64 0, Value.int IntKind.i64 0, Value.bool false, Value.bool false, Value.bool false, Value.bool false] 83)) = w' := by
  go_enter Tryz.func106, Tryz.ntmps106
  go_wp2_with (first | (go_at_call 115; ((with_reducible refine (no_115 _ _).mono ?_); rintro e w' ⟨rfl, rfl⟩)))
  exact bodyPost_ret (v := (Value.agg #[Value.iface 122 (Value.pointer (some { block := 0, off := 115 })), Value.int IntKind.u64 19, Value.pointer (some { block := w.heap.size + 1 + 1 + 1 + 1, off := 0 }), Value.pointer none, Value.bool false, Value.bool false, Value.bool false, Value.bool false, Value.bool false])) (by simp [results, Tryz.results106, go_sem]) rfl ⟨rfl, rfl⟩

theorem c_107  (w : World)  : Calls Tryz.prog 107 #[] w fun e w' => e = .returned (Value.agg #[Value.iface 122 (Value.pointer (some { block := 0, off := 116 })), Value.int IntKind.u64 19, Value.pointer (some { block := w.heap.size + 1 + 1 + 1 + 1, off := 0 }), Value.pointer none, Value.bool false, Value.bool false, Value.bool false, Value.bool false, Value.bool false]) ∧ (((((w.alloc (Obj.cells #[Value.iface 122 (Value.pointer (some { block := 0, off := 116 })), Value.int IntKind.u64 19, Value.pointer (some { block := w.heap.size + 1 + 1 + 1 + 1, off := 0 }), Value.pointer none, Value.bool false, Value.bool false, Value.bool false, Value.bool false, Value.bool false] 43)).alloc (Obj.cells #[Value.iface 122 (Value.pointer (some { block := 0, off := 116 })), Value.int IntKind.u64 19, Value.pointer (some { block := w.heap.size + 1 + 1 + 1 + 1, off := 0 }), Value.pointer none, Value.bool false, Value.bool false, Value.bool false, Value.bool false, Value.bool false] 43)).alloc (Obj.cells #[Value.iface 122 (Value.pointer (some { block := 0, off := 116 })), Value.int IntKind.u64 19, Value.pointer (some { block := w.heap.size + 1 + 1 + 1 + 1, off := 0 }), Value.pointer none, Value.bool false, Value.bool false, Value.bool false, Value.bool false, Value.bool false] 43)).alloc (Obj.cells #[Value.iface 122 (Value.pointer (some { block := 0, off := 116 })), Value.int IntKind.u64 19, Value.pointer (some { block := w.heap.size + 1 + 1 + 1 + 1, off := 0 }), Value.pointer none, Value.bool false, Value.bool false, Value.bool false, Value.bool false, Value.bool false] 43)).alloc (Obj.cells #[Value.pointer none, Value.pointer none, Value.map none, Value.pointer none, Value.pointer none, Value.int IntKind.i64 0, Value.pointer none, Value.pointer none, Value.int IntKind.i64 0, Value.int IntKind.i64 0, Value.bool false, Value.bool false, Value.bool false, Value.bool false] 83)) = w' := by
  go_enter Tryz.func107, Tryz.ntmps107
  go_wp2_with (first | (go_at_call 115; ((with_reducible refine (no_116 _ _).mono ?_); rintro e w' ⟨rfl, rfl⟩)))
  exact bodyPost_ret (v := (Value.agg #[Value.iface 122 (Value.pointer (some { block := 0, off := 116 })), Value.int IntKind.u64 19, Value.pointer (some { block := w.heap.size + 1 + 1 + 1 + 1, off := 0 }), Value.pointer none, Value.bool false, Value.bool false, Value.bool false, Value.bool false, Value.bool false])) (by simp [results, Tryz.results107, go_sem]) rfl ⟨rfl, rfl⟩

theorem c_108  (w : World)  : Calls Tryz.prog 108 #[] w fun e w' => e = .returned (Value.agg #[Value.iface 122 (Value.pointer (some { block := 0, off := 117 })), Value.int IntKind.u64 19, Value.pointer (some { block := w.heap.size + 1 + 1 + 1 + 1, off := 0 }), Value.pointer none, Value.bool false, Value.bool false, Value.bool false, Value.bool false, Value.bool false]) ∧ (((((w.alloc (Obj.cells #[Value.iface 122 (Value.pointer (some { block := 0, off := 117 })), Value.int IntKind.u64 19, Value.pointer (some { block := w.heap.size + 1 + 1 + 1 + 1, off := 0 }), Value.pointer none, Value.bool false, Value.bool false, Value.bool false, Value.bool false, Value.bool false] 43)).alloc (Obj.cells #[Value.iface 122 (Value.pointer (some { block := 0, off := 117 })), Value.int IntKind.u64 19, Value.pointer (some { block := w.heap.size + 1 + 1 + 1 + 1, off := 0 }), Value.pointer none, Value.bool false, Value.bool false, Value.bool false, Value.bool false, Value.bool false] 43)).alloc (Obj.cells #[Value.iface 122 (Value.pointer (some { block := 0, off := 117 })), Value.int IntKind.u64 19, Value.pointer (some { block := w.heap.size + 1 + 1 + 1 + 1, off := 0 }), Value.pointer none, Value.bool false, Value.bool false, Value.bool false, Value.bool false, Value.bool false] 43)).alloc (Obj.cells #[Value.iface 122 (Value.pointer (some { block := 0, off := 117 })), Value.int IntKind.u64 19, Value.pointer (some { block := w.heap.size + 1 + 1 + 1 + 1, off := 0 }), Value.pointer none, Value.bool false, Value.bool false, Value.bool false, Value.bool false, Value.bool false] 43)).alloc (Obj.cells #[Value.pointer none, Value.pointer none, Value.map none, Value.pointer none, Value.pointer none, Value.int IntKind.i64 0, Value.pointer none, Value.pointer none, Value.int IntKind.i64 0, Value.int IntKind.i64 0, Value.bool false, Value.bool false, Value.bool false, Value.bool false] 83)) = w' := by
  go_enter Tryz.func108, Tryz.ntmps108
  go_wp2_with (first | (go_at_call 115; ((with_reducible refine (no_117 _ _).mono ?_); rintro e w' ⟨rfl, rfl⟩)))
  exact bodyPost_ret (v := (Value.agg #[Value.iface 122 (Value.pointer (some { block := 0, off := 117 })), Value.int IntKind.u64 19, Value.pointer (some { block := w.heap.size + 1 + 1 + 1 + 1, off := 0 }), Value.pointer none, Value.bool false, Value.bool false, Value.bool false, Value.bool false, Value.bool false])) (by simp [results, Tryz.results108, go_sem]) rfl ⟨rfl, rfl⟩

theorem c_109  (w : World)  : Calls Tryz.prog 109 #[] w fun e w' => e = .returned (Value.agg #[Value.iface 122 (Value.pointer (some { block := 0, off := 118 })), Value.int IntKind.u64 19, Value.pointer (some { block := w.heap.size + 1 + 1 + 1 + 1, off := 0 }), Value.pointer none, Value.bool false, Value.bool false, Value.bool false, Value.bool false, Value.bool false]) ∧ (((((w.alloc (Obj.cells #[Value.iface 122 (Value.pointer (some { block := 0, off := 118 })), Value.int IntKind.u64 19, Value.pointer (some { block := w.heap.size + 1 + 1 + 1 + 1, off := 0 }), Value.pointer none, Value.bool false, Value.bool false, Value.bool false, Value.bool false, Value.bool false] 43)).alloc (Obj.cells #[Value.iface 122 (Value.pointer (some { block := 0, off := 118 })), Value.int IntKind.u64 19, Value.pointer (some { block := w.heap.size + 1 + 1 + 1 + 1, off := 0 }), Value.pointer none, Value.bool false, Value.bool false, Value.bool false, Value.bool false, Value.bool false] 43)).alloc (Obj.cells #[Value.iface 122 (Value.pointer (some { block := 0, off := 118 })), Value.int IntKind.u64 19, Value.pointer (some { block := w.heap.size + 1 + 1 + 1 + 1, off := 0 }), Value.pointer none, Value.bool false, Value.bool false, Value.bool false, Value.bool false, Value.bool false] 43)).alloc (Obj.cells #[Value.iface 122 (Value.pointer (some { block := 0, off := 118 })), Value.int IntKind.u64 19, Value.pointer (some { block := w.heap.size + 1 + 1 + 1 + 1, off := 0 }), Value.pointer none, Value.bool false, Value.bool false, Value.bool false, Value.bool false, Value.bool false] 43)).alloc (Obj.cells #[Value.pointer none, Value.pointer none, Value.map none, Value.pointer none, Value.pointer none, Value.int IntKind.i64 0, Value.pointer none, Value.pointer none, Value.int IntKind.i64 0, Value.int IntKind.i64 0, Value.bool false, Value.bool false, Value.bool false, Value.bool false] 83)) = w' := by
  go_enter Tryz.func109, Tryz.ntmps109
  go_wp2_with (first | (go_at_call 115; ((with_reducible refine (no_118 _ _).mono ?_); rintro e w' ⟨rfl, rfl⟩)))
  exact bodyPost_ret (v := (Value.agg #[Value.iface 122 (Value.pointer (some { block := 0, off := 118 })), Value.int IntKind.u64 19, Value.pointer (some { block := w.heap.size + 1 + 1 + 1 + 1, off := 0 }), Value.pointer none, Value.bool false, Value.bool false, Value.bool false, Value.bool false, Value.bool false])) (by simp [results, Tryz.results109, go_sem]) rfl ⟨rfl, rfl⟩

theorem sample_0  (w : World)  : Calls Tryz.prog 17 #[.int .i64 0] w fun e w' => e = .returned (Value.agg #[Value.iface 122 (Value.pointer (some { block := 0, off := 113 })), Value.int IntKind.u64 19, Value.pointer (some { block := w.heap.size + 1 + 1 + 1 + 1 + 1, off := 0 }), Value.pointer none, Value.bool false, Value.bool false, Value.bool false, Value.bool false, Value.bool false]) ∧ ((((((w.alloc (Obj.cells #[Value.iface 122 (Value.pointer (some { block := 0, off := 113 })), Value.int IntKind.u64 19, Value.pointer (some { block := w.heap.size + 1 + 1 + 1 + 1 + 1, off := 0 }), Value.pointer none, Value.bool false, Value.bool false, Value.bool false, Value.bool false, Value.bool false] 43)).alloc (Obj.cells #[Value.iface 122 (Value.pointer (some { block := 0, off := 113 })), Value.int IntKind.u64 19, Value.pointer (some { block := w.heap.size + 1 + 1 + 1 + 1 + 1, off := 0 }), Value.pointer none, Value.bool false, Value.bool false, Value.bool false, Value.bool false, Value.bool false] 43)).alloc (Obj.cells #[Value.iface 122 (Value.pointer (some { block := 0, off := 113 })), Value.int IntKind.u64 19, Value.pointer (some { block := w.heap.size + 1 + 1 + 1 + 1 + 1, off := 0 }), Value.pointer none, Value.bool false, Value.bool false, Value.bool false, Value.bool false, Value.bool false] 43)).alloc (Obj.cells #[Value.iface 122 (Value.pointer (some { block := 0, off := 113 })), Value.int IntKind.u64 19, Value.pointer (some { block := w.heap.size + 1 + 1 + 1 + 1 + 1, off := 0 }), Value.pointer none, Value.bool false, Value.bool false, Value.bool false, Value.bool false, Value.bool false] 43)).alloc (Obj.cells #[Value.iface 122 (Value.pointer (some { block := 0, off := 113 })), Value.int IntKind.u64 19, Value.pointer (some { block := w.heap.size + 1 + 1 + 1 + 1 + 1, off := 0 }), Value.pointer none, Value.bool false, Value.bool false, Value.bool false, Value.bool false, Value.bool false] 43)).alloc (Obj.cells #[Value.pointer none, Value.pointer none, Value.map none, Value.pointer none, Value.pointer none, Value.int IntKind.i64 0, Value.pointer none, Value.pointer none, Value.int IntKind.i64 0, Value.int IntKind.i64 0, Value.bool false, Value.bool false, Value.bool false, Value.bool false] 83)) = w' := by
  go_enter Tryz.func17, Tryz.ntmps17
  go_wp2_with (first | (go_at_call 104; ((with_reducible refine (c_104 _).mono ?_); rintro e w' ⟨rfl, rfl⟩)))
  exact bodyPost_ret (v := (Value.agg #[Value.iface 122 (Value.pointer (some { block := 0, off := 113 })), Value.int IntKind.u64 19, Value.pointer (some { block := w.heap.size + 1 + 1 + 1 + 1 + 1, off := 0 }), Value.pointer none, Value.bool false, Value.bool false, Value.bool false, Value.bool false, Value.bool false])) (by simp [results, Tryz.results17, go_sem]) rfl ⟨rfl, rfl⟩

theorem sample_1  (w : World)  : Calls Tryz.prog 17 #[.int .i64 1] w fun e w' => e = .returned (Value.agg #[Value.iface 122 (Value.pointer (some { block := 0, off := 114 })), Value.int IntKind.u64 19, Value.pointer (some { block := w.heap.size + 1 + 1 + 1 + 1 + 1, off := 0 }), Value.pointer none, Value.bool false, Value.bool false, Value.bool false, Value.bool false, Value.bool false]) ∧ ((((((w.alloc (Obj.cells #[Value.iface 122 (Value.pointer (some { block := 0, off := 114 })), Value.int IntKind.u64 19, Value.pointer (some { block := w.heap.size + 1 + 1 + 1 + 1 + 1, off := 0 }), Value.pointer none, Value.bool false, Value.bool false, Value.bool false, Value.bool false, Value.bool false] 43)).alloc (Obj.cells #[Value.iface 122 (Value.pointer (some { block := 0, off := 114 })), Value.int IntKind.u64 19, Value.pointer (some { block := w.heap.size + 1 + 1 + 1 + 1 + 1, off := 0 }), Value.pointer none, Value.bool false, Value.bool false, Value.bool false, Value.bool false, Value.bool false] 43)).alloc (Obj.cells #[Value.iface 122 (Value.pointer (some { block := 0, off := 114 })), Value.int IntKind.u64 19, Value.pointer (some { block := w.heap.size + 1 + 1 + 1 + 1 + 1, off := 0 }), Value.pointer none, Value.bool false, Value.bool false, Value.bool false, Value.bool false, Value.bool false] 43)).alloc (Obj.cells #[Value.iface 122 (Value.pointer (some { block := 0, off := 114 })), Value.int IntKind.u64 19, Value.pointer (some { block := w.heap.size + 1 + 1 + 1 + 1 + 1, off := 0 }), Value.pointer none, Value.bool false, Value.bool false, Value.bool false, Value.bool false, Value.bool false] 43)).alloc (Obj.cells #[Value.iface 122 (Value.pointer (some { block := 0, off := 114 })), Value.int IntKind.u64 19, Value.pointer (some { block := w.heap.size + 1 + 1 + 1 + 1 + 1, off := 0 }), Value.pointer none, Value.bool false, Value.bool false, Value.bool false, Value.bool false, Value.bool false] 43)).alloc (Obj.cells #[Value.pointer none, Value.pointer none, Value.map none, Value.pointer none, Value.pointer none, Value.int IntKind.i64 0, Value.pointer none, Value.pointer none, Value.int IntKind.i64 0, Value.int IntKind.i64 0, Value.bool false, Value.bool false, Value.bool false, Value.bool false] 83)) = w' := by
  go_enter Tryz.func17, Tryz.ntmps17
  go_wp2_with (first | (go_at_call 105; ((with_reducible refine (c_105 _).mono ?_); rintro e w' ⟨rfl, rfl⟩)))
  exact bodyPost_ret (v := (Value.agg #[Value.iface 122 (Value.pointer (some { block := 0, off := 114 })), Value.int IntKind.u64 19, Value.pointer (some { block := w.heap.size + 1 + 1 + 1 + 1 + 1, off := 0 }), Value.pointer none, Value.bool false, Value.bool false, Value.bool false, Value.bool false, Value.bool false])) (by simp [results, Tryz.results17, go_sem]) rfl ⟨rfl, rfl⟩

theorem sample_2  (w : World)  : Calls Tryz.prog 17 #[.int .i64 2] w fun e w' => e = .returned (Value.agg #[Value.iface 122 (Value.pointer (some { block := 0, off := 115 })), Value.int IntKind.u64 19, Value.pointer (some { block := w.heap.size + 1 + 1 + 1 + 1 + 1, off := 0 }), Value.pointer none, Value.bool false, Value.bool false, Value.bool false, Value.bool false, Value.bool false]) ∧ ((((((w.alloc (Obj.cells #[Value.iface 122 (Value.pointer (some { block := 0, off := 115 })), Value.int IntKind.u64 19, Value.pointer (some { block := w.heap.size + 1 + 1 + 1 + 1 + 1, off := 0 }), Value.pointer none, Value.bool false, Value.bool false, Value.bool false, Value.bool false, Value.bool false] 43)).alloc (Obj.cells #[Value.iface 122 (Value.pointer (some { block := 0, off := 115 })), Value.int IntKind.u64 19, Value.pointer (some { block := w.heap.size + 1 + 1 + 1 + 1 + 1, off := 0 }), Value.pointer none, Value.bool false, Value.bool false, Value.bool false, Value.bool false, Value.bool false] 43)).alloc (Obj.cells #[Value.iface 122 (Value.pointer (some { block := 0, off := 115 })), Value.int IntKind.u64 19, Value.pointer (some { block := w.heap.size + 1 + 1 + 1 + 1 + 1, off := 0 }), Value.pointer none, Value.bool false, Value.bool false, Value.bool false, Value.bool false, Value.bool false] 43)).alloc (Obj.cells #[Value.iface 122 (Value.pointer (some { block := 0, off := 115 })), Value.int IntKind.u64 19, Value.pointer (some { block := w.heap.size + 1 + 1 + 1 + 1 + 1, off := 0 }), Value.pointer none, Value.bool false, Value.bool false, Value.bool false, Value.bool false, Value.bool false] 43)).alloc (Obj.cells #[Value.iface 122 (Value.pointer (some { block := 0, off := 115 })), Value.int IntKind.u64 19, Value.pointer (some { block := w.heap.size + 1 + 1 + 1 + 1 + 1, off := 0 }), Value.pointer none, Value.bool false, Value.bool false, Value.bool false, Value.bool false, Value.bool false] 43)).alloc (Obj.cells #[Value.pointer none, Value.pointer none, Value.map none, Value.pointer none, Value.pointer none, Value.int IntKind.i64 0, Value.pointer none, Value.pointer none, Value.int IntKind.i64 0, Value.int IntKind.i64 0, Value.bool false, Value.bool false, Value.bool false, Value.bool false] 83)) = w' := by
  go_enter Tryz.func17, Tryz.ntmps17
  go_wp2_with (first | (go_at_call 106; ((with_reducible refine (c_106 _).mono ?_); rintro e w' ⟨rfl, rfl⟩)))
  exact bodyPost_ret (v := (Value.agg #[Value.iface 122 (Value.pointer (some { block := 0, off := 115 })), Value.int IntKind.u64 19, Value.pointer (some { block := w.heap.size + 1 + 1 + 1 + 1 + 1, off := 0 }), Value.pointer none, Value.bool false, Value.bool false, Value.bool false, Value.bool false, Value.bool false])) (by simp [results, Tryz.results17, go_sem]) rfl ⟨rfl, rfl⟩

theorem sample_3  (w : World)  : Calls Tryz.prog 17 #[.int .i64 3] w fun e w' => e = .returned (Value.agg #[Value.iface 122 (Value.pointer (some { block := 0, off := 116 })), Value.int IntKind.u64 19, Value.pointer (some { block := w.heap.size + 1 + 1 + 1 + 1 + 1, off := 0 }), Value.pointer none, Value.bool false, Value.bool false, Value.bool false, Value.bool false, Value.bool false]) ∧ ((((((w.alloc (Obj.cells #[Value.iface 122 (Value.pointer (some { block := 0, off := 116 })), Value.int IntKind.u64 19, Value.pointer (some { block := w.heap.size + 1 + 1 + 1 + 1 + 1, off := 0 }), Value.pointer none, Value.bool false, Value.bool false, Value.bool false, Value.bool false, Value.bool false] 43)).alloc (Obj.cells #[Value.iface 122 (Value.pointer (some { block := 0, off := 116 })), Value.int IntKind.u64 19, Value.pointer (some { block := w.heap.size + 1 + 1 + 1 + 1 + 1, off := 0 }), Value.pointer none, Value.bool false, Value.bool false, Value.bool false, Value.bool false, Value.bool false] 43)).alloc (Obj.cells #[Value.iface 122 (Value.pointer (some { block := 0, off := 116 })), Value.int IntKind.u64 19, Value.pointer (some { block := w.heap.size + 1 + 1 + 1 + 1 + 1, off := 0 }), Value.pointer none, Value.bool false, Value.bool false, Value.bool false, Value.bool false, Value.bool false] 43)).alloc (Obj.cells #[Value.iface 122 (Value.pointer (some { block := 0, off := 116 })), Value.int IntKind.u64 19, Value.pointer (some { block := w.heap.size + 1 + 1 + 1 + 1 + 1, off := 0 }), Value.pointer none, Value.bool false, Value.bool false, Value.bool false, Value.bool false, Value.bool false] 43)).alloc (Obj.cells #[Value.iface 122 (Value.pointer (some { block := 0, off := 116 })), Value.int IntKind.u64 19, Value.pointer (some { block := w.heap.size + 1 + 1 + 1 + 1 + 1, off := 0 }), Value.pointer none, Value.bool false, Value.bool false, Value.bool false, Value.bool false, Value.bool false] 43)).alloc (Obj.cells #[Value.pointer none, Value.pointer none, Value.map none, Value.pointer none, Value.pointer none, Value.int IntKind.i64 0, Value.pointer none, Value.pointer none, Value.int IntKind.i64 0, Value.int IntKind.i64 0, Value.bool false, Value.bool false, Value.bool false, Value.bool false] 83)) = w' := by
  go_enter Tryz.func17, Tryz.ntmps17
  go_wp2_with (first | (go_at_call 107; ((with_reducible refine (c_107 _).mono ?_); rintro e w' ⟨rfl, rfl⟩)))
  exact bodyPost_ret (v := (Value.agg #[Value.iface 122 (Value.pointer (some { block := 0, off := 116 })), Value.int IntKind.u64 19, Value.pointer (some { block := w.heap.size + 1 + 1 + 1 + 1 + 1, off := 0 }), Value.pointer none, Value.bool false, Value.bool false, Value.bool false, Value.bool false, Value.bool false])) (by simp [results, Tryz.results17, go_sem]) rfl ⟨rfl, rfl⟩

theorem sample_4  (w : World)  : Calls Tryz.prog 17 #[.int .i64 4] w fun e w' => e = .returned (Value.agg #[Value.iface 122 (Value.pointer (some { block := 0, off := 117 })), Value.int IntKind.u64 19, Value.pointer (some { block := w.heap.size + 1 + 1 + 1 + 1 + 1, off := 0 }), Value.pointer none, Value.bool false, Value.bool false, Value.bool false, Value.bool false, Value.bool false]) ∧ ((((((w.alloc (Obj.cells #[Value.iface 122 (Value.pointer (some { block := 0, off := 117 })), Value.int IntKind.u64 19, Value.pointer (some { block := w.heap.size + 1 + 1 + 1 + 1 + 1, off := 0 }), Value.pointer none, Value.bool false, Value.bool false, Value.bool false, Value.bool false, Value.bool false] 43)).alloc (Obj.cells #[Value.iface 122 (Value.pointer (some { block := 0, off := 117 })), Value.int IntKind.u64 19, Value.pointer (some { block := w.heap.size + 1 + 1 + 1 + 1 + 1, off := 0 }), Value.pointer none, Value.bool false, Value.bool false, Value.bool false, Value.bool false, Value.bool false] 43)).alloc (Obj.cells #[Value.iface 122 (Value.pointer (some { block := 0, off := 117 })), Value.int IntKind.u64 19, Value.pointer (some { block := w.heap.size + 1 + 1 + 1 + 1 + 1, off := 0 }), Value.pointer none, Value.bool false, Value.bool false, Value.bool false, Value.bool false, Value.bool false] 43)).alloc (Obj.cells #[Value.iface 122 (Value.pointer (some { block := 0, off := 117 })), Value.int IntKind.u64 19, Value.pointer (some { block := w.heap.size + 1 + 1 + 1 + 1 + 1, off := 0 }), Value.pointer none, Value.bool false, Value.bool false, Value.bool false, Value.bool false, Value.bool false] 43)).alloc (Obj.cells #[Value.iface 122 (Value.pointer (some { block := 0, off := 117 })), Value.int IntKind.u64 19, Value.pointer (some { block := w.heap.size + 1 + 1 + 1 + 1 + 1, off := 0 }), Value.pointer none, Value.bool false, Value.bool false, Value.bool false, Value.bool false, Value.bool false] 43)).alloc (Obj.cells #[Value.pointer none, Value.pointer none, Value.map none, Value.pointer none, Value.pointer none, Value.int IntKind.i64 0, Value.pointer none, Value.pointer none, Value.int IntKind.i64 0, Value.int IntKind.i64 0, Value.bool false, Value.bool false, Value.bool false, Value.bool false] 83)) = w' := by
  go_enter Tryz.func17, Tryz.ntmps17
  go_wp2_with (first | (go_at_call 108; ((with_reducible refine (c_108 _).mono ?_); rintro e w' ⟨rfl, rfl⟩)))
  exact bodyPost_ret (v := (Value.agg #[Value.iface 122 (Value.pointer (some { block := 0, off := 117 })), Value.int IntKind.u64 19, Value.pointer (some { block := w.heap.size + 1 + 1 + 1 + 1 + 1, off := 0 }), Value.pointer none, Value.bool false, Value.bool false, Value.bool false, Value.bool false, Value.bool false])) (by simp [results, Tryz.results17, go_sem]) rfl ⟨rfl, rfl⟩

theorem sample_5  (w : World)  : Calls Tryz.prog 17 #[.int .i64 5] w fun e w' => e = .returned (Value.agg #[Value.iface 122 (Value.pointer (some { block := 0, off := 118 })), Value.int IntKind.u64 19, Value.pointer (some { block := w.heap.size + 1 + 1 + 1 + 1 + 1, off := 0 }), Value.pointer none, Value.bool false, Value.bool false, Value.bool false, Value.bool false, Value.bool false]) ∧ ((((((w.alloc (Obj.cells #[Value.iface 122 (Value.pointer (some { block := 0, off := 118 })), Value.int IntKind.u64 19, Value.pointer (some { block := w.heap.size + 1 + 1 + 1 + 1 + 1, off := 0 }), Value.pointer none, Value.bool false, Value.bool false, Value.bool false, Value.bool false, Value.bool false] 43)).alloc (Obj.cells #[Value.iface 122 (Value.pointer (some { block := 0, off := 118 })), Value.int IntKind.u64 19, Value.pointer (some { block := w.heap.size + 1 + 1 + 1 + 1 + 1, off := 0 }), Value.pointer none, Value.bool false, Value.bool false, Value.bool false, Value.bool false, Value.bool false] 43)).alloc (Obj.cells #[Value.iface 122 (Value.pointer (some { block := 0, off := 118 })), Value.int IntKind.u64 19, Value.pointer (some { block := w.heap.size + 1 + 1 + 1 + 1 + 1, off := 0 }), Value.pointer none, Value.bool false, Value.bool false, Value.bool false, Value.bool false, Value.bool false] 43)).alloc (Obj.cells #[Value.iface 122 (Value.pointer (some { block := 0, off := 118 })), Value.int IntKind.u64 19, Value.pointer (some { block := w.heap.size + 1 + 1 + 1 + 1 + 1, off := 0 }), Value.pointer none, Value.bool false, Value.bool false, Value.bool false, Value.bool false, Value.bool false] 43)).alloc (Obj.cells #[Value.iface 122 (Value.pointer (some { block := 0, off := 118 })), Value.int IntKind.u64 19, Value.pointer (some { block := w.heap.size + 1 + 1 + 1 + 1 + 1, off := 0 }), Value.pointer none, Value.bool false, Value.bool false, Value.bool false, Value.bool false, Value.bool false] 43)).alloc (Obj.cells #[Value.pointer none, Value.pointer none, Value.map none, Value.pointer none, Value.pointer none, Value.int IntKind.i64 0, Value.pointer none, Value.pointer none, Value.int IntKind.i64 0, Value.int IntKind.i64 0, Value.bool false, Value.bool false, Value.bool false, Value.bool false] 83)) = w' := by
  go_enter Tryz.func17, Tryz.ntmps17
  go_wp2_with (first | (go_at_call 109; ((with_reducible refine (c_109 _).mono ?_); rintro e w' ⟨rfl, rfl⟩)))
  exact bodyPost_ret (v := (Value.agg #[Value.iface 122 (Value.pointer (some { block := 0, off := 118 })), Value.int IntKind.u64 19, Value.pointer (some { block := w.heap.size + 1 + 1 + 1 + 1 + 1, off := 0 }), Value.pointer none, Value.bool false, Value.bool false, Value.bool false, Value.bool false, Value.bool false])) (by simp [results, Tryz.results17, go_sem]) rfl ⟨rfl, rfl⟩

@[go_sem] theorem out_113_0 (w : World) : (callFunc 256 #[.pointer (some ⟨0, 113, none⟩), .int .i64 0]).run Tryz.prog w = .ok (.value (.iface 122 (.pointer (some ⟨0, 3, none⟩)))) w := by kernel_rfl

@[go_sem] theorem out_113_1 (w : World) : (callFunc 256 #[.pointer (some ⟨0, 113, none⟩), .int .i64 1]).run Tryz.prog w = .ok (.value (.iface 122 (.pointer (some ⟨0, 27, none⟩)))) w := by kernel_rfl

@[go_sem] theorem out_113_2 (w : World) : (callFunc 256 #[.pointer (some ⟨0, 113, none⟩), .int .i64 2]).run Tryz.prog w = .ok (.value (.iface 122 (.pointer (some ⟨0, 9, none⟩)))) w := by kernel_rfl

@[go_sem] theorem out_113_3 (w : World) : (callFunc 256 #[.pointer (some ⟨0, 113, none⟩), .int .i64 3]).run Tryz.prog w = .ok (.value (.iface 122 (.pointer (some ⟨0, 4, none⟩)))) w := by kernel_rfl

@[go_sem] theorem out_113_4 (w : World) : (callFunc 256 #[.pointer (some ⟨0, 113, none⟩), .int .i64 4]).run Tryz.prog w = .ok (.value (.iface 122 (.pointer (some ⟨0, 35, none⟩)))) w := by kernel_rfl

@[go_sem] theorem out_113_5 (w : World) : (callFunc 256 #[.pointer (some ⟨0, 113, none⟩), .int .i64 5]).run Tryz.prog w = .ok (.value (.iface 122 (.pointer (some ⟨0, 20, none⟩)))) w := by kernel_rfl

@[go_sem] theorem out_114_0 (w : World) : (callFunc 256 #[.pointer (some ⟨0, 114, none⟩), .int .i64 0]).run Tryz.prog w = .ok (.value (.iface 122 (.pointer (some ⟨0, 25, none⟩)))) w := by kernel_rfl

@[go_sem] theorem out_115_0 (w : World) : (callFunc 256 #[.pointer (some ⟨0, 115, none⟩), .int .i64 0]).run Tryz.prog w = .ok (.value (.iface 122 (.pointer (some ⟨0, 5, none⟩)))) w := by kernel_rfl

@[go_sem] theorem out_115_1 (w : World) : (callFunc 256 #[.pointer (some ⟨0, 115, none⟩), .int .i64 1]).run Tryz.prog w = .ok (.value (.iface 122 (.pointer (some ⟨0, 26, none⟩)))) w := by kernel_rfl

@[go_sem] theorem out_117_0 (w : World) : (callFunc 256 #[.pointer (some ⟨0, 117, none⟩), .int .i64 0]).run Tryz.prog w = .ok (.value (.iface 122 (.pointer (some ⟨0, 2, none⟩)))) w := by kernel_rfl

@[go_sem] theorem out_117_1 (w : World) : (callFunc 256 #[.pointer (some ⟨0, 117, none⟩), .int .i64 1]).run Tryz.prog w = .ok (.value (.iface 122 (.pointer (some ⟨0, 51, none⟩)))) w := by kernel_rfl

@[go_sem] theorem out_118_0 (w : World) : (callFunc 256 #[.pointer (some ⟨0, 118, none⟩), .int .i64 0]).run Tryz.prog w = .ok (.value (.iface 122 (.pointer (some ⟨0, 102, none⟩)))) w := by kernel_rfl

@[go_sem] theorem out_118_1 (w : World) : (callFunc 256 #[.pointer (some ⟨0, 118, none⟩), .int .i64 1]).run Tryz.prog w = .ok (.value (.iface 122 (.pointer (some ⟨0, 30, none⟩)))) w := by kernel_rfl

@[go_sem] theorem kind_51 (w : World) : (callFunc 246 #[.pointer (some ⟨0, 51, none⟩)]).run Tryz.prog w = .ok (.value (.int .u64 22)) w := by kernel_rfl

@[go_sem] theorem kind_35 (w : World) : (callFunc 246 #[.pointer (some ⟨0, 35, none⟩)]).run Tryz.prog w = .ok (.value (.int .u64 23)) w := by kernel_rfl

@[go_sem] theorem kind_4 (w : World) : (callFunc 246 #[.pointer (some ⟨0, 4, none⟩)]).run Tryz.prog w = .ok (.value (.int .u64 1)) w := by kernel_rfl

@[go_sem] theorem kind_25 (w : World) : (callFunc 246 #[.pointer (some ⟨0, 25, none⟩)]).run Tryz.prog w = .ok (.value (.int .u64 20)) w := by kernel_rfl

@[go_sem] theorem kind_26 (w : World) : (callFunc 246 #[.pointer (some ⟨0, 26, none⟩)]).run Tryz.prog w = .ok (.value (.int .u64 13)) w := by kernel_rfl

@[go_sem] theorem kind_27 (w : World) : (callFunc 246 #[.pointer (some ⟨0, 27, none⟩)]).run Tryz.prog w = .ok (.value (.int .u64 14)) w := by kernel_rfl

@[go_sem] theorem kind_3 (w : World) : (callFunc 246 #[.pointer (some ⟨0, 3, none⟩)]).run Tryz.prog w = .ok (.value (.int .u64 2)) w := by kernel_rfl

@[go_sem] theorem kind_2 (w : World) : (callFunc 246 #[.pointer (some ⟨0, 2, none⟩)]).run Tryz.prog w = .ok (.value (.int .u64 6)) w := by kernel_rfl

@[go_sem] theorem kind_20 (w : World) : (callFunc 246 #[.pointer (some ⟨0, 20, none⟩)]).run Tryz.prog w = .ok (.value (.int .u64 20)) w := by kernel_rfl

@[go_sem] theorem kind_102 (w : World) : (callFunc 246 #[.pointer (some ⟨0, 102, none⟩)]).run Tryz.prog w = .ok (.value (.int .u64 21)) w := by kernel_rfl

@[go_sem] theorem kind_9 (w : World) : (callFunc 246 #[.pointer (some ⟨0, 9, none⟩)]).run Tryz.prog w = .ok (.value (.int .u64 24)) w := by kernel_rfl

@[go_sem] theorem kind_30 (w : World) : (callFunc 246 #[.pointer (some ⟨0, 30, none⟩)]).run Tryz.prog w = .ok (.value (.int .u64 7)) w := by kernel_rfl

@[go_sem] theorem kind_5 (w : World) : (callFunc 246 #[.pointer (some ⟨0, 5, none⟩)]).run Tryz.prog w = .ok (.value (.int .u64 8)) w := by kernel_rfl

theorem bf_26  (w : World)  : Calls Tryz.prog 147 #[.iface 122 (.pointer (some ⟨0, 26, none⟩))] w fun e w' => e = .returned (Value.bool true) ∧ (w) = w' := by
  go_enter Tryz.func147, Tryz.ntmps147
  go_wp2
  exact bodyPost_ret (v := (Value.bool true)) (by simp [results, Tryz.results147, go_sem]) rfl ⟨rfl, rfl⟩

theorem bf_27  (w : World)  : Calls Tryz.prog 147 #[.iface 122 (.pointer (some ⟨0, 27, none⟩))] w fun e w' => e = .returned (Value.bool true) ∧ (w) = w' := by
  go_enter Tryz.func147, Tryz.ntmps147
  go_wp2
  exact bodyPost_ret (v := (Value.bool true)) (by simp [results, Tryz.results147, go_sem]) rfl ⟨rfl, rfl⟩

theorem bi_3  (w : World)  : Calls Tryz.prog 146 #[.iface 122 (.pointer (some ⟨0, 3, none⟩))] w fun e w' => e = .returned (Value.bool true) ∧ (w) = w' := by
  go_enter Tryz.func146, Tryz.ntmps146
  go_wp2
  exact bodyPost_ret (v := (Value.bool true)) (by simp [results, Tryz.results146, go_sem]) rfl ⟨rfl, rfl⟩

theorem bi_2  (w : World)  : Calls Tryz.prog 146 #[.iface 122 (.pointer (some ⟨0, 2, none⟩))] w fun e w' => e = .returned (Value.bool true) ∧ (w) = w' := by
  go_enter Tryz.func146, Tryz.ntmps146
  go_wp2
  exact bodyPost_ret (v := (Value.bool true)) (by simp [results, Tryz.results146, go_sem]) rfl ⟨rfl, rfl⟩

theorem bi_30  (w : World)  : Calls Tryz.prog 146 #[.iface 122 (.pointer (some ⟨0, 30, none⟩))] w fun e w' => e = .returned (Value.bool true) ∧ (w) = w' := by
  go_enter Tryz.func146, Tryz.ntmps146
  go_wp2
  exact bodyPost_ret (v := (Value.bool true)) (by simp [results, Tryz.results146, go_sem]) rfl ⟨rfl, rfl⟩

theorem bi_5  (w : World)  : Calls Tryz.prog 146 #[.iface 122 (.pointer (some ⟨0, 5, none⟩))] w fun e w' => e = .returned (Value.bool true) ∧ (w) = w' := by
  go_enter Tryz.func146, Tryz.ntmps146
  go_wp2
  exact bodyPost_ret (v := (Value.bool true)) (by simp [results, Tryz.results146, go_sem]) rfl ⟨rfl, rfl⟩

theorem from_51 (c : Option Addr) (w : World) : Calls Tryz.prog 137 #[.pointer c, .iface 122 (.pointer (some ⟨0, 51, none⟩))] w fun e w' => e = .returned (.agg #[.iface 122 (.pointer (some ⟨0, 51, none⟩)), .int .u64 22, .pointer none, .pointer none, .bool false, .bool false, .bool false, .bool false, .bool false]) ∧ w.alloc (.cells #[.iface 122 (.pointer (some ⟨0, 51, none⟩)), .int .u64 22, .pointer none, .pointer none, .bool false, .bool false, .bool false, .bool false, .bool false] 43) = w' :=
  from_plain c 51 22 kind_51 rfl rfl rfl rfl rfl rfl rfl rfl rfl rfl rfl rfl rfl rfl rfl w

theorem from_35 (c : Option Addr) (w : World) : Calls Tryz.prog 137 #[.pointer c, .iface 122 (.pointer (some ⟨0, 35, none⟩))] w fun e w' => e = .returned (.agg #[.iface 122 (.pointer (some ⟨0, 35, none⟩)), .int .u64 23, .pointer none, .pointer none, .bool false, .bool false, .bool false, .bool false, .bool false]) ∧ w.alloc (.cells #[.iface 122 (.pointer (some ⟨0, 35, none⟩)), .int .u64 23, .pointer none, .pointer none, .bool false, .bool false, .bool false, .bool false, .bool false] 43) = w' :=
  from_plain c 35 23 kind_35 rfl rfl rfl rfl rfl rfl rfl rfl rfl rfl rfl rfl rfl rfl rfl w

theorem from_4 (c : Option Addr) (w : World) : Calls Tryz.prog 137 #[.pointer c, .iface 122 (.pointer (some ⟨0, 4, none⟩))] w fun e w' => e = .returned (.agg #[.iface 122 (.pointer (some ⟨0, 4, none⟩)), .int .u64 1, .pointer none, .pointer none, .bool false, .bool false, .bool false, .bool false, .bool false]) ∧ w.alloc (.cells #[.iface 122 (.pointer (some ⟨0, 4, none⟩)), .int .u64 1, .pointer none, .pointer none, .bool false, .bool false, .bool false, .bool false, .bool false] 43) = w' :=
  from_plain c 4 1 kind_4 rfl rfl rfl rfl rfl rfl rfl rfl rfl rfl rfl rfl rfl rfl rfl w

theorem from_25 (c : Option Addr) (w : World) : Calls Tryz.prog 137 #[.pointer c, .iface 122 (.pointer (some ⟨0, 25, none⟩))] w fun e w' => e = .returned (.agg #[.iface 122 (.pointer (some ⟨0, 25, none⟩)), .int .u64 20, .pointer none, .pointer none, .bool false, .bool false, .bool false, .bool false, .bool false]) ∧ w.alloc (.cells #[.iface 122 (.pointer (some ⟨0, 25, none⟩)), .int .u64 20, .pointer none, .pointer none, .bool false, .bool false, .bool false, .bool false, .bool false] 43) = w' :=
  from_plain c 25 20 kind_25 rfl rfl rfl rfl rfl rfl rfl rfl rfl rfl rfl rfl rfl rfl rfl w

theorem from_20 (c : Option Addr) (w : World) : Calls Tryz.prog 137 #[.pointer c, .iface 122 (.pointer (some ⟨0, 20, none⟩))] w fun e w' => e = .returned (.agg #[.iface 122 (.pointer (some ⟨0, 20, none⟩)), .int .u64 20, .pointer none, .pointer none, .bool false, .bool false, .bool false, .bool false, .bool false]) ∧ w.alloc (.cells #[.iface 122 (.pointer (some ⟨0, 20, none⟩)), .int .u64 20, .pointer none, .pointer none, .bool false, .bool false, .bool false, .bool false, .bool false] 43) = w' :=
  from_plain c 20 20 kind_20 rfl rfl rfl rfl rfl rfl rfl rfl rfl rfl rfl rfl rfl rfl rfl w

theorem from_102 (c : Option Addr) (w : World) : Calls Tryz.prog 137 #[.pointer c, .iface 122 (.pointer (some ⟨0, 102, none⟩))] w fun e w' => e = .returned (.agg #[.iface 122 (.pointer (some ⟨0, 102, none⟩)), .int .u64 21, .pointer none, .pointer none, .bool false, .bool false, .bool false, .bool false, .bool false]) ∧ w.alloc (.cells #[.iface 122 (.pointer (some ⟨0, 102, none⟩)), .int .u64 21, .pointer none, .pointer none, .bool false, .bool false, .bool false, .bool false, .bool false] 43) = w' :=
  from_plain c 102 21 kind_102 rfl rfl rfl rfl rfl rfl rfl rfl rfl rfl rfl rfl rfl rfl rfl w

theorem from_9 (c : Option Addr) (w : World) : Calls Tryz.prog 137 #[.pointer c, .iface 122 (.pointer (some ⟨0, 9, none⟩))] w fun e w' => e = .returned (.agg #[.iface 122 (.pointer (some ⟨0, 9, none⟩)), .int .u64 24, .pointer none, .pointer none, .bool false, .bool false, .bool false, .bool false, .bool false]) ∧ w.alloc (.cells #[.iface 122 (.pointer (some ⟨0, 9, none⟩)), .int .u64 24, .pointer none, .pointer none, .bool false, .bool false, .bool false, .bool false, .bool false] 43) = w' :=
  from_plain c 9 24 kind_9 rfl rfl rfl rfl rfl rfl rfl rfl rfl rfl rfl rfl rfl rfl rfl w

theorem from_26 (c : Option Addr) (w : World)  : Calls Tryz.prog 137 #[.pointer c, .iface 122 (.pointer (some ⟨0, 26, none⟩))] w fun e w' => e = .returned (Value.agg #[Value.iface 122 (Value.pointer (some { block := 0, off := 26 })), Value.int IntKind.u64 13, Value.pointer none, Value.pointer none, Value.bool false, Value.bool false, Value.bool false, Value.bool false, Value.bool true]) ∧ (w.alloc (Obj.cells #[Value.iface 122 (Value.pointer (some { block := 0, off := 26 })), Value.int IntKind.u64 13, Value.pointer none, Value.pointer none, Value.bool false, Value.bool false, Value.bool false, Value.bool false, Value.bool true] 43)) = w' := by
  go_enter Tryz.func137, Tryz.ntmps137
  go_wp2_with (first | (go_at_call 147; ((with_reducible refine (bf_26 _).mono ?_); rintro e w' ⟨rfl, rfl⟩)))
  exact bodyPost_ret (v := (Value.agg #[Value.iface 122 (Value.pointer (some { block := 0, off := 26 })), Value.int IntKind.u64 13, Value.pointer none, Value.pointer none, Value.bool false, Value.bool false, Value.bool false, Value.bool false, Value.bool true])) (by simp [results, Tryz.results137, go_sem]) rfl ⟨rfl, rfl⟩

theorem from_27 (c : Option Addr) (w : World)  : Calls Tryz.prog 137 #[.pointer c, .iface 122 (.pointer (some ⟨0, 27, none⟩))] w fun e w' => e = .returned (Value.agg #[Value.iface 122 (Value.pointer (some { block := 0, off := 27 })), Value.int IntKind.u64 14, Value.pointer none, Value.pointer none, Value.bool false, Value.bool false, Value.bool false, Value.bool false, Value.bool true]) ∧ (w.alloc (Obj.cells #[Value.iface 122 (Value.pointer (some { block := 0, off := 27 })), Value.int IntKind.u64 14, Value.pointer none, Value.pointer none, Value.bool false, Value.bool false, Value.bool false, Value.bool false, Value.bool true] 43)) = w' := by
  go_enter Tryz.func137, Tryz.ntmps137
  go_wp2_with (first | (go_at_call 147; ((with_reducible refine (bf_27 _).mono ?_); rintro e w' ⟨rfl, rfl⟩)))
  exact bodyPost_ret (v := (Value.agg #[Value.iface 122 (Value.pointer (some { block := 0, off := 27 })), Value.int IntKind.u64 14, Value.pointer none, Value.pointer none, Value.bool false, Value.bool false, Value.bool false, Value.bool false, Value.bool true])) (by simp [results, Tryz.results137, go_sem]) rfl ⟨rfl, rfl⟩

theorem from_3 (c : Option Addr) (w : World)  : Calls Tryz.prog 137 #[.pointer c, .iface 122 (.pointer (some ⟨0, 3, none⟩))] w fun e w' => e = .returned (Value.agg #[Value.iface 122 (Value.pointer (some { block := 0, off := 3 })), Value.int IntKind.u64 2, Value.pointer none, Value.pointer none, Value.bool false, Value.bool false, Value.bool false, Value.bool true, Value.bool false]) ∧ (w.alloc (Obj.cells #[Value.iface 122 (Value.pointer (some { block := 0, off := 3 })), Value.int IntKind.u64 2, Value.pointer none, Value.pointer none, Value.bool false, Value.bool false, Value.bool false, Value.bool true, Value.bool false] 43)) = w' := by
  go_enter Tryz.func137, Tryz.ntmps137
  go_wp2_with (first | (go_at_call 146; ((with_reducible refine (bi_3 _).mono ?_); rintro e w' ⟨rfl, rfl⟩)))
  exact bodyPost_ret (v := (Value.agg #[Value.iface 122 (Value.pointer (some { block := 0, off := 3 })), Value.int IntKind.u64 2, Value.pointer none, Value.pointer none, Value.bool false, Value.bool false, Value.bool false, Value.bool true, Value.bool false])) (by simp [results, Tryz.results137, go_sem]) rfl ⟨rfl, rfl⟩

theorem from_2 (c : Option Addr) (w : World)  : Calls Tryz.prog 137 #[.pointer c, .iface 122 (.pointer (some ⟨0, 2, none⟩))] w fun e w' => e = .returned (Value.agg #[Value.iface 122 (Value.pointer (some { block := 0, off := 2 })), Value.int IntKind.u64 6, Value.pointer none, Value.pointer none, Value.bool false, Value.bool false, Value.bool false, Value.bool true, Value.bool false]) ∧ (w.alloc (Obj.cells #[Value.iface 122 (Value.pointer (some { block := 0, off := 2 })), Value.int IntKind.u64 6, Value.pointer none, Value.pointer none, Value.bool false, Value.bool false, Value.bool false, Value.bool true, Value.bool false] 43)) = w' := by
  go_enter Tryz.func137, Tryz.ntmps137
  go_wp2_with (first | (go_at_call 146; ((with_reducible refine (bi_2 _).mono ?_); rintro e w' ⟨rfl, rfl⟩)))
  exact bodyPost_ret (v := (Value.agg #[Value.iface 122 (Value.pointer (some { block := 0, off := 2 })), Value.int IntKind.u64 6, Value.pointer none, Value.pointer none, Value.bool false, Value.bool false, Value.bool false, Value.bool true, Value.bool false])) (by simp [results, Tryz.results137, go_sem]) rfl ⟨rfl, rfl⟩

theorem from_30 (c : Option Addr) (w : World)  : Calls Tryz.prog 137 #[.pointer c, .iface 122 (.pointer (some ⟨0, 30, none⟩))] w fun e w' => e = .returned (Value.agg #[Value.iface 122 (Value.pointer (some { block := 0, off := 30 })), Value.int IntKind.u64 7, Value.pointer none, Value.pointer none, Value.bool false, Value.bool false, Value.bool false, Value.bool true, Value.bool false]) ∧ (w.alloc (Obj.cells #[Value.iface 122 (Value.pointer (some { block := 0, off := 30 })), Value.int IntKind.u64 7, Value.pointer none, Value.pointer none, Value.bool false, Value.bool false, Value.bool false, Value.bool true, Value.bool false] 43)) = w' := by
  go_enter Tryz.func137, Tryz.ntmps137
  go_wp2_with (first | (go_at_call 146; ((with_reducible refine (bi_30 _).mono ?_); rintro e w' ⟨rfl, rfl⟩)))
  exact bodyPost_ret (v := (Value.agg #[Value.iface 122 (Value.pointer (some { block := 0, off := 30 })), Value.int IntKind.u64 7, Value.pointer none, Value.pointer none, Value.bool false, Value.bool false, Value.bool false, Value.bool true, Value.bool false])) (by simp [results, Tryz.results137, go_sem]) rfl ⟨rfl, rfl⟩

theorem from_5 (c : Option Addr) (w : World)  : Calls Tryz.prog 137 #[.pointer c, .iface 122 (.pointer (some ⟨0, 5, none⟩))] w fun e w' => e = .returned (Value.agg #[Value.iface 122 (Value.pointer (some { block := 0, off := 5 })), Value.int IntKind.u64 8, Value.pointer none, Value.pointer none, Value.bool false, Value.bool false, Value.bool false, Value.bool true, Value.bool false]) ∧ (w.alloc (Obj.cells #[Value.iface 122 (Value.pointer (some { block := 0, off := 5 })), Value.int IntKind.u64 8, Value.pointer none, Value.pointer none, Value.bool false, Value.bool false, Value.bool false, Value.bool true, Value.bool false] 43)) = w' := by
  go_enter Tryz.func137, Tryz.ntmps137
  go_wp2_with (first | (go_at_call 146; ((with_reducible refine (bi_5 _).mono ?_); rintro e w' ⟨rfl, rfl⟩)))
  exact bodyPost_ret (v := (Value.agg #[Value.iface 122 (Value.pointer (some { block := 0, off := 5 })), Value.int IntKind.u64 8, Value.pointer none, Value.pointer none, Value.bool false, Value.bool false, Value.bool false, Value.bool true, Value.bool false])) (by simp [results, Tryz.results137, go_sem]) rfl ⟨rfl, rfl⟩

@[go_sem] theorem str_51 (w : World) : (callFunc 264 #[.pointer (some ⟨0, 51, none⟩)]).run Tryz.prog w = .ok (.value (.string ⟨#[42, 105, 110, 116]⟩)) w := by kernel_rfl

@[go_sem] theorem str_35 (w : World) : (callFunc 264 #[.pointer (some ⟨0, 35, none⟩)]).run Tryz.prog w = .ok (.value (.string ⟨#[91, 93, 117, 105, 110, 116, 56]⟩)) w := by kernel_rfl

@[go_sem] theorem str_4 (w : World) : (callFunc 264 #[.pointer (some ⟨0, 4, none⟩)]).run Tryz.prog w = .ok (.value (.string ⟨#[98, 111, 111, 108]⟩)) w := by kernel_rfl

@[go_sem] theorem str_25 (w : World) : (callFunc 264 #[.pointer (some ⟨0, 25, none⟩)]).run Tryz.prog w = .ok (.value (.string ⟨#[101, 114, 114, 111, 114]⟩)) w := by kernel_rfl

@[go_sem] theorem str_26 (w : World) : (callFunc 264 #[.pointer (some ⟨0, 26, none⟩)]).run Tryz.prog w = .ok (.value (.string ⟨#[102, 108, 111, 97, 116, 51, 50]⟩)) w := by kernel_rfl

@[go_sem] theorem str_27 (w : World) : (callFunc 264 #[.pointer (some ⟨0, 27, none⟩)]).run Tryz.prog w = .ok (.value (.string ⟨#[102, 108, 111, 97, 116, 54, 52]⟩)) w := by kernel_rfl

@[go_sem] theorem str_3 (w : World) : (callFunc 264 #[.pointer (some ⟨0, 3, none⟩)]).run Tryz.prog w = .ok (.value (.string ⟨#[105, 110, 116]⟩)) w := by kernel_rfl

@[go_sem] theorem str_2 (w : World) : (callFunc 264 #[.pointer (some ⟨0, 2, none⟩)]).run Tryz.prog w = .ok (.value (.string ⟨#[105, 110, 116, 54, 52]⟩)) w := by kernel_rfl

@[go_sem] theorem str_20 (w : World) : (callFunc 264 #[.pointer (some ⟨0, 20, none⟩)]).run Tryz.prog w = .ok (.value (.string ⟨#[105, 110, 116, 101, 114, 102, 97, 99, 101, 32, 123, 125]⟩)) w := by kernel_rfl

@[go_sem] theorem str_102 (w : World) : (callFunc 264 #[.pointer (some ⟨0, 102, none⟩)]).run Tryz.prog w = .ok (.value (.string ⟨#[109, 97, 112, 91, 115, 116, 114, 105, 110, 103, 93, 105, 110, 116, 101, 114, 102, 97, 99, 101, 32, 123, 125]⟩)) w := by kernel_rfl

@[go_sem] theorem str_9 (w : World) : (callFunc 264 #[.pointer (some ⟨0, 9, none⟩)]).run Tryz.prog w = .ok (.value (.string ⟨#[115, 116, 114, 105, 110, 103]⟩)) w := by kernel_rfl

@[go_sem] theorem str_30 (w : World) : (callFunc 264 #[.pointer (some ⟨0, 30, none⟩)]).run Tryz.prog w = .ok (.value (.string ⟨#[117, 105, 110, 116]⟩)) w := by kernel_rfl

@[go_sem] theorem str_5 (w : World) : (callFunc 264 #[.pointer (some ⟨0, 5, none⟩)]).run Tryz.prog w = .ok (.value (.string ⟨#[117, 105, 110, 116, 56]⟩)) w := by kernel_rfl

theorem string_at (b t : Nat) (s : ByteArray) (w : World) (hs : ∀ v, (callFunc 264 #[.pointer (some ⟨0, t, none⟩)]).run Tryz.prog v = .ok (.value (.string s)) v) (h : w.cell? ⟨b, 0, none⟩ = some (.iface 122 (.pointer (some ⟨0, t, none⟩)))) : Calls Tryz.prog 90 #[.pointer (some ⟨b, 0, none⟩)] w fun e w' => e = .returned (.string s) ∧ w' = w := by
  go_enter Tryz.func90, Tryz.ntmps90
  go_wp2
  go_ret
  exact ⟨rfl, rfl⟩

theorem kn_n51 (w : World) : Calls Tryz.prog 112 #[.string ⟨#[42, 105, 110, 116]⟩] w fun e w' => e = .returned (.int .u64 22) ∧ w' = w := by
  go_enter Tryz.func112, Tryz.ntmps112
  go_wp2
  go_ret
  exact ⟨rfl, rfl⟩

theorem in_n51 (w : World) : Calls Tryz.prog 113 #[.string ⟨#[42, 105, 110, 116]⟩] w fun e w' => e = .returned (.bool false) ∧ w' = w := by
  go_enter Tryz.func113, Tryz.ntmps113
  go_wp2
  go_ret
  exact ⟨rfl, rfl⟩

theorem fl_n51 (w : World) : Calls Tryz.prog 114 #[.string ⟨#[42, 105, 110, 116]⟩] w fun e w' => e = .returned (.bool false) ∧ w' = w := by
  go_enter Tryz.func114, Tryz.ntmps114
  go_wp2
  go_ret
  exact ⟨rfl, rfl⟩

theorem kn_n35 (w : World) : Calls Tryz.prog 112 #[.string ⟨#[91, 93, 117, 105, 110, 116, 56]⟩] w fun e w' => e = .returned (.int .u64 23) ∧ w' = w := by
  go_enter Tryz.func112, Tryz.ntmps112
  go_wp2
  go_ret
  exact ⟨rfl, rfl⟩

theorem in_n35 (w : World) : Calls Tryz.prog 113 #[.string ⟨#[91, 93, 117, 105, 110, 116, 56]⟩] w fun e w' => e = .returned (.bool false) ∧ w' = w := by
  go_enter Tryz.func113, Tryz.ntmps113
  go_wp2
  go_ret
  exact ⟨rfl, rfl⟩

theorem fl_n35 (w : World) : Calls Tryz.prog 114 #[.string ⟨#[91, 93, 117, 105, 110, 116, 56]⟩] w fun e w' => e = .returned (.bool false) ∧ w' = w := by
  go_enter Tryz.func114, Tryz.ntmps114
  go_wp2
  go_ret
  exact ⟨rfl, rfl⟩

theorem kn_n4 (w : World) : Calls Tryz.prog 112 #[.string ⟨#[98, 111, 111, 108]⟩] w fun e w' => e = .returned (.int .u64 1) ∧ w' = w := by
  go_enter Tryz.func112, Tryz.ntmps112
  go_wp2
  go_ret
  exact ⟨rfl, rfl⟩

theorem in_n4 (w : World) : Calls Tryz.prog 113 #[.string ⟨#[98, 111, 111, 108]⟩] w fun e w' => e = .returned (.bool false) ∧ w' = w := by
  go_enter Tryz.func113, Tryz.ntmps113
  go_wp2
  go_ret
  exact ⟨rfl, rfl⟩

theorem fl_n4 (w : World) : Calls Tryz.prog 114 #[.string ⟨#[98, 111, 111, 108]⟩] w fun e w' => e = .returned (.bool false) ∧ w' = w := by
  go_enter Tryz.func114, Tryz.ntmps114
  go_wp2
  go_ret
  exact ⟨rfl, rfl⟩

theorem kn_n25 (w : World) : Calls Tryz.prog 112 #[.string ⟨#[101, 114, 114, 111, 114]⟩] w fun e w' => e = .returned (.int .u64 20) ∧ w' = w := by
  go_enter Tryz.func112, Tryz.ntmps112
  go_wp2
  go_ret
  exact ⟨rfl, rfl⟩

theorem in_n25 (w : World) : Calls Tryz.prog 113 #[.string ⟨#[101, 114, 114, 111, 114]⟩] w fun e w' => e = .returned (.bool false) ∧ w' = w := by
  go_enter Tryz.func113, Tryz.ntmps113
  go_wp2
  go_ret
  exact ⟨rfl, rfl⟩

theorem fl_n25 (w : World) : Calls Tryz.prog 114 #[.string ⟨#[101, 114, 114, 111, 114]⟩] w fun e w' => e = .returned (.bool false) ∧ w' = w := by
  go_enter Tryz.func114, Tryz.ntmps114
  go_wp2
  go_ret
  exact ⟨rfl, rfl⟩

theorem kn_n26 (w : World) : Calls Tryz.prog 112 #[.string ⟨#[102, 108, 111, 97, 116, 51, 50]⟩] w fun e w' => e = .returned (.int .u64 13) ∧ w' = w := by
  go_enter Tryz.func112, Tryz.ntmps112
  go_wp2
  go_ret
  exact ⟨rfl, rfl⟩

theorem in_n26 (w : World) : Calls Tryz.prog 113 #[.string ⟨#[102, 108, 111, 97, 116, 51, 50]⟩] w fun e w' => e = .returned (.bool false) ∧ w' = w := by
  go_enter Tryz.func113, Tryz.ntmps113
  go_wp2
  go_ret
  exact ⟨rfl, rfl⟩

theorem fl_n26 (w : World) : Calls Tryz.prog 114 #[.string ⟨#[102, 108, 111, 97, 116, 51, 50]⟩] w fun e w' => e = .returned (.bool true) ∧ w' = w := by
  go_enter Tryz.func114, Tryz.ntmps114
  go_wp2
  go_ret
  exact ⟨rfl, rfl⟩

theorem kn_n27 (w : World) : Calls Tryz.prog 112 #[.string ⟨#[102, 108, 111, 97, 116, 54, 52]⟩] w fun e w' => e = .returned (.int .u64 14) ∧ w' = w := by
  go_enter Tryz.func112, Tryz.ntmps112
  go_wp2
  go_ret
  exact ⟨rfl, rfl⟩

theorem in_n27 (w : World) : Calls Tryz.prog 113 #[.string ⟨#[102, 108, 111, 97, 116, 54, 52]⟩] w fun e w' => e = .returned (.bool false) ∧ w' = w := by
  go_enter Tryz.func113, Tryz.ntmps113
  go_wp2
  go_ret
  exact ⟨rfl, rfl⟩

theorem fl_n27 (w : World) : Calls Tryz.prog 114 #[.string ⟨#[102, 108, 111, 97, 116, 54, 52]⟩] w fun e w' => e = .returned (.bool true) ∧ w' = w := by
  go_enter Tryz.func114, Tryz.ntmps114
  go_wp2
  go_ret
  exact ⟨rfl, rfl⟩

theorem kn_n3 (w : World) : Calls Tryz.prog 112 #[.string ⟨#[105, 110, 116]⟩] w fun e w' => e = .returned (.int .u64 2) ∧ w' = w := by
  go_enter Tryz.func112, Tryz.ntmps112
  go_wp2
  go_ret
  exact ⟨rfl, rfl⟩

theorem in_n3 (w : World) : Calls Tryz.prog 113 #[.string ⟨#[105, 110, 116]⟩] w fun e w' => e = .returned (.bool true) ∧ w' = w := by
  go_enter Tryz.func113, Tryz.ntmps113
  go_wp2
  go_ret
  exact ⟨rfl, rfl⟩

theorem fl_n3 (w : World) : Calls Tryz.prog 114 #[.string ⟨#[105, 110, 116]⟩] w fun e w' => e = .returned (.bool false) ∧ w' = w := by
  go_enter Tryz.func114, Tryz.ntmps114
  go_wp2
  go_ret
  exact ⟨rfl, rfl⟩

theorem kn_n2 (w : World) : Calls Tryz.prog 112 #[.string ⟨#[105, 110, 116, 54, 52]⟩] w fun e w' => e = .returned (.int .u64 6) ∧ w' = w := by
  go_enter Tryz.func112, Tryz.ntmps112
  go_wp2
  go_ret
  exact ⟨rfl, rfl⟩

theorem in_n2 (w : World) : Calls Tryz.prog 113 #[.string ⟨#[105, 110, 116, 54, 52]⟩] w fun e w' => e = .returned (.bool true) ∧ w' = w := by
  go_enter Tryz.func113, Tryz.ntmps113
  go_wp2
  go_ret
  exact ⟨rfl, rfl⟩

theorem fl_n2 (w : World) : Calls Tryz.prog 114 #[.string ⟨#[105, 110, 116, 54, 52]⟩] w fun e w' => e = .returned (.bool false) ∧ w' = w := by
  go_enter Tryz.func114, Tryz.ntmps114
  go_wp2
  go_ret
  exact ⟨rfl, rfl⟩

theorem kn_n20 (w : World) : Calls Tryz.prog 112 #[.string ⟨#[105, 110, 116, 101, 114, 102, 97, 99, 101, 32, 123, 125]⟩] w fun e w' => e = .returned (.int .u64 20) ∧ w' = w := by
  go_enter Tryz.func112, Tryz.ntmps112
  go_wp2
  go_ret
  exact ⟨rfl, rfl⟩

theorem in_n20 (w : World) : Calls Tryz.prog 113 #[.string ⟨#[105, 110, 116, 101, 114, 102, 97, 99, 101, 32, 123, 125]⟩] w fun e w' => e = .returned (.bool false) ∧ w' = w := by
  go_enter Tryz.func113, Tryz.ntmps113
  go_wp2
  go_ret
  exact ⟨rfl, rfl⟩

theorem fl_n20 (w : World) : Calls Tryz.prog 114 #[.string ⟨#[105, 110, 116, 101, 114, 102, 97, 99, 101, 32, 123, 125]⟩] w fun e w' => e = .returned (.bool false) ∧ w' = w := by
  go_enter Tryz.func114, Tryz.ntmps114
  go_wp2
  go_ret
  exact ⟨rfl, rfl⟩

theorem kn_n102 (w : World) : Calls Tryz.prog 112 #[.string ⟨#[109, 97, 112, 91, 115, 116, 114, 105, 110, 103, 93, 105, 110, 116, 101, 114, 102, 97, 99, 101, 32, 123, 125]⟩] w fun e w' => e = .returned (.int .u64 21) ∧ w' = w := by
  go_enter Tryz.func112, Tryz.ntmps112
  go_wp2
  go_ret
  exact ⟨rfl, rfl⟩

theorem in_n102 (w : World) : Calls Tryz.prog 113 #[.string ⟨#[109, 97, 112, 91, 115, 116, 114, 105, 110, 103, 93, 105, 110, 116, 101, 114, 102, 97, 99, 101, 32, 123, 125]⟩] w fun e w' => e = .returned (.bool false) ∧ w' = w := by
  go_enter Tryz.func113, Tryz.ntmps113
  go_wp2
  go_ret
  exact ⟨rfl, rfl⟩

theorem fl_n102 (w : World) : Calls Tryz.prog 114 #[.string ⟨#[109, 97, 112, 91, 115, 116, 114, 105, 110, 103, 93, 105, 110, 116, 101, 114, 102, 97, 99, 101, 32, 123, 125]⟩] w fun e w' => e = .returned (.bool false) ∧ w' = w := by
  go_enter Tryz.func114, Tryz.ntmps114
  go_wp2
  go_ret
  exact ⟨rfl, rfl⟩

theorem kn_n9 (w : World) : Calls Tryz.prog 112 #[.string ⟨#[115, 116, 114, 105, 110, 103]⟩] w fun e w' => e = .returned (.int .u64 24) ∧ w' = w := by
  go_enter Tryz.func112, Tryz.ntmps112
  go_wp2
  go_ret
  exact ⟨rfl, rfl⟩

theorem in_n9 (w : World) : Calls Tryz.prog 113 #[.string ⟨#[115, 116, 114, 105, 110, 103]⟩] w fun e w' => e = .returned (.bool false) ∧ w' = w := by
  go_enter Tryz.func113, Tryz.ntmps113
  go_wp2
  go_ret
  exact ⟨rfl, rfl⟩

theorem fl_n9 (w : World) : Calls Tryz.prog 114 #[.string ⟨#[115, 116, 114, 105, 110, 103]⟩] w fun e w' => e = .returned (.bool false) ∧ w' = w := by
  go_enter Tryz.func114, Tryz.ntmps114
  go_wp2
  go_ret
  exact ⟨rfl, rfl⟩

theorem kn_n30 (w : World) : Calls Tryz.prog 112 #[.string ⟨#[117, 105, 110, 116]⟩] w fun e w' => e = .returned (.int .u64 7) ∧ w' = w := by
  go_enter Tryz.func112, Tryz.ntmps112
  go_wp2
  go_ret
  exact ⟨rfl, rfl⟩

theorem in_n30 (w : World) : Calls Tryz.prog 113 #[.string ⟨#[117, 105, 110, 116]⟩] w fun e w' => e = .returned (.bool true) ∧ w' = w := by
  go_enter Tryz.func113, Tryz.ntmps113
  go_wp2
  go_ret
  exact ⟨rfl, rfl⟩

theorem fl_n30 (w : World) : Calls Tryz.prog 114 #[.string ⟨#[117, 105, 110, 116]⟩] w fun e w' => e = .returned (.bool false) ∧ w' = w := by
  go_enter Tryz.func114, Tryz.ntmps114
  go_wp2
  go_ret
  exact ⟨rfl, rfl⟩

theorem kn_n5 (w : World) : Calls Tryz.prog 112 #[.string ⟨#[117, 105, 110, 116, 56]⟩] w fun e w' => e = .returned (.int .u64 8) ∧ w' = w := by
  go_enter Tryz.func112, Tryz.ntmps112
  go_wp2
  go_ret
  exact ⟨rfl, rfl⟩

theorem in_n5 (w : World) : Calls Tryz.prog 113 #[.string ⟨#[117, 105, 110, 116, 56]⟩] w fun e w' => e = .returned (.bool true) ∧ w' = w := by
  go_enter Tryz.func113, Tryz.ntmps113
  go_wp2
  go_ret
  exact ⟨rfl, rfl⟩

theorem fl_n5 (w : World) : Calls Tryz.prog 114 #[.string ⟨#[117, 105, 110, 116, 56]⟩] w fun e w' => e = .returned (.bool false) ∧ w' = w := by
  go_enter Tryz.func114, Tryz.ntmps114
  go_wp2
  go_ret
  exact ⟨rfl, rfl⟩

theorem mn_0_0 (w : World) : Calls Tryz.prog 111 #[.int .i64 0, .int .i64 0] w fun e w' => e = .returned (.string ⟨#[105, 110, 116]⟩) ∧ w' = w := by
  go_enter Tryz.func111, Tryz.ntmps111
  go_wp2
  go_ret
  exact ⟨rfl, rfl⟩

theorem mm_0_0 (w : World) : Calls Tryz.prog 20 #[.agg #[.iface 122 (.pointer (some ⟨0, 3, none⟩)), .int .u64 2, .pointer none, .pointer none, .bool false, .bool false, .bool false, .bool true, .bool false], .int .i64 0, .int .i64 0] w fun e w' => e = .returned (.bool true) ∧ ∃ n, (w.alloc (.cells #[.iface 122 (.pointer (some ⟨0, 3, none⟩)), .int .u64 2, .pointer none, .pointer none, .bool false, .bool false, .bool false, .bool true, .bool false] 43)).drewN n = w' := by
  go_enter Tryz.func20, Tryz.ntmps20
  go_wp2_with (go_at_call 111; refine (mn_0_0 _).mono ?_; rintro e w' ⟨rfl, rfl⟩)
  go_quiet ((first | (go_at_call 90; exact Calls.quiet_of_same (string_at _ 3 _ _ str_3 (by simp))) | (go_at_call 112; exact Calls.quiet_of_same (kn_n3 _)) | (go_at_call 113; exact Calls.quiet_of_same (in_n3 _)) | (go_at_call 114; exact Calls.quiet_of_same (fl_n3 _))))
  go_wp2
  go_ret
  exact ⟨rfl, _, rfl⟩

theorem mn_0_1 (w : World) : Calls Tryz.prog 111 #[.int .i64 0, .int .i64 1] w fun e w' => e = .returned (.string ⟨#[102, 108, 111, 97, 116, 54, 52]⟩) ∧ w' = w := by
  go_enter Tryz.func111, Tryz.ntmps111
  go_wp2
  go_ret
  exact ⟨rfl, rfl⟩

theorem mm_0_1 (w : World) : Calls Tryz.prog 20 #[.agg #[.iface 122 (.pointer (some ⟨0, 27, none⟩)), .int .u64 14, .pointer none, .pointer none, .bool false, .bool false, .bool false, .bool false, .bool true], .int .i64 0, .int .i64 1] w fun e w' => e = .returned (.bool true) ∧ ∃ n, (w.alloc (.cells #[.iface 122 (.pointer (some ⟨0, 27, none⟩)), .int .u64 14, .pointer none, .pointer none, .bool false, .bool false, .bool false, .bool false, .bool true] 43)).drewN n = w' := by
  go_enter Tryz.func20, Tryz.ntmps20
  go_wp2_with (go_at_call 111; refine (mn_0_1 _).mono ?_; rintro e w' ⟨rfl, rfl⟩)
  go_quiet ((first | (go_at_call 90; exact Calls.quiet_of_same (string_at _ 27 _ _ str_27 (by simp))) | (go_at_call 112; exact Calls.quiet_of_same (kn_n27 _)) | (go_at_call 113; exact Calls.quiet_of_same (in_n27 _)) | (go_at_call 114; exact Calls.quiet_of_same (fl_n27 _))))
  go_wp2
  go_ret
  exact ⟨rfl, _, rfl⟩

theorem mn_0_2 (w : World) : Calls Tryz.prog 111 #[.int .i64 0, .int .i64 2] w fun e w' => e = .returned (.string ⟨#[115, 116, 114, 105, 110, 103]⟩) ∧ w' = w := by
  go_enter Tryz.func111, Tryz.ntmps111
  go_wp2
  go_ret
  exact ⟨rfl, rfl⟩

theorem mm_0_2 (w : World) : Calls Tryz.prog 20 #[.agg #[.iface 122 (.pointer (some ⟨0, 9, none⟩)), .int .u64 24, .pointer none, .pointer none, .bool false, .bool false, .bool false, .bool false, .bool false], .int .i64 0, .int .i64 2] w fun e w' => e = .returned (.bool true) ∧ ∃ n, (w.alloc (.cells #[.iface 122 (.pointer (some ⟨0, 9, none⟩)), .int .u64 24, .pointer none, .pointer none, .bool false, .bool false, .bool false, .bool false, .bool false] 43)).drewN n = w' := by
  go_enter Tryz.func20, Tryz.ntmps20
  go_wp2_with (go_at_call 111; refine (mn_0_2 _).mono ?_; rintro e w' ⟨rfl, rfl⟩)
  go_quiet ((first | (go_at_call 90; exact Calls.quiet_of_same (string_at _ 9 _ _ str_9 (by simp))) | (go_at_call 112; exact Calls.quiet_of_same (kn_n9 _)) | (go_at_call 113; exact Calls.quiet_of_same (in_n9 _)) | (go_at_call 114; exact Calls.quiet_of_same (fl_n9 _))))
  go_wp2
  go_ret
  exact ⟨rfl, _, rfl⟩

theorem mn_0_3 (w : World) : Calls Tryz.prog 111 #[.int .i64 0, .int .i64 3] w fun e w' => e = .returned (.string ⟨#[98, 111, 111, 108]⟩) ∧ w' = w := by
  go_enter Tryz.func111, Tryz.ntmps111
  go_wp2
  go_ret
  exact ⟨rfl, rfl⟩

theorem mm_0_3 (w : World) : Calls Tryz.prog 20 #[.agg #[.iface 122 (.pointer (some ⟨0, 4, none⟩)), .int .u64 1, .pointer none, .pointer none, .bool false, .bool false, .bool false, .bool false, .bool false], .int .i64 0, .int .i64 3] w fun e w' => e = .returned (.bool true) ∧ ∃ n, (w.alloc (.cells #[.iface 122 (.pointer (some ⟨0, 4, none⟩)), .int .u64 1, .pointer none, .pointer none, .bool false, .bool false, .bool false, .bool false, .bool false] 43)).drewN n = w' := by
  go_enter Tryz.func20, Tryz.ntmps20
  go_wp2_with (go_at_call 111; refine (mn_0_3 _).mono ?_; rintro e w' ⟨rfl, rfl⟩)
  go_quiet ((first | (go_at_call 90; exact Calls.quiet_of_same (string_at _ 4 _ _ str_4 (by simp))) | (go_at_call 112; exact Calls.quiet_of_same (kn_n4 _)) | (go_at_call 113; exact Calls.quiet_of_same (in_n4 _)) | (go_at_call 114; exact Calls.quiet_of_same (fl_n4 _))))
  go_wp2
  go_ret
  exact ⟨rfl, _, rfl⟩

theorem mn_0_4 (w : World) : Calls Tryz.prog 111 #[.int .i64 0, .int .i64 4] w fun e w' => e = .returned (.string ⟨#[91, 93, 117, 105, 110, 116, 56]⟩) ∧ w' = w := by
  go_enter Tryz.func111, Tryz.ntmps111
  go_wp2
  go_ret
  exact ⟨rfl, rfl⟩

theorem mm_0_4 (w : World) : Calls Tryz.prog 20 #[.agg #[.iface 122 (.pointer (some ⟨0, 35, none⟩)), .int .u64 23, .pointer none, .pointer none, .bool false, .bool false, .bool false, .bool false, .bool false], .int .i64 0, .int .i64 4] w fun e w' => e = .returned (.bool true) ∧ ∃ n, (w.alloc (.cells #[.iface 122 (.pointer (some ⟨0, 35, none⟩)), .int .u64 23, .pointer none, .pointer none, .bool false, .bool false, .bool false, .bool false, .bool false] 43)).drewN n = w' := by
  go_enter Tryz.func20, Tryz.ntmps20
  go_wp2_with (go_at_call 111; refine (mn_0_4 _).mono ?_; rintro e w' ⟨rfl, rfl⟩)
  go_quiet ((first | (go_at_call 90; exact Calls.quiet_of_same (string_at _ 35 _ _ str_35 (by simp))) | (go_at_call 112; exact Calls.quiet_of_same (kn_n35 _)) | (go_at_call 113; exact Calls.quiet_of_same (in_n35 _)) | (go_at_call 114; exact Calls.quiet_of_same (fl_n35 _))))
  go_wp2
  go_ret
  exact ⟨rfl, _, rfl⟩

theorem mn_0_5 (w : World) : Calls Tryz.prog 111 #[.int .i64 0, .int .i64 5] w fun e w' => e = .returned (.string ⟨#[105, 110, 116, 101, 114, 102, 97, 99, 101, 32, 123, 125]⟩) ∧ w' = w := by
  go_enter Tryz.func111, Tryz.ntmps111
  go_wp2
  go_ret
  exact ⟨rfl, rfl⟩

theorem mm_0_5 (w : World) : Calls Tryz.prog 20 #[.agg #[.iface 122 (.pointer (some ⟨0, 20, none⟩)), .int .u64 20, .pointer none, .pointer none, .bool false, .bool false, .bool false, .bool false, .bool false], .int .i64 0, .int .i64 5] w fun e w' => e = .returned (.bool true) ∧ ∃ n, (w.alloc (.cells #[.iface 122 (.pointer (some ⟨0, 20, none⟩)), .int .u64 20, .pointer none, .pointer none, .bool false, .bool false, .bool false, .bool false, .bool false] 43)).drewN n = w' := by
  go_enter Tryz.func20, Tryz.ntmps20
  go_wp2_with (go_at_call 111; refine (mn_0_5 _).mono ?_; rintro e w' ⟨rfl, rfl⟩)
  go_quiet ((first | (go_at_call 90; exact Calls.quiet_of_same (string_at _ 20 _ _ str_20 (by simp))) | (go_at_call 112; exact Calls.quiet_of_same (kn_n20 _)) | (go_at_call 113; exact Calls.quiet_of_same (in_n20 _)) | (go_at_call 114; exact Calls.quiet_of_same (fl_n20 _))))
  go_wp2
  go_ret
  exact ⟨rfl, _, rfl⟩

theorem mn_1_0 (w : World) : Calls Tryz.prog 111 #[.int .i64 1, .int .i64 0] w fun e w' => e = .returned (.string ⟨#[101, 114, 114, 111, 114]⟩) ∧ w' = w := by
  go_enter Tryz.func111, Tryz.ntmps111
  go_wp2
  go_ret
  exact ⟨rfl, rfl⟩

theorem mm_1_0 (w : World) : Calls Tryz.prog 20 #[.agg #[.iface 122 (.pointer (some ⟨0, 25, none⟩)), .int .u64 20, .pointer none, .pointer none, .bool false, .bool false, .bool false, .bool false, .bool false], .int .i64 1, .int .i64 0] w fun e w' => e = .returned (.bool true) ∧ ∃ n, (w.alloc (.cells #[.iface 122 (.pointer (some ⟨0, 25, none⟩)), .int .u64 20, .pointer none, .pointer none, .bool false, .bool false, .bool false, .bool false, .bool false] 43)).drewN n = w' := by
  go_enter Tryz.func20, Tryz.ntmps20
  go_wp2_with (go_at_call 111; refine (mn_1_0 _).mono ?_; rintro e w' ⟨rfl, rfl⟩)
  go_quiet ((first | (go_at_call 90; exact Calls.quiet_of_same (string_at _ 25 _ _ str_25 (by simp))) | (go_at_call 112; exact Calls.quiet_of_same (kn_n25 _)) | (go_at_call 113; exact Calls.quiet_of_same (in_n25 _)) | (go_at_call 114; exact Calls.quiet_of_same (fl_n25 _))))
  go_wp2
  go_ret
  exact ⟨rfl, _, rfl⟩

theorem mn_2_0 (w : World) : Calls Tryz.prog 111 #[.int .i64 2, .int .i64 0] w fun e w' => e = .returned (.string ⟨#[117, 105, 110, 116, 56]⟩) ∧ w' = w := by
  go_enter Tryz.func111, Tryz.ntmps111
  go_wp2
  go_ret
  exact ⟨rfl, rfl⟩

theorem mm_2_0 (w : World) : Calls Tryz.prog 20 #[.agg #[.iface 122 (.pointer (some ⟨0, 5, none⟩)), .int .u64 8, .pointer none, .pointer none, .bool false, .bool false, .bool false, .bool true, .bool false], .int .i64 2, .int .i64 0] w fun e w' => e = .returned (.bool true) ∧ ∃ n, (w.alloc (.cells #[.iface 122 (.pointer (some ⟨0, 5, none⟩)), .int .u64 8, .pointer none, .pointer none, .bool false, .bool false, .bool false, .bool true, .bool false] 43)).drewN n = w' := by
  go_enter Tryz.func20, Tryz.ntmps20
  go_wp2_with (go_at_call 111; refine (mn_2_0 _).mono ?_; rintro e w' ⟨rfl, rfl⟩)
  go_quiet ((first | (go_at_call 90; exact Calls.quiet_of_same (string_at _ 5 _ _ str_5 (by simp))) | (go_at_call 112; exact Calls.quiet_of_same (kn_n5 _)) | (go_at_call 113; exact Calls.quiet_of_same (in_n5 _)) | (go_at_call 114; exact Calls.quiet_of_same (fl_n5 _))))
  go_wp2
  go_ret
  exact ⟨rfl, _, rfl⟩

theorem mn_2_1 (w : World) : Calls Tryz.prog 111 #[.int .i64 2, .int .i64 1] w fun e w' => e = .returned (.string ⟨#[102, 108, 111, 97, 116, 51, 50]⟩) ∧ w' = w := by
  go_enter Tryz.func111, Tryz.ntmps111
  go_wp2
  go_ret
  exact ⟨rfl, rfl⟩

theorem mm_2_1 (w : World) : Calls Tryz.prog 20 #[.agg #[.iface 122 (.pointer (some ⟨0, 26, none⟩)), .int .u64 13, .pointer none, .pointer none, .bool false, .bool false, .bool false, .bool false, .bool true], .int .i64 2, .int .i64 1] w fun e w' => e = .returned (.bool true) ∧ ∃ n, (w.alloc (.cells #[.iface 122 (.pointer (some ⟨0, 26, none⟩)), .int .u64 13, .pointer none, .pointer none, .bool false, .bool false, .bool false, .bool false, .bool true] 43)).drewN n = w' := by
  go_enter Tryz.func20, Tryz.ntmps20
  go_wp2_with (go_at_call 111; refine (mn_2_1 _).mono ?_; rintro e w' ⟨rfl, rfl⟩)
  go_quiet ((first | (go_at_call 90; exact Calls.quiet_of_same (string_at _ 26 _ _ str_26 (by simp))) | (go_at_call 112; exact Calls.quiet_of_same (kn_n26 _)) | (go_at_call 113; exact Calls.quiet_of_same (in_n26 _)) | (go_at_call 114; exact Calls.quiet_of_same (fl_n26 _))))
  go_wp2
  go_ret
  exact ⟨rfl, _, rfl⟩

theorem mn_4_0 (w : World) : Calls Tryz.prog 111 #[.int .i64 4, .int .i64 0] w fun e w' => e = .returned (.string ⟨#[105, 110, 116, 54, 52]⟩) ∧ w' = w := by
  go_enter Tryz.func111, Tryz.ntmps111
  go_wp2
  go_ret
  exact ⟨rfl, rfl⟩

theorem mm_4_0 (w : World) : Calls Tryz.prog 20 #[.agg #[.iface 122 (.pointer (some ⟨0, 2, none⟩)), .int .u64 6, .pointer none, .pointer none, .bool false, .bool false, .bool false, .bool true, .bool false], .int .i64 4, .int .i64 0] w fun e w' => e = .returned (.bool true) ∧ ∃ n, (w.alloc (.cells #[.iface 122 (.pointer (some ⟨0, 2, none⟩)), .int .u64 6, .pointer none, .pointer none, .bool false, .bool false, .bool false, .bool true, .bool false] 43)).drewN n = w' := by
  go_enter Tryz.func20, Tryz.ntmps20
  go_wp2_with (go_at_call 111; refine (mn_4_0 _).mono ?_; rintro e w' ⟨rfl, rfl⟩)
  go_quiet ((first | (go_at_call 90; exact Calls.quiet_of_same (string_at _ 2 _ _ str_2 (by simp))) | (go_at_call 112; exact Calls.quiet_of_same (kn_n2 _)) | (go_at_call 113; exact Calls.quiet_of_same (in_n2 _)) | (go_at_call 114; exact Calls.quiet_of_same (fl_n2 _))))
  go_wp2
  go_ret
  exact ⟨rfl, _, rfl⟩

theorem mn_4_1 (w : World) : Calls Tryz.prog 111 #[.int .i64 4, .int .i64 1] w fun e w' => e = .returned (.string ⟨#[42, 105, 110, 116]⟩) ∧ w' = w := by
  go_enter Tryz.func111, Tryz.ntmps111
  go_wp2
  go_ret
  exact ⟨rfl, rfl⟩

theorem mm_4_1 (w : World) : Calls Tryz.prog 20 #[.agg #[.iface 122 (.pointer (some ⟨0, 51, none⟩)), .int .u64 22, .pointer none, .pointer none, .bool false, .bool false, .bool false, .bool false, .bool false], .int .i64 4, .int .i64 1] w fun e w' => e = .returned (.bool true) ∧ ∃ n, (w.alloc (.cells #[.iface 122 (.pointer (some ⟨0, 51, none⟩)), .int .u64 22, .pointer none, .pointer none, .bool false, .bool false, .bool false, .bool false, .bool false] 43)).drewN n = w' := by
  go_enter Tryz.func20, Tryz.ntmps20
  go_wp2_with (go_at_call 111; refine (mn_4_1 _).mono ?_; rintro e w' ⟨rfl, rfl⟩)
  go_quiet ((first | (go_at_call 90; exact Calls.quiet_of_same (string_at _ 51 _ _ str_51 (by simp))) | (go_at_call 112; exact Calls.quiet_of_same (kn_n51 _)) | (go_at_call 113; exact Calls.quiet_of_same (in_n51 _)) | (go_at_call 114; exact Calls.quiet_of_same (fl_n51 _))))
  go_wp2
  go_ret
  exact ⟨rfl, _, rfl⟩

theorem mn_5_0 (w : World) : Calls Tryz.prog 111 #[.int .i64 5, .int .i64 0] w fun e w' => e = .returned (.string ⟨#[109, 97, 112, 91, 115, 116, 114, 105, 110, 103, 93, 105, 110, 116, 101, 114, 102, 97, 99, 101, 32, 123, 125]⟩) ∧ w' = w := by
  go_enter Tryz.func111, Tryz.ntmps111
  go_wp2
  go_ret
  exact ⟨rfl, rfl⟩

theorem mm_5_0 (w : World) : Calls Tryz.prog 20 #[.agg #[.iface 122 (.pointer (some ⟨0, 102, none⟩)), .int .u64 21, .pointer none, .pointer none, .bool false, .bool false, .bool false, .bool false, .bool false], .int .i64 5, .int .i64 0] w fun e w' => e = .returned (.bool true) ∧ ∃ n, (w.alloc (.cells #[.iface 122 (.pointer (some ⟨0, 102, none⟩)), .int .u64 21, .pointer none, .pointer none, .bool false, .bool false, .bool false, .bool false, .bool false] 43)).drewN n = w' := by
  go_enter Tryz.func20, Tryz.ntmps20
  go_wp2_with (go_at_call 111; refine (mn_5_0 _).mono ?_; rintro e w' ⟨rfl, rfl⟩)
  go_quiet ((first | (go_at_call 90; exact Calls.quiet_of_same (string_at _ 102 _ _ str_102 (by simp))) | (go_at_call 112; exact Calls.quiet_of_same (kn_n102 _)) | (go_at_call 113; exact Calls.quiet_of_same (in_n102 _)) | (go_at_call 114; exact Calls.quiet_of_same (fl_n102 _))))
  go_wp2
  go_ret
  exact ⟨rfl, _, rfl⟩

theorem mn_5_1 (w : World) : Calls Tryz.prog 111 #[.int .i64 5, .int .i64 1] w fun e w' => e = .returned (.string ⟨#[117, 105, 110, 116]⟩) ∧ w' = w := by
  go_enter Tryz.func111, Tryz.ntmps111
  go_wp2
  go_ret
  exact ⟨rfl, rfl⟩

theorem mm_5_1 (w : World) : Calls Tryz.prog 20 #[.agg #[.iface 122 (.pointer (some ⟨0, 30, none⟩)), .int .u64 7, .pointer none, .pointer none, .bool false, .bool false, .bool false, .bool true, .bool false], .int .i64 5, .int .i64 1] w fun e w' => e = .returned (.bool true) ∧ ∃ n, (w.alloc (.cells #[.iface 122 (.pointer (some ⟨0, 30, none⟩)), .int .u64 7, .pointer none, .pointer none, .bool false, .bool false, .bool false, .bool true, .bool false] 43)).drewN n = w' := by
  go_enter Tryz.func20, Tryz.ntmps20
  go_wp2_with (go_at_call 111; refine (mn_5_1 _).mono ?_; rintro e w' ⟨rfl, rfl⟩)
  go_quiet ((first | (go_at_call 90; exact Calls.quiet_of_same (string_at _ 30 _ _ str_30 (by simp))) | (go_at_call 112; exact Calls.quiet_of_same (kn_n30 _)) | (go_at_call 113; exact Calls.quiet_of_same (in_n30 _)) | (go_at_call 114; exact Calls.quiet_of_same (fl_n30 _))))
  go_wp2
  go_ret
  exact ⟨rfl, _, rfl⟩

theorem bset {w v : World} {p : Addr} (h : Below w.heap.size w v) (hp : w.heap.size ≤ p.block) (u : Value) : Below w.heap.size w (v.setCell p u) := h.setCell hp u
theorem below_drewN {B : Nat} {a w : World} (h : Below B a w) (n : Nat) : Below B a (w.drewN n) := ⟨h.os, h.tape, h.output, h.size, h.block⟩
theorem case_0_0 (nc : Bool) (w : World) : Calls Tryz.prog 3 #[.int .i64 0, .int .i64 0, .bool nc] w fun e w' => e = .returned (.bool true) ∧ Below w.heap.size w w' := by
  cases nc
  all_goals
    go_enter Tryz.func3, Tryz.ntmps3
    go_wp2_with (first | (go_at_call 17; ((with_reducible refine (sample_0 _).mono ?_); rintro e w' ⟨rfl, rfl⟩)) | (go_at_call 18; go_in) | (go_at_call 16; go_in) | (go_at_call 51; go_in) | (go_at_call 19; go_in) | (go_at_call 110; go_in) | (go_at_call 137; ((with_reducible refine (from_3 _ _).mono ?_); rintro e w' ⟨rfl, rfl⟩)) | (go_at_call 20; ((with_reducible refine (mm_0_0 _).mono ?_); rintro e w' ⟨rfl, nn, rfl⟩)) | (go_at_call 20; ((with_reducible refine (mm_0_1 _).mono ?_); rintro e w' ⟨rfl, nn, rfl⟩)) | (go_at_call 20; ((with_reducible refine (mm_0_2 _).mono ?_); rintro e w' ⟨rfl, nn, rfl⟩)) | (go_at_call 20; ((with_reducible refine (mm_0_3 _).mono ?_); rintro e w' ⟨rfl, nn, rfl⟩)) | (go_at_call 20; ((with_reducible refine (mm_0_4 _).mono ?_); rintro e w' ⟨rfl, nn, rfl⟩)) | (go_at_call 20; ((with_reducible refine (mm_0_5 _).mono ?_); rintro e w' ⟨rfl, nn, rfl⟩)))
    refine bodyPost_ret (v := .agg #[.iface 122 (.pointer (some ⟨0, 3, none⟩)), .int .u64 2, .pointer none, .pointer none, .bool false, .bool false, .bool false, .bool true, .bool false]) (by simp [results, Tryz.results110, go_sem]) rfl ?_
    go_wp2_with (first | (go_at_call 17; ((with_reducible refine (sample_0 _).mono ?_); rintro e w' ⟨rfl, rfl⟩)) | (go_at_call 18; go_in) | (go_at_call 16; go_in) | (go_at_call 51; go_in) | (go_at_call 19; go_in) | (go_at_call 110; go_in) | (go_at_call 137; ((with_reducible refine (from_3 _ _).mono ?_); rintro e w' ⟨rfl, rfl⟩)) | (go_at_call 20; ((with_reducible refine (mm_0_0 _).mono ?_); rintro e w' ⟨rfl, nn, rfl⟩)) | (go_at_call 20; ((with_reducible refine (mm_0_1 _).mono ?_); rintro e w' ⟨rfl, nn, rfl⟩)) | (go_at_call 20; ((with_reducible refine (mm_0_2 _).mono ?_); rintro e w' ⟨rfl, nn, rfl⟩)) | (go_at_call 20; ((with_reducible refine (mm_0_3 _).mono ?_); rintro e w' ⟨rfl, nn, rfl⟩)) | (go_at_call 20; ((with_reducible refine (mm_0_4 _).mono ?_); rintro e w' ⟨rfl, nn, rfl⟩)) | (go_at_call 20; ((with_reducible refine (mm_0_5 _).mono ?_); rintro e w' ⟨rfl, nn, rfl⟩)))
    refine bodyPost_ret (v := .agg #[.iface 122 (.pointer (some ⟨0, 3, none⟩)), .int .u64 2, .pointer none, .pointer none, .bool false, .bool false, .bool false, .bool true, .bool false]) (by simp [results, Tryz.results19, go_sem]) rfl ?_
    go_wp2_with (first | (go_at_call 17; ((with_reducible refine (sample_0 _).mono ?_); rintro e w' ⟨rfl, rfl⟩)) | (go_at_call 18; go_in) | (go_at_call 16; go_in) | (go_at_call 51; go_in) | (go_at_call 19; go_in) | (go_at_call 110; go_in) | (go_at_call 137; ((with_reducible refine (from_3 _ _).mono ?_); rintro e w' ⟨rfl, rfl⟩)) | (go_at_call 20; ((with_reducible refine (mm_0_0 _).mono ?_); rintro e w' ⟨rfl, nn, rfl⟩)) | (go_at_call 20; ((with_reducible refine (mm_0_1 _).mono ?_); rintro e w' ⟨rfl, nn, rfl⟩)) | (go_at_call 20; ((with_reducible refine (mm_0_2 _).mono ?_); rintro e w' ⟨rfl, nn, rfl⟩)) | (go_at_call 20; ((with_reducible refine (mm_0_3 _).mono ?_); rintro e w' ⟨rfl, nn, rfl⟩)) | (go_at_call 20; ((with_reducible refine (mm_0_4 _).mono ?_); rintro e w' ⟨rfl, nn, rfl⟩)) | (go_at_call 20; ((with_reducible refine (mm_0_5 _).mono ?_); rintro e w' ⟨rfl, nn, rfl⟩)))
    go_ret
    refine ⟨rfl, ?_⟩
    repeat (first | refine bal ?_ _ | refine Below.drew ?_ | refine below_drewN ?_ _ | refine bset ?_ (by simp) _)
    exact Below.refl _ _
theorem case_0_1 (nc : Bool) (w : World) : Calls Tryz.prog 3 #[.int .i64 0, .int .i64 1, .bool nc] w fun e w' => e = .returned (.bool true) ∧ Below w.heap.size w w' := by
  cases nc
  all_goals
    go_enter Tryz.func3, Tryz.ntmps3
    go_wp2_with (first | (go_at_call 17; ((with_reducible refine (sample_0 _).mono ?_); rintro e w' ⟨rfl, rfl⟩)) | (go_at_call 18; go_in) | (go_at_call 16; go_in) | (go_at_call 51; go_in) | (go_at_call 19; go_in) | (go_at_call 110; go_in) | (go_at_call 137; ((with_reducible refine (from_27 _ _).mono ?_); rintro e w' ⟨rfl, rfl⟩)) | (go_at_call 20; ((with_reducible refine (mm_0_0 _).mono ?_); rintro e w' ⟨rfl, nn, rfl⟩)) | (go_at_call 20; ((with_reducible refine (mm_0_1 _).mono ?_); rintro e w' ⟨rfl, nn, rfl⟩)) | (go_at_call 20; ((with_reducible refine (mm_0_2 _).mono ?_); rintro e w' ⟨rfl, nn, rfl⟩)) | (go_at_call 20; ((with_reducible refine (mm_0_3 _).mono ?_); rintro e w' ⟨rfl, nn, rfl⟩)) | (go_at_call 20; ((with_reducible refine (mm_0_4 _).mono ?_); rintro e w' ⟨rfl, nn, rfl⟩)) | (go_at_call 20; ((with_reducible refine (mm_0_5 _).mono ?_); rintro e w' ⟨rfl, nn, rfl⟩)))
    refine bodyPost_ret (v := .agg #[.iface 122 (.pointer (some ⟨0, 27, none⟩)), .int .u64 14, .pointer none, .pointer none, .bool false, .bool false, .bool false, .bool false, .bool true]) (by simp [results, Tryz.results110, go_sem]) rfl ?_
    go_wp2_with (first | (go_at_call 17; ((with_reducible refine (sample_0 _).mono ?_); rintro e w' ⟨rfl, rfl⟩)) | (go_at_call 18; go_in) | (go_at_call 16; go_in) | (go_at_call 51; go_in) | (go_at_call 19; go_in) | (go_at_call 110; go_in) | (go_at_call 137; ((with_reducible refine (from_27 _ _).mono ?_); rintro e w' ⟨rfl, rfl⟩)) | (go_at_call 20; ((with_reducible refine (mm_0_0 _).mono ?_); rintro e w' ⟨rfl, nn, rfl⟩)) | (go_at_call 20; ((with_reducible refine (mm_0_1 _).mono ?_); rintro e w' ⟨rfl, nn, rfl⟩)) | (go_at_call 20; ((with_reducible refine (mm_0_2 _).mono ?_); rintro e w' ⟨rfl, nn, rfl⟩)) | (go_at_call 20; ((with_reducible refine (mm_0_3 _).mono ?_); rintro e w' ⟨rfl, nn, rfl⟩)) | (go_at_call 20; ((with_reducible refine (mm_0_4 _).mono ?_); rintro e w' ⟨rfl, nn, rfl⟩)) | (go_at_call 20; ((with_reducible refine (mm_0_5 _).mono ?_); rintro e w' ⟨rfl, nn, rfl⟩)))
    refine bodyPost_ret (v := .agg #[.iface 122 (.pointer (some ⟨0, 27, none⟩)), .int .u64 14, .pointer none, .pointer none, .bool false, .bool false, .bool false, .bool false, .bool true]) (by simp [results, Tryz.results19, go_sem]) rfl ?_
    go_wp2_with (first | (go_at_call 17; ((with_reducible refine (sample_0 _).mono ?_); rintro e w' ⟨rfl, rfl⟩)) | (go_at_call 18; go_in) | (go_at_call 16; go_in) | (go_at_call 51; go_in) | (go_at_call 19; go_in) | (go_at_call 110; go_in) | (go_at_call 137; ((with_reducible refine (from_27 _ _).mono ?_); rintro e w' ⟨rfl, rfl⟩)) | (go_at_call 20; ((with_reducible refine (mm_0_0 _).mono ?_); rintro e w' ⟨rfl, nn, rfl⟩)) | (go_at_call 20; ((with_reducible refine (mm_0_1 _).mono ?_); rintro e w' ⟨rfl, nn, rfl⟩)) | (go_at_call 20; ((with_reducible refine (mm_0_2 _).mono ?_); rintro e w' ⟨rfl, nn, rfl⟩)) | (go_at_call 20; ((with_reducible refine (mm_0_3 _).mono ?_); rintro e w' ⟨rfl, nn, rfl⟩)) | (go_at_call 20; ((with_reducible refine (mm_0_4 _).mono ?_); rintro e w' ⟨rfl, nn, rfl⟩)) | (go_at_call 20; ((with_reducible refine (mm_0_5 _).mono ?_); rintro e w' ⟨rfl, nn, rfl⟩)))
    go_ret
    refine ⟨rfl, ?_⟩
    repeat (first | refine bal ?_ _ | refine Below.drew ?_ | refine below_drewN ?_ _ | refine bset ?_ (by simp) _)
    exact Below.refl _ _
theorem case_0_2 (nc : Bool) (w : World) : Calls Tryz.prog 3 #[.int .i64 0, .int .i64 2, .bool nc] w fun e w' => e = .returned (.bool true) ∧ Below w.heap.size w w' := by
  cases nc
  all_goals
    go_enter Tryz.func3, Tryz.ntmps3
    go_wp2_with (first | (go_at_call 17; ((with_reducible refine (sample_0 _).mono ?_); rintro e w' ⟨rfl, rfl⟩)) | (go_at_call 18; go_in) | (go_at_call 16; go_in) | (go_at_call 51; go_in) | (go_at_call 19; go_in) | (go_at_call 110; go_in) | (go_at_call 137; ((with_reducible refine (from_9 _ _).mono ?_); rintro e w' ⟨rfl, rfl⟩)) | (go_at_call 20; ((with_reducible refine (mm_0_0 _).mono ?_); rintro e w' ⟨rfl, nn, rfl⟩)) | (go_at_call 20; ((with_reducible refine (mm_0_1 _).mono ?_); rintro e w' ⟨rfl, nn, rfl⟩)) | (go_at_call 20; ((with_reducible refine (mm_0_2 _).mono ?_); rintro e w' ⟨rfl, nn, rfl⟩)) | (go_at_call 20; ((with_reducible refine (mm_0_3 _).mono ?_); rintro e w' ⟨rfl, nn, rfl⟩)) | (go_at_call 20; ((with_reducible refine (mm_0_4 _).mono ?_); rintro e w' ⟨rfl, nn, rfl⟩)) | (go_at_call 20; ((with_reducible refine (mm_0_5 _).mono ?_); rintro e w' ⟨rfl, nn, rfl⟩)))
    refine bodyPost_ret (v := .agg #[.iface 122 (.pointer (some ⟨0, 9, none⟩)), .int .u64 24, .pointer none, .pointer none, .bool false, .bool false, .bool false, .bool false, .bool false]) (by simp [results, Tryz.results110, go_sem]) rfl ?_
    go_wp2_with (first | (go_at_call 17; ((with_reducible refine (sample_0 _).mono ?_); rintro e w' ⟨rfl, rfl⟩)) | (go_at_call 18; go_in) | (go_at_call 16; go_in) | (go_at_call 51; go_in) | (go_at_call 19; go_in) | (go_at_call 110; go_in) | (go_at_call 137; ((with_reducible refine (from_9 _ _).mono ?_); rintro e w' ⟨rfl, rfl⟩)) | (go_at_call 20; ((with_reducible refine (mm_0_0 _).mono ?_); rintro e w' ⟨rfl, nn, rfl⟩)) | (go_at_call 20; ((with_reducible refine (mm_0_1 _).mono ?_); rintro e w' ⟨rfl, nn, rfl⟩)) | (go_at_call 20; ((with_reducible refine (mm_0_2 _).mono ?_); rintro e w' ⟨rfl, nn, rfl⟩)) | (go_at_call 20; ((with_reducible refine (mm_0_3 _).mono ?_); rintro e w' ⟨rfl, nn, rfl⟩)) | (go_at_call 20; ((with_reducible refine (mm_0_4 _).mono ?_); rintro e w' ⟨rfl, nn, rfl⟩)) | (go_at_call 20; ((with_reducible refine (mm_0_5 _).mono ?_); rintro e w' ⟨rfl, nn, rfl⟩)))
    refine bodyPost_ret (v := .agg #[.iface 122 (.pointer (some ⟨0, 9, none⟩)), .int .u64 24, .pointer none, .pointer none, .bool false, .bool false, .bool false, .bool false, .bool false]) (by simp [results, Tryz.results19, go_sem]) rfl ?_
    go_wp2_with (first | (go_at_call 17; ((with_reducible refine (sample_0 _).mono ?_); rintro e w' ⟨rfl, rfl⟩)) | (go_at_call 18; go_in) | (go_at_call 16; go_in) | (go_at_call 51; go_in) | (go_at_call 19; go_in) | (go_at_call 110; go_in) | (go_at_call 137; ((with_reducible refine (from_9 _ _).mono ?_); rintro e w' ⟨rfl, rfl⟩)) | (go_at_call 20; ((with_reducible refine (mm_0_0 _).mono ?_); rintro e w' ⟨rfl, nn, rfl⟩)) | (go_at_call 20; ((with_reducible refine (mm_0_1 _).mono ?_); rintro e w' ⟨rfl, nn, rfl⟩)) | (go_at_call 20; ((with_reducible refine (mm_0_2 _).mono ?_); rintro e w' ⟨rfl, nn, rfl⟩)) | (go_at_call 20; ((with_reducible refine (mm_0_3 _).mono ?_); rintro e w' ⟨rfl, nn, rfl⟩)) | (go_at_call 20; ((with_reducible refine (mm_0_4 _).mono ?_); rintro e w' ⟨rfl, nn, rfl⟩)) | (go_at_call 20; ((with_reducible refine (mm_0_5 _).mono ?_); rintro e w' ⟨rfl, nn, rfl⟩)))
    go_ret
    refine ⟨rfl, ?_⟩
    repeat (first | refine bal ?_ _ | refine Below.drew ?_ | refine below_drewN ?_ _ | refine bset ?_ (by simp) _)
    exact Below.refl _ _
theorem case_0_3 (nc : Bool) (w : World) : Calls Tryz.prog 3 #[.int .i64 0, .int .i64 3, .bool nc] w fun e w' => e = .returned (.bool true) ∧ Below w.heap.size w w' := by
  cases nc
  all_goals
    go_enter Tryz.func3, Tryz.ntmps3
    go_wp2_with (first | (go_at_call 17; ((with_reducible refine (sample_0 _).mono ?_); rintro e w' ⟨rfl, rfl⟩)) | (go_at_call 18; go_in) | (go_at_call 16; go_in) | (go_at_call 51; go_in) | (go_at_call 19; go_in) | (go_at_call 110; go_in) | (go_at_call 137; ((with_reducible refine (from_4 _ _).mono ?_); rintro e w' ⟨rfl, rfl⟩)) | (go_at_call 20; ((with_reducible refine (mm_0_0 _).mono ?_); rintro e w' ⟨rfl, nn, rfl⟩)) | (go_at_call 20; ((with_reducible refine (mm_0_1 _).mono ?_); rintro e w' ⟨rfl, nn, rfl⟩)) | (go_at_call 20; ((with_reducible refine (mm_0_2 _).mono ?_); rintro e w' ⟨rfl, nn, rfl⟩)) | (go_at_call 20; ((with_reducible refine (mm_0_3 _).mono ?_); rintro e w' ⟨rfl, nn, rfl⟩)) | (go_at_call 20; ((with_reducible refine (mm_0_4 _).mono ?_); rintro e w' ⟨rfl, nn, rfl⟩)) | (go_at_call 20; ((with_reducible refine (mm_0_5 _).mono ?_); rintro e w' ⟨rfl, nn, rfl⟩)))
    refine bodyPost_ret (v := .agg #[.iface 122 (.pointer (some ⟨0, 4, none⟩)), .int .u64 1, .pointer none, .pointer none, .bool false, .bool false, .bool false, .bool false, .bool false]) (by simp [results, Tryz.results110, go_sem]) rfl ?_
    go_wp2_with (first | (go_at_call 17; ((with_reducible refine (sample_0 _).mono ?_); rintro e w' ⟨rfl, rfl⟩)) | (go_at_call 18; go_in) | (go_at_call 16; go_in) | (go_at_call 51; go_in) | (go_at_call 19; go_in) | (go_at_call 110; go_in) | (go_at_call 137; ((with_reducible refine (from_4 _ _).mono ?_); rintro e w' ⟨rfl, rfl⟩)) | (go_at_call 20; ((with_reducible refine (mm_0_0 _).mono ?_); rintro e w' ⟨rfl, nn, rfl⟩)) | (go_at_call 20; ((with_reducible refine (mm_0_1 _).mono ?_); rintro e w' ⟨rfl, nn, rfl⟩)) | (go_at_call 20; ((with_reducible refine (mm_0_2 _).mono ?_); rintro e w' ⟨rfl, nn, rfl⟩)) | (go_at_call 20; ((with_reducible refine (mm_0_3 _).mono ?_); rintro e w' ⟨rfl, nn, rfl⟩)) | (go_at_call 20; ((with_reducible refine (mm_0_4 _).mono ?_); rintro e w' ⟨rfl, nn, rfl⟩)) | (go_at_call 20; ((with_reducible refine (mm_0_5 _).mono ?_); rintro e w' ⟨rfl, nn, rfl⟩)))
    refine bodyPost_ret (v := .agg #[.iface 122 (.pointer (some ⟨0, 4, none⟩)), .int .u64 1, .pointer none, .pointer none, .bool false, .bool false, .bool false, .bool false, .bool false]) (by simp [results, Tryz.results19, go_sem]) rfl ?_
    go_wp2_with (first | (go_at_call 17; ((with_reducible refine (sample_0 _).mono ?_); rintro e w' ⟨rfl, rfl⟩)) | (go_at_call 18; go_in) | (go_at_call 16; go_in) | (go_at_call 51; go_in) | (go_at_call 19; go_in) | (go_at_call 110; go_in) | (go_at_call 137; ((with_reducible refine (from_4 _ _).mono ?_); rintro e w' ⟨rfl, rfl⟩)) | (go_at_call 20; ((with_reducible refine (mm_0_0 _).mono ?_); rintro e w' ⟨rfl, nn, rfl⟩)) | (go_at_call 20; ((with_reducible refine (mm_0_1 _).mono ?_); rintro e w' ⟨rfl, nn, rfl⟩)) | (go_at_call 20; ((with_reducible refine (mm_0_2 _).mono ?_); rintro e w' ⟨rfl, nn, rfl⟩)) | (go_at_call 20; ((with_reducible refine (mm_0_3 _).mono ?_); rintro e w' ⟨rfl, nn, rfl⟩)) | (go_at_call 20; ((with_reducible refine (mm_0_4 _).mono ?_); rintro e w' ⟨rfl, nn, rfl⟩)) | (go_at_call 20; ((with_reducible refine (mm_0_5 _).mono ?_); rintro e w' ⟨rfl, nn, rfl⟩)))
    go_ret
    refine ⟨rfl, ?_⟩
    repeat (first | refine bal ?_ _ | refine Below.drew ?_ | refine below_drewN ?_ _ | refine bset ?_ (by simp) _)
    exact Below.refl _ _
theorem case_0_4 (nc : Bool) (w : World) : Calls Tryz.prog 3 #[.int .i64 0, .int .i64 4, .bool nc] w fun e w' => e = .returned (.bool true) ∧ Below w.heap.size w w' := by
  cases nc
  all_goals
    go_enter Tryz.func3, Tryz.ntmps3
    go_wp2_with (first | (go_at_call 17; ((with_reducible refine (sample_0 _).mono ?_); rintro e w' ⟨rfl, rfl⟩)) | (go_at_call 18; go_in) | (go_at_call 16; go_in) | (go_at_call 51; go_in) | (go_at_call 19; go_in) | (go_at_call 110; go_in) | (go_at_call 137; ((with_reducible refine (from_35 _ _).mono ?_); rintro e w' ⟨rfl, rfl⟩)) | (go_at_call 20; ((with_reducible refine (mm_0_0 _).mono ?_); rintro e w' ⟨rfl, nn, rfl⟩)) | (go_at_call 20; ((with_reducible refine (mm_0_1 _).mono ?_); rintro e w' ⟨rfl, nn, rfl⟩)) | (go_at_call 20; ((with_reducible refine (mm_0_2 _).mono ?_); rintro e w' ⟨rfl, nn, rfl⟩)) | (go_at_call 20; ((with_reducible refine (mm_0_3 _).mono ?_); rintro e w' ⟨rfl, nn, rfl⟩)) | (go_at_call 20; ((with_reducible refine (mm_0_4 _).mono ?_); rintro e w' ⟨rfl, nn, rfl⟩)) | (go_at_call 20; ((with_reducible refine (mm_0_5 _).mono ?_); rintro e w' ⟨rfl, nn, rfl⟩)))
    refine bodyPost_ret (v := .agg #[.iface 122 (.pointer (some ⟨0, 35, none⟩)), .int .u64 23, .pointer none, .pointer none, .bool false, .bool false, .bool false, .bool false, .bool false]) (by simp [results, Tryz.results110, go_sem]) rfl ?_
    go_wp2_with (first | (go_at_call 17; ((with_reducible refine (sample_0 _).mono ?_); rintro e w' ⟨rfl, rfl⟩)) | (go_at_call 18; go_in) | (go_at_call 16; go_in) | (go_at_call 51; go_in) | (go_at_call 19; go_in) | (go_at_call 110; go_in) | (go_at_call 137; ((with_reducible refine (from_35 _ _).mono ?_); rintro e w' ⟨rfl, rfl⟩)) | (go_at_call 20; ((with_reducible refine (mm_0_0 _).mono ?_); rintro e w' ⟨rfl, nn, rfl⟩)) | (go_at_call 20; ((with_reducible refine (mm_0_1 _).mono ?_); rintro e w' ⟨rfl, nn, rfl⟩)) | (go_at_call 20; ((with_reducible refine (mm_0_2 _).mono ?_); rintro e w' ⟨rfl, nn, rfl⟩)) | (go_at_call 20; ((with_reducible refine (mm_0_3 _).mono ?_); rintro e w' ⟨rfl, nn, rfl⟩)) | (go_at_call 20; ((with_reducible refine (mm_0_4 _).mono ?_); rintro e w' ⟨rfl, nn, rfl⟩)) | (go_at_call 20; ((with_reducible refine (mm_0_5 _).mono ?_); rintro e w' ⟨rfl, nn, rfl⟩)))
    refine bodyPost_ret (v := .agg #[.iface 122 (.pointer (some ⟨0, 35, none⟩)), .int .u64 23, .pointer none, .pointer none, .bool false, .bool false, .bool false, .bool false, .bool false]) (by simp [results, Tryz.results19, go_sem]) rfl ?_
    go_wp2_with (first | (go_at_call 17; ((with_reducible refine (sample_0 _).mono ?_); rintro e w' ⟨rfl, rfl⟩)) | (go_at_call 18; go_in) | (go_at_call 16; go_in) | (go_at_call 51; go_in) | (go_at_call 19; go_in) | (go_at_call 110; go_in) | (go_at_call 137; ((with_reducible refine (from_35 _ _).mono ?_); rintro e w' ⟨rfl, rfl⟩)) | (go_at_call 20; ((with_reducible refine (mm_0_0 _).mono ?_); rintro e w' ⟨rfl, nn, rfl⟩)) | (go_at_call 20; ((with_reducible refine (mm_0_1 _).mono ?_); rintro e w' ⟨rfl, nn, rfl⟩)) | (go_at_call 20; ((with_reducible refine (mm_0_2 _).mono ?_); rintro e w' ⟨rfl, nn, rfl⟩)) | (go_at_call 20; ((with_reducible refine (mm_0_3 _).mono ?_); rintro e w' ⟨rfl, nn, rfl⟩)) | (go_at_call 20; ((with_reducible refine (mm_0_4 _).mono ?_); rintro e w' ⟨rfl, nn, rfl⟩)) | (go_at_call 20; ((with_reducible refine (mm_0_5 _).mono ?_); rintro e w' ⟨rfl, nn, rfl⟩)))
    go_ret
    refine ⟨rfl, ?_⟩
    repeat (first | refine bal ?_ _ | refine Below.drew ?_ | refine below_drewN ?_ _ | refine bset ?_ (by simp) _)
    exact Below.refl _ _
theorem case_0_5 (nc : Bool) (w : World) : Calls Tryz.prog 3 #[.int .i64 0, .int .i64 5, .bool nc] w fun e w' => e = .returned (.bool true) ∧ Below w.heap.size w w' := by
  cases nc
  all_goals
    go_enter Tryz.func3, Tryz.ntmps3
    go_wp2_with (first | (go_at_call 17; ((with_reducible refine (sample_0 _).mono ?_); rintro e w' ⟨rfl, rfl⟩)) | (go_at_call 18; go_in) | (go_at_call 16; go_in) | (go_at_call 51; go_in) | (go_at_call 19; go_in) | (go_at_call 110; go_in) | (go_at_call 137; ((with_reducible refine (from_20 _ _).mono ?_); rintro e w' ⟨rfl, rfl⟩)) | (go_at_call 20; ((with_reducible refine (mm_0_0 _).mono ?_); rintro e w' ⟨rfl, nn, rfl⟩)) | (go_at_call 20; ((with_reducible refine (mm_0_1 _).mono ?_); rintro e w' ⟨rfl, nn, rfl⟩)) | (go_at_call 20; ((with_reducible refine (mm_0_2 _).mono ?_); rintro e w' ⟨rfl, nn, rfl⟩)) | (go_at_call 20; ((with_reducible refine (mm_0_3 _).mono ?_); rintro e w' ⟨rfl, nn, rfl⟩)) | (go_at_call 20; ((with_reducible refine (mm_0_4 _).mono ?_); rintro e w' ⟨rfl, nn, rfl⟩)) | (go_at_call 20; ((with_reducible refine (mm_0_5 _).mono ?_); rintro e w' ⟨rfl, nn, rfl⟩)))
    refine bodyPost_ret (v := .agg #[.iface 122 (.pointer (some ⟨0, 20, none⟩)), .int .u64 20, .pointer none, .pointer none, .bool false, .bool false, .bool false, .bool false, .bool false]) (by simp [results, Tryz.results110, go_sem]) rfl ?_
    go_wp2_with (first | (go_at_call 17; ((with_reducible refine (sample_0 _).mono ?_); rintro e w' ⟨rfl, rfl⟩)) | (go_at_call 18; go_in) | (go_at_call 16; go_in) | (go_at_call 51; go_in) | (go_at_call 19; go_in) | (go_at_call 110; go_in) | (go_at_call 137; ((with_reducible refine (from_20 _ _).mono ?_); rintro e w' ⟨rfl, rfl⟩)) | (go_at_call 20; ((with_reducible refine (mm_0_0 _).mono ?_); rintro e w' ⟨rfl, nn, rfl⟩)) | (go_at_call 20; ((with_reducible refine (mm_0_1 _).mono ?_); rintro e w' ⟨rfl, nn, rfl⟩)) | (go_at_call 20; ((with_reducible refine (mm_0_2 _).mono ?_); rintro e w' ⟨rfl, nn, rfl⟩)) | (go_at_call 20; ((with_reducible refine (mm_0_3 _).mono ?_); rintro e w' ⟨rfl, nn, rfl⟩)) | (go_at_call 20; ((with_reducible refine (mm_0_4 _).mono ?_); rintro e w' ⟨rfl, nn, rfl⟩)) | (go_at_call 20; ((with_reducible refine (mm_0_5 _).mono ?_); rintro e w' ⟨rfl, nn, rfl⟩)))
    refine bodyPost_ret (v := .agg #[.iface 122 (.pointer (some ⟨0, 20, none⟩)), .int .u64 20, .pointer none, .pointer none, .bool false, .bool false, .bool false, .bool false, .bool false]) (by simp [results, Tryz.results19, go_sem]) rfl ?_
    go_wp2_with (first | (go_at_call 17; ((with_reducible refine (sample_0 _).mono ?_); rintro e w' ⟨rfl, rfl⟩)) | (go_at_call 18; go_in) | (go_at_call 16; go_in) | (go_at_call 51; go_in) | (go_at_call 19; go_in) | (go_at_call 110; go_in) | (go_at_call 137; ((with_reducible refine (from_20 _ _).mono ?_); rintro e w' ⟨rfl, rfl⟩)) | (go_at_call 20; ((with_reducible refine (mm_0_0 _).mono ?_); rintro e w' ⟨rfl, nn, rfl⟩)) | (go_at_call 20; ((with_reducible refine (mm_0_1 _).mono ?_); rintro e w' ⟨rfl, nn, rfl⟩)) | (go_at_call 20; ((with_reducible refine (mm_0_2 _).mono ?_); rintro e w' ⟨rfl, nn, rfl⟩)) | (go_at_call 20; ((with_reducible refine (mm_0_3 _).mono ?_); rintro e w' ⟨rfl, nn, rfl⟩)) | (go_at_call 20; ((with_reducible refine (mm_0_4 _).mono ?_); rintro e w' ⟨rfl, nn, rfl⟩)) | (go_at_call 20; ((with_reducible refine (mm_0_5 _).mono ?_); rintro e w' ⟨rfl, nn, rfl⟩)))
    go_ret
    refine ⟨rfl, ?_⟩
    repeat (first | refine bal ?_ _ | refine Below.drew ?_ | refine below_drewN ?_ _ | refine bset ?_ (by simp) _)
    exact Below.refl _ _
theorem case_1_0 (nc : Bool) (w : World) : Calls Tryz.prog 3 #[.int .i64 1, .int .i64 0, .bool nc] w fun e w' => e = .returned (.bool true) ∧ Below w.heap.size w w' := by
  cases nc
  all_goals
    go_enter Tryz.func3, Tryz.ntmps3
    go_wp2_with (first | (go_at_call 17; ((with_reducible refine (sample_1 _).mono ?_); rintro e w' ⟨rfl, rfl⟩)) | (go_at_call 18; go_in) | (go_at_call 16; go_in) | (go_at_call 51; go_in) | (go_at_call 19; go_in) | (go_at_call 110; go_in) | (go_at_call 137; ((with_reducible refine (from_25 _ _).mono ?_); rintro e w' ⟨rfl, rfl⟩)) | (go_at_call 20; ((with_reducible refine (mm_1_0 _).mono ?_); rintro e w' ⟨rfl, nn, rfl⟩)))
    refine bodyPost_ret (v := .agg #[.iface 122 (.pointer (some ⟨0, 25, none⟩)), .int .u64 20, .pointer none, .pointer none, .bool false, .bool false, .bool false, .bool false, .bool false]) (by simp [results, Tryz.results110, go_sem]) rfl ?_
    go_wp2_with (first | (go_at_call 17; ((with_reducible refine (sample_1 _).mono ?_); rintro e w' ⟨rfl, rfl⟩)) | (go_at_call 18; go_in) | (go_at_call 16; go_in) | (go_at_call 51; go_in) | (go_at_call 19; go_in) | (go_at_call 110; go_in) | (go_at_call 137; ((with_reducible refine (from_25 _ _).mono ?_); rintro e w' ⟨rfl, rfl⟩)) | (go_at_call 20; ((with_reducible refine (mm_1_0 _).mono ?_); rintro e w' ⟨rfl, nn, rfl⟩)))
    refine bodyPost_ret (v := .agg #[.iface 122 (.pointer (some ⟨0, 25, none⟩)), .int .u64 20, .pointer none, .pointer none, .bool false, .bool false, .bool false, .bool false, .bool false]) (by simp [results, Tryz.results19, go_sem]) rfl ?_
    go_wp2_with (first | (go_at_call 17; ((with_reducible refine (sample_1 _).mono ?_); rintro e w' ⟨rfl, rfl⟩)) | (go_at_call 18; go_in) | (go_at_call 16; go_in) | (go_at_call 51; go_in) | (go_at_call 19; go_in) | (go_at_call 110; go_in) | (go_at_call 137; ((with_reducible refine (from_25 _ _).mono ?_); rintro e w' ⟨rfl, rfl⟩)) | (go_at_call 20; ((with_reducible refine (mm_1_0 _).mono ?_); rintro e w' ⟨rfl, nn, rfl⟩)))
    go_ret
    refine ⟨rfl, ?_⟩
    repeat (first | refine bal ?_ _ | refine Below.drew ?_ | refine below_drewN ?_ _ | refine bset ?_ (by simp) _)
    exact Below.refl _ _
theorem case_2_0 (nc : Bool) (w : World) : Calls Tryz.prog 3 #[.int .i64 2, .int .i64 0, .bool nc] w fun e w' => e = .returned (.bool true) ∧ Below w.heap.size w w' := by
  cases nc
  all_goals
    go_enter Tryz.func3, Tryz.ntmps3
    go_wp2_with (first | (go_at_call 17; ((with_reducible refine (sample_2 _).mono ?_); rintro e w' ⟨rfl, rfl⟩)) | (go_at_call 18; go_in) | (go_at_call 16; go_in) | (go_at_call 51; go_in) | (go_at_call 19; go_in) | (go_at_call 110; go_in) | (go_at_call 137; ((with_reducible refine (from_5 _ _).mono ?_); rintro e w' ⟨rfl, rfl⟩)) | (go_at_call 20; ((with_reducible refine (mm_2_0 _).mono ?_); rintro e w' ⟨rfl, nn, rfl⟩)) | (go_at_call 20; ((with_reducible refine (mm_2_1 _).mono ?_); rintro e w' ⟨rfl, nn, rfl⟩)))
    refine bodyPost_ret (v := .agg #[.iface 122 (.pointer (some ⟨0, 5, none⟩)), .int .u64 8, .pointer none, .pointer none, .bool false, .bool false, .bool false, .bool true, .bool false]) (by simp [results, Tryz.results110, go_sem]) rfl ?_
    go_wp2_with (first | (go_at_call 17; ((with_reducible refine (sample_2 _).mono ?_); rintro e w' ⟨rfl, rfl⟩)) | (go_at_call 18; go_in) | (go_at_call 16; go_in) | (go_at_call 51; go_in) | (go_at_call 19; go_in) | (go_at_call 110; go_in) | (go_at_call 137; ((with_reducible refine (from_5 _ _).mono ?_); rintro e w' ⟨rfl, rfl⟩)) | (go_at_call 20; ((with_reducible refine (mm_2_0 _).mono ?_); rintro e w' ⟨rfl, nn, rfl⟩)) | (go_at_call 20; ((with_reducible refine (mm_2_1 _).mono ?_); rintro e w' ⟨rfl, nn, rfl⟩)))
    refine bodyPost_ret (v := .agg #[.iface 122 (.pointer (some ⟨0, 5, none⟩)), .int .u64 8, .pointer none, .pointer none, .bool false, .bool false, .bool false, .bool true, .bool false]) (by simp [results, Tryz.results19, go_sem]) rfl ?_
    go_wp2_with (first | (go_at_call 17; ((with_reducible refine (sample_2 _).mono ?_); rintro e w' ⟨rfl, rfl⟩)) | (go_at_call 18; go_in) | (go_at_call 16; go_in) | (go_at_call 51; go_in) | (go_at_call 19; go_in) | (go_at_call 110; go_in) | (go_at_call 137; ((with_reducible refine (from_5 _ _).mono ?_); rintro e w' ⟨rfl, rfl⟩)) | (go_at_call 20; ((with_reducible refine (mm_2_0 _).mono ?_); rintro e w' ⟨rfl, nn, rfl⟩)) | (go_at_call 20; ((with_reducible refine (mm_2_1 _).mono ?_); rintro e w' ⟨rfl, nn, rfl⟩)))
    go_ret
    refine ⟨rfl, ?_⟩
    repeat (first | refine bal ?_ _ | refine Below.drew ?_ | refine below_drewN ?_ _ | refine bset ?_ (by simp) _)
    exact Below.refl _ _
theorem case_2_1 (nc : Bool) (w : World) : Calls Tryz.prog 3 #[.int .i64 2, .int .i64 1, .bool nc] w fun e w' => e = .returned (.bool true) ∧ Below w.heap.size w w' := by
  cases nc
  all_goals
    go_enter Tryz.func3, Tryz.ntmps3
    go_wp2_with (first | (go_at_call 17; ((with_reducible refine (sample_2 _).mono ?_); rintro e w' ⟨rfl, rfl⟩)) | (go_at_call 18; go_in) | (go_at_call 16; go_in) | (go_at_call 51; go_in) | (go_at_call 19; go_in) | (go_at_call 110; go_in) | (go_at_call 137; ((with_reducible refine (from_26 _ _).mono ?_); rintro e w' ⟨rfl, rfl⟩)) | (go_at_call 20; ((with_reducible refine (mm_2_0 _).mono ?_); rintro e w' ⟨rfl, nn, rfl⟩)) | (go_at_call 20; ((with_reducible refine (mm_2_1 _).mono ?_); rintro e w' ⟨rfl, nn, rfl⟩)))
    refine bodyPost_ret (v := .agg #[.iface 122 (.pointer (some ⟨0, 26, none⟩)), .int .u64 13, .pointer none, .pointer none, .bool false, .bool false, .bool false, .bool false, .bool true]) (by simp [results, Tryz.results110, go_sem]) rfl ?_
    go_wp2_with (first | (go_at_call 17; ((with_reducible refine (sample_2 _).mono ?_); rintro e w' ⟨rfl, rfl⟩)) | (go_at_call 18; go_in) | (go_at_call 16; go_in) | (go_at_call 51; go_in) | (go_at_call 19; go_in) | (go_at_call 110; go_in) | (go_at_call 137; ((with_reducible refine (from_26 _ _).mono ?_); rintro e w' ⟨rfl, rfl⟩)) | (go_at_call 20; ((with_reducible refine (mm_2_0 _).mono ?_); rintro e w' ⟨rfl, nn, rfl⟩)) | (go_at_call 20; ((with_reducible refine (mm_2_1 _).mono ?_); rintro e w' ⟨rfl, nn, rfl⟩)))
    refine bodyPost_ret (v := .agg #[.iface 122 (.pointer (some ⟨0, 26, none⟩)), .int .u64 13, .pointer none, .pointer none, .bool false, .bool false, .bool false, .bool false, .bool true]) (by simp [results, Tryz.results19, go_sem]) rfl ?_
    go_wp2_with (first | (go_at_call 17; ((with_reducible refine (sample_2 _).mono ?_); rintro e w' ⟨rfl, rfl⟩)) | (go_at_call 18; go_in) | (go_at_call 16; go_in) | (go_at_call 51; go_in) | (go_at_call 19; go_in) | (go_at_call 110; go_in) | (go_at_call 137; ((with_reducible refine (from_26 _ _).mono ?_); rintro e w' ⟨rfl, rfl⟩)) | (go_at_call 20; ((with_reducible refine (mm_2_0 _).mono ?_); rintro e w' ⟨rfl, nn, rfl⟩)) | (go_at_call 20; ((with_reducible refine (mm_2_1 _).mono ?_); rintro e w' ⟨rfl, nn, rfl⟩)))
    go_ret
    refine ⟨rfl, ?_⟩
    repeat (first | refine bal ?_ _ | refine Below.drew ?_ | refine below_drewN ?_ _ | refine bset ?_ (by simp) _)
    exact Below.refl _ _
theorem case_4_0 (nc : Bool) (w : World) : Calls Tryz.prog 3 #[.int .i64 4, .int .i64 0, .bool nc] w fun e w' => e = .returned (.bool true) ∧ Below w.heap.size w w' := by
  cases nc
  all_goals
    go_enter Tryz.func3, Tryz.ntmps3
    go_wp2_with (first | (go_at_call 17; ((with_reducible refine (sample_4 _).mono ?_); rintro e w' ⟨rfl, rfl⟩)) | (go_at_call 18; go_in) | (go_at_call 16; go_in) | (go_at_call 51; go_in) | (go_at_call 19; go_in) | (go_at_call 110; go_in) | (go_at_call 137; ((with_reducible refine (from_2 _ _).mono ?_); rintro e w' ⟨rfl, rfl⟩)) | (go_at_call 20; ((with_reducible refine (mm_4_0 _).mono ?_); rintro e w' ⟨rfl, nn, rfl⟩)) | (go_at_call 20; ((with_reducible refine (mm_4_1 _).mono ?_); rintro e w' ⟨rfl, nn, rfl⟩)))
    refine bodyPost_ret (v := .agg #[.iface 122 (.pointer (some ⟨0, 2, none⟩)), .int .u64 6, .pointer none, .pointer none, .bool false, .bool false, .bool false, .bool true, .bool false]) (by simp [results, Tryz.results110, go_sem]) rfl ?_
    go_wp2_with (first | (go_at_call 17; ((with_reducible refine (sample_4 _).mono ?_); rintro e w' ⟨rfl, rfl⟩)) | (go_at_call 18; go_in) | (go_at_call 16; go_in) | (go_at_call 51; go_in) | (go_at_call 19; go_in) | (go_at_call 110; go_in) | (go_at_call 137; ((with_reducible refine (from_2 _ _).mono ?_); rintro e w' ⟨rfl, rfl⟩)) | (go_at_call 20; ((with_reducible refine (mm_4_0 _).mono ?_); rintro e w' ⟨rfl, nn, rfl⟩)) | (go_at_call 20; ((with_reducible refine (mm_4_1 _).mono ?_); rintro e w' ⟨rfl, nn, rfl⟩)))
    refine bodyPost_ret (v := .agg #[.iface 122 (.pointer (some ⟨0, 2, none⟩)), .int .u64 6, .pointer none, .pointer none, .bool false, .bool false, .bool false, .bool true, .bool false]) (by simp [results, Tryz.results19, go_sem]) rfl ?_
    go_wp2_with (first | (go_at_call 17; ((with_reducible refine (sample_4 _).mono ?_); rintro e w' ⟨rfl, rfl⟩)) | (go_at_call 18; go_in) | (go_at_call 16; go_in) | (go_at_call 51; go_in) | (go_at_call 19; go_in) | (go_at_call 110; go_in) | (go_at_call 137; ((with_reducible refine (from_2 _ _).mono ?_); rintro e w' ⟨rfl, rfl⟩)) | (go_at_call 20; ((with_reducible refine (mm_4_0 _).mono ?_); rintro e w' ⟨rfl, nn, rfl⟩)) | (go_at_call 20; ((with_reducible refine (mm_4_1 _).mono ?_); rintro e w' ⟨rfl, nn, rfl⟩)))
    go_ret
    refine ⟨rfl, ?_⟩
    repeat (first | refine bal ?_ _ | refine Below.drew ?_ | refine below_drewN ?_ _ | refine bset ?_ (by simp) _)
    exact Below.refl _ _
theorem case_4_1 (nc : Bool) (w : World) : Calls Tryz.prog 3 #[.int .i64 4, .int .i64 1, .bool nc] w fun e w' => e = .returned (.bool true) ∧ Below w.heap.size w w' := by
  cases nc
  all_goals
    go_enter Tryz.func3, Tryz.ntmps3
    go_wp2_with (first | (go_at_call 17; ((with_reducible refine (sample_4 _).mono ?_); rintro e w' ⟨rfl, rfl⟩)) | (go_at_call 18; go_in) | (go_at_call 16; go_in) | (go_at_call 51; go_in) | (go_at_call 19; go_in) | (go_at_call 110; go_in) | (go_at_call 137; ((with_reducible refine (from_51 _ _).mono ?_); rintro e w' ⟨rfl, rfl⟩)) | (go_at_call 20; ((with_reducible refine (mm_4_0 _).mono ?_); rintro e w' ⟨rfl, nn, rfl⟩)) | (go_at_call 20; ((with_reducible refine (mm_4_1 _).mono ?_); rintro e w' ⟨rfl, nn, rfl⟩)))
    refine bodyPost_ret (v := .agg #[.iface 122 (.pointer (some ⟨0, 51, none⟩)), .int .u64 22, .pointer none, .pointer none, .bool false, .bool false, .bool false, .bool false, .bool false]) (by simp [results, Tryz.results110, go_sem]) rfl ?_
    go_wp2_with (first | (go_at_call 17; ((with_reducible refine (sample_4 _).mono ?_); rintro e w' ⟨rfl, rfl⟩)) | (go_at_call 18; go_in) | (go_at_call 16; go_in) | (go_at_call 51; go_in) | (go_at_call 19; go_in) | (go_at_call 110; go_in) | (go_at_call 137; ((with_reducible refine (from_51 _ _).mono ?_); rintro e w' ⟨rfl, rfl⟩)) | (go_at_call 20; ((with_reducible refine (mm_4_0 _).mono ?_); rintro e w' ⟨rfl, nn, rfl⟩)) | (go_at_call 20; ((with_reducible refine (mm_4_1 _).mono ?_); rintro e w' ⟨rfl, nn, rfl⟩)))
    refine bodyPost_ret (v := .agg #[.iface 122 (.pointer (some ⟨0, 51, none⟩)), .int .u64 22, .pointer none, .pointer none, .bool false, .bool false, .bool false, .bool false, .bool false]) (by simp [results, Tryz.results19, go_sem]) rfl ?_
    go_wp2_with (first | (go_at_call 17; ((with_reducible refine (sample_4 _).mono ?_); rintro e w' ⟨rfl, rfl⟩)) | (go_at_call 18; go_in) | (go_at_call 16; go_in) | (go_at_call 51; go_in) | (go_at_call 19; go_in) | (go_at_call 110; go_in) | (go_at_call 137; ((with_reducible refine (from_51 _ _).mono ?_); rintro e w' ⟨rfl, rfl⟩)) | (go_at_call 20; ((with_reducible refine (mm_4_0 _).mono ?_); rintro e w' ⟨rfl, nn, rfl⟩)) | (go_at_call 20; ((with_reducible refine (mm_4_1 _).mono ?_); rintro e w' ⟨rfl, nn, rfl⟩)))
    go_ret
    refine ⟨rfl, ?_⟩
    repeat (first | refine bal ?_ _ | refine Below.drew ?_ | refine below_drewN ?_ _ | refine bset ?_ (by simp) _)
    exact Below.refl _ _
theorem case_5_0 (nc : Bool) (w : World) : Calls Tryz.prog 3 #[.int .i64 5, .int .i64 0, .bool nc] w fun e w' => e = .returned (.bool true) ∧ Below w.heap.size w w' := by
  cases nc
  all_goals
    go_enter Tryz.func3, Tryz.ntmps3
    go_wp2_with (first | (go_at_call 17; ((with_reducible refine (sample_5 _).mono ?_); rintro e w' ⟨rfl, rfl⟩)) | (go_at_call 18; go_in) | (go_at_call 16; go_in) | (go_at_call 51; go_in) | (go_at_call 19; go_in) | (go_at_call 110; go_in) | (go_at_call 137; ((with_reducible refine (from_102 _ _).mono ?_); rintro e w' ⟨rfl, rfl⟩)) | (go_at_call 20; ((with_reducible refine (mm_5_0 _).mono ?_); rintro e w' ⟨rfl, nn, rfl⟩)) | (go_at_call 20; ((with_reducible refine (mm_5_1 _).mono ?_); rintro e w' ⟨rfl, nn, rfl⟩)))
    refine bodyPost_ret (v := .agg #[.iface 122 (.pointer (some ⟨0, 102, none⟩)), .int .u64 21, .pointer none, .pointer none, .bool false, .bool false, .bool false, .bool false, .bool false]) (by simp [results, Tryz.results110, go_sem]) rfl ?_
    go_wp2_with (first | (go_at_call 17; ((with_reducible refine (sample_5 _).mono ?_); rintro e w' ⟨rfl, rfl⟩)) | (go_at_call 18; go_in) | (go_at_call 16; go_in) | (go_at_call 51; go_in) | (go_at_call 19; go_in) | (go_at_call 110; go_in) | (go_at_call 137; ((with_reducible refine (from_102 _ _).mono ?_); rintro e w' ⟨rfl, rfl⟩)) | (go_at_call 20; ((with_reducible refine (mm_5_0 _).mono ?_); rintro e w' ⟨rfl, nn, rfl⟩)) | (go_at_call 20; ((with_reducible refine (mm_5_1 _).mono ?_); rintro e w' ⟨rfl, nn, rfl⟩)))
    refine bodyPost_ret (v := .agg #[.iface 122 (.pointer (some ⟨0, 102, none⟩)), .int .u64 21, .pointer none, .pointer none, .bool false, .bool false, .bool false, .bool false, .bool false]) (by simp [results, Tryz.results19, go_sem]) rfl ?_
    go_wp2_with (first | (go_at_call 17; ((with_reducible refine (sample_5 _).mono ?_); rintro e w' ⟨rfl, rfl⟩)) | (go_at_call 18; go_in) | (go_at_call 16; go_in) | (go_at_call 51; go_in) | (go_at_call 19; go_in) | (go_at_call 110; go_in) | (go_at_call 137; ((with_reducible refine (from_102 _ _).mono ?_); rintro e w' ⟨rfl, rfl⟩)) | (go_at_call 20; ((with_reducible refine (mm_5_0 _).mono ?_); rintro e w' ⟨rfl, nn, rfl⟩)) | (go_at_call 20; ((with_reducible refine (mm_5_1 _).mono ?_); rintro e w' ⟨rfl, nn, rfl⟩)))
    go_ret
    refine ⟨rfl, ?_⟩
    repeat (first | refine bal ?_ _ | refine Below.drew ?_ | refine below_drewN ?_ _ | refine bset ?_ (by simp) _)
    exact Below.refl _ _
theorem case_5_1 (nc : Bool) (w : World) : Calls Tryz.prog 3 #[.int .i64 5, .int .i64 1, .bool nc] w fun e w' => e = .returned (.bool true) ∧ Below w.heap.size w w' := by
  cases nc
  all_goals
    go_enter Tryz.func3, Tryz.ntmps3
    go_wp2_with (first | (go_at_call 17; ((with_reducible refine (sample_5 _).mono ?_); rintro e w' ⟨rfl, rfl⟩)) | (go_at_call 18; go_in) | (go_at_call 16; go_in) | (go_at_call 51; go_in) | (go_at_call 19; go_in) | (go_at_call 110; go_in) | (go_at_call 137; ((with_reducible refine (from_30 _ _).mono ?_); rintro e w' ⟨rfl, rfl⟩)) | (go_at_call 20; ((with_reducible refine (mm_5_0 _).mono ?_); rintro e w' ⟨rfl, nn, rfl⟩)) | (go_at_call 20; ((with_reducible refine (mm_5_1 _).mono ?_); rintro e w' ⟨rfl, nn, rfl⟩)))
    refine bodyPost_ret (v := .agg #[.iface 122 (.pointer (some ⟨0, 30, none⟩)), .int .u64 7, .pointer none, .pointer none, .bool false, .bool false, .bool false, .bool true, .bool false]) (by simp [results, Tryz.results110, go_sem]) rfl ?_
    go_wp2_with (first | (go_at_call 17; ((with_reducible refine (sample_5 _).mono ?_); rintro e w' ⟨rfl, rfl⟩)) | (go_at_call 18; go_in) | (go_at_call 16; go_in) | (go_at_call 51; go_in) | (go_at_call 19; go_in) | (go_at_call 110; go_in) | (go_at_call 137; ((with_reducible refine (from_30 _ _).mono ?_); rintro e w' ⟨rfl, rfl⟩)) | (go_at_call 20; ((with_reducible refine (mm_5_0 _).mono ?_); rintro e w' ⟨rfl, nn, rfl⟩)) | (go_at_call 20; ((with_reducible refine (mm_5_1 _).mono ?_); rintro e w' ⟨rfl, nn, rfl⟩)))
    refine bodyPost_ret (v := .agg #[.iface 122 (.pointer (some ⟨0, 30, none⟩)), .int .u64 7, .pointer none, .pointer none, .bool false, .bool false, .bool false, .bool true, .bool false]) (by simp [results, Tryz.results19, go_sem]) rfl ?_
    go_wp2_with (first | (go_at_call 17; ((with_reducible refine (sample_5 _).mono ?_); rintro e w' ⟨rfl, rfl⟩)) | (go_at_call 18; go_in) | (go_at_call 16; go_in) | (go_at_call 51; go_in) | (go_at_call 19; go_in) | (go_at_call 110; go_in) | (go_at_call 137; ((with_reducible refine (from_30 _ _).mono ?_); rintro e w' ⟨rfl, rfl⟩)) | (go_at_call 20; ((with_reducible refine (mm_5_0 _).mono ?_); rintro e w' ⟨rfl, nn, rfl⟩)) | (go_at_call 20; ((with_reducible refine (mm_5_1 _).mono ?_); rintro e w' ⟨rfl, nn, rfl⟩)))
    go_ret
    refine ⟨rfl, ?_⟩
    repeat (first | refine bal ?_ _ | refine Below.drew ?_ | refine below_drewN ?_ _ | refine bset ?_ (by simp) _)
    exact Below.refl _ _
theorem out_low (a i : Int) (nc : Bool) (h : a < 0) (w : World) : Calls Tryz.prog 3 #[.int .i64 a, .int .i64 i, .bool nc] w fun e w' => e = .returned (.bool true) ∧ Below w.heap.size w w' := by
  go_enter Tryz.func3, Tryz.ntmps3
  go_wp2_with (go_at_call 16; go_in)
  go_ret
  refine ⟨rfl, ?_⟩
  repeat (first | with_reducible refine bal ?_ _ | with_reducible refine Below.drew ?_)
  exact Below.refl _ _
theorem out_high (a i : Int) (nc : Bool) (h : 5 < a) (w : World) : Calls Tryz.prog 3 #[.int .i64 a, .int .i64 i, .bool nc] w fun e w' => e = .returned (.bool true) ∧ Below w.heap.size w w' := by
  go_enter Tryz.func3, Tryz.ntmps3
  go_wp2_with (go_at_call 16; go_in)
  go_ret
  refine ⟨rfl, ?_⟩
  repeat (first | with_reducible refine bal ?_ _ | with_reducible refine Below.drew ?_)
  exact Below.refl _ _
theorem out_0l (i : Int) (nc : Bool) (h : i < 0) (w : World) : Calls Tryz.prog 3 #[.int .i64 0, .int .i64 i, .bool nc] w fun e w' => e = .returned (.bool true) ∧ Below w.heap.size w w' := by
  go_enter Tryz.func3, Tryz.ntmps3
  go_wp2_with (go_at_call 16; go_in)
  go_ret
  refine ⟨rfl, ?_⟩
  repeat (first | with_reducible refine bal ?_ _ | with_reducible refine Below.drew ?_)
  exact Below.refl _ _
theorem out_0h (i : Int) (nc : Bool) (h : 6 ≤ i) (w : World) : Calls Tryz.prog 3 #[.int .i64 0, .int .i64 i, .bool nc] w fun e w' => e = .returned (.bool true) ∧ Below w.heap.size w w' := by
  go_enter Tryz.func3, Tryz.ntmps3
  go_wp2_with (go_at_call 16; go_in)
  go_ret
  refine ⟨rfl, ?_⟩
  repeat (first | with_reducible refine bal ?_ _ | with_reducible refine Below.drew ?_)
  exact Below.refl _ _
theorem out_1l (i : Int) (nc : Bool) (h : i < 0) (w : World) : Calls Tryz.prog 3 #[.int .i64 1, .int .i64 i, .bool nc] w fun e w' => e = .returned (.bool true) ∧ Below w.heap.size w w' := by
  go_enter Tryz.func3, Tryz.ntmps3
  go_wp2_with (go_at_call 16; go_in)
  go_ret
  refine ⟨rfl, ?_⟩
  repeat (first | with_reducible refine bal ?_ _ | with_reducible refine Below.drew ?_)
  exact Below.refl _ _
theorem out_1h (i : Int) (nc : Bool) (h : 1 ≤ i) (w : World) : Calls Tryz.prog 3 #[.int .i64 1, .int .i64 i, .bool nc] w fun e w' => e = .returned (.bool true) ∧ Below w.heap.size w w' := by
  go_enter Tryz.func3, Tryz.ntmps3
  go_wp2_with (go_at_call 16; go_in)
  go_ret
  refine ⟨rfl, ?_⟩
  repeat (first | with_reducible refine bal ?_ _ | with_reducible refine Below.drew ?_)
  exact Below.refl _ _
theorem out_2l (i : Int) (nc : Bool) (h : i < 0) (w : World) : Calls Tryz.prog 3 #[.int .i64 2, .int .i64 i, .bool nc] w fun e w' => e = .returned (.bool true) ∧ Below w.heap.size w w' := by
  go_enter Tryz.func3, Tryz.ntmps3
  go_wp2_with (go_at_call 16; go_in)
  go_ret
  refine ⟨rfl, ?_⟩
  repeat (first | with_reducible refine bal ?_ _ | with_reducible refine Below.drew ?_)
  exact Below.refl _ _
theorem out_2h (i : Int) (nc : Bool) (h : 2 ≤ i) (w : World) : Calls Tryz.prog 3 #[.int .i64 2, .int .i64 i, .bool nc] w fun e w' => e = .returned (.bool true) ∧ Below w.heap.size w w' := by
  go_enter Tryz.func3, Tryz.ntmps3
  go_wp2_with (go_at_call 16; go_in)
  go_ret
  refine ⟨rfl, ?_⟩
  repeat (first | with_reducible refine bal ?_ _ | with_reducible refine Below.drew ?_)
  exact Below.refl _ _
theorem out_3l (i : Int) (nc : Bool) (h : i < 0) (w : World) : Calls Tryz.prog 3 #[.int .i64 3, .int .i64 i, .bool nc] w fun e w' => e = .returned (.bool true) ∧ Below w.heap.size w w' := by
  go_enter Tryz.func3, Tryz.ntmps3
  go_wp2_with (go_at_call 16; go_in)
  go_ret
  refine ⟨rfl, ?_⟩
  repeat (first | with_reducible refine bal ?_ _ | with_reducible refine Below.drew ?_)
  exact Below.refl _ _
theorem out_3h (i : Int) (nc : Bool) (h : 0 ≤ i) (w : World) : Calls Tryz.prog 3 #[.int .i64 3, .int .i64 i, .bool nc] w fun e w' => e = .returned (.bool true) ∧ Below w.heap.size w w' := by
  go_enter Tryz.func3, Tryz.ntmps3
  go_wp2_with (go_at_call 16; go_in)
  go_ret
  refine ⟨rfl, ?_⟩
  repeat (first | with_reducible refine bal ?_ _ | with_reducible refine Below.drew ?_)
  exact Below.refl _ _
theorem out_4l (i : Int) (nc : Bool) (h : i < 0) (w : World) : Calls Tryz.prog 3 #[.int .i64 4, .int .i64 i, .bool nc] w fun e w' => e = .returned (.bool true) ∧ Below w.heap.size w w' := by
  go_enter Tryz.func3, Tryz.ntmps3
  go_wp2_with (go_at_call 16; go_in)
  go_ret
  refine ⟨rfl, ?_⟩
  repeat (first | with_reducible refine bal ?_ _ | with_reducible refine Below.drew ?_)
  exact Below.refl _ _
theorem out_4h (i : Int) (nc : Bool) (h : 2 ≤ i) (w : World) : Calls Tryz.prog 3 #[.int .i64 4, .int .i64 i, .bool nc] w fun e w' => e = .returned (.bool true) ∧ Below w.heap.size w w' := by
  go_enter Tryz.func3, Tryz.ntmps3
  go_wp2_with (go_at_call 16; go_in)
  go_ret
  refine ⟨rfl, ?_⟩
  repeat (first | with_reducible refine bal ?_ _ | with_reducible refine Below.drew ?_)
  exact Below.refl _ _
theorem out_5l (i : Int) (nc : Bool) (h : i < 0) (w : World) : Calls Tryz.prog 3 #[.int .i64 5, .int .i64 i, .bool nc] w fun e w' => e = .returned (.bool true) ∧ Below w.heap.size w w' := by
  go_enter Tryz.func3, Tryz.ntmps3
  go_wp2_with (go_at_call 16; go_in)
  go_ret
  refine ⟨rfl, ?_⟩
  repeat (first | with_reducible refine bal ?_ _ | with_reducible refine Below.drew ?_)
  exact Below.refl _ _
theorem out_5h (i : Int) (nc : Bool) (h : 2 ≤ i) (w : World) : Calls Tryz.prog 3 #[.int .i64 5, .int .i64 i, .bool nc] w fun e w' => e = .returned (.bool true) ∧ Below w.heap.size w w' := by
  go_enter Tryz.func3, Tryz.ntmps3
  go_wp2_with (go_at_call 16; go_in)
  go_ret
  refine ⟨rfl, ?_⟩
  repeat (first | with_reducible refine bal ?_ _ | with_reducible refine Below.drew ?_)
  exact Below.refl _ _
theorem walk (a i : Int) (nc : Bool) (w : World) (w0 : (Lit.int .i64 a).wf = true) (w1 : (Lit.int .i64 i).wf = true) : Calls Tryz.prog 3 #[.int .i64 a, .int .i64 i, .bool nc] w fun e w' => e = .returned (.bool true) ∧ Below w.heap.size w w' := by
  by_cases c1 : a < 0
  · exact out_low a i nc c1 w
  by_cases c2 : 5 < a
  · exact out_high a i nc c2 w
  have hs : a = 0 ∨ a = 1 ∨ a = 2 ∨ a = 3 ∨ a = 4 ∨ a = 5 := by omega
  by_cases c3 : i < 0
  · rcases hs with rfl | rfl | rfl | rfl | rfl | rfl
    · exact out_0l i nc c3 w
    · exact out_1l i nc c3 w
    · exact out_2l i nc c3 w
    · exact out_3l i nc c3 w
    · exact out_4l i nc c3 w
    · exact out_5l i nc c3 w
  rcases hs with rfl | rfl | rfl | rfl | rfl | rfl
  · by_cases c4 : 6 ≤ i
    · exact out_0h i nc c4 w
    have ht : i = 0 ∨ i = 1 ∨ i = 2 ∨ i = 3 ∨ i = 4 ∨ i = 5 := by omega
    rcases ht with rfl | rfl | rfl | rfl | rfl | rfl
    · exact case_0_0 nc w
    · exact case_0_1 nc w
    · exact case_0_2 nc w
    · exact case_0_3 nc w
    · exact case_0_4 nc w
    · exact case_0_5 nc w
  · by_cases c4 : 1 ≤ i
    · exact out_1h i nc c4 w
    have ht : i = 0 := by omega
    rcases ht with rfl
    · exact case_1_0 nc w
  · by_cases c4 : 2 ≤ i
    · exact out_2h i nc c4 w
    have ht : i = 0 ∨ i = 1 := by omega
    rcases ht with rfl | rfl
    · exact case_2_0 nc w
    · exact case_2_1 nc w
  · exact out_3h i nc (by omega) w
  · by_cases c4 : 2 ≤ i
    · exact out_4h i nc c4 w
    have ht : i = 0 ∨ i = 1 := by omega
    rcases ht with rfl | rfl
    · exact case_4_0 nc w
    · exact case_4_1 nc w
  · by_cases c4 : 2 ≤ i
    · exact out_5h i nc c4 w
    have ht : i = 0 ∨ i = 1 := by omega
    rcases ht with rfl | rfl
    · exact case_5_0 nc w
    · exact case_5_1 nc w
end Go.Proofs.YtjdnoaojjmejmaaGreat.fnPrivateOutMatchesSignatureTable
