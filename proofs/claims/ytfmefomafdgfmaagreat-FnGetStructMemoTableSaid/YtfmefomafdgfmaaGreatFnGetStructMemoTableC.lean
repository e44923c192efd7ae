/-
  The contracts of FnGetStructMemoTable: getStruct answers a fixed table, and the same data on every later call for that type on that cache; another type and another cache get other data.
-/
import Derived.Test.YtfmefomafdgfmaaGreatBase
import Derived.IntWalk
import Derived.OpenShut
import Derived.Deep.RegionWith
import Derived.RegionTactic
import Derived.ChangeAlike
import Derived.Deep.QuietTactic
import Derived.BigQuiet
import Derived.WalkSmall
import Derived.Outline
import Derived.Lib.Hide
import Derived.Test.YtfmefomafdgfmaaGreatKit2
namespace Go.Proofs.YtfmefomafdgfmaaGreat.fnGetStructMemoTable
open Go.RowKit
set_option maxRecDepth 100000
set_option maxHeartbeats 1000000
set_option linter.unusedVariables false
theorem bal {w v : World} (h : Below w.heap.size w v) (o : Obj) : Below w.heap.size w (v.alloc o) := h.alloc h.size o
theorem bdn {B : Nat} {a w : World} (h : Below B a w) (n : Nat) : Below B a (w.drewN n) := ⟨h.os, h.tape, h.output, h.size, h.block⟩
@[go_sem] theorem natc_lit (t : Nat) (k : Int) (td : Option Addr) (i f : Bool) : natc t k td i f = #[.iface 124 (.pointer (some ⟨0, t, none⟩)), .int .u64 k, .pointer td, .pointer none, .bool false, .bool false, .bool false, .bool i, .bool f] := rfl

@[go_sem] theorem fld_0 (a0 a1 a2 a3 a4 a5 a6 a7 a8 : Value) (w : World) : (Instr.field 47 (.agg #[a0, a1, a2, a3, a4, a5, a6, a7, a8]) 0).run Tryz.prog w = .ok a0 w := by kernel_rfl

@[go_sem] theorem fld_1 (a0 a1 a2 a3 a4 a5 a6 a7 a8 : Value) (w : World) : (Instr.field 47 (.agg #[a0, a1, a2, a3, a4, a5, a6, a7, a8]) 1).run Tryz.prog w = .ok a1 w := by kernel_rfl

@[go_sem] theorem fld_2 (a0 a1 a2 a3 a4 a5 a6 a7 a8 : Value) (w : World) : (Instr.field 47 (.agg #[a0, a1, a2, a3, a4, a5, a6, a7, a8]) 2).run Tryz.prog w = .ok a2 w := by kernel_rfl

@[go_sem] theorem fld_3 (a0 a1 a2 a3 a4 a5 a6 a7 a8 : Value) (w : World) : (Instr.field 47 (.agg #[a0, a1, a2, a3, a4, a5, a6, a7, a8]) 3).run Tryz.prog w = .ok a3 w := by kernel_rfl

@[go_sem] theorem fld_4 (a0 a1 a2 a3 a4 a5 a6 a7 a8 : Value) (w : World) : (Instr.field 47 (.agg #[a0, a1, a2, a3, a4, a5, a6, a7, a8]) 4).run Tryz.prog w = .ok a4 w := by kernel_rfl

@[go_sem] theorem fld_5 (a0 a1 a2 a3 a4 a5 a6 a7 a8 : Value) (w : World) : (Instr.field 47 (.agg #[a0, a1, a2, a3, a4, a5, a6, a7, a8]) 5).run Tryz.prog w = .ok a5 w := by kernel_rfl

@[go_sem] theorem fld_6 (a0 a1 a2 a3 a4 a5 a6 a7 a8 : Value) (w : World) : (Instr.field 47 (.agg #[a0, a1, a2, a3, a4, a5, a6, a7, a8]) 6).run Tryz.prog w = .ok a6 w := by kernel_rfl

@[go_sem] theorem fld_7 (a0 a1 a2 a3 a4 a5 a6 a7 a8 : Value) (w : World) : (Instr.field 47 (.agg #[a0, a1, a2, a3, a4, a5, a6, a7, a8]) 7).run Tryz.prog w = .ok a7 w := by kernel_rfl

@[go_sem] theorem fld_8 (a0 a1 a2 a3 a4 a5 a6 a7 a8 : Value) (w : World) : (Instr.field 47 (.agg #[a0, a1, a2, a3, a4, a5, a6, a7, a8]) 8).run Tryz.prog w = .ok a8 w := by kernel_rfl

@[go_sem] theorem kind_111 (w : World) : (callFunc 190 #[.pointer (some ⟨0, 111, none⟩)]).run Tryz.prog w = .ok (.value (.int .u64 25)) w := by kernel_rfl

@[go_sem] theorem kind_113 (w : World) : (callFunc 190 #[.pointer (some ⟨0, 113, none⟩)]).run Tryz.prog w = .ok (.value (.int .u64 25)) w := by kernel_rfl

@[go_sem] theorem kind_115 (w : World) : (callFunc 190 #[.pointer (some ⟨0, 115, none⟩)]).run Tryz.prog w = .ok (.value (.int .u64 25)) w := by kernel_rfl

@[go_sem] theorem kind_117 (w : World) : (callFunc 190 #[.pointer (some ⟨0, 117, none⟩)]).run Tryz.prog w = .ok (.value (.int .u64 25)) w := by kernel_rfl

theorem from_111  (w : World)  : Calls Tryz.prog 45 #[.pointer none, .iface 124 (.pointer (some ⟨0, 111, none⟩))] w fun e w' => e = .returned (Value.agg #[Value.iface 124 (Value.pointer (some { block := 0, off := 111 })), Value.int IntKind.u64 25, Value.pointer (some { block := w.heap.size + 1, off := 0 }), Value.pointer none, Value.bool false, Value.bool false, Value.bool false, Value.bool false, Value.bool false]) ∧ ((w.alloc (Obj.cells #[Value.iface 124 (Value.pointer (some { block := 0, off := 111 })), Value.int IntKind.u64 25, Value.pointer (some { block := w.heap.size + 1, off := 0 }), Value.pointer none, Value.bool false, Value.bool false, Value.bool false, Value.bool false, Value.bool false] 47)).alloc (Obj.cells #[Value.pointer none, Value.pointer none, Value.map none, Value.pointer none, Value.pointer none, Value.int IntKind.i64 0, Value.pointer none, Value.pointer none, Value.int IntKind.i64 0, Value.int IntKind.i64 0, Value.bool false, Value.bool false, Value.bool false, Value.bool false] 56)) = w' := by
  go_enter Tryz.func45, Tryz.ntmps45
  go_wp2
  exact bodyPost_ret (v := (Value.agg #[Value.iface 124 (Value.pointer (some { block := 0, off := 111 })), Value.int IntKind.u64 25, Value.pointer (some { block := w.heap.size + 1, off := 0 }), Value.pointer none, Value.bool false, Value.bool false, Value.bool false, Value.bool false, Value.bool false])) (by simp [results, Tryz.results45, go_sem]) rfl ⟨rfl, rfl⟩

theorem from_113  (w : World)  : Calls Tryz.prog 45 #[.pointer none, .iface 124 (.pointer (some ⟨0, 113, none⟩))] w fun e w' => e = .returned (Value.agg #[Value.iface 124 (Value.pointer (some { block := 0, off := 113 })), Value.int IntKind.u64 25, Value.pointer (some { block := w.heap.size + 1, off := 0 }), Value.pointer none, Value.bool false, Value.bool false, Value.bool false, Value.bool false, Value.bool false]) ∧ ((w.alloc (Obj.cells #[Value.iface 124 (Value.pointer (some { block := 0, off := 113 })), Value.int IntKind.u64 25, Value.pointer (some { block := w.heap.size + 1, off := 0 }), Value.pointer none, Value.bool false, Value.bool false, Value.bool false, Value.bool false, Value.bool false] 47)).alloc (Obj.cells #[Value.pointer none, Value.pointer none, Value.map none, Value.pointer none, Value.pointer none, Value.int IntKind.i64 0, Value.pointer none, Value.pointer none, Value.int IntKind.i64 0, Value.int IntKind.i64 0, Value.bool false, Value.bool false, Value.bool false, Value.bool false] 56)) = w' := by
  go_enter Tryz.func45, Tryz.ntmps45
  go_wp2
  exact bodyPost_ret (v := (Value.agg #[Value.iface 124 (Value.pointer (some { block := 0, off := 113 })), Value.int IntKind.u64 25, Value.pointer (some { block := w.heap.size + 1, off := 0 }), Value.pointer none, Value.bool false, Value.bool false, Value.bool false, Value.bool false, Value.bool false])) (by simp [results, Tryz.results45, go_sem]) rfl ⟨rfl, rfl⟩

theorem from_115  (w : World)  : Calls Tryz.prog 45 #[.pointer none, .iface 124 (.pointer (some ⟨0, 115, none⟩))] w fun e w' => e = .returned (Value.agg #[Value.iface 124 (Value.pointer (some { block := 0, off := 115 })), Value.int IntKind.u64 25, Value.pointer (some { block := w.heap.size + 1, off := 0 }), Value.pointer none, Value.bool false, Value.bool false, Value.bool false, Value.bool false, Value.bool false]) ∧ ((w.alloc (Obj.cells #[Value.iface 124 (Value.pointer (some { block := 0, off := 115 })), Value.int IntKind.u64 25, Value.pointer (some { block := w.heap.size + 1, off := 0 }), Value.pointer none, Value.bool false, Value.bool false, Value.bool false, Value.bool false, Value.bool false] 47)).alloc (Obj.cells #[Value.pointer none, Value.pointer none, Value.map none, Value.pointer none, Value.pointer none, Value.int IntKind.i64 0, Value.pointer none, Value.pointer none, Value.int IntKind.i64 0, Value.int IntKind.i64 0, Value.bool false, Value.bool false, Value.bool false, Value.bool false] 56)) = w' := by
  go_enter Tryz.func45, Tryz.ntmps45
  go_wp2
  exact bodyPost_ret (v := (Value.agg #[Value.iface 124 (Value.pointer (some { block := 0, off := 115 })), Value.int IntKind.u64 25, Value.pointer (some { block := w.heap.size + 1, off := 0 }), Value.pointer none, Value.bool false, Value.bool false, Value.bool false, Value.bool false, Value.bool false])) (by simp [results, Tryz.results45, go_sem]) rfl ⟨rfl, rfl⟩

theorem from_117  (w : World)  : Calls Tryz.prog 45 #[.pointer none, .iface 124 (.pointer (some ⟨0, 117, none⟩))] w fun e w' => e = .returned (Value.agg #[Value.iface 124 (Value.pointer (some { block := 0, off := 117 })), Value.int IntKind.u64 25, Value.pointer (some { block := w.heap.size + 1, off := 0 }), Value.pointer none, Value.bool false, Value.bool false, Value.bool false, Value.bool false, Value.bool false]) ∧ ((w.alloc (Obj.cells #[Value.iface 124 (Value.pointer (some { block := 0, off := 117 })), Value.int IntKind.u64 25, Value.pointer (some { block := w.heap.size + 1, off := 0 }), Value.pointer none, Value.bool false, Value.bool false, Value.bool false, Value.bool false, Value.bool false] 47)).alloc (Obj.cells #[Value.pointer none, Value.pointer none, Value.map none, Value.pointer none, Value.pointer none, Value.int IntKind.i64 0, Value.pointer none, Value.pointer none, Value.int IntKind.i64 0, Value.int IntKind.i64 0, Value.bool false, Value.bool false, Value.bool false, Value.bool false] 56)) = w' := by
  go_enter Tryz.func45, Tryz.ntmps45
  go_wp2
  exact bodyPost_ret (v := (Value.agg #[Value.iface 124 (Value.pointer (some { block := 0, off := 117 })), Value.int IntKind.u64 25, Value.pointer (some { block := w.heap.size + 1, off := 0 }), Value.pointer none, Value.bool false, Value.bool false, Value.bool false, Value.bool false, Value.bool false])) (by simp [results, Tryz.results45, go_sem]) rfl ⟨rfl, rfl⟩

theorem nc_111 (x : Value) (w : World)  : Calls Tryz.prog 79 #[.pointer none, .iface 111 x] w fun e w' => e = .returned (Value.agg #[Value.iface 124 (Value.pointer (some { block := 0, off := 111 })), Value.int IntKind.u64 25, Value.pointer (some { block := w.heap.size + 1 + 1, off := 0 }), Value.pointer none, Value.bool false, Value.bool false, Value.bool false, Value.bool false, Value.bool false]) ∧ (((w.alloc (Obj.cells #[Value.iface 124 (Value.pointer (some { block := 0, off := 111 })), Value.int IntKind.u64 25, Value.pointer (some { block := w.heap.size + 1 + 1, off := 0 }), Value.pointer none, Value.bool false, Value.bool false, Value.bool false, Value.bool false, Value.bool false] 47)).alloc (Obj.cells #[Value.iface 124 (Value.pointer (some { block := 0, off := 111 })), Value.int IntKind.u64 25, Value.pointer (some { block := w.heap.size + 1 + 1, off := 0 }), Value.pointer none, Value.bool false, Value.bool false, Value.bool false, Value.bool false, Value.bool false] 47)).alloc (Obj.cells #[Value.pointer none, Value.pointer none, Value.map none, Value.pointer none, Value.pointer none, Value.int IntKind.i64 0, Value.pointer none, Value.pointer none, Value.int IntKind.i64 0, Value.int IntKind.i64 0, Value.bool false, Value.bool false, Value.bool false, Value.bool false] 56)) = w' := by
  go_enter Tryz.func79, Tryz.ntmps79
  go_wp2_with (first | (go_at_call 45; ((with_reducible refine (from_111 _).mono ?_); rintro e w' ⟨rfl, rfl⟩)))
  exact bodyPost_ret (v := (Value.agg #[Value.iface 124 (Value.pointer (some { block := 0, off := 111 })), Value.int IntKind.u64 25, Value.pointer (some { block := w.heap.size + 1 + 1, off := 0 }), Value.pointer none, Value.bool false, Value.bool false, Value.bool false, Value.bool false, Value.bool false])) (by simp [results, Tryz.results79, go_sem]) rfl ⟨rfl, rfl⟩

theorem nc_113 (x : Value) (w : World)  : Calls Tryz.prog 79 #[.pointer none, .iface 113 x] w fun e w' => e = .returned (Value.agg #[Value.iface 124 (Value.pointer (some { block := 0, off := 113 })), Value.int IntKind.u64 25, Value.pointer (some { block := w.heap.size + 1 + 1, off := 0 }), Value.pointer none, Value.bool false, Value.bool false, Value.bool false, Value.bool false, Value.bool false]) ∧ (((w.alloc (Obj.cells #[Value.iface 124 (Value.pointer (some { block := 0, off := 113 })), Value.int IntKind.u64 25, Value.pointer (some { block := w.heap.size + 1 + 1, off := 0 }), Value.pointer none, Value.bool false, Value.bool false, Value.bool false, Value.bool false, Value.bool false] 47)).alloc (Obj.cells #[Value.iface 124 (Value.pointer (some { block := 0, off := 113 })), Value.int IntKind.u64 25, Value.pointer (some { block := w.heap.size + 1 + 1, off := 0 }), Value.pointer none, Value.bool false, Value.bool false, Value.bool false, Value.bool false, Value.bool false] 47)).alloc (Obj.cells #[Value.pointer none, Value.pointer none, Value.map none, Value.pointer none, Value.pointer none, Value.int IntKind.i64 0, Value.pointer none, Value.pointer none, Value.int IntKind.i64 0, Value.int IntKind.i64 0, Value.bool false, Value.bool false, Value.bool false, Value.bool false] 56)) = w' := by
  go_enter Tryz.func79, Tryz.ntmps79
  go_wp2_with (first | (go_at_call 45; ((with_reducible refine (from_113 _).mono ?_); rintro e w' ⟨rfl, rfl⟩)))
  exact bodyPost_ret (v := (Value.agg #[Value.iface 124 (Value.pointer (some { block := 0, off := 113 })), Value.int IntKind.u64 25, Value.pointer (some { block := w.heap.size + 1 + 1, off := 0 }), Value.pointer none, Value.bool false, Value.bool false, Value.bool false, Value.bool false, Value.bool false])) (by simp [results, Tryz.results79, go_sem]) rfl ⟨rfl, rfl⟩

theorem nc_115 (x : Value) (w : World)  : Calls Tryz.prog 79 #[.pointer none, .iface 115 x] w fun e w' => e = .returned (Value.agg #[Value.iface 124 (Value.pointer (some { block := 0, off := 115 })), Value.int IntKind.u64 25, Value.pointer (some { block := w.heap.size + 1 + 1, off := 0 }), Value.pointer none, Value.bool false, Value.bool false, Value.bool false, Value.bool false, Value.bool false]) ∧ (((w.alloc (Obj.cells #[Value.iface 124 (Value.pointer (some { block := 0, off := 115 })), Value.int IntKind.u64 25, Value.pointer (some { block := w.heap.size + 1 + 1, off := 0 }), Value.pointer none, Value.bool false, Value.bool false, Value.bool false, Value.bool false, Value.bool false] 47)).alloc (Obj.cells #[Value.iface 124 (Value.pointer (some { block := 0, off := 115 })), Value.int IntKind.u64 25, Value.pointer (some { block := w.heap.size + 1 + 1, off := 0 }), Value.pointer none, Value.bool false, Value.bool false, Value.bool false, Value.bool false, Value.bool false] 47)).alloc (Obj.cells #[Value.pointer none, Value.pointer none, Value.map none, Value.pointer none, Value.pointer none, Value.int IntKind.i64 0, Value.pointer none, Value.pointer none, Value.int IntKind.i64 0, Value.int IntKind.i64 0, Value.bool false, Value.bool false, Value.bool false, Value.bool false] 56)) = w' := by
  go_enter Tryz.func79, Tryz.ntmps79
  go_wp2_with (first | (go_at_call 45; ((with_reducible refine (from_115 _).mono ?_); rintro e w' ⟨rfl, rfl⟩)))
  exact bodyPost_ret (v := (Value.agg #[Value.iface 124 (Value.pointer (some { block := 0, off := 115 })), Value.int IntKind.u64 25, Value.pointer (some { block := w.heap.size + 1 + 1, off := 0 }), Value.pointer none, Value.bool false, Value.bool false, Value.bool false, Value.bool false, Value.bool false])) (by simp [results, Tryz.results79, go_sem]) rfl ⟨rfl, rfl⟩

theorem nc_117 (x : Value) (w : World)  : Calls Tryz.prog 79 #[.pointer none, .iface 117 x] w fun e w' => e = .returned (Value.agg #[Value.iface 124 (Value.pointer (some { block := 0, off := 117 })), Value.int IntKind.u64 25, Value.pointer (some { block := w.heap.size + 1 + 1, off := 0 }), Value.pointer none, Value.bool false, Value.bool false, Value.bool false, Value.bool false, Value.bool false]) ∧ (((w.alloc (Obj.cells #[Value.iface 124 (Value.pointer (some { block := 0, off := 117 })), Value.int IntKind.u64 25, Value.pointer (some { block := w.heap.size + 1 + 1, off := 0 }), Value.pointer none, Value.bool false, Value.bool false, Value.bool false, Value.bool false, Value.bool false] 47)).alloc (Obj.cells #[Value.iface 124 (Value.pointer (some { block := 0, off := 117 })), Value.int IntKind.u64 25, Value.pointer (some { block := w.heap.size + 1 + 1, off := 0 }), Value.pointer none, Value.bool false, Value.bool false, Value.bool false, Value.bool false, Value.bool false] 47)).alloc (Obj.cells #[Value.pointer none, Value.pointer none, Value.map none, Value.pointer none, Value.pointer none, Value.int IntKind.i64 0, Value.pointer none, Value.pointer none, Value.int IntKind.i64 0, Value.int IntKind.i64 0, Value.bool false, Value.bool false, Value.bool false, Value.bool false] 56)) = w' := by
  go_enter Tryz.func79, Tryz.ntmps79
  go_wp2_with (first | (go_at_call 45; ((with_reducible refine (from_117 _).mono ?_); rintro e w' ⟨rfl, rfl⟩)))
  exact bodyPost_ret (v := (Value.agg #[Value.iface 124 (Value.pointer (some { block := 0, off := 117 })), Value.int IntKind.u64 25, Value.pointer (some { block := w.heap.size + 1 + 1, off := 0 }), Value.pointer none, Value.bool false, Value.bool false, Value.bool false, Value.bool false, Value.bool false])) (by simp [results, Tryz.results79, go_sem]) rfl ⟨rfl, rfl⟩

theorem no_111 (x : Value) (w : World)  : Calls Tryz.prog 89 #[.iface 111 x] w fun e w' => e = .returned (Value.agg #[Value.iface 124 (Value.pointer (some { block := 0, off := 111 })), Value.int IntKind.u64 25, Value.pointer (some { block := w.heap.size + 1 + 1 + 1, off := 0 }), Value.pointer none, Value.bool false, Value.bool false, Value.bool false, Value.bool false, Value.bool false]) ∧ ((((w.alloc (Obj.cells #[Value.iface 124 (Value.pointer (some { block := 0, off := 111 })), Value.int IntKind.u64 25, Value.pointer (some { block := w.heap.size + 1 + 1 + 1, off := 0 }), Value.pointer none, Value.bool false, Value.bool false, Value.bool false, Value.bool false, Value.bool false] 47)).alloc (Obj.cells #[Value.iface 124 (Value.pointer (some { block := 0, off := 111 })), Value.int IntKind.u64 25, Value.pointer (some { block := w.heap.size + 1 + 1 + 1, off := 0 }), Value.pointer none, Value.bool false, Value.bool false, Value.bool false, Value.bool false, Value.bool false] 47)).alloc (Obj.cells #[Value.iface 124 (Value.pointer (some { block := 0, off := 111 })), Value.int IntKind.u64 25, Value.pointer (some { block := w.heap.size + 1 + 1 + 1, off := 0 }), Value.pointer none, Value.bool false, Value.bool false, Value.bool false, Value.bool false, Value.bool false] 47)).alloc (Obj.cells #[Value.pointer none, Value.pointer none, Value.map none, Value.pointer none, Value.pointer none, Value.int IntKind.i64 0, Value.pointer none, Value.pointer none, Value.int IntKind.i64 0, Value.int IntKind.i64 0, Value.bool false, Value.bool false, Value.bool false, Value.bool false] 56)) = w' := by
  go_enter Tryz.func89, Tryz.ntmps89
  go_wp2_with (first | (go_at_call 79; ((with_reducible refine (nc_111 _ _).mono ?_); rintro e w' ⟨rfl, rfl⟩)))
  exact bodyPost_ret (v := (Value.agg #[Value.iface 124 (Value.pointer (some { block := 0, off := 111 })), Value.int IntKind.u64 25, Value.pointer (some { block := w.heap.size + 1 + 1 + 1, off := 0 }), Value.pointer none, Value.bool false, Value.bool false, Value.bool false, Value.bool false, Value.bool false])) (by simp [results, Tryz.results89, go_sem]) rfl ⟨rfl, rfl⟩

theorem no_113 (x : Value) (w : World)  : Calls Tryz.prog 89 #[.iface 113 x] w fun e w' => e = .returned (Value.agg #[Value.iface 124 (Value.pointer (some { block := 0, off := 113 })), Value.int IntKind.u64 25, Value.pointer (some { block := w.heap.size + 1 + 1 + 1, off := 0 }), Value.pointer none, Value.bool false, Value.bool false, Value.bool false, Value.bool false, Value.bool false]) ∧ ((((w.alloc (Obj.cells #[Value.iface 124 (Value.pointer (some { block := 0, off := 113 })), Value.int IntKind.u64 25, Value.pointer (some { block := w.heap.size + 1 + 1 + 1, off := 0 }), Value.pointer none, Value.bool false, Value.bool false, Value.bool false, Value.bool false, Value.bool false] 47)).alloc (Obj.cells #[Value.iface 124 (Value.pointer (some { block := 0, off := 113 })), Value.int IntKind.u64 25, Value.pointer (some { block := w.heap.size + 1 + 1 + 1, off := 0 }), Value.pointer none, Value.bool false, Value.bool false, Value.bool false, Value.bool false, Value.bool false] 47)).alloc (Obj.cells #[Value.iface 124 (Value.pointer (some { block := 0, off := 113 })), Value.int IntKind.u64 25, Value.pointer (some { block := w.heap.size + 1 + 1 + 1, off := 0 }), Value.pointer none, Value.bool false, Value.bool false, Value.bool false, Value.bool false, Value.bool false] 47)).alloc (Obj.cells #[Value.pointer none, Value.pointer none, Value.map none, Value.pointer none, Value.pointer none, Value.int IntKind.i64 0, Value.pointer none, Value.pointer none, Value.int IntKind.i64 0, Value.int IntKind.i64 0, Value.bool false, Value.bool false, Value.bool false, Value.bool false] 56)) = w' := by
  go_enter Tryz.func89, Tryz.ntmps89
  go_wp2_with (first | (go_at_call 79; ((with_reducible refine (nc_113 _ _).mono ?_); rintro e w' ⟨rfl, rfl⟩)))
  exact bodyPost_ret (v := (Value.agg #[Value.iface 124 (Value.pointer (some { block := 0, off := 113 })), Value.int IntKind.u64 25, Value.pointer (some { block := w.heap.size + 1 + 1 + 1, off := 0 }), Value.pointer none, Value.bool false, Value.bool false, Value.bool false, Value.bool false, Value.bool false])) (by simp [results, Tryz.results89, go_sem]) rfl ⟨rfl, rfl⟩

theorem no_115 (x : Value) (w : World)  : Calls Tryz.prog 89 #[.iface 115 x] w fun e w' => e = .returned (Value.agg #[Value.iface 124 (Value.pointer (some { block := 0, off := 115 })), Value.int IntKind.u64 25, Value.pointer (some { block := w.heap.size + 1 + 1 + 1, off := 0 }), Value.pointer none, Value.bool false, Value.bool false, Value.bool false, Value.bool false, Value.bool false]) ∧ ((((w.alloc (Obj.cells #[Value.iface 124 (Value.pointer (some { block := 0, off := 115 })), Value.int IntKind.u64 25, Value.pointer (some { block := w.heap.size + 1 + 1 + 1, off := 0 }), Value.pointer none, Value.bool false, Value.bool false, Value.bool false, Value.bool false, Value.bool false] 47)).alloc (Obj.cells #[Value.iface 124 (Value.pointer (some { block := 0, off := 115 })), Value.int IntKind.u64 25, Value.pointer (some { block := w.heap.size + 1 + 1 + 1, off := 0 }), Value.pointer none, Value.bool false, Value.bool false, Value.bool false, Value.bool false, Value.bool false] 47)).alloc (Obj.cells #[Value.iface 124 (Value.pointer (some { block := 0, off := 115 })), Value.int IntKind.u64 25, Value.pointer (some { block := w.heap.size + 1 + 1 + 1, off := 0 }), Value.pointer none, Value.bool false, Value.bool false, Value.bool false, Value.bool false, Value.bool false] 47)).alloc (Obj.cells #[Value.pointer none, Value.pointer none, Value.map none, Value.pointer none, Value.pointer none, Value.int IntKind.i64 0, Value.pointer none, Value.pointer none, Value.int IntKind.i64 0, Value.int IntKind.i64 0, Value.bool false, Value.bool false, Value.bool false, Value.bool false] 56)) = w' := by
  go_enter Tryz.func89, Tryz.ntmps89
  go_wp2_with (first | (go_at_call 79; ((with_reducible refine (nc_115 _ _).mono ?_); rintro e w' ⟨rfl, rfl⟩)))
  exact bodyPost_ret (v := (Value.agg #[Value.iface 124 (Value.pointer (some { block := 0, off := 115 })), Value.int IntKind.u64 25, Value.pointer (some { block := w.heap.size + 1 + 1 + 1, off := 0 }), Value.pointer none, Value.bool false, Value.bool false, Value.bool false, Value.bool false, Value.bool false])) (by simp [results, Tryz.results89, go_sem]) rfl ⟨rfl, rfl⟩

theorem no_117 (x : Value) (w : World)  : Calls Tryz.prog 89 #[.iface 117 x] w fun e w' => e = .returned (Value.agg #[Value.iface 124 (Value.pointer (some { block := 0, off := 117 })), Value.int IntKind.u64 25, Value.pointer (some { block := w.heap.size + 1 + 1 + 1, off := 0 }), Value.pointer none, Value.bool false, Value.bool false, Value.bool false, Value.bool false, Value.bool false]) ∧ ((((w.alloc (Obj.cells #[Value.iface 124 (Value.pointer (some { block := 0, off := 117 })), Value.int IntKind.u64 25, Value.pointer (some { block := w.heap.size + 1 + 1 + 1, off := 0 }), Value.pointer none, Value.bool false, Value.bool false, Value.bool false, Value.bool false, Value.bool false] 47)).alloc (Obj.cells #[Value.iface 124 (Value.pointer (some { block := 0, off := 117 })), Value.int IntKind.u64 25, Value.pointer (some { block := w.heap.size + 1 + 1 + 1, off := 0 }), Value.pointer none, Value.bool false, Value.bool false, Value.bool false, Value.bool false, Value.bool false] 47)).alloc (Obj.cells #[Value.iface 124 (Value.pointer (some { block := 0, off := 117 })), Value.int IntKind.u64 25, Value.pointer (some { block := w.heap.size + 1 + 1 + 1, off := 0 }), Value.pointer none, Value.bool false, Value.bool false, Value.bool false, Value.bool false, Value.bool false] 47)).alloc (Obj.cells #[Value.pointer none, Value.pointer none, Value.map none, Value.pointer none, Value.pointer none, Value.int IntKind.i64 0, Value.pointer none, Value.pointer none, Value.int IntKind.i64 0, Value.int IntKind.i64 0, Value.bool false, Value.bool false, Value.bool false, Value.bool false] 56)) = w' := by
  go_enter Tryz.func89, Tryz.ntmps89
  go_wp2_with (first | (go_at_call 79; ((with_reducible refine (nc_117 _ _).mono ?_); rintro e w' ⟨rfl, rfl⟩)))
  exact bodyPost_ret (v := (Value.agg #[Value.iface 124 (Value.pointer (some { block := 0, off := 117 })), Value.int IntKind.u64 25, Value.pointer (some { block := w.heap.size + 1 + 1 + 1, off := 0 }), Value.pointer none, Value.bool false, Value.bool false, Value.bool false, Value.bool false, Value.bool false])) (by simp [results, Tryz.results89, go_sem]) rfl ⟨rfl, rfl⟩

@[go_sem] theorem nf_111 (w : World) : (callFunc 196 #[.pointer (some ⟨0, 111, none⟩)]).run Tryz.prog w = .ok (.value (.int .i64 2)) w := by kernel_rfl

@[go_sem] theorem str_111 (w : World) : (callFunc 208 #[.pointer (some ⟨0, 111, none⟩)]).run Tryz.prog w = .ok (.value (.string ⟨#[122, 122, 108, 97, 119, 115, 46, 122, 122, 80, 111, 105, 110, 116]⟩)) w := by kernel_rfl

theorem zg1_111 (cb : Nat) (w : World) (hC : At w cb (cac none)) : Calls Tryz.prog 50 #[.pointer (some ⟨cb, 0, none⟩), .iface 124 (.pointer (some ⟨0, 111, none⟩))] w fun e w' => ∃ td sd mc, e = .returned (.agg (natc 111 25 (some ⟨td, 0, none⟩) false false)) ∧ Sole cb w w' ∧ At w' cb (cac (some mc)) ∧ Ty w' mc (fun a => if a = 111 then some td else none) ∧ At w' td (tdc sd) ∧ At w' sd (sd0 111 2) ∧ w.heap.size ≤ td ∧ w.heap.size ≤ sd ∧ w.heap.size ≤ mc := by
  have hCl := hC.lt
  have hne : w.heap.size ≠ cb := by omega
  have hCH := Lib.hid hC
  clear hC
  go_enter Tryz.func50, Tryz.ntmps50
  go_wp2_with (first | (go_at_call 80; ((with_reducible refine (gs_first 111 2 nf_111 cb _ (hCH.out.alloc _)).mono ?_); rintro e w1 ⟨td, sd, mc, rfl, hb, f0, f1, f2, f3, l0, l1, l2⟩; have hR := (At.new w #[.nilIface, .int .u64 0, .pointer none, .pointer none, .bool false, .bool false, .bool false, .bool false, .bool false] 47 w.heap.size rfl).sole hb hne; have hrl := hR.lt; obtain ⟨hr1, hr2, hr3, hr4⟩ := szs hrl; have hrp := hR.plain; have hrc := hR.cells; have hrz : (cellsAt w1 w.heap.size).size = 9 := (by rw [hrc]; rfl); have HR := Lib.hid hR; have HB := Lib.hid hb; have f0H := Lib.hid f0; have f0l := f0.lt; have f1H := Lib.hid f1; have f1l := f1.lt; have f2H := Lib.hid f2; have f2l := f2.lt; have f3H := Lib.hid f3; have f3l := f3.lt; clear hR hb f0 f1 f2 f3)))
  refine bodyPost_ret (v := .agg (natc 111 25 (some ⟨td, 0, none⟩) false false)) (by simp [results, Tryz.results50, go_sem, hrp, hrc]) rfl ?_
  simp at l0 l1 l2
  refine ⟨td, sd, mc, rfl, ?_, ?_, ?_, ?_, ?_, by omega, by omega, by omega⟩
  · have hF : Sole cb w w1 := Sole.next (bal (Below.refl _ _) _) HB.out
    repeat (first | with_reducible exact hF | with_reducible refine Sole.new ?_ (Nat.le_refl _) _ _ | with_reducible refine Sole.rowNew ?_ (Nat.le_refl _) _ | with_reducible refine Sole.alloc ?_ _ | with_reducible refine Sole.drew ?_)
  · repeat (first | with_reducible exact f0H.out | ((with_reducible refine At.rowOther ?_ _ _ ?ne); (case ne => omega)) | ((with_reducible refine At.other ?_ _ _ _ ?ne); (case ne => omega)) | with_reducible refine At.alloc ?_ _ | with_reducible refine At.drew ?_)
  · repeat (first | with_reducible exact f1H.out | ((with_reducible refine Ty.rowOther ?_ _ _ ?ne); (case ne => omega)) | ((with_reducible refine Ty.other ?_ _ _ _ ?ne); (case ne => omega)) | with_reducible refine Ty.alloc ?_ _ | with_reducible refine Ty.drew ?_)
  · repeat (first | with_reducible exact f2H.out | ((with_reducible refine At.rowOther ?_ _ _ ?ne); (case ne => omega)) | ((with_reducible refine At.other ?_ _ _ _ ?ne); (case ne => omega)) | with_reducible refine At.alloc ?_ _ | with_reducible refine At.drew ?_)
  · repeat (first | with_reducible exact f3H.out | ((with_reducible refine At.rowOther ?_ _ _ ?ne); (case ne => omega)) | ((with_reducible refine At.other ?_ _ _ _ ?ne); (case ne => omega)) | with_reducible refine At.alloc ?_ _ | with_reducible refine At.drew ?_)

theorem zg2_111 (td mc : Nat) (G : Nat → Option Nat) (cb : Nat) (w : World) (hC : At w cb (cac (some mc))) (hT : Ty w mc G) (hG : G 111 = some td) : Calls Tryz.prog 50 #[.pointer (some ⟨cb, 0, none⟩), .iface 124 (.pointer (some ⟨0, 111, none⟩))] w fun e w' => e = .returned (.agg (natc 111 25 (some ⟨td, 0, none⟩) false false)) ∧ Below w.heap.size w w' := by
  have hCl := hC.lt
  have hCH := Lib.hid hC
  have hTl := hT.lt
  have hTH := Lib.hid hT
  have hGH := Lib.hid hG
  clear hC hT hG
  go_enter Tryz.func50, Tryz.ntmps50
  go_wp2_with (first | (go_at_call 80; ((with_reducible refine (gs_hit 111 td mc G cb _ (hCH.out.alloc _) (hTH.out.alloc _) hGH.out).mono ?_); rintro e w1 ⟨rfl, hb⟩; have hR := (At.new w #[.nilIface, .int .u64 0, .pointer none, .pointer none, .bool false, .bool false, .bool false, .bool false, .bool false] 47 w.heap.size rfl).bel hb; have hrl := hR.lt; obtain ⟨hr1, hr2, hr3, hr4⟩ := szs hrl; have hrp := hR.plain; have hrc := hR.cells; have hrz : (cellsAt w1 w.heap.size).size = 9 := (by rw [hrc]; rfl); have HR := Lib.hid hR; have HB := Lib.hid hb; clear hR hb )))
  refine bodyPost_ret (v := .agg (natc 111 25 (some ⟨td, 0, none⟩) false false)) (by simp [results, Tryz.results50, go_sem, hrp, hrc]) rfl ?_
  refine ⟨rfl, ?_⟩
  · have hF : Below w.heap.size w w1 := bnext (bal (Below.refl _ _) _) HB.out
    repeat (first | with_reducible exact hF | with_reducible refine bsetNew ?_ (Nat.le_refl _) _ _ | with_reducible refine browNew ?_ (Nat.le_refl _) _ | with_reducible refine bal ?_ _ | with_reducible refine Below.drew ?_)

theorem zg3_111 (mc : Nat) (G : Nat → Option Nat) (cb : Nat) (w : World) (hC : At w cb (cac (some mc))) (hT : Ty w mc G) (hG : G 111 = none) : Calls Tryz.prog 50 #[.pointer (some ⟨cb, 0, none⟩), .iface 124 (.pointer (some ⟨0, 111, none⟩))] w fun e w' => ∃ td sd, e = .returned (.agg (natc 111 25 (some ⟨td, 0, none⟩) false false)) ∧ Sole mc w w' ∧ Ty w' mc (fun a => if a = 111 then some td else G a) ∧ At w' td (tdc sd) ∧ At w' sd (sd0 111 2) ∧ w.heap.size ≤ td ∧ w.heap.size ≤ sd := by
  have hCl := hC.lt
  have hCH := Lib.hid hC
  have hTl := hT.lt
  have hne : w.heap.size ≠ mc := by omega
  have hTH := Lib.hid hT
  have hGH := Lib.hid hG
  clear hC hT hG
  go_enter Tryz.func50, Tryz.ntmps50
  go_wp2_with (first | (go_at_call 80; ((with_reducible refine (gs_next 111 2 nf_111 mc G cb _ (hCH.out.alloc _) (hTH.out.alloc _) hGH.out).mono ?_); rintro e w1 ⟨td, sd, rfl, hb, f0, f1, f2, l0, l1⟩; have hR := (At.new w #[.nilIface, .int .u64 0, .pointer none, .pointer none, .bool false, .bool false, .bool false, .bool false, .bool false] 47 w.heap.size rfl).sole hb hne; have hrl := hR.lt; obtain ⟨hr1, hr2, hr3, hr4⟩ := szs hrl; have hrp := hR.plain; have hrc := hR.cells; have hrz : (cellsAt w1 w.heap.size).size = 9 := (by rw [hrc]; rfl); have HR := Lib.hid hR; have HB := Lib.hid hb; have f0H := Lib.hid f0; have f0l := f0.lt; have f1H := Lib.hid f1; have f1l := f1.lt; have f2H := Lib.hid f2; have f2l := f2.lt; clear hR hb f0 f1 f2)))
  refine bodyPost_ret (v := .agg (natc 111 25 (some ⟨td, 0, none⟩) false false)) (by simp [results, Tryz.results50, go_sem, hrp, hrc]) rfl ?_
  simp at l0 l1
  refine ⟨td, sd, rfl, ?_, ?_, ?_, ?_, by omega, by omega⟩
  · have hF : Sole mc w w1 := Sole.next (bal (Below.refl _ _) _) HB.out
    repeat (first | with_reducible exact hF | with_reducible refine Sole.new ?_ (Nat.le_refl _) _ _ | with_reducible refine Sole.rowNew ?_ (Nat.le_refl _) _ | with_reducible refine Sole.alloc ?_ _ | with_reducible refine Sole.drew ?_)
  · repeat (first | with_reducible exact f0H.out | ((with_reducible refine Ty.rowOther ?_ _ _ ?ne); (case ne => omega)) | ((with_reducible refine Ty.other ?_ _ _ _ ?ne); (case ne => omega)) | with_reducible refine Ty.alloc ?_ _ | with_reducible refine Ty.drew ?_)
  · repeat (first | with_reducible exact f1H.out | ((with_reducible refine At.rowOther ?_ _ _ ?ne); (case ne => omega)) | ((with_reducible refine At.other ?_ _ _ _ ?ne); (case ne => omega)) | with_reducible refine At.alloc ?_ _ | with_reducible refine At.drew ?_)
  · repeat (first | with_reducible exact f2H.out | ((with_reducible refine At.rowOther ?_ _ _ ?ne); (case ne => omega)) | ((with_reducible refine At.other ?_ _ _ _ ?ne); (case ne => omega)) | with_reducible refine At.alloc ?_ _ | with_reducible refine At.drew ?_)

@[go_sem] theorem nf_113 (w : World) : (callFunc 196 #[.pointer (some ⟨0, 113, none⟩)]).run Tryz.prog w = .ok (.value (.int .i64 5)) w := by kernel_rfl

@[go_sem] theorem str_113 (w : World) : (callFunc 208 #[.pointer (some ⟨0, 113, none⟩)]).run Tryz.prog w = .ok (.value (.string ⟨#[122, 122, 108, 97, 119, 115, 46, 122, 122, 82, 101, 99]⟩)) w := by kernel_rfl

theorem zg1_113 (cb : Nat) (w : World) (hC : At w cb (cac none)) : Calls Tryz.prog 50 #[.pointer (some ⟨cb, 0, none⟩), .iface 124 (.pointer (some ⟨0, 113, none⟩))] w fun e w' => ∃ td sd mc, e = .returned (.agg (natc 113 25 (some ⟨td, 0, none⟩) false false)) ∧ Sole cb w w' ∧ At w' cb (cac (some mc)) ∧ Ty w' mc (fun a => if a = 113 then some td else none) ∧ At w' td (tdc sd) ∧ At w' sd (sd0 113 5) ∧ w.heap.size ≤ td ∧ w.heap.size ≤ sd ∧ w.heap.size ≤ mc := by
  have hCl := hC.lt
  have hne : w.heap.size ≠ cb := by omega
  have hCH := Lib.hid hC
  clear hC
  go_enter Tryz.func50, Tryz.ntmps50
  go_wp2_with (first | (go_at_call 80; ((with_reducible refine (gs_first 113 5 nf_113 cb _ (hCH.out.alloc _)).mono ?_); rintro e w1 ⟨td, sd, mc, rfl, hb, f0, f1, f2, f3, l0, l1, l2⟩; have hR := (At.new w #[.nilIface, .int .u64 0, .pointer none, .pointer none, .bool false, .bool false, .bool false, .bool false, .bool false] 47 w.heap.size rfl).sole hb hne; have hrl := hR.lt; obtain ⟨hr1, hr2, hr3, hr4⟩ := szs hrl; have hrp := hR.plain; have hrc := hR.cells; have hrz : (cellsAt w1 w.heap.size).size = 9 := (by rw [hrc]; rfl); have HR := Lib.hid hR; have HB := Lib.hid hb; have f0H := Lib.hid f0; have f0l := f0.lt; have f1H := Lib.hid f1; have f1l := f1.lt; have f2H := Lib.hid f2; have f2l := f2.lt; have f3H := Lib.hid f3; have f3l := f3.lt; clear hR hb f0 f1 f2 f3)))
  refine bodyPost_ret (v := .agg (natc 113 25 (some ⟨td, 0, none⟩) false false)) (by simp [results, Tryz.results50, go_sem, hrp, hrc]) rfl ?_
  simp at l0 l1 l2
  refine ⟨td, sd, mc, rfl, ?_, ?_, ?_, ?_, ?_, by omega, by omega, by omega⟩
  · have hF : Sole cb w w1 := Sole.next (bal (Below.refl _ _) _) HB.out
    repeat (first | with_reducible exact hF | with_reducible refine Sole.new ?_ (Nat.le_refl _) _ _ | with_reducible refine Sole.rowNew ?_ (Nat.le_refl _) _ | with_reducible refine Sole.alloc ?_ _ | with_reducible refine Sole.drew ?_)
  · repeat (first | with_reducible exact f0H.out | ((with_reducible refine At.rowOther ?_ _ _ ?ne); (case ne => omega)) | ((with_reducible refine At.other ?_ _ _ _ ?ne); (case ne => omega)) | with_reducible refine At.alloc ?_ _ | with_reducible refine At.drew ?_)
  · repeat (first | with_reducible exact f1H.out | ((with_reducible refine Ty.rowOther ?_ _ _ ?ne); (case ne => omega)) | ((with_reducible refine Ty.other ?_ _ _ _ ?ne); (case ne => omega)) | with_reducible refine Ty.alloc ?_ _ | with_reducible refine Ty.drew ?_)
  · repeat (first | with_reducible exact f2H.out | ((with_reducible refine At.rowOther ?_ _ _ ?ne); (case ne => omega)) | ((with_reducible refine At.other ?_ _ _ _ ?ne); (case ne => omega)) | with_reducible refine At.alloc ?_ _ | with_reducible refine At.drew ?_)
  · repeat (first | with_reducible exact f3H.out | ((with_reducible refine At.rowOther ?_ _ _ ?ne); (case ne => omega)) | ((with_reducible refine At.other ?_ _ _ _ ?ne); (case ne => omega)) | with_reducible refine At.alloc ?_ _ | with_reducible refine At.drew ?_)

theorem zg2_113 (td mc : Nat) (G : Nat → Option Nat) (cb : Nat) (w : World) (hC : At w cb (cac (some mc))) (hT : Ty w mc G) (hG : G 113 = some td) : Calls Tryz.prog 50 #[.pointer (some ⟨cb, 0, none⟩), .iface 124 (.pointer (some ⟨0, 113, none⟩))] w fun e w' => e = .returned (.agg (natc 113 25 (some ⟨td, 0, none⟩) false false)) ∧ Below w.heap.size w w' := by
  have hCl := hC.lt
  have hCH := Lib.hid hC
  have hTl := hT.lt
  have hTH := Lib.hid hT
  have hGH := Lib.hid hG
  clear hC hT hG
  go_enter Tryz.func50, Tryz.ntmps50
  go_wp2_with (first | (go_at_call 80; ((with_reducible refine (gs_hit 113 td mc G cb _ (hCH.out.alloc _) (hTH.out.alloc _) hGH.out).mono ?_); rintro e w1 ⟨rfl, hb⟩; have hR := (At.new w #[.nilIface, .int .u64 0, .pointer none, .pointer none, .bool false, .bool false, .bool false, .bool false, .bool false] 47 w.heap.size rfl).bel hb; have hrl := hR.lt; obtain ⟨hr1, hr2, hr3, hr4⟩ := szs hrl; have hrp := hR.plain; have hrc := hR.cells; have hrz : (cellsAt w1 w.heap.size).size = 9 := (by rw [hrc]; rfl); have HR := Lib.hid hR; have HB := Lib.hid hb; clear hR hb )))
  refine bodyPost_ret (v := .agg (natc 113 25 (some ⟨td, 0, none⟩) false false)) (by simp [results, Tryz.results50, go_sem, hrp, hrc]) rfl ?_
  refine ⟨rfl, ?_⟩
  · have hF : Below w.heap.size w w1 := bnext (bal (Below.refl _ _) _) HB.out
    repeat (first | with_reducible exact hF | with_reducible refine bsetNew ?_ (Nat.le_refl _) _ _ | with_reducible refine browNew ?_ (Nat.le_refl _) _ | with_reducible refine bal ?_ _ | with_reducible refine Below.drew ?_)

theorem zg3_113 (mc : Nat) (G : Nat → Option Nat) (cb : Nat) (w : World) (hC : At w cb (cac (some mc))) (hT : Ty w mc G) (hG : G 113 = none) : Calls Tryz.prog 50 #[.pointer (some ⟨cb, 0, none⟩), .iface 124 (.pointer (some ⟨0, 113, none⟩))] w fun e w' => ∃ td sd, e = .returned (.agg (natc 113 25 (some ⟨td, 0, none⟩) false false)) ∧ Sole mc w w' ∧ Ty w' mc (fun a => if a = 113 then some td else G a) ∧ At w' td (tdc sd) ∧ At w' sd (sd0 113 5) ∧ w.heap.size ≤ td ∧ w.heap.size ≤ sd := by
  have hCl := hC.lt
  have hCH := Lib.hid hC
  have hTl := hT.lt
  have hne : w.heap.size ≠ mc := by omega
  have hTH := Lib.hid hT
  have hGH := Lib.hid hG
  clear hC hT hG
  go_enter Tryz.func50, Tryz.ntmps50
  go_wp2_with (first | (go_at_call 80; ((with_reducible refine (gs_next 113 5 nf_113 mc G cb _ (hCH.out.alloc _) (hTH.out.alloc _) hGH.out).mono ?_); rintro e w1 ⟨td, sd, rfl, hb, f0, f1, f2, l0, l1⟩; have hR := (At.new w #[.nilIface, .int .u64 0, .pointer none, .pointer none, .bool false, .bool false, .bool false, .bool false, .bool false] 47 w.heap.size rfl).sole hb hne; have hrl := hR.lt; obtain ⟨hr1, hr2, hr3, hr4⟩ := szs hrl; have hrp := hR.plain; have hrc := hR.cells; have hrz : (cellsAt w1 w.heap.size).size = 9 := (by rw [hrc]; rfl); have HR := Lib.hid hR; have HB := Lib.hid hb; have f0H := Lib.hid f0; have f0l := f0.lt; have f1H := Lib.hid f1; have f1l := f1.lt; have f2H := Lib.hid f2; have f2l := f2.lt; clear hR hb f0 f1 f2)))
  refine bodyPost_ret (v := .agg (natc 113 25 (some ⟨td, 0, none⟩) false false)) (by simp [results, Tryz.results50, go_sem, hrp, hrc]) rfl ?_
  simp at l0 l1
  refine ⟨td, sd, rfl, ?_, ?_, ?_, ?_, by omega, by omega⟩
  · have hF : Sole mc w w1 := Sole.next (bal (Below.refl _ _) _) HB.out
    repeat (first | with_reducible exact hF | with_reducible refine Sole.new ?_ (Nat.le_refl _) _ _ | with_reducible refine Sole.rowNew ?_ (Nat.le_refl _) _ | with_reducible refine Sole.alloc ?_ _ | with_reducible refine Sole.drew ?_)
  · repeat (first | with_reducible exact f0H.out | ((with_reducible refine Ty.rowOther ?_ _ _ ?ne); (case ne => omega)) | ((with_reducible refine Ty.other ?_ _ _ _ ?ne); (case ne => omega)) | with_reducible refine Ty.alloc ?_ _ | with_reducible refine Ty.drew ?_)
  · repeat (first | with_reducible exact f1H.out | ((with_reducible refine At.rowOther ?_ _ _ ?ne); (case ne => omega)) | ((with_reducible refine At.other ?_ _ _ _ ?ne); (case ne => omega)) | with_reducible refine At.alloc ?_ _ | with_reducible refine At.drew ?_)
  · repeat (first | with_reducible exact f2H.out | ((with_reducible refine At.rowOther ?_ _ _ ?ne); (case ne => omega)) | ((with_reducible refine At.other ?_ _ _ _ ?ne); (case ne => omega)) | with_reducible refine At.alloc ?_ _ | with_reducible refine At.drew ?_)

@[go_sem] theorem nf_115 (w : World) : (callFunc 196 #[.pointer (some ⟨0, 115, none⟩)]).run Tryz.prog w = .ok (.value (.int .i64 2)) w := by kernel_rfl

@[go_sem] theorem str_115 (w : World) : (callFunc 208 #[.pointer (some ⟨0, 115, none⟩)]).run Tryz.prog w = .ok (.value (.string ⟨#[122, 122, 108, 97, 119, 115, 46, 122, 122, 79, 117, 116, 101, 114]⟩)) w := by kernel_rfl

theorem zg1_115 (cb : Nat) (w : World) (hC : At w cb (cac none)) : Calls Tryz.prog 50 #[.pointer (some ⟨cb, 0, none⟩), .iface 124 (.pointer (some ⟨0, 115, none⟩))] w fun e w' => ∃ td sd mc, e = .returned (.agg (natc 115 25 (some ⟨td, 0, none⟩) false false)) ∧ Sole cb w w' ∧ At w' cb (cac (some mc)) ∧ Ty w' mc (fun a => if a = 115 then some td else none) ∧ At w' td (tdc sd) ∧ At w' sd (sd0 115 2) ∧ w.heap.size ≤ td ∧ w.heap.size ≤ sd ∧ w.heap.size ≤ mc := by
  have hCl := hC.lt
  have hne : w.heap.size ≠ cb := by omega
  have hCH := Lib.hid hC
  clear hC
  go_enter Tryz.func50, Tryz.ntmps50
  go_wp2_with (first | (go_at_call 80; ((with_reducible refine (gs_first 115 2 nf_115 cb _ (hCH.out.alloc _)).mono ?_); rintro e w1 ⟨td, sd, mc, rfl, hb, f0, f1, f2, f3, l0, l1, l2⟩; have hR := (At.new w #[.nilIface, .int .u64 0, .pointer none, .pointer none, .bool false, .bool false, .bool false, .bool false, .bool false] 47 w.heap.size rfl).sole hb hne; have hrl := hR.lt; obtain ⟨hr1, hr2, hr3, hr4⟩ := szs hrl; have hrp := hR.plain; have hrc := hR.cells; have hrz : (cellsAt w1 w.heap.size).size = 9 := (by rw [hrc]; rfl); have HR := Lib.hid hR; have HB := Lib.hid hb; have f0H := Lib.hid f0; have f0l := f0.lt; have f1H := Lib.hid f1; have f1l := f1.lt; have f2H := Lib.hid f2; have f2l := f2.lt; have f3H := Lib.hid f3; have f3l := f3.lt; clear hR hb f0 f1 f2 f3)))
  refine bodyPost_ret (v := .agg (natc 115 25 (some ⟨td, 0, none⟩) false false)) (by simp [results, Tryz.results50, go_sem, hrp, hrc]) rfl ?_
  simp at l0 l1 l2
  refine ⟨td, sd, mc, rfl, ?_, ?_, ?_, ?_, ?_, by omega, by omega, by omega⟩
  · have hF : Sole cb w w1 := Sole.next (bal (Below.refl _ _) _) HB.out
    repeat (first | with_reducible exact hF | with_reducible refine Sole.new ?_ (Nat.le_refl _) _ _ | with_reducible refine Sole.rowNew ?_ (Nat.le_refl _) _ | with_reducible refine Sole.alloc ?_ _ | with_reducible refine Sole.drew ?_)
  · repeat (first | with_reducible exact f0H.out | ((with_reducible refine At.rowOther ?_ _ _ ?ne); (case ne => omega)) | ((with_reducible refine At.other ?_ _ _ _ ?ne); (case ne => omega)) | with_reducible refine At.alloc ?_ _ | with_reducible refine At.drew ?_)
  · repeat (first | with_reducible exact f1H.out | ((with_reducible refine Ty.rowOther ?_ _ _ ?ne); (case ne => omega)) | ((with_reducible refine Ty.other ?_ _ _ _ ?ne); (case ne => omega)) | with_reducible refine Ty.alloc ?_ _ | with_reducible refine Ty.drew ?_)
  · repeat (first | with_reducible exact f2H.out | ((with_reducible refine At.rowOther ?_ _ _ ?ne); (case ne => omega)) | ((with_reducible refine At.other ?_ _ _ _ ?ne); (case ne => omega)) | with_reducible refine At.alloc ?_ _ | with_reducible refine At.drew ?_)
  · repeat (first | with_reducible exact f3H.out | ((with_reducible refine At.rowOther ?_ _ _ ?ne); (case ne => omega)) | ((with_reducible refine At.other ?_ _ _ _ ?ne); (case ne => omega)) | with_reducible refine At.alloc ?_ _ | with_reducible refine At.drew ?_)

theorem zg2_115 (td mc : Nat) (G : Nat → Option Nat) (cb : Nat) (w : World) (hC : At w cb (cac (some mc))) (hT : Ty w mc G) (hG : G 115 = some td) : Calls Tryz.prog 50 #[.pointer (some ⟨cb, 0, none⟩), .iface 124 (.pointer (some ⟨0, 115, none⟩))] w fun e w' => e = .returned (.agg (natc 115 25 (some ⟨td, 0, none⟩) false false)) ∧ Below w.heap.size w w' := by
  have hCl := hC.lt
  have hCH := Lib.hid hC
  have hTl := hT.lt
  have hTH := Lib.hid hT
  have hGH := Lib.hid hG
  clear hC hT hG
  go_enter Tryz.func50, Tryz.ntmps50
  go_wp2_with (first | (go_at_call 80; ((with_reducible refine (gs_hit 115 td mc G cb _ (hCH.out.alloc _) (hTH.out.alloc _) hGH.out).mono ?_); rintro e w1 ⟨rfl, hb⟩; have hR := (At.new w #[.nilIface, .int .u64 0, .pointer none, .pointer none, .bool false, .bool false, .bool false, .bool false, .bool false] 47 w.heap.size rfl).bel hb; have hrl := hR.lt; obtain ⟨hr1, hr2, hr3, hr4⟩ := szs hrl; have hrp := hR.plain; have hrc := hR.cells; have hrz : (cellsAt w1 w.heap.size).size = 9 := (by rw [hrc]; rfl); have HR := Lib.hid hR; have HB := Lib.hid hb; clear hR hb )))
  refine bodyPost_ret (v := .agg (natc 115 25 (some ⟨td, 0, none⟩) false false)) (by simp [results, Tryz.results50, go_sem, hrp, hrc]) rfl ?_
  refine ⟨rfl, ?_⟩
  · have hF : Below w.heap.size w w1 := bnext (bal (Below.refl _ _) _) HB.out
    repeat (first | with_reducible exact hF | with_reducible refine bsetNew ?_ (Nat.le_refl _) _ _ | with_reducible refine browNew ?_ (Nat.le_refl _) _ | with_reducible refine bal ?_ _ | with_reducible refine Below.drew ?_)

theorem zg3_115 (mc : Nat) (G : Nat → Option Nat) (cb : Nat) (w : World) (hC : At w cb (cac (some mc))) (hT : Ty w mc G) (hG : G 115 = none) : Calls Tryz.prog 50 #[.pointer (some ⟨cb, 0, none⟩), .iface 124 (.pointer (some ⟨0, 115, none⟩))] w fun e w' => ∃ td sd, e = .returned (.agg (natc 115 25 (some ⟨td, 0, none⟩) false false)) ∧ Sole mc w w' ∧ Ty w' mc (fun a => if a = 115 then some td else G a) ∧ At w' td (tdc sd) ∧ At w' sd (sd0 115 2) ∧ w.heap.size ≤ td ∧ w.heap.size ≤ sd := by
  have hCl := hC.lt
  have hCH := Lib.hid hC
  have hTl := hT.lt
  have hne : w.heap.size ≠ mc := by omega
  have hTH := Lib.hid hT
  have hGH := Lib.hid hG
  clear hC hT hG
  go_enter Tryz.func50, Tryz.ntmps50
  go_wp2_with (first | (go_at_call 80; ((with_reducible refine (gs_next 115 2 nf_115 mc G cb _ (hCH.out.alloc _) (hTH.out.alloc _) hGH.out).mono ?_); rintro e w1 ⟨td, sd, rfl, hb, f0, f1, f2, l0, l1⟩; have hR := (At.new w #[.nilIface, .int .u64 0, .pointer none, .pointer none, .bool false, .bool false, .bool false, .bool false, .bool false] 47 w.heap.size rfl).sole hb hne; have hrl := hR.lt; obtain ⟨hr1, hr2, hr3, hr4⟩ := szs hrl; have hrp := hR.plain; have hrc := hR.cells; have hrz : (cellsAt w1 w.heap.size).size = 9 := (by rw [hrc]; rfl); have HR := Lib.hid hR; have HB := Lib.hid hb; have f0H := Lib.hid f0; have f0l := f0.lt; have f1H := Lib.hid f1; have f1l := f1.lt; have f2H := Lib.hid f2; have f2l := f2.lt; clear hR hb f0 f1 f2)))
  refine bodyPost_ret (v := .agg (natc 115 25 (some ⟨td, 0, none⟩) false false)) (by simp [results, Tryz.results50, go_sem, hrp, hrc]) rfl ?_
  simp at l0 l1
  refine ⟨td, sd, rfl, ?_, ?_, ?_, ?_, by omega, by omega⟩
  · have hF : Sole mc w w1 := Sole.next (bal (Below.refl _ _) _) HB.out
    repeat (first | with_reducible exact hF | with_reducible refine Sole.new ?_ (Nat.le_refl _) _ _ | with_reducible refine Sole.rowNew ?_ (Nat.le_refl _) _ | with_reducible refine Sole.alloc ?_ _ | with_reducible refine Sole.drew ?_)
  · repeat (first | with_reducible exact f0H.out | ((with_reducible refine Ty.rowOther ?_ _ _ ?ne); (case ne => omega)) | ((with_reducible refine Ty.other ?_ _ _ _ ?ne); (case ne => omega)) | with_reducible refine Ty.alloc ?_ _ | with_reducible refine Ty.drew ?_)
  · repeat (first | with_reducible exact f1H.out | ((with_reducible refine At.rowOther ?_ _ _ ?ne); (case ne => omega)) | ((with_reducible refine At.other ?_ _ _ _ ?ne); (case ne => omega)) | with_reducible refine At.alloc ?_ _ | with_reducible refine At.drew ?_)
  · repeat (first | with_reducible exact f2H.out | ((with_reducible refine At.rowOther ?_ _ _ ?ne); (case ne => omega)) | ((with_reducible refine At.other ?_ _ _ _ ?ne); (case ne => omega)) | with_reducible refine At.alloc ?_ _ | with_reducible refine At.drew ?_)

@[go_sem] theorem nf_117 (w : World) : (callFunc 196 #[.pointer (some ⟨0, 117, none⟩)]).run Tryz.prog w = .ok (.value (.int .i64 0)) w := by kernel_rfl

@[go_sem] theorem str_117 (w : World) : (callFunc 208 #[.pointer (some ⟨0, 117, none⟩)]).run Tryz.prog w = .ok (.value (.string ⟨#[122, 122, 108, 97, 119, 115, 46, 122, 122, 69, 109, 112, 116, 121]⟩)) w := by kernel_rfl

theorem zg1_117 (cb : Nat) (w : World) (hC : At w cb (cac none)) : Calls Tryz.prog 50 #[.pointer (some ⟨cb, 0, none⟩), .iface 124 (.pointer (some ⟨0, 117, none⟩))] w fun e w' => ∃ td sd mc, e = .returned (.agg (natc 117 25 (some ⟨td, 0, none⟩) false false)) ∧ Sole cb w w' ∧ At w' cb (cac (some mc)) ∧ Ty w' mc (fun a => if a = 117 then some td else none) ∧ At w' td (tdc sd) ∧ At w' sd (sd0 117 0) ∧ w.heap.size ≤ td ∧ w.heap.size ≤ sd ∧ w.heap.size ≤ mc := by
  have hCl := hC.lt
  have hne : w.heap.size ≠ cb := by omega
  have hCH := Lib.hid hC
  clear hC
  go_enter Tryz.func50, Tryz.ntmps50
  go_wp2_with (first | (go_at_call 80; ((with_reducible refine (gs_first 117 0 nf_117 cb _ (hCH.out.alloc _)).mono ?_); rintro e w1 ⟨td, sd, mc, rfl, hb, f0, f1, f2, f3, l0, l1, l2⟩; have hR := (At.new w #[.nilIface, .int .u64 0, .pointer none, .pointer none, .bool false, .bool false, .bool false, .bool false, .bool false] 47 w.heap.size rfl).sole hb hne; have hrl := hR.lt; obtain ⟨hr1, hr2, hr3, hr4⟩ := szs hrl; have hrp := hR.plain; have hrc := hR.cells; have hrz : (cellsAt w1 w.heap.size).size = 9 := (by rw [hrc]; rfl); have HR := Lib.hid hR; have HB := Lib.hid hb; have f0H := Lib.hid f0; have f0l := f0.lt; have f1H := Lib.hid f1; have f1l := f1.lt; have f2H := Lib.hid f2; have f2l := f2.lt; have f3H := Lib.hid f3; have f3l := f3.lt; clear hR hb f0 f1 f2 f3)))
  refine bodyPost_ret (v := .agg (natc 117 25 (some ⟨td, 0, none⟩) false false)) (by simp [results, Tryz.results50, go_sem, hrp, hrc]) rfl ?_
  simp at l0 l1 l2
  refine ⟨td, sd, mc, rfl, ?_, ?_, ?_, ?_, ?_, by omega, by omega, by omega⟩
  · have hF : Sole cb w w1 := Sole.next (bal (Below.refl _ _) _) HB.out
    repeat (first | with_reducible exact hF | with_reducible refine Sole.new ?_ (Nat.le_refl _) _ _ | with_reducible refine Sole.rowNew ?_ (Nat.le_refl _) _ | with_reducible refine Sole.alloc ?_ _ | with_reducible refine Sole.drew ?_)
  · repeat (first | with_reducible exact f0H.out | ((with_reducible refine At.rowOther ?_ _ _ ?ne); (case ne => omega)) | ((with_reducible refine At.other ?_ _ _ _ ?ne); (case ne => omega)) | with_reducible refine At.alloc ?_ _ | with_reducible refine At.drew ?_)
  · repeat (first | with_reducible exact f1H.out | ((with_reducible refine Ty.rowOther ?_ _ _ ?ne); (case ne => omega)) | ((with_reducible refine Ty.other ?_ _ _ _ ?ne); (case ne => omega)) | with_reducible refine Ty.alloc ?_ _ | with_reducible refine Ty.drew ?_)
  · repeat (first | with_reducible exact f2H.out | ((with_reducible refine At.rowOther ?_ _ _ ?ne); (case ne => omega)) | ((with_reducible refine At.other ?_ _ _ _ ?ne); (case ne => omega)) | with_reducible refine At.alloc ?_ _ | with_reducible refine At.drew ?_)
  · repeat (first | with_reducible exact f3H.out | ((with_reducible refine At.rowOther ?_ _ _ ?ne); (case ne => omega)) | ((with_reducible refine At.other ?_ _ _ _ ?ne); (case ne => omega)) | with_reducible refine At.alloc ?_ _ | with_reducible refine At.drew ?_)

theorem zg2_117 (td mc : Nat) (G : Nat → Option Nat) (cb : Nat) (w : World) (hC : At w cb (cac (some mc))) (hT : Ty w mc G) (hG : G 117 = some td) : Calls Tryz.prog 50 #[.pointer (some ⟨cb, 0, none⟩), .iface 124 (.pointer (some ⟨0, 117, none⟩))] w fun e w' => e = .returned (.agg (natc 117 25 (some ⟨td, 0, none⟩) false false)) ∧ Below w.heap.size w w' := by
  have hCl := hC.lt
  have hCH := Lib.hid hC
  have hTl := hT.lt
  have hTH := Lib.hid hT
  have hGH := Lib.hid hG
  clear hC hT hG
  go_enter Tryz.func50, Tryz.ntmps50
  go_wp2_with (first | (go_at_call 80; ((with_reducible refine (gs_hit 117 td mc G cb _ (hCH.out.alloc _) (hTH.out.alloc _) hGH.out).mono ?_); rintro e w1 ⟨rfl, hb⟩; have hR := (At.new w #[.nilIface, .int .u64 0, .pointer none, .pointer none, .bool false, .bool false, .bool false, .bool false, .bool false] 47 w.heap.size rfl).bel hb; have hrl := hR.lt; obtain ⟨hr1, hr2, hr3, hr4⟩ := szs hrl; have hrp := hR.plain; have hrc := hR.cells; have hrz : (cellsAt w1 w.heap.size).size = 9 := (by rw [hrc]; rfl); have HR := Lib.hid hR; have HB := Lib.hid hb; clear hR hb )))
  refine bodyPost_ret (v := .agg (natc 117 25 (some ⟨td, 0, none⟩) false false)) (by simp [results, Tryz.results50, go_sem, hrp, hrc]) rfl ?_
  refine ⟨rfl, ?_⟩
  · have hF : Below w.heap.size w w1 := bnext (bal (Below.refl _ _) _) HB.out
    repeat (first | with_reducible exact hF | with_reducible refine bsetNew ?_ (Nat.le_refl _) _ _ | with_reducible refine browNew ?_ (Nat.le_refl _) _ | with_reducible refine bal ?_ _ | with_reducible refine Below.drew ?_)

theorem zg3_117 (mc : Nat) (G : Nat → Option Nat) (cb : Nat) (w : World) (hC : At w cb (cac (some mc))) (hT : Ty w mc G) (hG : G 117 = none) : Calls Tryz.prog 50 #[.pointer (some ⟨cb, 0, none⟩), .iface 124 (.pointer (some ⟨0, 117, none⟩))] w fun e w' => ∃ td sd, e = .returned (.agg (natc 117 25 (some ⟨td, 0, none⟩) false false)) ∧ Sole mc w w' ∧ Ty w' mc (fun a => if a = 117 then some td else G a) ∧ At w' td (tdc sd) ∧ At w' sd (sd0 117 0) ∧ w.heap.size ≤ td ∧ w.heap.size ≤ sd := by
  have hCl := hC.lt
  have hCH := Lib.hid hC
  have hTl := hT.lt
  have hne : w.heap.size ≠ mc := by omega
  have hTH := Lib.hid hT
  have hGH := Lib.hid hG
  clear hC hT hG
  go_enter Tryz.func50, Tryz.ntmps50
  go_wp2_with (first | (go_at_call 80; ((with_reducible refine (gs_next 117 0 nf_117 mc G cb _ (hCH.out.alloc _) (hTH.out.alloc _) hGH.out).mono ?_); rintro e w1 ⟨td, sd, rfl, hb, f0, f1, f2, l0, l1⟩; have hR := (At.new w #[.nilIface, .int .u64 0, .pointer none, .pointer none, .bool false, .bool false, .bool false, .bool false, .bool false] 47 w.heap.size rfl).sole hb hne; have hrl := hR.lt; obtain ⟨hr1, hr2, hr3, hr4⟩ := szs hrl; have hrp := hR.plain; have hrc := hR.cells; have hrz : (cellsAt w1 w.heap.size).size = 9 := (by rw [hrc]; rfl); have HR := Lib.hid hR; have HB := Lib.hid hb; have f0H := Lib.hid f0; have f0l := f0.lt; have f1H := Lib.hid f1; have f1l := f1.lt; have f2H := Lib.hid f2; have f2l := f2.lt; clear hR hb f0 f1 f2)))
  refine bodyPost_ret (v := .agg (natc 117 25 (some ⟨td, 0, none⟩) false false)) (by simp [results, Tryz.results50, go_sem, hrp, hrc]) rfl ?_
  simp at l0 l1
  refine ⟨td, sd, rfl, ?_, ?_, ?_, ?_, by omega, by omega⟩
  · have hF : Sole mc w w1 := Sole.next (bal (Below.refl _ _) _) HB.out
    repeat (first | with_reducible exact hF | with_reducible refine Sole.new ?_ (Nat.le_refl _) _ _ | with_reducible refine Sole.rowNew ?_ (Nat.le_refl _) _ | with_reducible refine Sole.alloc ?_ _ | with_reducible refine Sole.drew ?_)
  · repeat (first | with_reducible exact f0H.out | ((with_reducible refine Ty.rowOther ?_ _ _ ?ne); (case ne => omega)) | ((with_reducible refine Ty.other ?_ _ _ _ ?ne); (case ne => omega)) | with_reducible refine Ty.alloc ?_ _ | with_reducible refine Ty.drew ?_)
  · repeat (first | with_reducible exact f1H.out | ((with_reducible refine At.rowOther ?_ _ _ ?ne); (case ne => omega)) | ((with_reducible refine At.other ?_ _ _ _ ?ne); (case ne => omega)) | with_reducible refine At.alloc ?_ _ | with_reducible refine At.drew ?_)
  · repeat (first | with_reducible exact f2H.out | ((with_reducible refine At.rowOther ?_ _ _ ?ne); (case ne => omega)) | ((with_reducible refine At.other ?_ _ _ _ ?ne); (case ne => omega)) | with_reducible refine At.alloc ?_ _ | with_reducible refine At.drew ?_)

theorem zs_0  (w : World)  : Calls Tryz.prog 44 #[.pointer none, .int .i64 0] w fun e w' => e = .returned (Value.agg #[Value.iface 124 (Value.pointer (some { block := 0, off := 111 })), Value.int IntKind.u64 25, Value.pointer (some { block := w.heap.size + 1 + 1 + 1, off := 0 }), Value.pointer none, Value.bool false, Value.bool false, Value.bool false, Value.bool false, Value.bool false]) ∧ ((((w.alloc (Obj.cells #[Value.iface 124 (Value.pointer (some { block := 0, off := 111 })), Value.int IntKind.u64 25, Value.pointer (some { block := w.heap.size + 1 + 1 + 1, off := 0 }), Value.pointer none, Value.bool false, Value.bool false, Value.bool false, Value.bool false, Value.bool false] 47)).alloc (Obj.cells #[Value.iface 124 (Value.pointer (some { block := 0, off := 111 })), Value.int IntKind.u64 25, Value.pointer (some { block := w.heap.size + 1 + 1 + 1, off := 0 }), Value.pointer none, Value.bool false, Value.bool false, Value.bool false, Value.bool false, Value.bool false] 47)).alloc (Obj.cells #[Value.iface 124 (Value.pointer (some { block := 0, off := 111 })), Value.int IntKind.u64 25, Value.pointer (some { block := w.heap.size + 1 + 1 + 1, off := 0 }), Value.pointer none, Value.bool false, Value.bool false, Value.bool false, Value.bool false, Value.bool false] 47)).alloc (Obj.cells #[Value.pointer none, Value.pointer none, Value.map none, Value.pointer none, Value.pointer none, Value.int IntKind.i64 0, Value.pointer none, Value.pointer none, Value.int IntKind.i64 0, Value.int IntKind.i64 0, Value.bool false, Value.bool false, Value.bool false, Value.bool false] 56)) = w' := by
  go_enter Tryz.func44, Tryz.ntmps44
  go_wp2_with (first | (go_at_call 79; ((with_reducible refine (nc_111 _ _).mono ?_); rintro e w' ⟨rfl, rfl⟩)))
  exact bodyPost_ret (v := (Value.agg #[Value.iface 124 (Value.pointer (some { block := 0, off := 111 })), Value.int IntKind.u64 25, Value.pointer (some { block := w.heap.size + 1 + 1 + 1, off := 0 }), Value.pointer none, Value.bool false, Value.bool false, Value.bool false, Value.bool false, Value.bool false])) (by simp [results, Tryz.results44, go_sem]) rfl ⟨rfl, rfl⟩

theorem zn_0  (w : World)  : Calls Tryz.prog 46 #[.int .i64 0] w fun e w' => e = .returned (Value.string { data := #[122, 122, 108, 97, 119, 115, 46, 122, 122, 80, 111, 105, 110, 116] }) ∧ (w) = w' := by
  go_enter Tryz.func46, Tryz.ntmps46
  go_wp2
  exact bodyPost_ret (v := (Value.string { data := #[122, 122, 108, 97, 119, 115, 46, 122, 122, 80, 111, 105, 110, 116] })) (by simp [results, Tryz.results46, go_sem]) rfl ⟨rfl, rfl⟩

theorem zf_0  (w : World)  : Calls Tryz.prog 52 #[.int .i64 0] w fun e w' => e = .returned (Value.int IntKind.i64 2) ∧ (w) = w' := by
  go_enter Tryz.func52, Tryz.ntmps52
  go_wp2
  exact bodyPost_ret (v := (Value.int IntKind.i64 2)) (by simp [results, Tryz.results52, go_sem]) rfl ⟨rfl, rfl⟩

theorem sc_111 (b : Nat) (w : World) (hp : Plain w b) (hs : (cellsAt w b)[0]? = some (.iface 124 (.pointer (some ⟨0, 111, none⟩)))) : Calls Tryz.prog 36 #[.pointer (some ⟨b, 0, none⟩)] w fun e w' => e = .returned (Value.string { data := #[122, 122, 108, 97, 119, 115, 46, 122, 122, 80, 111, 105, 110, 116] }) ∧ (w) = w' := by
  go_enter Tryz.func36, Tryz.ntmps36
  go_wp2
  exact bodyPost_ret (v := (Value.string { data := #[122, 122, 108, 97, 119, 115, 46, 122, 122, 80, 111, 105, 110, 116] })) (by simp [results, Tryz.results36, go_sem]) rfl ⟨rfl, rfl⟩

theorem nfh_111 (td sd : Nat) (x : Int) (w : World) (hT : At w td (tdc sd)) (hS : At w sd (sd0 111 x)) : Calls Tryz.prog 51 #[.agg (natc 111 25 (some ⟨td, 0, none⟩) false false)] w fun e w' => e = .returned (Value.int IntKind.i64 x) ∧ (w.alloc (Obj.cells (natc 111 25 (some { block := td, off := 0 }) false false) 47)) = w' := by
  have hp := hT.plain
  have hs := hT.cells
  have hl := hT.lt
  obtain ⟨a1, a2, a3, a4⟩ := szs hl
  have hq := hS.plain
  have hr := hS.cells
  have hm := hS.lt
  obtain ⟨b1, b2, b3, b4⟩ := szs hm
  clear hT hS
  go_enter Tryz.func51, Tryz.ntmps51
  go_wp2
  exact bodyPost_ret (v := (Value.int IntKind.i64 x)) (by simp [results, Tryz.results51, go_sem]) rfl ⟨rfl, rfl⟩

theorem anh_111 (td sd : Nat) (x : Int) (w : World) (hT : At w td (tdc sd)) (hS : At w sd (sd0 111 x)) : Calls Tryz.prog 53 #[.agg (natc 111 25 (some ⟨td, 0, none⟩) false false)] w fun e w' => e = .returned (Value.int IntKind.i64 (-1)) ∧ (w.alloc (Obj.cells (natc 111 25 (some { block := td, off := 0 }) false false) 47)) = w' := by
  have hp := hT.plain
  have hs := hT.cells
  have hl := hT.lt
  obtain ⟨a1, a2, a3, a4⟩ := szs hl
  have hq := hS.plain
  have hr := hS.cells
  have hm := hS.lt
  obtain ⟨b1, b2, b3, b4⟩ := szs hm
  clear hT hS
  go_enter Tryz.func53, Tryz.ntmps53
  go_wp2
  exact bodyPost_ret (v := (Value.int IntKind.i64 (-1))) (by simp [results, Tryz.results53, go_sem]) rfl ⟨rfl, rfl⟩

theorem zs_1  (w : World)  : Calls Tryz.prog 44 #[.pointer none, .int .i64 1] w fun e w' => e = .returned (Value.agg #[Value.iface 124 (Value.pointer (some { block := 0, off := 113 })), Value.int IntKind.u64 25, Value.pointer (some { block := w.heap.size + 1 + 1 + 1, off := 0 }), Value.pointer none, Value.bool false, Value.bool false, Value.bool false, Value.bool false, Value.bool false]) ∧ ((((w.alloc (Obj.cells #[Value.iface 124 (Value.pointer (some { block := 0, off := 113 })), Value.int IntKind.u64 25, Value.pointer (some { block := w.heap.size + 1 + 1 + 1, off := 0 }), Value.pointer none, Value.bool false, Value.bool false, Value.bool false, Value.bool false, Value.bool false] 47)).alloc (Obj.cells #[Value.iface 124 (Value.pointer (some { block := 0, off := 113 })), Value.int IntKind.u64 25, Value.pointer (some { block := w.heap.size + 1 + 1 + 1, off := 0 }), Value.pointer none, Value.bool false, Value.bool false, Value.bool false, Value.bool false, Value.bool false] 47)).alloc (Obj.cells #[Value.iface 124 (Value.pointer (some { block := 0, off := 113 })), Value.int IntKind.u64 25, Value.pointer (some { block := w.heap.size + 1 + 1 + 1, off := 0 }), Value.pointer none, Value.bool false, Value.bool false, Value.bool false, Value.bool false, Value.bool false] 47)).alloc (Obj.cells #[Value.pointer none, Value.pointer none, Value.map none, Value.pointer none, Value.pointer none, Value.int IntKind.i64 0, Value.pointer none, Value.pointer none, Value.int IntKind.i64 0, Value.int IntKind.i64 0, Value.bool false, Value.bool false, Value.bool false, Value.bool false] 56)) = w' := by
  go_enter Tryz.func44, Tryz.ntmps44
  go_wp2_with (first | (go_at_call 79; ((with_reducible refine (nc_113 _ _).mono ?_); rintro e w' ⟨rfl, rfl⟩)))
  exact bodyPost_ret (v := (Value.agg #[Value.iface 124 (Value.pointer (some { block := 0, off := 113 })), Value.int IntKind.u64 25, Value.pointer (some { block := w.heap.size + 1 + 1 + 1, off := 0 }), Value.pointer none, Value.bool false, Value.bool false, Value.bool false, Value.bool false, Value.bool false])) (by simp [results, Tryz.results44, go_sem]) rfl ⟨rfl, rfl⟩

theorem zn_1  (w : World)  : Calls Tryz.prog 46 #[.int .i64 1] w fun e w' => e = .returned (Value.string { data := #[122, 122, 108, 97, 119, 115, 46, 122, 122, 82, 101, 99] }) ∧ (w) = w' := by
  go_enter Tryz.func46, Tryz.ntmps46
  go_wp2
  exact bodyPost_ret (v := (Value.string { data := #[122, 122, 108, 97, 119, 115, 46, 122, 122, 82, 101, 99] })) (by simp [results, Tryz.results46, go_sem]) rfl ⟨rfl, rfl⟩

theorem zf_1  (w : World)  : Calls Tryz.prog 52 #[.int .i64 1] w fun e w' => e = .returned (Value.int IntKind.i64 5) ∧ (w) = w' := by
  go_enter Tryz.func52, Tryz.ntmps52
  go_wp2
  exact bodyPost_ret (v := (Value.int IntKind.i64 5)) (by simp [results, Tryz.results52, go_sem]) rfl ⟨rfl, rfl⟩

theorem sc_113 (b : Nat) (w : World) (hp : Plain w b) (hs : (cellsAt w b)[0]? = some (.iface 124 (.pointer (some ⟨0, 113, none⟩)))) : Calls Tryz.prog 36 #[.pointer (some ⟨b, 0, none⟩)] w fun e w' => e = .returned (Value.string { data := #[122, 122, 108, 97, 119, 115, 46, 122, 122, 82, 101, 99] }) ∧ (w) = w' := by
  go_enter Tryz.func36, Tryz.ntmps36
  go_wp2
  exact bodyPost_ret (v := (Value.string { data := #[122, 122, 108, 97, 119, 115, 46, 122, 122, 82, 101, 99] })) (by simp [results, Tryz.results36, go_sem]) rfl ⟨rfl, rfl⟩

theorem nfh_113 (td sd : Nat) (x : Int) (w : World) (hT : At w td (tdc sd)) (hS : At w sd (sd0 113 x)) : Calls Tryz.prog 51 #[.agg (natc 113 25 (some ⟨td, 0, none⟩) false false)] w fun e w' => e = .returned (Value.int IntKind.i64 x) ∧ (w.alloc (Obj.cells (natc 113 25 (some { block := td, off := 0 }) false false) 47)) = w' := by
  have hp := hT.plain
  have hs := hT.cells
  have hl := hT.lt
  obtain ⟨a1, a2, a3, a4⟩ := szs hl
  have hq := hS.plain
  have hr := hS.cells
  have hm := hS.lt
  obtain ⟨b1, b2, b3, b4⟩ := szs hm
  clear hT hS
  go_enter Tryz.func51, Tryz.ntmps51
  go_wp2
  exact bodyPost_ret (v := (Value.int IntKind.i64 x)) (by simp [results, Tryz.results51, go_sem]) rfl ⟨rfl, rfl⟩

theorem anh_113 (td sd : Nat) (x : Int) (w : World) (hT : At w td (tdc sd)) (hS : At w sd (sd0 113 x)) : Calls Tryz.prog 53 #[.agg (natc 113 25 (some ⟨td, 0, none⟩) false false)] w fun e w' => e = .returned (Value.int IntKind.i64 (-1)) ∧ (w.alloc (Obj.cells (natc 113 25 (some { block := td, off := 0 }) false false) 47)) = w' := by
  have hp := hT.plain
  have hs := hT.cells
  have hl := hT.lt
  obtain ⟨a1, a2, a3, a4⟩ := szs hl
  have hq := hS.plain
  have hr := hS.cells
  have hm := hS.lt
  obtain ⟨b1, b2, b3, b4⟩ := szs hm
  clear hT hS
  go_enter Tryz.func53, Tryz.ntmps53
  go_wp2
  exact bodyPost_ret (v := (Value.int IntKind.i64 (-1))) (by simp [results, Tryz.results53, go_sem]) rfl ⟨rfl, rfl⟩

theorem zs_2  (w : World)  : Calls Tryz.prog 44 #[.pointer none, .int .i64 2] w fun e w' => e = .returned (Value.agg #[Value.iface 124 (Value.pointer (some { block := 0, off := 115 })), Value.int IntKind.u64 25, Value.pointer (some { block := w.heap.size + 1 + 1 + 1, off := 0 }), Value.pointer none, Value.bool false, Value.bool false, Value.bool false, Value.bool false, Value.bool false]) ∧ ((((w.alloc (Obj.cells #[Value.iface 124 (Value.pointer (some { block := 0, off := 115 })), Value.int IntKind.u64 25, Value.pointer (some { block := w.heap.size + 1 + 1 + 1, off := 0 }), Value.pointer none, Value.bool false, Value.bool false, Value.bool false, Value.bool false, Value.bool false] 47)).alloc (Obj.cells #[Value.iface 124 (Value.pointer (some { block := 0, off := 115 })), Value.int IntKind.u64 25, Value.pointer (some { block := w.heap.size + 1 + 1 + 1, off := 0 }), Value.pointer none, Value.bool false, Value.bool false, Value.bool false, Value.bool false, Value.bool false] 47)).alloc (Obj.cells #[Value.iface 124 (Value.pointer (some { block := 0, off := 115 })), Value.int IntKind.u64 25, Value.pointer (some { block := w.heap.size + 1 + 1 + 1, off := 0 }), Value.pointer none, Value.bool false, Value.bool false, Value.bool false, Value.bool false, Value.bool false] 47)).alloc (Obj.cells #[Value.pointer none, Value.pointer none, Value.map none, Value.pointer none, Value.pointer none, Value.int IntKind.i64 0, Value.pointer none, Value.pointer none, Value.int IntKind.i64 0, Value.int IntKind.i64 0, Value.bool false, Value.bool false, Value.bool false, Value.bool false] 56)) = w' := by
  go_enter Tryz.func44, Tryz.ntmps44
  go_wp2_with (first | (go_at_call 79; ((with_reducible refine (nc_115 _ _).mono ?_); rintro e w' ⟨rfl, rfl⟩)))
  exact bodyPost_ret (v := (Value.agg #[Value.iface 124 (Value.pointer (some { block := 0, off := 115 })), Value.int IntKind.u64 25, Value.pointer (some { block := w.heap.size + 1 + 1 + 1, off := 0 }), Value.pointer none, Value.bool false, Value.bool false, Value.bool false, Value.bool false, Value.bool false])) (by simp [results, Tryz.results44, go_sem]) rfl ⟨rfl, rfl⟩

theorem zn_2  (w : World)  : Calls Tryz.prog 46 #[.int .i64 2] w fun e w' => e = .returned (Value.string { data := #[122, 122, 108, 97, 119, 115, 46, 122, 122, 79, 117, 116, 101, 114] }) ∧ (w) = w' := by
  go_enter Tryz.func46, Tryz.ntmps46
  go_wp2
  exact bodyPost_ret (v := (Value.string { data := #[122, 122, 108, 97, 119, 115, 46, 122, 122, 79, 117, 116, 101, 114] })) (by simp [results, Tryz.results46, go_sem]) rfl ⟨rfl, rfl⟩

theorem zf_2  (w : World)  : Calls Tryz.prog 52 #[.int .i64 2] w fun e w' => e = .returned (Value.int IntKind.i64 2) ∧ (w) = w' := by
  go_enter Tryz.func52, Tryz.ntmps52
  go_wp2
  exact bodyPost_ret (v := (Value.int IntKind.i64 2)) (by simp [results, Tryz.results52, go_sem]) rfl ⟨rfl, rfl⟩

theorem sc_115 (b : Nat) (w : World) (hp : Plain w b) (hs : (cellsAt w b)[0]? = some (.iface 124 (.pointer (some ⟨0, 115, none⟩)))) : Calls Tryz.prog 36 #[.pointer (some ⟨b, 0, none⟩)] w fun e w' => e = .returned (Value.string { data := #[122, 122, 108, 97, 119, 115, 46, 122, 122, 79, 117, 116, 101, 114] }) ∧ (w) = w' := by
  go_enter Tryz.func36, Tryz.ntmps36
  go_wp2
  exact bodyPost_ret (v := (Value.string { data := #[122, 122, 108, 97, 119, 115, 46, 122, 122, 79, 117, 116, 101, 114] })) (by simp [results, Tryz.results36, go_sem]) rfl ⟨rfl, rfl⟩

theorem nfh_115 (td sd : Nat) (x : Int) (w : World) (hT : At w td (tdc sd)) (hS : At w sd (sd0 115 x)) : Calls Tryz.prog 51 #[.agg (natc 115 25 (some ⟨td, 0, none⟩) false false)] w fun e w' => e = .returned (Value.int IntKind.i64 x) ∧ (w.alloc (Obj.cells (natc 115 25 (some { block := td, off := 0 }) false false) 47)) = w' := by
  have hp := hT.plain
  have hs := hT.cells
  have hl := hT.lt
  obtain ⟨a1, a2, a3, a4⟩ := szs hl
  have hq := hS.plain
  have hr := hS.cells
  have hm := hS.lt
  obtain ⟨b1, b2, b3, b4⟩ := szs hm
  clear hT hS
  go_enter Tryz.func51, Tryz.ntmps51
  go_wp2
  exact bodyPost_ret (v := (Value.int IntKind.i64 x)) (by simp [results, Tryz.results51, go_sem]) rfl ⟨rfl, rfl⟩

theorem anh_115 (td sd : Nat) (x : Int) (w : World) (hT : At w td (tdc sd)) (hS : At w sd (sd0 115 x)) : Calls Tryz.prog 53 #[.agg (natc 115 25 (some ⟨td, 0, none⟩) false false)] w fun e w' => e = .returned (Value.int IntKind.i64 (-1)) ∧ (w.alloc (Obj.cells (natc 115 25 (some { block := td, off := 0 }) false false) 47)) = w' := by
  have hp := hT.plain
  have hs := hT.cells
  have hl := hT.lt
  obtain ⟨a1, a2, a3, a4⟩ := szs hl
  have hq := hS.plain
  have hr := hS.cells
  have hm := hS.lt
  obtain ⟨b1, b2, b3, b4⟩ := szs hm
  clear hT hS
  go_enter Tryz.func53, Tryz.ntmps53
  go_wp2
  exact bodyPost_ret (v := (Value.int IntKind.i64 (-1))) (by simp [results, Tryz.results53, go_sem]) rfl ⟨rfl, rfl⟩

theorem zs_3  (w : World)  : Calls Tryz.prog 44 #[.pointer none, .int .i64 3] w fun e w' => e = .returned (Value.agg #[Value.iface 124 (Value.pointer (some { block := 0, off := 117 })), Value.int IntKind.u64 25, Value.pointer (some { block := w.heap.size + 1 + 1 + 1, off := 0 }), Value.pointer none, Value.bool false, Value.bool false, Value.bool false, Value.bool false, Value.bool false]) ∧ ((((w.alloc (Obj.cells #[Value.iface 124 (Value.pointer (some { block := 0, off := 117 })), Value.int IntKind.u64 25, Value.pointer (some { block := w.heap.size + 1 + 1 + 1, off := 0 }), Value.pointer none, Value.bool false, Value.bool false, Value.bool false, Value.bool false, Value.bool false] 47)).alloc (Obj.cells #[Value.iface 124 (Value.pointer (some { block := 0, off := 117 })), Value.int IntKind.u64 25, Value.pointer (some { block := w.heap.size + 1 + 1 + 1, off := 0 }), Value.pointer none, Value.bool false, Value.bool false, Value.bool false, Value.bool false, Value.bool false] 47)).alloc (Obj.cells #[Value.iface 124 (Value.pointer (some { block := 0, off := 117 })), Value.int IntKind.u64 25, Value.pointer (some { block := w.heap.size + 1 + 1 + 1, off := 0 }), Value.pointer none, Value.bool false, Value.bool false, Value.bool false, Value.bool false, Value.bool false] 47)).alloc (Obj.cells #[Value.pointer none, Value.pointer none, Value.map none, Value.pointer none, Value.pointer none, Value.int IntKind.i64 0, Value.pointer none, Value.pointer none, Value.int IntKind.i64 0, Value.int IntKind.i64 0, Value.bool false, Value.bool false, Value.bool false, Value.bool false] 56)) = w' := by
  go_enter Tryz.func44, Tryz.ntmps44
  go_wp2_with (first | (go_at_call 79; ((with_reducible refine (nc_117 _ _).mono ?_); rintro e w' ⟨rfl, rfl⟩)))
  exact bodyPost_ret (v := (Value.agg #[Value.iface 124 (Value.pointer (some { block := 0, off := 117 })), Value.int IntKind.u64 25, Value.pointer (some { block := w.heap.size + 1 + 1 + 1, off := 0 }), Value.pointer none, Value.bool false, Value.bool false, Value.bool false, Value.bool false, Value.bool false])) (by simp [results, Tryz.results44, go_sem]) rfl ⟨rfl, rfl⟩

theorem zn_3  (w : World)  : Calls Tryz.prog 46 #[.int .i64 3] w fun e w' => e = .returned (Value.string { data := #[122, 122, 108, 97, 119, 115, 46, 122, 122, 69, 109, 112, 116, 121] }) ∧ (w) = w' := by
  go_enter Tryz.func46, Tryz.ntmps46
  go_wp2
  exact bodyPost_ret (v := (Value.string { data := #[122, 122, 108, 97, 119, 115, 46, 122, 122, 69, 109, 112, 116, 121] })) (by simp [results, Tryz.results46, go_sem]) rfl ⟨rfl, rfl⟩

theorem zf_3  (w : World)  : Calls Tryz.prog 52 #[.int .i64 3] w fun e w' => e = .returned (Value.int IntKind.i64 0) ∧ (w) = w' := by
  go_enter Tryz.func52, Tryz.ntmps52
  go_wp2
  exact bodyPost_ret (v := (Value.int IntKind.i64 0)) (by simp [results, Tryz.results52, go_sem]) rfl ⟨rfl, rfl⟩

theorem sc_117 (b : Nat) (w : World) (hp : Plain w b) (hs : (cellsAt w b)[0]? = some (.iface 124 (.pointer (some ⟨0, 117, none⟩)))) : Calls Tryz.prog 36 #[.pointer (some ⟨b, 0, none⟩)] w fun e w' => e = .returned (Value.string { data := #[122, 122, 108, 97, 119, 115, 46, 122, 122, 69, 109, 112, 116, 121] }) ∧ (w) = w' := by
  go_enter Tryz.func36, Tryz.ntmps36
  go_wp2
  exact bodyPost_ret (v := (Value.string { data := #[122, 122, 108, 97, 119, 115, 46, 122, 122, 69, 109, 112, 116, 121] })) (by simp [results, Tryz.results36, go_sem]) rfl ⟨rfl, rfl⟩

theorem nfh_117 (td sd : Nat) (x : Int) (w : World) (hT : At w td (tdc sd)) (hS : At w sd (sd0 117 x)) : Calls Tryz.prog 51 #[.agg (natc 117 25 (some ⟨td, 0, none⟩) false false)] w fun e w' => e = .returned (Value.int IntKind.i64 x) ∧ (w.alloc (Obj.cells (natc 117 25 (some { block := td, off := 0 }) false false) 47)) = w' := by
  have hp := hT.plain
  have hs := hT.cells
  have hl := hT.lt
  obtain ⟨a1, a2, a3, a4⟩ := szs hl
  have hq := hS.plain
  have hr := hS.cells
  have hm := hS.lt
  obtain ⟨b1, b2, b3, b4⟩ := szs hm
  clear hT hS
  go_enter Tryz.func51, Tryz.ntmps51
  go_wp2
  exact bodyPost_ret (v := (Value.int IntKind.i64 x)) (by simp [results, Tryz.results51, go_sem]) rfl ⟨rfl, rfl⟩

theorem anh_117 (td sd : Nat) (x : Int) (w : World) (hT : At w td (tdc sd)) (hS : At w sd (sd0 117 x)) : Calls Tryz.prog 53 #[.agg (natc 117 25 (some ⟨td, 0, none⟩) false false)] w fun e w' => e = .returned (Value.int IntKind.i64 (-1)) ∧ (w.alloc (Obj.cells (natc 117 25 (some { block := td, off := 0 }) false false) 47)) = w' := by
  have hp := hT.plain
  have hs := hT.cells
  have hl := hT.lt
  obtain ⟨a1, a2, a3, a4⟩ := szs hl
  have hq := hS.plain
  have hr := hS.cells
  have hm := hS.lt
  obtain ⟨b1, b2, b3, b4⟩ := szs hm
  clear hT hS
  go_enter Tryz.func53, Tryz.ntmps53
  go_wp2
  exact bodyPost_ret (v := (Value.int IntKind.i64 (-1))) (by simp [results, Tryz.results53, go_sem]) rfl ⟨rfl, rfl⟩

theorem w64 (n : Int) (h : -9223372036854775808 ≤ n ∧ n ≤ 9223372036854775807) : wrap64 n = n := by unfold wrap64; omega
theorem tm (a n : Int) (hn : 0 < n) : -n < a.tmod n ∧ a.tmod n < n := by
  refine ⟨?_, Int.tmod_lt_of_pos a hn⟩
  have h := Int.tmod_lt_of_pos (-a) hn
  rw [Int.neg_tmod] at h
  omega
theorem tm_neg (a n : Int) (hn : 0 < n) (h : a.tmod n < 0) : a % n = a.tmod n + n := by
  have h1 := Int.mul_tdiv_add_tmod a n
  have h2 := (tm a n hn).1
  have h3 : a % n = (a.tmod n + n) % n := by
    conv => lhs; rw [← h1]
    rw [Int.add_comm, Int.add_mul_emod_self_left, Int.add_emod_right]
  rw [h3, Int.emod_eq_of_lt (by omega) (by omega)]
theorem tm_pos (a n : Int) (hn : 0 < n) (h : 0 ≤ a.tmod n) : a % n = a.tmod n := by
  have h1 := Int.mul_tdiv_add_tmod a n
  have h2 := (tm a n hn).2
  have h3 : a % n = (a.tmod n) % n := by
    conv => lhs; rw [← h1]
    rw [Int.add_comm, Int.add_mul_emod_self_left]
  rw [h3, Int.emod_eq_of_lt (by omega) (by omega)]
theorem zmod (a n : Int) (hn : 0 < n) (hn2 : n < 100) (w0 : (Lit.int .i64 a).wf = true) (w : World) : Calls Tryz.prog 40 #[.int .i64 a, .int .i64 n] w fun e w' => e = .returned (.int .i64 (a % n)) ∧ w = w' := by
  have ht := tm a n hn
  have H := Lib.hid ht
  clear ht
  go_enter Tryz.func40, Tryz.ntmps40
  go_wp2
  · rename_i h
    go_ret
    exact ⟨by rw [tm_neg a n hn h]; exact congrArg (fun x : Int => Ending.returned (.int .i64 x)) (w64 _ (by have := H.out; omega)), rfl⟩
  · rename_i h
    go_ret
    exact ⟨by rw [tm_pos a n hn h]; rfl, rfl⟩

theorem zmk_0 (w : World) : Calls Tryz.prog 40 #[.int .i64 1, .int .i64 4] w fun e w' => e = .returned (.int .i64 1) ∧ w = w' := by
  exact zmod 1 4 (by decide) (by decide) (by decide) w

theorem zmk_1 (w : World) : Calls Tryz.prog 40 #[.int .i64 2, .int .i64 4] w fun e w' => e = .returned (.int .i64 2) ∧ w = w' := by
  exact zmod 2 4 (by decide) (by decide) (by decide) w

theorem zmk_2 (w : World) : Calls Tryz.prog 40 #[.int .i64 3, .int .i64 4] w fun e w' => e = .returned (.int .i64 3) ∧ w = w' := by
  exact zmod 3 4 (by decide) (by decide) (by decide) w

theorem zmk_3 (w : World) : Calls Tryz.prog 40 #[.int .i64 4, .int .i64 4] w fun e w' => e = .returned (.int .i64 0) ∧ w = w' := by
  exact zmod 4 4 (by decide) (by decide) (by decide) w

theorem bzs_0 (w : World) : Calls Tryz.prog 44 #[.pointer none, .int .i64 0] w fun e w' => ∃ td, e = .returned (.agg (natc 111 25 (some ⟨td, 0, none⟩) false false)) ∧ Below w.heap.size w w' := by
  refine (zs_0 w).mono ?_
  rintro e w' ⟨rfl, rfl⟩
  refine ⟨_, rfl, ?_⟩
  repeat (first | with_reducible exact Below.refl _ _ | with_reducible refine bal ?_ _ | with_reducible refine Below.drew ?_)

theorem bzs_1 (w : World) : Calls Tryz.prog 44 #[.pointer none, .int .i64 1] w fun e w' => ∃ td, e = .returned (.agg (natc 113 25 (some ⟨td, 0, none⟩) false false)) ∧ Below w.heap.size w w' := by
  refine (zs_1 w).mono ?_
  rintro e w' ⟨rfl, rfl⟩
  refine ⟨_, rfl, ?_⟩
  repeat (first | with_reducible exact Below.refl _ _ | with_reducible refine bal ?_ _ | with_reducible refine Below.drew ?_)

theorem bzs_2 (w : World) : Calls Tryz.prog 44 #[.pointer none, .int .i64 2] w fun e w' => ∃ td, e = .returned (.agg (natc 115 25 (some ⟨td, 0, none⟩) false false)) ∧ Below w.heap.size w w' := by
  refine (zs_2 w).mono ?_
  rintro e w' ⟨rfl, rfl⟩
  refine ⟨_, rfl, ?_⟩
  repeat (first | with_reducible exact Below.refl _ _ | with_reducible refine bal ?_ _ | with_reducible refine Below.drew ?_)

theorem bzs_3 (w : World) : Calls Tryz.prog 44 #[.pointer none, .int .i64 3] w fun e w' => ∃ td, e = .returned (.agg (natc 117 25 (some ⟨td, 0, none⟩) false false)) ∧ Below w.heap.size w w' := by
  refine (zs_3 w).mono ?_
  rintro e w' ⟨rfl, rfl⟩
  refine ⟨_, rfl, ?_⟩
  repeat (first | with_reducible exact Below.refl _ _ | with_reducible refine bal ?_ _ | with_reducible refine Below.drew ?_)
end Go.Proofs.YtfmefomafdgfmaaGreat.fnGetStructMemoTable
