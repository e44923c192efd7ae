/-
  The contracts of FnDerefIdempotentStripsStars: Deref drops every leading star of the spelling, and a second Deref changes nothing.
-/
import Derived.Test.YtjdnoaojjmejmaaGreatBase
import Derived.LoopN
import Derived.RegionTactic
import Derived.ChangeAlike
import Derived.Deep.QuietTactic
import Derived.BigQuiet
import Derived.WalkSmall
import Derived.LaidEqlPtr
import Derived.Lib.Builder
namespace Go.Proofs.YtjdnoaojjmejmaaGreat.fnDerefIdempotentStripsStars
open Go.RowKit
set_option maxRecDepth 100000
set_option maxHeartbeats 1000000
set_option linter.unusedVariables false
theorem bal {w v : World} (h : Below w.heap.size w v) (o : Obj) : Below w.heap.size w (v.alloc o) := h.alloc h.size o
theorem bdn {B : Nat} {a w : World} (h : Below B a w) (n : Nat) : Below B a (w.drewN n) := ⟨h.os, h.tape, h.output, h.size, h.block⟩
@[go_sem] theorem kind_3 (w : World) : (callFunc 246 #[.pointer (some ⟨0, 3, none⟩)]).run Tryz.prog w = .ok (.value (.int .u64 2)) w := by kernel_rfl

@[go_sem] theorem kind_9 (w : World) : (callFunc 246 #[.pointer (some ⟨0, 9, none⟩)]).run Tryz.prog w = .ok (.value (.int .u64 24)) w := by kernel_rfl

@[go_sem] theorem kind_51 (w : World) : (callFunc 246 #[.pointer (some ⟨0, 51, none⟩)]).run Tryz.prog w = .ok (.value (.int .u64 22)) w := by kernel_rfl

@[go_sem] theorem kind_124 (w : World) : (callFunc 246 #[.pointer (some ⟨0, 124, none⟩)]).run Tryz.prog w = .ok (.value (.int .u64 22)) w := by kernel_rfl

@[go_sem] theorem kind_53 (w : World) : (callFunc 246 #[.pointer (some ⟨0, 53, none⟩)]).run Tryz.prog w = .ok (.value (.int .u64 21)) w := by kernel_rfl

@[go_sem] theorem kind_125 (w : World) : (callFunc 246 #[.pointer (some ⟨0, 125, none⟩)]).run Tryz.prog w = .ok (.value (.int .u64 21)) w := by kernel_rfl

@[go_sem] theorem kind_50 (w : World) : (callFunc 246 #[.pointer (some ⟨0, 50, none⟩)]).run Tryz.prog w = .ok (.value (.int .u64 23)) w := by kernel_rfl

@[go_sem] theorem kind_126 (w : World) : (callFunc 246 #[.pointer (some ⟨0, 126, none⟩)]).run Tryz.prog w = .ok (.value (.int .u64 25)) w := by kernel_rfl

@[go_sem] theorem kind_128 (w : World) : (callFunc 246 #[.pointer (some ⟨0, 128, none⟩)]).run Tryz.prog w = .ok (.value (.int .u64 22)) w := by kernel_rfl

theorem bi_3  (w : World)  : Calls Tryz.prog 146 #[.iface 122 (.pointer (some ⟨0, 3, none⟩))] w fun e w' => e = .returned (Value.bool true) ∧ (w) = w' := by
  go_enter Tryz.func146, Tryz.ntmps146
  go_wp2
  exact bodyPost_ret (v := (Value.bool true)) (by simp [results, Tryz.results146, go_sem]) rfl ⟨rfl, rfl⟩

theorem from_9 (c : Option Addr) (w : World) : Calls Tryz.prog 137 #[.pointer c, .iface 122 (.pointer (some ⟨0, 9, none⟩))] w fun e w' => e = .returned (.agg #[.iface 122 (.pointer (some ⟨0, 9, none⟩)), .int .u64 24, .pointer none, .pointer none, .bool false, .bool false, .bool false, .bool false, .bool false]) ∧ w.alloc (.cells #[.iface 122 (.pointer (some ⟨0, 9, none⟩)), .int .u64 24, .pointer none, .pointer none, .bool false, .bool false, .bool false, .bool false, .bool false] 43) = w' :=
  from_plain c 9 24 kind_9 rfl rfl rfl rfl rfl rfl rfl rfl rfl rfl rfl rfl rfl rfl rfl w

theorem from_51 (c : Option Addr) (w : World) : Calls Tryz.prog 137 #[.pointer c, .iface 122 (.pointer (some ⟨0, 51, none⟩))] w fun e w' => e = .returned (.agg #[.iface 122 (.pointer (some ⟨0, 51, none⟩)), .int .u64 22, .pointer none, .pointer none, .bool false, .bool false, .bool false, .bool false, .bool false]) ∧ w.alloc (.cells #[.iface 122 (.pointer (some ⟨0, 51, none⟩)), .int .u64 22, .pointer none, .pointer none, .bool false, .bool false, .bool false, .bool false, .bool false] 43) = w' :=
  from_plain c 51 22 kind_51 rfl rfl rfl rfl rfl rfl rfl rfl rfl rfl rfl rfl rfl rfl rfl w

theorem from_124 (c : Option Addr) (w : World) : Calls Tryz.prog 137 #[.pointer c, .iface 122 (.pointer (some ⟨0, 124, none⟩))] w fun e w' => e = .returned (.agg #[.iface 122 (.pointer (some ⟨0, 124, none⟩)), .int .u64 22, .pointer none, .pointer none, .bool false, .bool false, .bool false, .bool false, .bool false]) ∧ w.alloc (.cells #[.iface 122 (.pointer (some ⟨0, 124, none⟩)), .int .u64 22, .pointer none, .pointer none, .bool false, .bool false, .bool false, .bool false, .bool false] 43) = w' :=
  from_plain c 124 22 kind_124 rfl rfl rfl rfl rfl rfl rfl rfl rfl rfl rfl rfl rfl rfl rfl w

theorem from_53 (c : Option Addr) (w : World) : Calls Tryz.prog 137 #[.pointer c, .iface 122 (.pointer (some ⟨0, 53, none⟩))] w fun e w' => e = .returned (.agg #[.iface 122 (.pointer (some ⟨0, 53, none⟩)), .int .u64 21, .pointer none, .pointer none, .bool false, .bool false, .bool false, .bool false, .bool false]) ∧ w.alloc (.cells #[.iface 122 (.pointer (some ⟨0, 53, none⟩)), .int .u64 21, .pointer none, .pointer none, .bool false, .bool false, .bool false, .bool false, .bool false] 43) = w' :=
  from_plain c 53 21 kind_53 rfl rfl rfl rfl rfl rfl rfl rfl rfl rfl rfl rfl rfl rfl rfl w

theorem from_125 (c : Option Addr) (w : World) : Calls Tryz.prog 137 #[.pointer c, .iface 122 (.pointer (some ⟨0, 125, none⟩))] w fun e w' => e = .returned (.agg #[.iface 122 (.pointer (some ⟨0, 125, none⟩)), .int .u64 21, .pointer none, .pointer none, .bool false, .bool false, .bool false, .bool false, .bool false]) ∧ w.alloc (.cells #[.iface 122 (.pointer (some ⟨0, 125, none⟩)), .int .u64 21, .pointer none, .pointer none, .bool false, .bool false, .bool false, .bool false, .bool false] 43) = w' :=
  from_plain c 125 21 kind_125 rfl rfl rfl rfl rfl rfl rfl rfl rfl rfl rfl rfl rfl rfl rfl w

theorem from_50 (c : Option Addr) (w : World) : Calls Tryz.prog 137 #[.pointer c, .iface 122 (.pointer (some ⟨0, 50, none⟩))] w fun e w' => e = .returned (.agg #[.iface 122 (.pointer (some ⟨0, 50, none⟩)), .int .u64 23, .pointer none, .pointer none, .bool false, .bool false, .bool false, .bool false, .bool false]) ∧ w.alloc (.cells #[.iface 122 (.pointer (some ⟨0, 50, none⟩)), .int .u64 23, .pointer none, .pointer none, .bool false, .bool false, .bool false, .bool false, .bool false] 43) = w' :=
  from_plain c 50 23 kind_50 rfl rfl rfl rfl rfl rfl rfl rfl rfl rfl rfl rfl rfl rfl rfl w

theorem from_128 (c : Option Addr) (w : World) : Calls Tryz.prog 137 #[.pointer c, .iface 122 (.pointer (some ⟨0, 128, none⟩))] w fun e w' => e = .returned (.agg #[.iface 122 (.pointer (some ⟨0, 128, none⟩)), .int .u64 22, .pointer none, .pointer none, .bool false, .bool false, .bool false, .bool false, .bool false]) ∧ w.alloc (.cells #[.iface 122 (.pointer (some ⟨0, 128, none⟩)), .int .u64 22, .pointer none, .pointer none, .bool false, .bool false, .bool false, .bool false, .bool false] 43) = w' :=
  from_plain c 128 22 kind_128 rfl rfl rfl rfl rfl rfl rfl rfl rfl rfl rfl rfl rfl rfl rfl w

theorem from_3 (c : Option Addr) (w : World)  : Calls Tryz.prog 137 #[.pointer c, .iface 122 (.pointer (some ⟨0, 3, none⟩))] w fun e w' => e = .returned (Value.agg #[Value.iface 122 (Value.pointer (some { block := 0, off := 3 })), Value.int IntKind.u64 2, Value.pointer none, Value.pointer none, Value.bool false, Value.bool false, Value.bool false, Value.bool true, Value.bool false]) ∧ (w.alloc (Obj.cells #[Value.iface 122 (Value.pointer (some { block := 0, off := 3 })), Value.int IntKind.u64 2, Value.pointer none, Value.pointer none, Value.bool false, Value.bool false, Value.bool false, Value.bool true, Value.bool false] 43)) = w' := by
  go_enter Tryz.func137, Tryz.ntmps137
  go_wp2_with (first | (go_at_call 146; ((with_reducible refine (bi_3 _).mono ?_); rintro e w' ⟨rfl, rfl⟩)))
  exact bodyPost_ret (v := (Value.agg #[Value.iface 122 (Value.pointer (some { block := 0, off := 3 })), Value.int IntKind.u64 2, Value.pointer none, Value.pointer none, Value.bool false, Value.bool false, Value.bool false, Value.bool true, Value.bool false])) (by simp [results, Tryz.results137, go_sem]) rfl ⟨rfl, rfl⟩

theorem from_126  (w : World)  : Calls Tryz.prog 137 #[.pointer none, .iface 122 (.pointer (some ⟨0, 126, none⟩))] w fun e w' => e = .returned (Value.agg #[Value.iface 122 (Value.pointer (some { block := 0, off := 126 })), Value.int IntKind.u64 25, Value.pointer (some { block := w.heap.size + 1, off := 0 }), Value.pointer none, Value.bool false, Value.bool false, Value.bool false, Value.bool false, Value.bool false]) ∧ ((w.alloc (Obj.cells #[Value.iface 122 (Value.pointer (some { block := 0, off := 126 })), Value.int IntKind.u64 25, Value.pointer (some { block := w.heap.size + 1, off := 0 }), Value.pointer none, Value.bool false, Value.bool false, Value.bool false, Value.bool false, Value.bool false] 43)).alloc (Obj.cells #[Value.pointer none, Value.pointer none, Value.map none, Value.pointer none, Value.pointer none, Value.int IntKind.i64 0, Value.pointer none, Value.pointer none, Value.int IntKind.i64 0, Value.int IntKind.i64 0, Value.bool false, Value.bool false, Value.bool false, Value.bool false] 83)) = w' := by
  go_enter Tryz.func137, Tryz.ntmps137
  go_wp2
  exact bodyPost_ret (v := (Value.agg #[Value.iface 122 (Value.pointer (some { block := 0, off := 126 })), Value.int IntKind.u64 25, Value.pointer (some { block := w.heap.size + 1, off := 0 }), Value.pointer none, Value.bool false, Value.bool false, Value.bool false, Value.bool false, Value.bool false])) (by simp [results, Tryz.results137, go_sem]) rfl ⟨rfl, rfl⟩

theorem nc_3 (x : Value) (w : World)  : Calls Tryz.prog 140 #[.pointer none, .iface 3 x] w fun e w' => e = .returned (Value.agg #[Value.iface 122 (Value.pointer (some { block := 0, off := 3 })), Value.int IntKind.u64 2, Value.pointer none, Value.pointer none, Value.bool false, Value.bool false, Value.bool false, Value.bool true, Value.bool false]) ∧ ((w.alloc (Obj.cells #[Value.iface 122 (Value.pointer (some { block := 0, off := 3 })), Value.int IntKind.u64 2, Value.pointer none, Value.pointer none, Value.bool false, Value.bool false, Value.bool false, Value.bool true, Value.bool false] 43)).alloc (Obj.cells #[Value.iface 122 (Value.pointer (some { block := 0, off := 3 })), Value.int IntKind.u64 2, Value.pointer none, Value.pointer none, Value.bool false, Value.bool false, Value.bool false, Value.bool true, Value.bool false] 43)) = w' := by
  go_enter Tryz.func140, Tryz.ntmps140
  go_wp2_with (first | (go_at_call 137; ((with_reducible refine (from_3 _ _).mono ?_); rintro e w' ⟨rfl, rfl⟩)))
  exact bodyPost_ret (v := (Value.agg #[Value.iface 122 (Value.pointer (some { block := 0, off := 3 })), Value.int IntKind.u64 2, Value.pointer none, Value.pointer none, Value.bool false, Value.bool false, Value.bool false, Value.bool true, Value.bool false])) (by simp [results, Tryz.results140, go_sem]) rfl ⟨rfl, rfl⟩

theorem nc_9 (x : Value) (w : World)  : Calls Tryz.prog 140 #[.pointer none, .iface 9 x] w fun e w' => e = .returned (Value.agg #[Value.iface 122 (Value.pointer (some { block := 0, off := 9 })), Value.int IntKind.u64 24, Value.pointer none, Value.pointer none, Value.bool false, Value.bool false, Value.bool false, Value.bool false, Value.bool false]) ∧ ((w.alloc (Obj.cells #[Value.iface 122 (Value.pointer (some { block := 0, off := 9 })), Value.int IntKind.u64 24, Value.pointer none, Value.pointer none, Value.bool false, Value.bool false, Value.bool false, Value.bool false, Value.bool false] 43)).alloc (Obj.cells #[Value.iface 122 (Value.pointer (some { block := 0, off := 9 })), Value.int IntKind.u64 24, Value.pointer none, Value.pointer none, Value.bool false, Value.bool false, Value.bool false, Value.bool false, Value.bool false] 43)) = w' := by
  go_enter Tryz.func140, Tryz.ntmps140
  go_wp2_with (first | (go_at_call 137; ((with_reducible refine (from_9 _ _).mono ?_); rintro e w' ⟨rfl, rfl⟩)))
  exact bodyPost_ret (v := (Value.agg #[Value.iface 122 (Value.pointer (some { block := 0, off := 9 })), Value.int IntKind.u64 24, Value.pointer none, Value.pointer none, Value.bool false, Value.bool false, Value.bool false, Value.bool false, Value.bool false])) (by simp [results, Tryz.results140, go_sem]) rfl ⟨rfl, rfl⟩

theorem nc_51 (x : Value) (w : World)  : Calls Tryz.prog 140 #[.pointer none, .iface 51 x] w fun e w' => e = .returned (Value.agg #[Value.iface 122 (Value.pointer (some { block := 0, off := 51 })), Value.int IntKind.u64 22, Value.pointer none, Value.pointer none, Value.bool false, Value.bool false, Value.bool false, Value.bool false, Value.bool false]) ∧ ((w.alloc (Obj.cells #[Value.iface 122 (Value.pointer (some { block := 0, off := 51 })), Value.int IntKind.u64 22, Value.pointer none, Value.pointer none, Value.bool false, Value.bool false, Value.bool false, Value.bool false, Value.bool false] 43)).alloc (Obj.cells #[Value.iface 122 (Value.pointer (some { block := 0, off := 51 })), Value.int IntKind.u64 22, Value.pointer none, Value.pointer none, Value.bool false, Value.bool false, Value.bool false, Value.bool false, Value.bool false] 43)) = w' := by
  go_enter Tryz.func140, Tryz.ntmps140
  go_wp2_with (first | (go_at_call 137; ((with_reducible refine (from_51 _ _).mono ?_); rintro e w' ⟨rfl, rfl⟩)))
  exact bodyPost_ret (v := (Value.agg #[Value.iface 122 (Value.pointer (some { block := 0, off := 51 })), Value.int IntKind.u64 22, Value.pointer none, Value.pointer none, Value.bool false, Value.bool false, Value.bool false, Value.bool false, Value.bool false])) (by simp [results, Tryz.results140, go_sem]) rfl ⟨rfl, rfl⟩

theorem nc_124 (x : Value) (w : World)  : Calls Tryz.prog 140 #[.pointer none, .iface 124 x] w fun e w' => e = .returned (Value.agg #[Value.iface 122 (Value.pointer (some { block := 0, off := 124 })), Value.int IntKind.u64 22, Value.pointer none, Value.pointer none, Value.bool false, Value.bool false, Value.bool false, Value.bool false, Value.bool false]) ∧ ((w.alloc (Obj.cells #[Value.iface 122 (Value.pointer (some { block := 0, off := 124 })), Value.int IntKind.u64 22, Value.pointer none, Value.pointer none, Value.bool false, Value.bool false, Value.bool false, Value.bool false, Value.bool false] 43)).alloc (Obj.cells #[Value.iface 122 (Value.pointer (some { block := 0, off := 124 })), Value.int IntKind.u64 22, Value.pointer none, Value.pointer none, Value.bool false, Value.bool false, Value.bool false, Value.bool false, Value.bool false] 43)) = w' := by
  go_enter Tryz.func140, Tryz.ntmps140
  go_wp2_with (first | (go_at_call 137; ((with_reducible refine (from_124 _ _).mono ?_); rintro e w' ⟨rfl, rfl⟩)))
  exact bodyPost_ret (v := (Value.agg #[Value.iface 122 (Value.pointer (some { block := 0, off := 124 })), Value.int IntKind.u64 22, Value.pointer none, Value.pointer none, Value.bool false, Value.bool false, Value.bool false, Value.bool false, Value.bool false])) (by simp [results, Tryz.results140, go_sem]) rfl ⟨rfl, rfl⟩

theorem nc_53 (x : Value) (w : World)  : Calls Tryz.prog 140 #[.pointer none, .iface 53 x] w fun e w' => e = .returned (Value.agg #[Value.iface 122 (Value.pointer (some { block := 0, off := 53 })), Value.int IntKind.u64 21, Value.pointer none, Value.pointer none, Value.bool false, Value.bool false, Value.bool false, Value.bool false, Value.bool false]) ∧ ((w.alloc (Obj.cells #[Value.iface 122 (Value.pointer (some { block := 0, off := 53 })), Value.int IntKind.u64 21, Value.pointer none, Value.pointer none, Value.bool false, Value.bool false, Value.bool false, Value.bool false, Value.bool false] 43)).alloc (Obj.cells #[Value.iface 122 (Value.pointer (some { block := 0, off := 53 })), Value.int IntKind.u64 21, Value.pointer none, Value.pointer none, Value.bool false, Value.bool false, Value.bool false, Value.bool false, Value.bool false] 43)) = w' := by
  go_enter Tryz.func140, Tryz.ntmps140
  go_wp2_with (first | (go_at_call 137; ((with_reducible refine (from_53 _ _).mono ?_); rintro e w' ⟨rfl, rfl⟩)))
  exact bodyPost_ret (v := (Value.agg #[Value.iface 122 (Value.pointer (some { block := 0, off := 53 })), Value.int IntKind.u64 21, Value.pointer none, Value.pointer none, Value.bool false, Value.bool false, Value.bool false, Value.bool false, Value.bool false])) (by simp [results, Tryz.results140, go_sem]) rfl ⟨rfl, rfl⟩

theorem nc_125 (x : Value) (w : World)  : Calls Tryz.prog 140 #[.pointer none, .iface 125 x] w fun e w' => e = .returned (Value.agg #[Value.iface 122 (Value.pointer (some { block := 0, off := 125 })), Value.int IntKind.u64 21, Value.pointer none, Value.pointer none, Value.bool false, Value.bool false, Value.bool false, Value.bool false, Value.bool false]) ∧ ((w.alloc (Obj.cells #[Value.iface 122 (Value.pointer (some { block := 0, off := 125 })), Value.int IntKind.u64 21, Value.pointer none, Value.pointer none, Value.bool false, Value.bool false, Value.bool false, Value.bool false, Value.bool false] 43)).alloc (Obj.cells #[Value.iface 122 (Value.pointer (some { block := 0, off := 125 })), Value.int IntKind.u64 21, Value.pointer none, Value.pointer none, Value.bool false, Value.bool false, Value.bool false, Value.bool false, Value.bool false] 43)) = w' := by
  go_enter Tryz.func140, Tryz.ntmps140
  go_wp2_with (first | (go_at_call 137; ((with_reducible refine (from_125 _ _).mono ?_); rintro e w' ⟨rfl, rfl⟩)))
  exact bodyPost_ret (v := (Value.agg #[Value.iface 122 (Value.pointer (some { block := 0, off := 125 })), Value.int IntKind.u64 21, Value.pointer none, Value.pointer none, Value.bool false, Value.bool false, Value.bool false, Value.bool false, Value.bool false])) (by simp [results, Tryz.results140, go_sem]) rfl ⟨rfl, rfl⟩

theorem nc_50 (x : Value) (w : World)  : Calls Tryz.prog 140 #[.pointer none, .iface 50 x] w fun e w' => e = .returned (Value.agg #[Value.iface 122 (Value.pointer (some { block := 0, off := 50 })), Value.int IntKind.u64 23, Value.pointer none, Value.pointer none, Value.bool false, Value.bool false, Value.bool false, Value.bool false, Value.bool false]) ∧ ((w.alloc (Obj.cells #[Value.iface 122 (Value.pointer (some { block := 0, off := 50 })), Value.int IntKind.u64 23, Value.pointer none, Value.pointer none, Value.bool false, Value.bool false, Value.bool false, Value.bool false, Value.bool false] 43)).alloc (Obj.cells #[Value.iface 122 (Value.pointer (some { block := 0, off := 50 })), Value.int IntKind.u64 23, Value.pointer none, Value.pointer none, Value.bool false, Value.bool false, Value.bool false, Value.bool false, Value.bool false] 43)) = w' := by
  go_enter Tryz.func140, Tryz.ntmps140
  go_wp2_with (first | (go_at_call 137; ((with_reducible refine (from_50 _ _).mono ?_); rintro e w' ⟨rfl, rfl⟩)))
  exact bodyPost_ret (v := (Value.agg #[Value.iface 122 (Value.pointer (some { block := 0, off := 50 })), Value.int IntKind.u64 23, Value.pointer none, Value.pointer none, Value.bool false, Value.bool false, Value.bool false, Value.bool false, Value.bool false])) (by simp [results, Tryz.results140, go_sem]) rfl ⟨rfl, rfl⟩

theorem nc_126 (x : Value) (w : World)  : Calls Tryz.prog 140 #[.pointer none, .iface 126 x] w fun e w' => e = .returned (Value.agg #[Value.iface 122 (Value.pointer (some { block := 0, off := 126 })), Value.int IntKind.u64 25, Value.pointer (some { block := w.heap.size + 1 + 1, off := 0 }), Value.pointer none, Value.bool false, Value.bool false, Value.bool false, Value.bool false, Value.bool false]) ∧ (((w.alloc (Obj.cells #[Value.iface 122 (Value.pointer (some { block := 0, off := 126 })), Value.int IntKind.u64 25, Value.pointer (some { block := w.heap.size + 1 + 1, off := 0 }), Value.pointer none, Value.bool false, Value.bool false, Value.bool false, Value.bool false, Value.bool false] 43)).alloc (Obj.cells #[Value.iface 122 (Value.pointer (some { block := 0, off := 126 })), Value.int IntKind.u64 25, Value.pointer (some { block := w.heap.size + 1 + 1, off := 0 }), Value.pointer none, Value.bool false, Value.bool false, Value.bool false, Value.bool false, Value.bool false] 43)).alloc (Obj.cells #[Value.pointer none, Value.pointer none, Value.map none, Value.pointer none, Value.pointer none, Value.int IntKind.i64 0, Value.pointer none, Value.pointer none, Value.int IntKind.i64 0, Value.int IntKind.i64 0, Value.bool false, Value.bool false, Value.bool false, Value.bool false] 83)) = w' := by
  go_enter Tryz.func140, Tryz.ntmps140
  go_wp2_with (first | (go_at_call 137; ((with_reducible refine (from_126 _).mono ?_); rintro e w' ⟨rfl, rfl⟩)))
  exact bodyPost_ret (v := (Value.agg #[Value.iface 122 (Value.pointer (some { block := 0, off := 126 })), Value.int IntKind.u64 25, Value.pointer (some { block := w.heap.size + 1 + 1, off := 0 }), Value.pointer none, Value.bool false, Value.bool false, Value.bool false, Value.bool false, Value.bool false])) (by simp [results, Tryz.results140, go_sem]) rfl ⟨rfl, rfl⟩

theorem nc_128 (x : Value) (w : World)  : Calls Tryz.prog 140 #[.pointer none, .iface 128 x] w fun e w' => e = .returned (Value.agg #[Value.iface 122 (Value.pointer (some { block := 0, off := 128 })), Value.int IntKind.u64 22, Value.pointer none, Value.pointer none, Value.bool false, Value.bool false, Value.bool false, Value.bool false, Value.bool false]) ∧ ((w.alloc (Obj.cells #[Value.iface 122 (Value.pointer (some { block := 0, off := 128 })), Value.int IntKind.u64 22, Value.pointer none, Value.pointer none, Value.bool false, Value.bool false, Value.bool false, Value.bool false, Value.bool false] 43)).alloc (Obj.cells #[Value.iface 122 (Value.pointer (some { block := 0, off := 128 })), Value.int IntKind.u64 22, Value.pointer none, Value.pointer none, Value.bool false, Value.bool false, Value.bool false, Value.bool false, Value.bool false] 43)) = w' := by
  go_enter Tryz.func140, Tryz.ntmps140
  go_wp2_with (first | (go_at_call 137; ((with_reducible refine (from_128 _ _).mono ?_); rintro e w' ⟨rfl, rfl⟩)))
  exact bodyPost_ret (v := (Value.agg #[Value.iface 122 (Value.pointer (some { block := 0, off := 128 })), Value.int IntKind.u64 22, Value.pointer none, Value.pointer none, Value.bool false, Value.bool false, Value.bool false, Value.bool false, Value.bool false])) (by simp [results, Tryz.results140, go_sem]) rfl ⟨rfl, rfl⟩

theorem no_3 (x : Value) (w : World)  : Calls Tryz.prog 115 #[.iface 3 x] w fun e w' => e = .returned (Value.agg #[Value.iface 122 (Value.pointer (some { block := 0, off := 3 })), Value.int IntKind.u64 2, Value.pointer none, Value.pointer none, Value.bool false, Value.bool false, Value.bool false, Value.bool true, Value.bool false]) ∧ (((w.alloc (Obj.cells #[Value.iface 122 (Value.pointer (some { block := 0, off := 3 })), Value.int IntKind.u64 2, Value.pointer none, Value.pointer none, Value.bool false, Value.bool false, Value.bool false, Value.bool true, Value.bool false] 43)).alloc (Obj.cells #[Value.iface 122 (Value.pointer (some { block := 0, off := 3 })), Value.int IntKind.u64 2, Value.pointer none, Value.pointer none, Value.bool false, Value.bool false, Value.bool false, Value.bool true, Value.bool false] 43)).alloc (Obj.cells #[Value.iface 122 (Value.pointer (some { block := 0, off := 3 })), Value.int IntKind.u64 2, Value.pointer none, Value.pointer none, Value.bool false, Value.bool false, Value.bool false, Value.bool true, Value.bool false] 43)) = w' := by
  go_enter Tryz.func115, Tryz.ntmps115
  go_wp2_with (first | (go_at_call 140; ((with_reducible refine (nc_3 _ _).mono ?_); rintro e w' ⟨rfl, rfl⟩)))
  exact bodyPost_ret (v := (Value.agg #[Value.iface 122 (Value.pointer (some { block := 0, off := 3 })), Value.int IntKind.u64 2, Value.pointer none, Value.pointer none, Value.bool false, Value.bool false, Value.bool false, Value.bool true, Value.bool false])) (by simp [results, Tryz.results115, go_sem]) rfl ⟨rfl, rfl⟩

theorem no_9 (x : Value) (w : World)  : Calls Tryz.prog 115 #[.iface 9 x] w fun e w' => e = .returned (Value.agg #[Value.iface 122 (Value.pointer (some { block := 0, off := 9 })), Value.int IntKind.u64 24, Value.pointer none, Value.pointer none, Value.bool false, Value.bool false, Value.bool false, Value.bool false, Value.bool false]) ∧ (((w.alloc (Obj.cells #[Value.iface 122 (Value.pointer (some { block := 0, off := 9 })), Value.int IntKind.u64 24, Value.pointer none, Value.pointer none, Value.bool false, Value.bool false, Value.bool false, Value.bool false, Value.bool false] 43)).alloc (Obj.cells #[Value.iface 122 (Value.pointer (some { block := 0, off := 9 })), Value.int IntKind.u64 24, Value.pointer none, Value.pointer none, Value.bool false, Value.bool false, Value.bool false, Value.bool false, Value.bool false] 43)).alloc (Obj.cells #[Value.iface 122 (Value.pointer (some { block := 0, off := 9 })), Value.int IntKind.u64 24, Value.pointer none, Value.pointer none, Value.bool false, Value.bool false, Value.bool false, Value.bool false, Value.bool false] 43)) = w' := by
  go_enter Tryz.func115, Tryz.ntmps115
  go_wp2_with (first | (go_at_call 140; ((with_reducible refine (nc_9 _ _).mono ?_); rintro e w' ⟨rfl, rfl⟩)))
  exact bodyPost_ret (v := (Value.agg #[Value.iface 122 (Value.pointer (some { block := 0, off := 9 })), Value.int IntKind.u64 24, Value.pointer none, Value.pointer none, Value.bool false, Value.bool false, Value.bool false, Value.bool false, Value.bool false])) (by simp [results, Tryz.results115, go_sem]) rfl ⟨rfl, rfl⟩

theorem no_51 (x : Value) (w : World)  : Calls Tryz.prog 115 #[.iface 51 x] w fun e w' => e = .returned (Value.agg #[Value.iface 122 (Value.pointer (some { block := 0, off := 51 })), Value.int IntKind.u64 22, Value.pointer none, Value.pointer none, Value.bool false, Value.bool false, Value.bool false, Value.bool false, Value.bool false]) ∧ (((w.alloc (Obj.cells #[Value.iface 122 (Value.pointer (some { block := 0, off := 51 })), Value.int IntKind.u64 22, Value.pointer none, Value.pointer none, Value.bool false, Value.bool false, Value.bool false, Value.bool false, Value.bool false] 43)).alloc (Obj.cells #[Value.iface 122 (Value.pointer (some { block := 0, off := 51 })), Value.int IntKind.u64 22, Value.pointer none, Value.pointer none, Value.bool false, Value.bool false, Value.bool false, Value.bool false, Value.bool false] 43)).alloc (Obj.cells #[Value.iface 122 (Value.pointer (some { block := 0, off := 51 })), Value.int IntKind.u64 22, Value.pointer none, Value.pointer none, Value.bool false, Value.bool false, Value.bool false, Value.bool false, Value.bool false] 43)) = w' := by
  go_enter Tryz.func115, Tryz.ntmps115
  go_wp2_with (first | (go_at_call 140; ((with_reducible refine (nc_51 _ _).mono ?_); rintro e w' ⟨rfl, rfl⟩)))
  exact bodyPost_ret (v := (Value.agg #[Value.iface 122 (Value.pointer (some { block := 0, off := 51 })), Value.int IntKind.u64 22, Value.pointer none, Value.pointer none, Value.bool false, Value.bool false, Value.bool false, Value.bool false, Value.bool false])) (by simp [results, Tryz.results115, go_sem]) rfl ⟨rfl, rfl⟩

theorem no_124 (x : Value) (w : World)  : Calls Tryz.prog 115 #[.iface 124 x] w fun e w' => e = .returned (Value.agg #[Value.iface 122 (Value.pointer (some { block := 0, off := 124 })), Value.int IntKind.u64 22, Value.pointer none, Value.pointer none, Value.bool false, Value.bool false, Value.bool false, Value.bool false, Value.bool false]) ∧ (((w.alloc (Obj.cells #[Value.iface 122 (Value.pointer (some { block := 0, off := 124 })), Value.int IntKind.u64 22, Value.pointer none, Value.pointer none, Value.bool false, Value.bool false, Value.bool false, Value.bool false, Value.bool false] 43)).alloc (Obj.cells #[Value.iface 122 (Value.pointer (some { block := 0, off := 124 })), Value.int IntKind.u64 22, Value.pointer none, Value.pointer none, Value.bool false, Value.bool false, Value.bool false, Value.bool false, Value.bool false] 43)).alloc (Obj.cells #[Value.iface 122 (Value.pointer (some { block := 0, off := 124 })), Value.int IntKind.u64 22, Value.pointer none, Value.pointer none, Value.bool false, Value.bool false, Value.bool false, Value.bool false, Value.bool false] 43)) = w' := by
  go_enter Tryz.func115, Tryz.ntmps115
  go_wp2_with (first | (go_at_call 140; ((with_reducible refine (nc_124 _ _).mono ?_); rintro e w' ⟨rfl, rfl⟩)))
  exact bodyPost_ret (v := (Value.agg #[Value.iface 122 (Value.pointer (some { block := 0, off := 124 })), Value.int IntKind.u64 22, Value.pointer none, Value.pointer none, Value.bool false, Value.bool false, Value.bool false, Value.bool false, Value.bool false])) (by simp [results, Tryz.results115, go_sem]) rfl ⟨rfl, rfl⟩

theorem no_53 (x : Value) (w : World)  : Calls Tryz.prog 115 #[.iface 53 x] w fun e w' => e = .returned (Value.agg #[Value.iface 122 (Value.pointer (some { block := 0, off := 53 })), Value.int IntKind.u64 21, Value.pointer none, Value.pointer none, Value.bool false, Value.bool false, Value.bool false, Value.bool false, Value.bool false]) ∧ (((w.alloc (Obj.cells #[Value.iface 122 (Value.pointer (some { block := 0, off := 53 })), Value.int IntKind.u64 21, Value.pointer none, Value.pointer none, Value.bool false, Value.bool false, Value.bool false, Value.bool false, Value.bool false] 43)).alloc (Obj.cells #[Value.iface 122 (Value.pointer (some { block := 0, off := 53 })), Value.int IntKind.u64 21, Value.pointer none, Value.pointer none, Value.bool false, Value.bool false, Value.bool false, Value.bool false, Value.bool false] 43)).alloc (Obj.cells #[Value.iface 122 (Value.pointer (some { block := 0, off := 53 })), Value.int IntKind.u64 21, Value.pointer none, Value.pointer none, Value.bool false, Value.bool false, Value.bool false, Value.bool false, Value.bool false] 43)) = w' := by
  go_enter Tryz.func115, Tryz.ntmps115
  go_wp2_with (first | (go_at_call 140; ((with_reducible refine (nc_53 _ _).mono ?_); rintro e w' ⟨rfl, rfl⟩)))
  exact bodyPost_ret (v := (Value.agg #[Value.iface 122 (Value.pointer (some { block := 0, off := 53 })), Value.int IntKind.u64 21, Value.pointer none, Value.pointer none, Value.bool false, Value.bool false, Value.bool false, Value.bool false, Value.bool false])) (by simp [results, Tryz.results115, go_sem]) rfl ⟨rfl, rfl⟩

theorem no_125 (x : Value) (w : World)  : Calls Tryz.prog 115 #[.iface 125 x] w fun e w' => e = .returned (Value.agg #[Value.iface 122 (Value.pointer (some { block := 0, off := 125 })), Value.int IntKind.u64 21, Value.pointer none, Value.pointer none, Value.bool false, Value.bool false, Value.bool false, Value.bool false, Value.bool false]) ∧ (((w.alloc (Obj.cells #[Value.iface 122 (Value.pointer (some { block := 0, off := 125 })), Value.int IntKind.u64 21, Value.pointer none, Value.pointer none, Value.bool false, Value.bool false, Value.bool false, Value.bool false, Value.bool false] 43)).alloc (Obj.cells #[Value.iface 122 (Value.pointer (some { block := 0, off := 125 })), Value.int IntKind.u64 21, Value.pointer none, Value.pointer none, Value.bool false, Value.bool false, Value.bool false, Value.bool false, Value.bool false] 43)).alloc (Obj.cells #[Value.iface 122 (Value.pointer (some { block := 0, off := 125 })), Value.int IntKind.u64 21, Value.pointer none, Value.pointer none, Value.bool false, Value.bool false, Value.bool false, Value.bool false, Value.bool false] 43)) = w' := by
  go_enter Tryz.func115, Tryz.ntmps115
  go_wp2_with (first | (go_at_call 140; ((with_reducible refine (nc_125 _ _).mono ?_); rintro e w' ⟨rfl, rfl⟩)))
  exact bodyPost_ret (v := (Value.agg #[Value.iface 122 (Value.pointer (some { block := 0, off := 125 })), Value.int IntKind.u64 21, Value.pointer none, Value.pointer none, Value.bool false, Value.bool false, Value.bool false, Value.bool false, Value.bool false])) (by simp [results, Tryz.results115, go_sem]) rfl ⟨rfl, rfl⟩

theorem no_50 (x : Value) (w : World)  : Calls Tryz.prog 115 #[.iface 50 x] w fun e w' => e = .returned (Value.agg #[Value.iface 122 (Value.pointer (some { block := 0, off := 50 })), Value.int IntKind.u64 23, Value.pointer none, Value.pointer none, Value.bool false, Value.bool false, Value.bool false, Value.bool false, Value.bool false]) ∧ (((w.alloc (Obj.cells #[Value.iface 122 (Value.pointer (some { block := 0, off := 50 })), Value.int IntKind.u64 23, Value.pointer none, Value.pointer none, Value.bool false, Value.bool false, Value.bool false, Value.bool false, Value.bool false] 43)).alloc (Obj.cells #[Value.iface 122 (Value.pointer (some { block := 0, off := 50 })), Value.int IntKind.u64 23, Value.pointer none, Value.pointer none, Value.bool false, Value.bool false, Value.bool false, Value.bool false, Value.bool false] 43)).alloc (Obj.cells #[Value.iface 122 (Value.pointer (some { block := 0, off := 50 })), Value.int IntKind.u64 23, Value.pointer none, Value.pointer none, Value.bool false, Value.bool false, Value.bool false, Value.bool false, Value.bool false] 43)) = w' := by
  go_enter Tryz.func115, Tryz.ntmps115
  go_wp2_with (first | (go_at_call 140; ((with_reducible refine (nc_50 _ _).mono ?_); rintro e w' ⟨rfl, rfl⟩)))
  exact bodyPost_ret (v := (Value.agg #[Value.iface 122 (Value.pointer (some { block := 0, off := 50 })), Value.int IntKind.u64 23, Value.pointer none, Value.pointer none, Value.bool false, Value.bool false, Value.bool false, Value.bool false, Value.bool false])) (by simp [results, Tryz.results115, go_sem]) rfl ⟨rfl, rfl⟩

theorem no_126 (x : Value) (w : World)  : Calls Tryz.prog 115 #[.iface 126 x] w fun e w' => e = .returned (Value.agg #[Value.iface 122 (Value.pointer (some { block := 0, off := 126 })), Value.int IntKind.u64 25, Value.pointer (some { block := w.heap.size + 1 + 1 + 1, off := 0 }), Value.pointer none, Value.bool false, Value.bool false, Value.bool false, Value.bool false, Value.bool false]) ∧ ((((w.alloc (Obj.cells #[Value.iface 122 (Value.pointer (some { block := 0, off := 126 })), Value.int IntKind.u64 25, Value.pointer (some { block := w.heap.size + 1 + 1 + 1, off := 0 }), Value.pointer none, Value.bool false, Value.bool false, Value.bool false, Value.bool false, Value.bool false] 43)).alloc (Obj.cells #[Value.iface 122 (Value.pointer (some { block := 0, off := 126 })), Value.int IntKind.u64 25, Value.pointer (some { block := w.heap.size + 1 + 1 + 1, off := 0 }), Value.pointer none, Value.bool false, Value.bool false, Value.bool false, Value.bool false, Value.bool false] 43)).alloc (Obj.cells #[Value.iface 122 (Value.pointer (some { block := 0, off := 126 })), Value.int IntKind.u64 25, Value.pointer (some { block := w.heap.size + 1 + 1 + 1, off := 0 }), Value.pointer none, Value.bool false, Value.bool false, Value.bool false, Value.bool false, Value.bool false] 43)).alloc (Obj.cells #[Value.pointer none, Value.pointer none, Value.map none, Value.pointer none, Value.pointer none, Value.int IntKind.i64 0, Value.pointer none, Value.pointer none, Value.int IntKind.i64 0, Value.int IntKind.i64 0, Value.bool false, Value.bool false, Value.bool false, Value.bool false] 83)) = w' := by
  go_enter Tryz.func115, Tryz.ntmps115
  go_wp2_with (first | (go_at_call 140; ((with_reducible refine (nc_126 _ _).mono ?_); rintro e w' ⟨rfl, rfl⟩)))
  exact bodyPost_ret (v := (Value.agg #[Value.iface 122 (Value.pointer (some { block := 0, off := 126 })), Value.int IntKind.u64 25, Value.pointer (some { block := w.heap.size + 1 + 1 + 1, off := 0 }), Value.pointer none, Value.bool false, Value.bool false, Value.bool false, Value.bool false, Value.bool false])) (by simp [results, Tryz.results115, go_sem]) rfl ⟨rfl, rfl⟩

theorem no_128 (x : Value) (w : World)  : Calls Tryz.prog 115 #[.iface 128 x] w fun e w' => e = .returned (Value.agg #[Value.iface 122 (Value.pointer (some { block := 0, off := 128 })), Value.int IntKind.u64 22, Value.pointer none, Value.pointer none, Value.bool false, Value.bool false, Value.bool false, Value.bool false, Value.bool false]) ∧ (((w.alloc (Obj.cells #[Value.iface 122 (Value.pointer (some { block := 0, off := 128 })), Value.int IntKind.u64 22, Value.pointer none, Value.pointer none, Value.bool false, Value.bool false, Value.bool false, Value.bool false, Value.bool false] 43)).alloc (Obj.cells #[Value.iface 122 (Value.pointer (some { block := 0, off := 128 })), Value.int IntKind.u64 22, Value.pointer none, Value.pointer none, Value.bool false, Value.bool false, Value.bool false, Value.bool false, Value.bool false] 43)).alloc (Obj.cells #[Value.iface 122 (Value.pointer (some { block := 0, off := 128 })), Value.int IntKind.u64 22, Value.pointer none, Value.pointer none, Value.bool false, Value.bool false, Value.bool false, Value.bool false, Value.bool false] 43)) = w' := by
  go_enter Tryz.func115, Tryz.ntmps115
  go_wp2_with (first | (go_at_call 140; ((with_reducible refine (nc_128 _ _).mono ?_); rintro e w' ⟨rfl, rfl⟩)))
  exact bodyPost_ret (v := (Value.agg #[Value.iface 122 (Value.pointer (some { block := 0, off := 128 })), Value.int IntKind.u64 22, Value.pointer none, Value.pointer none, Value.bool false, Value.bool false, Value.bool false, Value.bool false, Value.bool false])) (by simp [results, Tryz.results115, go_sem]) rfl ⟨rfl, rfl⟩

theorem c_120  (w : World)  : Calls Tryz.prog 120 #[] w fun e w' => e = .returned (Value.agg #[Value.iface 122 (Value.pointer (some { block := 0, off := 3 })), Value.int IntKind.u64 2, Value.pointer none, Value.pointer none, Value.bool false, Value.bool false, Value.bool false, Value.bool true, Value.bool false]) ∧ ((((w.alloc (Obj.cells #[Value.iface 122 (Value.pointer (some { block := 0, off := 3 })), Value.int IntKind.u64 2, Value.pointer none, Value.pointer none, Value.bool false, Value.bool false, Value.bool false, Value.bool true, Value.bool false] 43)).alloc (Obj.cells #[Value.iface 122 (Value.pointer (some { block := 0, off := 3 })), Value.int IntKind.u64 2, Value.pointer none, Value.pointer none, Value.bool false, Value.bool false, Value.bool false, Value.bool true, Value.bool false] 43)).alloc (Obj.cells #[Value.iface 122 (Value.pointer (some { block := 0, off := 3 })), Value.int IntKind.u64 2, Value.pointer none, Value.pointer none, Value.bool false, Value.bool false, Value.bool false, Value.bool true, Value.bool false] 43)).alloc (Obj.cells #[Value.iface 122 (Value.pointer (some { block := 0, off := 3 })), Value.int IntKind.u64 2, Value.pointer none, Value.pointer none, Value.bool false, Value.bool false, Value.bool false, Value.bool true, Value.bool false] 43)) = w' := by
  go_enter Tryz.func120, Tryz.ntmps120
  go_wp2_with (first | (go_at_call 115; ((with_reducible refine (no_3 _ _).mono ?_); rintro e w' ⟨rfl, rfl⟩)))
  exact bodyPost_ret (v := (Value.agg #[Value.iface 122 (Value.pointer (some { block := 0, off := 3 })), Value.int IntKind.u64 2, Value.pointer none, Value.pointer none, Value.bool false, Value.bool false, Value.bool false, Value.bool true, Value.bool false])) (by simp [results, Tryz.results120, go_sem]) rfl ⟨rfl, rfl⟩

theorem c_121  (w : World)  : Calls Tryz.prog 121 #[] w fun e w' => e = .returned (Value.agg #[Value.iface 122 (Value.pointer (some { block := 0, off := 9 })), Value.int IntKind.u64 24, Value.pointer none, Value.pointer none, Value.bool false, Value.bool false, Value.bool false, Value.bool false, Value.bool false]) ∧ ((((w.alloc (Obj.cells #[Value.iface 122 (Value.pointer (some { block := 0, off := 9 })), Value.int IntKind.u64 24, Value.pointer none, Value.pointer none, Value.bool false, Value.bool false, Value.bool false, Value.bool false, Value.bool false] 43)).alloc (Obj.cells #[Value.iface 122 (Value.pointer (some { block := 0, off := 9 })), Value.int IntKind.u64 24, Value.pointer none, Value.pointer none, Value.bool false, Value.bool false, Value.bool false, Value.bool false, Value.bool false] 43)).alloc (Obj.cells #[Value.iface 122 (Value.pointer (some { block := 0, off := 9 })), Value.int IntKind.u64 24, Value.pointer none, Value.pointer none, Value.bool false, Value.bool false, Value.bool false, Value.bool false, Value.bool false] 43)).alloc (Obj.cells #[Value.iface 122 (Value.pointer (some { block := 0, off := 9 })), Value.int IntKind.u64 24, Value.pointer none, Value.pointer none, Value.bool false, Value.bool false, Value.bool false, Value.bool false, Value.bool false] 43)) = w' := by
  go_enter Tryz.func121, Tryz.ntmps121
  go_wp2_with (first | (go_at_call 115; ((with_reducible refine (no_9 _ _).mono ?_); rintro e w' ⟨rfl, rfl⟩)))
  exact bodyPost_ret (v := (Value.agg #[Value.iface 122 (Value.pointer (some { block := 0, off := 9 })), Value.int IntKind.u64 24, Value.pointer none, Value.pointer none, Value.bool false, Value.bool false, Value.bool false, Value.bool false, Value.bool false])) (by simp [results, Tryz.results121, go_sem]) rfl ⟨rfl, rfl⟩

theorem c_122  (w : World)  : Calls Tryz.prog 122 #[] w fun e w' => e = .returned (Value.agg #[Value.iface 122 (Value.pointer (some { block := 0, off := 51 })), Value.int IntKind.u64 22, Value.pointer none, Value.pointer none, Value.bool false, Value.bool false, Value.bool false, Value.bool false, Value.bool false]) ∧ ((((w.alloc (Obj.cells #[Value.iface 122 (Value.pointer (some { block := 0, off := 51 })), Value.int IntKind.u64 22, Value.pointer none, Value.pointer none, Value.bool false, Value.bool false, Value.bool false, Value.bool false, Value.bool false] 43)).alloc (Obj.cells #[Value.iface 122 (Value.pointer (some { block := 0, off := 51 })), Value.int IntKind.u64 22, Value.pointer none, Value.pointer none, Value.bool false, Value.bool false, Value.bool false, Value.bool false, Value.bool false] 43)).alloc (Obj.cells #[Value.iface 122 (Value.pointer (some { block := 0, off := 51 })), Value.int IntKind.u64 22, Value.pointer none, Value.pointer none, Value.bool false, Value.bool false, Value.bool false, Value.bool false, Value.bool false] 43)).alloc (Obj.cells #[Value.iface 122 (Value.pointer (some { block := 0, off := 51 })), Value.int IntKind.u64 22, Value.pointer none, Value.pointer none, Value.bool false, Value.bool false, Value.bool false, Value.bool false, Value.bool false] 43)) = w' := by
  go_enter Tryz.func122, Tryz.ntmps122
  go_wp2_with (first | (go_at_call 115; ((with_reducible refine (no_51 _ _).mono ?_); rintro e w' ⟨rfl, rfl⟩)))
  exact bodyPost_ret (v := (Value.agg #[Value.iface 122 (Value.pointer (some { block := 0, off := 51 })), Value.int IntKind.u64 22, Value.pointer none, Value.pointer none, Value.bool false, Value.bool false, Value.bool false, Value.bool false, Value.bool false])) (by simp [results, Tryz.results122, go_sem]) rfl ⟨rfl, rfl⟩

theorem c_123  (w : World)  : Calls Tryz.prog 123 #[] w fun e w' => e = .returned (Value.agg #[Value.iface 122 (Value.pointer (some { block := 0, off := 124 })), Value.int IntKind.u64 22, Value.pointer none, Value.pointer none, Value.bool false, Value.bool false, Value.bool false, Value.bool false, Value.bool false]) ∧ ((((w.alloc (Obj.cells #[Value.iface 122 (Value.pointer (some { block := 0, off := 124 })), Value.int IntKind.u64 22, Value.pointer none, Value.pointer none, Value.bool false, Value.bool false, Value.bool false, Value.bool false, Value.bool false] 43)).alloc (Obj.cells #[Value.iface 122 (Value.pointer (some { block := 0, off := 124 })), Value.int IntKind.u64 22, Value.pointer none, Value.pointer none, Value.bool false, Value.bool false, Value.bool false, Value.bool false, Value.bool false] 43)).alloc (Obj.cells #[Value.iface 122 (Value.pointer (some { block := 0, off := 124 })), Value.int IntKind.u64 22, Value.pointer none, Value.pointer none, Value.bool false, Value.bool false, Value.bool false, Value.bool false, Value.bool false] 43)).alloc (Obj.cells #[Value.iface 122 (Value.pointer (some { block := 0, off := 124 })), Value.int IntKind.u64 22, Value.pointer none, Value.pointer none, Value.bool false, Value.bool false, Value.bool false, Value.bool false, Value.bool false] 43)) = w' := by
  go_enter Tryz.func123, Tryz.ntmps123
  go_wp2_with (first | (go_at_call 115; ((with_reducible refine (no_124 _ _).mono ?_); rintro e w' ⟨rfl, rfl⟩)))
  exact bodyPost_ret (v := (Value.agg #[Value.iface 122 (Value.pointer (some { block := 0, off := 124 })), Value.int IntKind.u64 22, Value.pointer none, Value.pointer none, Value.bool false, Value.bool false, Value.bool false, Value.bool false, Value.bool false])) (by simp [results, Tryz.results123, go_sem]) rfl ⟨rfl, rfl⟩

theorem c_124  (w : World)  : Calls Tryz.prog 124 #[] w fun e w' => e = .returned (Value.agg #[Value.iface 122 (Value.pointer (some { block := 0, off := 53 })), Value.int IntKind.u64 21, Value.pointer none, Value.pointer none, Value.bool false, Value.bool false, Value.bool false, Value.bool false, Value.bool false]) ∧ ((((w.alloc (Obj.cells #[Value.iface 122 (Value.pointer (some { block := 0, off := 53 })), Value.int IntKind.u64 21, Value.pointer none, Value.pointer none, Value.bool false, Value.bool false, Value.bool false, Value.bool false, Value.bool false] 43)).alloc (Obj.cells #[Value.iface 122 (Value.pointer (some { block := 0, off := 53 })), Value.int IntKind.u64 21, Value.pointer none, Value.pointer none, Value.bool false, Value.bool false, Value.bool false, Value.bool false, Value.bool false] 43)).alloc (Obj.cells #[Value.iface 122 (Value.pointer (some { block := 0, off := 53 })), Value.int IntKind.u64 21, Value.pointer none, Value.pointer none, Value.bool false, Value.bool false, Value.bool false, Value.bool false, Value.bool false] 43)).alloc (Obj.cells #[Value.iface 122 (Value.pointer (some { block := 0, off := 53 })), Value.int IntKind.u64 21, Value.pointer none, Value.pointer none, Value.bool false, Value.bool false, Value.bool false, Value.bool false, Value.bool false] 43)) = w' := by
  go_enter Tryz.func124, Tryz.ntmps124
  go_wp2_with (first | (go_at_call 115; ((with_reducible refine (no_53 _ _).mono ?_); rintro e w' ⟨rfl, rfl⟩)))
  exact bodyPost_ret (v := (Value.agg #[Value.iface 122 (Value.pointer (some { block := 0, off := 53 })), Value.int IntKind.u64 21, Value.pointer none, Value.pointer none, Value.bool false, Value.bool false, Value.bool false, Value.bool false, Value.bool false])) (by simp [results, Tryz.results124, go_sem]) rfl ⟨rfl, rfl⟩

theorem c_125  (w : World)  : Calls Tryz.prog 125 #[] w fun e w' => e = .returned (Value.agg #[Value.iface 122 (Value.pointer (some { block := 0, off := 125 })), Value.int IntKind.u64 21, Value.pointer none, Value.pointer none, Value.bool false, Value.bool false, Value.bool false, Value.bool false, Value.bool false]) ∧ ((((w.alloc (Obj.cells #[Value.iface 122 (Value.pointer (some { block := 0, off := 125 })), Value.int IntKind.u64 21, Value.pointer none, Value.pointer none, Value.bool false, Value.bool false, Value.bool false, Value.bool false, Value.bool false] 43)).alloc (Obj.cells #[Value.iface 122 (Value.pointer (some { block := 0, off := 125 })), Value.int IntKind.u64 21, Value.pointer none, Value.pointer none, Value.bool false, Value.bool false, Value.bool false, Value.bool false, Value.bool false] 43)).alloc (Obj.cells #[Value.iface 122 (Value.pointer (some { block := 0, off := 125 })), Value.int IntKind.u64 21, Value.pointer none, Value.pointer none, Value.bool false, Value.bool false, Value.bool false, Value.bool false, Value.bool false] 43)).alloc (Obj.cells #[Value.iface 122 (Value.pointer (some { block := 0, off := 125 })), Value.int IntKind.u64 21, Value.pointer none, Value.pointer none, Value.bool false, Value.bool false, Value.bool false, Value.bool false, Value.bool false] 43)) = w' := by
  go_enter Tryz.func125, Tryz.ntmps125
  go_wp2_with (first | (go_at_call 115; ((with_reducible refine (no_125 _ _).mono ?_); rintro e w' ⟨rfl, rfl⟩)))
  exact bodyPost_ret (v := (Value.agg #[Value.iface 122 (Value.pointer (some { block := 0, off := 125 })), Value.int IntKind.u64 21, Value.pointer none, Value.pointer none, Value.bool false, Value.bool false, Value.bool false, Value.bool false, Value.bool false])) (by simp [results, Tryz.results125, go_sem]) rfl ⟨rfl, rfl⟩

theorem c_126  (w : World)  : Calls Tryz.prog 126 #[] w fun e w' => e = .returned (Value.agg #[Value.iface 122 (Value.pointer (some { block := 0, off := 50 })), Value.int IntKind.u64 23, Value.pointer none, Value.pointer none, Value.bool false, Value.bool false, Value.bool false, Value.bool false, Value.bool false]) ∧ ((((w.alloc (Obj.cells #[Value.iface 122 (Value.pointer (some { block := 0, off := 50 })), Value.int IntKind.u64 23, Value.pointer none, Value.pointer none, Value.bool false, Value.bool false, Value.bool false, Value.bool false, Value.bool false] 43)).alloc (Obj.cells #[Value.iface 122 (Value.pointer (some { block := 0, off := 50 })), Value.int IntKind.u64 23, Value.pointer none, Value.pointer none, Value.bool false, Value.bool false, Value.bool false, Value.bool false, Value.bool false] 43)).alloc (Obj.cells #[Value.iface 122 (Value.pointer (some { block := 0, off := 50 })), Value.int IntKind.u64 23, Value.pointer none, Value.pointer none, Value.bool false, Value.bool false, Value.bool false, Value.bool false, Value.bool false] 43)).alloc (Obj.cells #[Value.iface 122 (Value.pointer (some { block := 0, off := 50 })), Value.int IntKind.u64 23, Value.pointer none, Value.pointer none, Value.bool false, Value.bool false, Value.bool false, Value.bool false, Value.bool false] 43)) = w' := by
  go_enter Tryz.func126, Tryz.ntmps126
  go_wp2_with (first | (go_at_call 115; ((with_reducible refine (no_50 _ _).mono ?_); rintro e w' ⟨rfl, rfl⟩)))
  exact bodyPost_ret (v := (Value.agg #[Value.iface 122 (Value.pointer (some { block := 0, off := 50 })), Value.int IntKind.u64 23, Value.pointer none, Value.pointer none, Value.bool false, Value.bool false, Value.bool false, Value.bool false, Value.bool false])) (by simp [results, Tryz.results126, go_sem]) rfl ⟨rfl, rfl⟩

theorem c_127  (w : World)  : Calls Tryz.prog 127 #[] w fun e w' => e = .returned (Value.agg #[Value.iface 122 (Value.pointer (some { block := 0, off := 126 })), Value.int IntKind.u64 25, Value.pointer (some { block := w.heap.size + 1 + 1 + 1 + 1, off := 0 }), Value.pointer none, Value.bool false, Value.bool false, Value.bool false, Value.bool false, Value.bool false]) ∧ (((((w.alloc (Obj.cells #[Value.iface 122 (Value.pointer (some { block := 0, off := 126 })), Value.int IntKind.u64 25, Value.pointer (some { block := w.heap.size + 1 + 1 + 1 + 1, off := 0 }), Value.pointer none, Value.bool false, Value.bool false, Value.bool false, Value.bool false, Value.bool false] 43)).alloc (Obj.cells #[Value.iface 122 (Value.pointer (some { block := 0, off := 126 })), Value.int IntKind.u64 25, Value.pointer (some { block := w.heap.size + 1 + 1 + 1 + 1, off := 0 }), Value.pointer none, Value.bool false, Value.bool false, Value.bool false, Value.bool false, Value.bool false] 43)).alloc (Obj.cells #[Value.iface 122 (Value.pointer (some { block := 0, off := 126 })), Value.int IntKind.u64 25, Value.pointer (some { block := w.heap.size + 1 + 1 + 1 + 1, off := 0 }), Value.pointer none, Value.bool false, Value.bool false, Value.bool false, Value.bool false, Value.bool false] 43)).alloc (Obj.cells #[Value.iface 122 (Value.pointer (some { block := 0, off := 126 })), Value.int IntKind.u64 25, Value.pointer (some { block := w.heap.size + 1 + 1 + 1 + 1, off := 0 }), Value.pointer none, Value.bool false, Value.bool false, Value.bool false, Value.bool false, Value.bool false] 43)).alloc (Obj.cells #[Value.pointer none, Value.pointer none, Value.map none, Value.pointer none, Value.pointer none, Value.int IntKind.i64 0, Value.pointer none, Value.pointer none, Value.int IntKind.i64 0, Value.int IntKind.i64 0, Value.bool false, Value.bool false, Value.bool false, Value.bool false] 83)) = w' := by
  go_enter Tryz.func127, Tryz.ntmps127
  go_wp2_with (first | (go_at_call 115; ((with_reducible refine (no_126 _ _).mono ?_); rintro e w' ⟨rfl, rfl⟩)))
  exact bodyPost_ret (v := (Value.agg #[Value.iface 122 (Value.pointer (some { block := 0, off := 126 })), Value.int IntKind.u64 25, Value.pointer (some { block := w.heap.size + 1 + 1 + 1 + 1, off := 0 }), Value.pointer none, Value.bool false, Value.bool false, Value.bool false, Value.bool false, Value.bool false])) (by simp [results, Tryz.results127, go_sem]) rfl ⟨rfl, rfl⟩

theorem c_130  (w : World)  : Calls Tryz.prog 130 #[] w fun e w' => e = .returned (Value.agg #[Value.iface 122 (Value.pointer (some { block := 0, off := 128 })), Value.int IntKind.u64 22, Value.pointer none, Value.pointer none, Value.bool false, Value.bool false, Value.bool false, Value.bool false, Value.bool false]) ∧ ((((w.alloc (Obj.cells #[Value.iface 122 (Value.pointer (some { block := 0, off := 128 })), Value.int IntKind.u64 22, Value.pointer none, Value.pointer none, Value.bool false, Value.bool false, Value.bool false, Value.bool false, Value.bool false] 43)).alloc (Obj.cells #[Value.iface 122 (Value.pointer (some { block := 0, off := 128 })), Value.int IntKind.u64 22, Value.pointer none, Value.pointer none, Value.bool false, Value.bool false, Value.bool false, Value.bool false, Value.bool false] 43)).alloc (Obj.cells #[Value.iface 122 (Value.pointer (some { block := 0, off := 128 })), Value.int IntKind.u64 22, Value.pointer none, Value.pointer none, Value.bool false, Value.bool false, Value.bool false, Value.bool false, Value.bool false] 43)).alloc (Obj.cells #[Value.iface 122 (Value.pointer (some { block := 0, off := 128 })), Value.int IntKind.u64 22, Value.pointer none, Value.pointer none, Value.bool false, Value.bool false, Value.bool false, Value.bool false, Value.bool false] 43)) = w' := by
  go_enter Tryz.func130, Tryz.ntmps130
  go_wp2_with (first | (go_at_call 115; ((with_reducible refine (no_128 _ _).mono ?_); rintro e w' ⟨rfl, rfl⟩)))
  exact bodyPost_ret (v := (Value.agg #[Value.iface 122 (Value.pointer (some { block := 0, off := 128 })), Value.int IntKind.u64 22, Value.pointer none, Value.pointer none, Value.bool false, Value.bool false, Value.bool false, Value.bool false, Value.bool false])) (by simp [results, Tryz.results130, go_sem]) rfl ⟨rfl, rfl⟩

@[go_sem] theorem kind_20 (w : World) : (callFunc 246 #[.pointer (some ⟨0, 20, none⟩)]).run Tryz.prog w = .ok (.value (.int .u64 20)) w := by kernel_rfl

@[go_sem] theorem kind_25 (w : World) : (callFunc 246 #[.pointer (some ⟨0, 25, none⟩)]).run Tryz.prog w = .ok (.value (.int .u64 20)) w := by kernel_rfl

theorem from_20 (c : Option Addr) (w : World) : Calls Tryz.prog 137 #[.pointer c, .iface 122 (.pointer (some ⟨0, 20, none⟩))] w fun e w' => e = .returned (.agg #[.iface 122 (.pointer (some ⟨0, 20, none⟩)), .int .u64 20, .pointer none, .pointer none, .bool false, .bool false, .bool false, .bool false, .bool false]) ∧ w.alloc (.cells #[.iface 122 (.pointer (some ⟨0, 20, none⟩)), .int .u64 20, .pointer none, .pointer none, .bool false, .bool false, .bool false, .bool false, .bool false] 43) = w' :=
  from_plain c 20 20 kind_20 rfl rfl rfl rfl rfl rfl rfl rfl rfl rfl rfl rfl rfl rfl rfl w

theorem from_25 (c : Option Addr) (w : World) : Calls Tryz.prog 137 #[.pointer c, .iface 122 (.pointer (some ⟨0, 25, none⟩))] w fun e w' => e = .returned (.agg #[.iface 122 (.pointer (some ⟨0, 25, none⟩)), .int .u64 20, .pointer none, .pointer none, .bool false, .bool false, .bool false, .bool false, .bool false]) ∧ w.alloc (.cells #[.iface 122 (.pointer (some ⟨0, 25, none⟩)), .int .u64 20, .pointer none, .pointer none, .bool false, .bool false, .bool false, .bool false, .bool false] 43) = w' :=
  from_plain c 25 20 kind_25 rfl rfl rfl rfl rfl rfl rfl rfl rfl rfl rfl rfl rfl rfl rfl w

theorem ft_20 (w : World) : Calls Tryz.prog 118 #[.iface 122 (.pointer (some ⟨0, 20, none⟩))] w fun e w' => e = .returned (.agg #[.iface 122 (.pointer (some ⟨0, 20, none⟩)), .int .u64 20, .pointer none, .pointer none, .bool false, .bool false, .bool false, .bool false, .bool false]) ∧ (w.alloc (.cells #[.iface 122 (.pointer (some ⟨0, 20, none⟩)), .int .u64 20, .pointer none, .pointer none, .bool false, .bool false, .bool false, .bool false, .bool false] 43)).alloc (.cells #[.iface 122 (.pointer (some ⟨0, 20, none⟩)), .int .u64 20, .pointer none, .pointer none, .bool false, .bool false, .bool false, .bool false, .bool false] 43) = w' :=
  ft_plain 20 20 kind_20 rfl rfl rfl rfl rfl rfl rfl rfl rfl rfl rfl rfl rfl rfl rfl w

theorem ft_25 (w : World) : Calls Tryz.prog 118 #[.iface 122 (.pointer (some ⟨0, 25, none⟩))] w fun e w' => e = .returned (.agg #[.iface 122 (.pointer (some ⟨0, 25, none⟩)), .int .u64 20, .pointer none, .pointer none, .bool false, .bool false, .bool false, .bool false, .bool false]) ∧ (w.alloc (.cells #[.iface 122 (.pointer (some ⟨0, 25, none⟩)), .int .u64 20, .pointer none, .pointer none, .bool false, .bool false, .bool false, .bool false, .bool false] 43)).alloc (.cells #[.iface 122 (.pointer (some ⟨0, 25, none⟩)), .int .u64 20, .pointer none, .pointer none, .bool false, .bool false, .bool false, .bool false, .bool false] 43) = w' :=
  ft_plain 25 20 kind_25 rfl rfl rfl rfl rfl rfl rfl rfl rfl rfl rfl rfl rfl rfl rfl w

@[go_sem] theorem Elem_108 (w : World) : (callFunc 234 #[.pointer (some ⟨0, 108, none⟩)]).run Tryz.prog w = .ok (.value (.iface 122 (.pointer (some ⟨0, 20, none⟩)))) w := by kernel_rfl

@[go_sem] theorem Elem_127 (w : World) : (callFunc 234 #[.pointer (some ⟨0, 127, none⟩)]).run Tryz.prog w = .ok (.value (.iface 122 (.pointer (some ⟨0, 25, none⟩)))) w := by kernel_rfl

theorem c_128  (w : World)  : Calls Tryz.prog 128 #[] w fun e w' => e = .returned (Value.agg #[Value.iface 122 (Value.pointer (some { block := 0, off := 20 })), Value.int IntKind.u64 20, Value.pointer none, Value.pointer none, Value.bool false, Value.bool false, Value.bool false, Value.bool false, Value.bool false]) ∧ (((w.alloc (Obj.cells #[Value.iface 122 (Value.pointer (some { block := 0, off := 20 })), Value.int IntKind.u64 20, Value.pointer none, Value.pointer none, Value.bool false, Value.bool false, Value.bool false, Value.bool false, Value.bool false] 43)).alloc (Obj.cells #[Value.iface 122 (Value.pointer (some { block := 0, off := 20 })), Value.int IntKind.u64 20, Value.pointer none, Value.pointer none, Value.bool false, Value.bool false, Value.bool false, Value.bool false, Value.bool false] 43)).alloc (Obj.cells #[Value.iface 122 (Value.pointer (some { block := 0, off := 20 })), Value.int IntKind.u64 20, Value.pointer none, Value.pointer none, Value.bool false, Value.bool false, Value.bool false, Value.bool false, Value.bool false] 43)) = w' := by
  go_enter Tryz.func128, Tryz.ntmps128
  go_wp2_with (first | (go_at_call 118; ((with_reducible refine (ft_20 _).mono ?_); rintro e w' ⟨rfl, rfl⟩)))
  exact bodyPost_ret (v := (Value.agg #[Value.iface 122 (Value.pointer (some { block := 0, off := 20 })), Value.int IntKind.u64 20, Value.pointer none, Value.pointer none, Value.bool false, Value.bool false, Value.bool false, Value.bool false, Value.bool false])) (by simp [results, Tryz.results128, go_sem]) rfl ⟨rfl, rfl⟩

theorem c_129  (w : World)  : Calls Tryz.prog 129 #[] w fun e w' => e = .returned (Value.agg #[Value.iface 122 (Value.pointer (some { block := 0, off := 25 })), Value.int IntKind.u64 20, Value.pointer none, Value.pointer none, Value.bool false, Value.bool false, Value.bool false, Value.bool false, Value.bool false]) ∧ (((w.alloc (Obj.cells #[Value.iface 122 (Value.pointer (some { block := 0, off := 25 })), Value.int IntKind.u64 20, Value.pointer none, Value.pointer none, Value.bool false, Value.bool false, Value.bool false, Value.bool false, Value.bool false] 43)).alloc (Obj.cells #[Value.iface 122 (Value.pointer (some { block := 0, off := 25 })), Value.int IntKind.u64 20, Value.pointer none, Value.pointer none, Value.bool false, Value.bool false, Value.bool false, Value.bool false, Value.bool false] 43)).alloc (Obj.cells #[Value.iface 122 (Value.pointer (some { block := 0, off := 25 })), Value.int IntKind.u64 20, Value.pointer none, Value.pointer none, Value.bool false, Value.bool false, Value.bool false, Value.bool false, Value.bool false] 43)) = w' := by
  go_enter Tryz.func129, Tryz.ntmps129
  go_wp2_with (first | (go_at_call 118; ((with_reducible refine (ft_25 _).mono ?_); rintro e w' ⟨rfl, rfl⟩)))
  exact bodyPost_ret (v := (Value.agg #[Value.iface 122 (Value.pointer (some { block := 0, off := 25 })), Value.int IntKind.u64 20, Value.pointer none, Value.pointer none, Value.bool false, Value.bool false, Value.bool false, Value.bool false, Value.bool false])) (by simp [results, Tryz.results129, go_sem]) rfl ⟨rfl, rfl⟩

theorem sample_0  (w : World)  : Calls Tryz.prog 91 #[.int .i64 0] w fun e w' => e = .returned (Value.agg #[Value.nilIface, Value.int IntKind.u64 0, Value.pointer none, Value.pointer none, Value.bool false, Value.bool false, Value.bool false, Value.bool false, Value.bool false]) ∧ (w.alloc (Obj.cells #[Value.nilIface, Value.int IntKind.u64 0, Value.pointer none, Value.pointer none, Value.bool false, Value.bool false, Value.bool false, Value.bool false, Value.bool false] 43)) = w' := by
  go_enter Tryz.func91, Tryz.ntmps91
  go_wp2
  exact bodyPost_ret (v := (Value.agg #[Value.nilIface, Value.int IntKind.u64 0, Value.pointer none, Value.pointer none, Value.bool false, Value.bool false, Value.bool false, Value.bool false, Value.bool false])) (by simp [results, Tryz.results91, go_sem]) rfl ⟨rfl, rfl⟩

theorem sample_1  (w : World)  : Calls Tryz.prog 91 #[.int .i64 1] w fun e w' => e = .returned (Value.agg #[Value.nilIface, Value.int IntKind.u64 0, Value.pointer none, Value.pointer none, Value.bool true, Value.bool false, Value.bool false, Value.bool false, Value.bool false]) ∧ (w.alloc (Obj.cells #[Value.nilIface, Value.int IntKind.u64 0, Value.pointer none, Value.pointer none, Value.bool true, Value.bool false, Value.bool false, Value.bool false, Value.bool false] 43)) = w' := by
  go_enter Tryz.func91, Tryz.ntmps91
  go_wp2
  exact bodyPost_ret (v := (Value.agg #[Value.nilIface, Value.int IntKind.u64 0, Value.pointer none, Value.pointer none, Value.bool true, Value.bool false, Value.bool false, Value.bool false, Value.bool false])) (by simp [results, Tryz.results91, go_sem]) rfl ⟨rfl, rfl⟩

theorem sample_2  (w : World)  : Calls Tryz.prog 91 #[.int .i64 2] w fun e w' => e = .returned (Value.agg #[Value.iface 122 (Value.pointer (some { block := 0, off := 3 })), Value.int IntKind.u64 2, Value.pointer none, Value.pointer none, Value.bool false, Value.bool false, Value.bool false, Value.bool true, Value.bool false]) ∧ (((((w.alloc (Obj.cells #[Value.iface 122 (Value.pointer (some { block := 0, off := 3 })), Value.int IntKind.u64 2, Value.pointer none, Value.pointer none, Value.bool false, Value.bool false, Value.bool false, Value.bool true, Value.bool false] 43)).alloc (Obj.cells #[Value.iface 122 (Value.pointer (some { block := 0, off := 3 })), Value.int IntKind.u64 2, Value.pointer none, Value.pointer none, Value.bool false, Value.bool false, Value.bool false, Value.bool true, Value.bool false] 43)).alloc (Obj.cells #[Value.iface 122 (Value.pointer (some { block := 0, off := 3 })), Value.int IntKind.u64 2, Value.pointer none, Value.pointer none, Value.bool false, Value.bool false, Value.bool false, Value.bool true, Value.bool false] 43)).alloc (Obj.cells #[Value.iface 122 (Value.pointer (some { block := 0, off := 3 })), Value.int IntKind.u64 2, Value.pointer none, Value.pointer none, Value.bool false, Value.bool false, Value.bool false, Value.bool true, Value.bool false] 43)).alloc (Obj.cells #[Value.iface 122 (Value.pointer (some { block := 0, off := 3 })), Value.int IntKind.u64 2, Value.pointer none, Value.pointer none, Value.bool false, Value.bool false, Value.bool false, Value.bool true, Value.bool false] 43)) = w' := by
  go_enter Tryz.func91, Tryz.ntmps91
  go_wp2_with (first | (go_at_call 120; ((with_reducible refine (c_120 _).mono ?_); rintro e w' ⟨rfl, rfl⟩)))
  exact bodyPost_ret (v := (Value.agg #[Value.iface 122 (Value.pointer (some { block := 0, off := 3 })), Value.int IntKind.u64 2, Value.pointer none, Value.pointer none, Value.bool false, Value.bool false, Value.bool false, Value.bool true, Value.bool false])) (by simp [results, Tryz.results91, go_sem]) rfl ⟨rfl, rfl⟩

theorem sample_3  (w : World)  : Calls Tryz.prog 91 #[.int .i64 3] w fun e w' => e = .returned (Value.agg #[Value.iface 122 (Value.pointer (some { block := 0, off := 9 })), Value.int IntKind.u64 24, Value.pointer none, Value.pointer none, Value.bool false, Value.bool false, Value.bool false, Value.bool false, Value.bool false]) ∧ (((((w.alloc (Obj.cells #[Value.iface 122 (Value.pointer (some { block := 0, off := 9 })), Value.int IntKind.u64 24, Value.pointer none, Value.pointer none, Value.bool false, Value.bool false, Value.bool false, Value.bool false, Value.bool false] 43)).alloc (Obj.cells #[Value.iface 122 (Value.pointer (some { block := 0, off := 9 })), Value.int IntKind.u64 24, Value.pointer none, Value.pointer none, Value.bool false, Value.bool false, Value.bool false, Value.bool false, Value.bool false] 43)).alloc (Obj.cells #[Value.iface 122 (Value.pointer (some { block := 0, off := 9 })), Value.int IntKind.u64 24, Value.pointer none, Value.pointer none, Value.bool false, Value.bool false, Value.bool false, Value.bool false, Value.bool false] 43)).alloc (Obj.cells #[Value.iface 122 (Value.pointer (some { block := 0, off := 9 })), Value.int IntKind.u64 24, Value.pointer none, Value.pointer none, Value.bool false, Value.bool false, Value.bool false, Value.bool false, Value.bool false] 43)).alloc (Obj.cells #[Value.iface 122 (Value.pointer (some { block := 0, off := 9 })), Value.int IntKind.u64 24, Value.pointer none, Value.pointer none, Value.bool false, Value.bool false, Value.bool false, Value.bool false, Value.bool false] 43)) = w' := by
  go_enter Tryz.func91, Tryz.ntmps91
  go_wp2_with (first | (go_at_call 121; ((with_reducible refine (c_121 _).mono ?_); rintro e w' ⟨rfl, rfl⟩)))
  exact bodyPost_ret (v := (Value.agg #[Value.iface 122 (Value.pointer (some { block := 0, off := 9 })), Value.int IntKind.u64 24, Value.pointer none, Value.pointer none, Value.bool false, Value.bool false, Value.bool false, Value.bool false, Value.bool false])) (by simp [results, Tryz.results91, go_sem]) rfl ⟨rfl, rfl⟩

theorem sample_4  (w : World)  : Calls Tryz.prog 91 #[.int .i64 4] w fun e w' => e = .returned (Value.agg #[Value.iface 122 (Value.pointer (some { block := 0, off := 51 })), Value.int IntKind.u64 22, Value.pointer none, Value.pointer none, Value.bool false, Value.bool false, Value.bool false, Value.bool false, Value.bool false]) ∧ (((((w.alloc (Obj.cells #[Value.iface 122 (Value.pointer (some { block := 0, off := 51 })), Value.int IntKind.u64 22, Value.pointer none, Value.pointer none, Value.bool false, Value.bool false, Value.bool false, Value.bool false, Value.bool false] 43)).alloc (Obj.cells #[Value.iface 122 (Value.pointer (some { block := 0, off := 51 })), Value.int IntKind.u64 22, Value.pointer none, Value.pointer none, Value.bool false, Value.bool false, Value.bool false, Value.bool false, Value.bool false] 43)).alloc (Obj.cells #[Value.iface 122 (Value.pointer (some { block := 0, off := 51 })), Value.int IntKind.u64 22, Value.pointer none, Value.pointer none, Value.bool false, Value.bool false, Value.bool false, Value.bool false, Value.bool false] 43)).alloc (Obj.cells #[Value.iface 122 (Value.pointer (some { block := 0, off := 51 })), Value.int IntKind.u64 22, Value.pointer none, Value.pointer none, Value.bool false, Value.bool false, Value.bool false, Value.bool false, Value.bool false] 43)).alloc (Obj.cells #[Value.iface 122 (Value.pointer (some { block := 0, off := 51 })), Value.int IntKind.u64 22, Value.pointer none, Value.pointer none, Value.bool false, Value.bool false, Value.bool false, Value.bool false, Value.bool false] 43)) = w' := by
  go_enter Tryz.func91, Tryz.ntmps91
  go_wp2_with (first | (go_at_call 122; ((with_reducible refine (c_122 _).mono ?_); rintro e w' ⟨rfl, rfl⟩)))
  exact bodyPost_ret (v := (Value.agg #[Value.iface 122 (Value.pointer (some { block := 0, off := 51 })), Value.int IntKind.u64 22, Value.pointer none, Value.pointer none, Value.bool false, Value.bool false, Value.bool false, Value.bool false, Value.bool false])) (by simp [results, Tryz.results91, go_sem]) rfl ⟨rfl, rfl⟩

theorem sample_5  (w : World)  : Calls Tryz.prog 91 #[.int .i64 5] w fun e w' => e = .returned (Value.agg #[Value.iface 122 (Value.pointer (some { block := 0, off := 124 })), Value.int IntKind.u64 22, Value.pointer none, Value.pointer none, Value.bool false, Value.bool false, Value.bool false, Value.bool false, Value.bool false]) ∧ (((((w.alloc (Obj.cells #[Value.iface 122 (Value.pointer (some { block := 0, off := 124 })), Value.int IntKind.u64 22, Value.pointer none, Value.pointer none, Value.bool false, Value.bool false, Value.bool false, Value.bool false, Value.bool false] 43)).alloc (Obj.cells #[Value.iface 122 (Value.pointer (some { block := 0, off := 124 })), Value.int IntKind.u64 22, Value.pointer none, Value.pointer none, Value.bool false, Value.bool false, Value.bool false, Value.bool false, Value.bool false] 43)).alloc (Obj.cells #[Value.iface 122 (Value.pointer (some { block := 0, off := 124 })), Value.int IntKind.u64 22, Value.pointer none, Value.pointer none, Value.bool false, Value.bool false, Value.bool false, Value.bool false, Value.bool false] 43)).alloc (Obj.cells #[Value.iface 122 (Value.pointer (some { block := 0, off := 124 })), Value.int IntKind.u64 22, Value.pointer none, Value.pointer none, Value.bool false, Value.bool false, Value.bool false, Value.bool false, Value.bool false] 43)).alloc (Obj.cells #[Value.iface 122 (Value.pointer (some { block := 0, off := 124 })), Value.int IntKind.u64 22, Value.pointer none, Value.pointer none, Value.bool false, Value.bool false, Value.bool false, Value.bool false, Value.bool false] 43)) = w' := by
  go_enter Tryz.func91, Tryz.ntmps91
  go_wp2_with (first | (go_at_call 123; ((with_reducible refine (c_123 _).mono ?_); rintro e w' ⟨rfl, rfl⟩)))
  exact bodyPost_ret (v := (Value.agg #[Value.iface 122 (Value.pointer (some { block := 0, off := 124 })), Value.int IntKind.u64 22, Value.pointer none, Value.pointer none, Value.bool false, Value.bool false, Value.bool false, Value.bool false, Value.bool false])) (by simp [results, Tryz.results91, go_sem]) rfl ⟨rfl, rfl⟩

theorem sample_6  (w : World)  : Calls Tryz.prog 91 #[.int .i64 6] w fun e w' => e = .returned (Value.agg #[Value.iface 122 (Value.pointer (some { block := 0, off := 53 })), Value.int IntKind.u64 21, Value.pointer none, Value.pointer none, Value.bool false, Value.bool false, Value.bool false, Value.bool false, Value.bool false]) ∧ (((((w.alloc (Obj.cells #[Value.iface 122 (Value.pointer (some { block := 0, off := 53 })), Value.int IntKind.u64 21, Value.pointer none, Value.pointer none, Value.bool false, Value.bool false, Value.bool false, Value.bool false, Value.bool false] 43)).alloc (Obj.cells #[Value.iface 122 (Value.pointer (some { block := 0, off := 53 })), Value.int IntKind.u64 21, Value.pointer none, Value.pointer none, Value.bool false, Value.bool false, Value.bool false, Value.bool false, Value.bool false] 43)).alloc (Obj.cells #[Value.iface 122 (Value.pointer (some { block := 0, off := 53 })), Value.int IntKind.u64 21, Value.pointer none, Value.pointer none, Value.bool false, Value.bool false, Value.bool false, Value.bool false, Value.bool false] 43)).alloc (Obj.cells #[Value.iface 122 (Value.pointer (some { block := 0, off := 53 })), Value.int IntKind.u64 21, Value.pointer none, Value.pointer none, Value.bool false, Value.bool false, Value.bool false, Value.bool false, Value.bool false] 43)).alloc (Obj.cells #[Value.iface 122 (Value.pointer (some { block := 0, off := 53 })), Value.int IntKind.u64 21, Value.pointer none, Value.pointer none, Value.bool false, Value.bool false, Value.bool false, Value.bool false, Value.bool false] 43)) = w' := by
  go_enter Tryz.func91, Tryz.ntmps91
  go_wp2_with (first | (go_at_call 124; ((with_reducible refine (c_124 _).mono ?_); rintro e w' ⟨rfl, rfl⟩)))
  exact bodyPost_ret (v := (Value.agg #[Value.iface 122 (Value.pointer (some { block := 0, off := 53 })), Value.int IntKind.u64 21, Value.pointer none, Value.pointer none, Value.bool false, Value.bool false, Value.bool false, Value.bool false, Value.bool false])) (by simp [results, Tryz.results91, go_sem]) rfl ⟨rfl, rfl⟩

theorem sample_7  (w : World)  : Calls Tryz.prog 91 #[.int .i64 7] w fun e w' => e = .returned (Value.agg #[Value.iface 122 (Value.pointer (some { block := 0, off := 125 })), Value.int IntKind.u64 21, Value.pointer none, Value.pointer none, Value.bool false, Value.bool false, Value.bool false, Value.bool false, Value.bool false]) ∧ (((((w.alloc (Obj.cells #[Value.iface 122 (Value.pointer (some { block := 0, off := 125 })), Value.int IntKind.u64 21, Value.pointer none, Value.pointer none, Value.bool false, Value.bool false, Value.bool false, Value.bool false, Value.bool false] 43)).alloc (Obj.cells #[Value.iface 122 (Value.pointer (some { block := 0, off := 125 })), Value.int IntKind.u64 21, Value.pointer none, Value.pointer none, Value.bool false, Value.bool false, Value.bool false, Value.bool false, Value.bool false] 43)).alloc (Obj.cells #[Value.iface 122 (Value.pointer (some { block := 0, off := 125 })), Value.int IntKind.u64 21, Value.pointer none, Value.pointer none, Value.bool false, Value.bool false, Value.bool false, Value.bool false, Value.bool false] 43)).alloc (Obj.cells #[Value.iface 122 (Value.pointer (some { block := 0, off := 125 })), Value.int IntKind.u64 21, Value.pointer none, Value.pointer none, Value.bool false, Value.bool false, Value.bool false, Value.bool false, Value.bool false] 43)).alloc (Obj.cells #[Value.iface 122 (Value.pointer (some { block := 0, off := 125 })), Value.int IntKind.u64 21, Value.pointer none, Value.pointer none, Value.bool false, Value.bool false, Value.bool false, Value.bool false, Value.bool false] 43)) = w' := by
  go_enter Tryz.func91, Tryz.ntmps91
  go_wp2_with (first | (go_at_call 125; ((with_reducible refine (c_125 _).mono ?_); rintro e w' ⟨rfl, rfl⟩)))
  exact bodyPost_ret (v := (Value.agg #[Value.iface 122 (Value.pointer (some { block := 0, off := 125 })), Value.int IntKind.u64 21, Value.pointer none, Value.pointer none, Value.bool false, Value.bool false, Value.bool false, Value.bool false, Value.bool false])) (by simp [results, Tryz.results91, go_sem]) rfl ⟨rfl, rfl⟩

theorem sample_8  (w : World)  : Calls Tryz.prog 91 #[.int .i64 8] w fun e w' => e = .returned (Value.agg #[Value.iface 122 (Value.pointer (some { block := 0, off := 50 })), Value.int IntKind.u64 23, Value.pointer none, Value.pointer none, Value.bool false, Value.bool false, Value.bool false, Value.bool false, Value.bool false]) ∧ (((((w.alloc (Obj.cells #[Value.iface 122 (Value.pointer (some { block := 0, off := 50 })), Value.int IntKind.u64 23, Value.pointer none, Value.pointer none, Value.bool false, Value.bool false, Value.bool false, Value.bool false, Value.bool false] 43)).alloc (Obj.cells #[Value.iface 122 (Value.pointer (some { block := 0, off := 50 })), Value.int IntKind.u64 23, Value.pointer none, Value.pointer none, Value.bool false, Value.bool false, Value.bool false, Value.bool false, Value.bool false] 43)).alloc (Obj.cells #[Value.iface 122 (Value.pointer (some { block := 0, off := 50 })), Value.int IntKind.u64 23, Value.pointer none, Value.pointer none, Value.bool false, Value.bool false, Value.bool false, Value.bool false, Value.bool false] 43)).alloc (Obj.cells #[Value.iface 122 (Value.pointer (some { block := 0, off := 50 })), Value.int IntKind.u64 23, Value.pointer none, Value.pointer none, Value.bool false, Value.bool false, Value.bool false, Value.bool false, Value.bool false] 43)).alloc (Obj.cells #[Value.iface 122 (Value.pointer (some { block := 0, off := 50 })), Value.int IntKind.u64 23, Value.pointer none, Value.pointer none, Value.bool false, Value.bool false, Value.bool false, Value.bool false, Value.bool false] 43)) = w' := by
  go_enter Tryz.func91, Tryz.ntmps91
  go_wp2_with (first | (go_at_call 126; ((with_reducible refine (c_126 _).mono ?_); rintro e w' ⟨rfl, rfl⟩)))
  exact bodyPost_ret (v := (Value.agg #[Value.iface 122 (Value.pointer (some { block := 0, off := 50 })), Value.int IntKind.u64 23, Value.pointer none, Value.pointer none, Value.bool false, Value.bool false, Value.bool false, Value.bool false, Value.bool false])) (by simp [results, Tryz.results91, go_sem]) rfl ⟨rfl, rfl⟩

theorem sample_9  (w : World)  : Calls Tryz.prog 91 #[.int .i64 9] w fun e w' => e = .returned (Value.agg #[Value.iface 122 (Value.pointer (some { block := 0, off := 126 })), Value.int IntKind.u64 25, Value.pointer (some { block := w.heap.size + 1 + 1 + 1 + 1 + 1, off := 0 }), Value.pointer none, Value.bool false, Value.bool false, Value.bool false, Value.bool false, Value.bool false]) ∧ ((((((w.alloc (Obj.cells #[Value.iface 122 (Value.pointer (some { block := 0, off := 126 })), Value.int IntKind.u64 25, Value.pointer (some { block := w.heap.size + 1 + 1 + 1 + 1 + 1, off := 0 }), Value.pointer none, Value.bool false, Value.bool false, Value.bool false, Value.bool false, Value.bool false] 43)).alloc (Obj.cells #[Value.iface 122 (Value.pointer (some { block := 0, off := 126 })), Value.int IntKind.u64 25, Value.pointer (some { block := w.heap.size + 1 + 1 + 1 + 1 + 1, off := 0 }), Value.pointer none, Value.bool false, Value.bool false, Value.bool false, Value.bool false, Value.bool false] 43)).alloc (Obj.cells #[Value.iface 122 (Value.pointer (some { block := 0, off := 126 })), Value.int IntKind.u64 25, Value.pointer (some { block := w.heap.size + 1 + 1 + 1 + 1 + 1, off := 0 }), Value.pointer none, Value.bool false, Value.bool false, Value.bool false, Value.bool false, Value.bool false] 43)).alloc (Obj.cells #[Value.iface 122 (Value.pointer (some { block := 0, off := 126 })), Value.int IntKind.u64 25, Value.pointer (some { block := w.heap.size + 1 + 1 + 1 + 1 + 1, off := 0 }), Value.pointer none, Value.bool false, Value.bool false, Value.bool false, Value.bool false, Value.bool false] 43)).alloc (Obj.cells #[Value.iface 122 (Value.pointer (some { block := 0, off := 126 })), Value.int IntKind.u64 25, Value.pointer (some { block := w.heap.size + 1 + 1 + 1 + 1 + 1, off := 0 }), Value.pointer none, Value.bool false, Value.bool false, Value.bool false, Value.bool false, Value.bool false] 43)).alloc (Obj.cells #[Value.pointer none, Value.pointer none, Value.map none, Value.pointer none, Value.pointer none, Value.int IntKind.i64 0, Value.pointer none, Value.pointer none, Value.int IntKind.i64 0, Value.int IntKind.i64 0, Value.bool false, Value.bool false, Value.bool false, Value.bool false] 83)) = w' := by
  go_enter Tryz.func91, Tryz.ntmps91
  go_wp2_with (first | (go_at_call 127; ((with_reducible refine (c_127 _).mono ?_); rintro e w' ⟨rfl, rfl⟩)))
  exact bodyPost_ret (v := (Value.agg #[Value.iface 122 (Value.pointer (some { block := 0, off := 126 })), Value.int IntKind.u64 25, Value.pointer (some { block := w.heap.size + 1 + 1 + 1 + 1 + 1, off := 0 }), Value.pointer none, Value.bool false, Value.bool false, Value.bool false, Value.bool false, Value.bool false])) (by simp [results, Tryz.results91, go_sem]) rfl ⟨rfl, rfl⟩

theorem sample_10  (w : World)  : Calls Tryz.prog 91 #[.int .i64 10] w fun e w' => e = .returned (Value.agg #[Value.iface 122 (Value.pointer (some { block := 0, off := 20 })), Value.int IntKind.u64 20, Value.pointer none, Value.pointer none, Value.bool false, Value.bool false, Value.bool false, Value.bool false, Value.bool false]) ∧ ((((w.alloc (Obj.cells #[Value.iface 122 (Value.pointer (some { block := 0, off := 20 })), Value.int IntKind.u64 20, Value.pointer none, Value.pointer none, Value.bool false, Value.bool false, Value.bool false, Value.bool false, Value.bool false] 43)).alloc (Obj.cells #[Value.iface 122 (Value.pointer (some { block := 0, off := 20 })), Value.int IntKind.u64 20, Value.pointer none, Value.pointer none, Value.bool false, Value.bool false, Value.bool false, Value.bool false, Value.bool false] 43)).alloc (Obj.cells #[Value.iface 122 (Value.pointer (some { block := 0, off := 20 })), Value.int IntKind.u64 20, Value.pointer none, Value.pointer none, Value.bool false, Value.bool false, Value.bool false, Value.bool false, Value.bool false] 43)).alloc (Obj.cells #[Value.iface 122 (Value.pointer (some { block := 0, off := 20 })), Value.int IntKind.u64 20, Value.pointer none, Value.pointer none, Value.bool false, Value.bool false, Value.bool false, Value.bool false, Value.bool false] 43)) = w' := by
  go_enter Tryz.func91, Tryz.ntmps91
  go_wp2_with (first | (go_at_call 128; ((with_reducible refine (c_128 _).mono ?_); rintro e w' ⟨rfl, rfl⟩)))
  exact bodyPost_ret (v := (Value.agg #[Value.iface 122 (Value.pointer (some { block := 0, off := 20 })), Value.int IntKind.u64 20, Value.pointer none, Value.pointer none, Value.bool false, Value.bool false, Value.bool false, Value.bool false, Value.bool false])) (by simp [results, Tryz.results91, go_sem]) rfl ⟨rfl, rfl⟩

theorem sample_11  (w : World)  : Calls Tryz.prog 91 #[.int .i64 11] w fun e w' => e = .returned (Value.agg #[Value.iface 122 (Value.pointer (some { block := 0, off := 25 })), Value.int IntKind.u64 20, Value.pointer none, Value.pointer none, Value.bool false, Value.bool false, Value.bool false, Value.bool false, Value.bool false]) ∧ ((((w.alloc (Obj.cells #[Value.iface 122 (Value.pointer (some { block := 0, off := 25 })), Value.int IntKind.u64 20, Value.pointer none, Value.pointer none, Value.bool false, Value.bool false, Value.bool false, Value.bool false, Value.bool false] 43)).alloc (Obj.cells #[Value.iface 122 (Value.pointer (some { block := 0, off := 25 })), Value.int IntKind.u64 20, Value.pointer none, Value.pointer none, Value.bool false, Value.bool false, Value.bool false, Value.bool false, Value.bool false] 43)).alloc (Obj.cells #[Value.iface 122 (Value.pointer (some { block := 0, off := 25 })), Value.int IntKind.u64 20, Value.pointer none, Value.pointer none, Value.bool false, Value.bool false, Value.bool false, Value.bool false, Value.bool false] 43)).alloc (Obj.cells #[Value.iface 122 (Value.pointer (some { block := 0, off := 25 })), Value.int IntKind.u64 20, Value.pointer none, Value.pointer none, Value.bool false, Value.bool false, Value.bool false, Value.bool false, Value.bool false] 43)) = w' := by
  go_enter Tryz.func91, Tryz.ntmps91
  go_wp2_with (first | (go_at_call 129; ((with_reducible refine (c_129 _).mono ?_); rintro e w' ⟨rfl, rfl⟩)))
  exact bodyPost_ret (v := (Value.agg #[Value.iface 122 (Value.pointer (some { block := 0, off := 25 })), Value.int IntKind.u64 20, Value.pointer none, Value.pointer none, Value.bool false, Value.bool false, Value.bool false, Value.bool false, Value.bool false])) (by simp [results, Tryz.results91, go_sem]) rfl ⟨rfl, rfl⟩

theorem sample_12  (w : World)  : Calls Tryz.prog 91 #[.int .i64 12] w fun e w' => e = .returned (Value.agg #[Value.iface 122 (Value.pointer (some { block := 0, off := 128 })), Value.int IntKind.u64 22, Value.pointer none, Value.pointer none, Value.bool false, Value.bool false, Value.bool false, Value.bool false, Value.bool false]) ∧ (((((w.alloc (Obj.cells #[Value.iface 122 (Value.pointer (some { block := 0, off := 128 })), Value.int IntKind.u64 22, Value.pointer none, Value.pointer none, Value.bool false, Value.bool false, Value.bool false, Value.bool false, Value.bool false] 43)).alloc (Obj.cells #[Value.iface 122 (Value.pointer (some { block := 0, off := 128 })), Value.int IntKind.u64 22, Value.pointer none, Value.pointer none, Value.bool false, Value.bool false, Value.bool false, Value.bool false, Value.bool false] 43)).alloc (Obj.cells #[Value.iface 122 (Value.pointer (some { block := 0, off := 128 })), Value.int IntKind.u64 22, Value.pointer none, Value.pointer none, Value.bool false, Value.bool false, Value.bool false, Value.bool false, Value.bool false] 43)).alloc (Obj.cells #[Value.iface 122 (Value.pointer (some { block := 0, off := 128 })), Value.int IntKind.u64 22, Value.pointer none, Value.pointer none, Value.bool false, Value.bool false, Value.bool false, Value.bool false, Value.bool false] 43)).alloc (Obj.cells #[Value.iface 122 (Value.pointer (some { block := 0, off := 128 })), Value.int IntKind.u64 22, Value.pointer none, Value.pointer none, Value.bool false, Value.bool false, Value.bool false, Value.bool false, Value.bool false] 43)) = w' := by
  go_enter Tryz.func91, Tryz.ntmps91
  go_wp2_with (first | (go_at_call 130; ((with_reducible refine (c_130 _).mono ?_); rintro e w' ⟨rfl, rfl⟩)))
  exact bodyPost_ret (v := (Value.agg #[Value.iface 122 (Value.pointer (some { block := 0, off := 128 })), Value.int IntKind.u64 22, Value.pointer none, Value.pointer none, Value.bool false, Value.bool false, Value.bool false, Value.bool false, Value.bool false])) (by simp [results, Tryz.results91, go_sem]) rfl ⟨rfl, rfl⟩

@[go_sem] theorem str_3 (w : World) : (callFunc 264 #[.pointer (some ⟨0, 3, none⟩)]).run Tryz.prog w = .ok (.value (.string ⟨#[105, 110, 116]⟩)) w := by kernel_rfl

@[go_sem] theorem str_9 (w : World) : (callFunc 264 #[.pointer (some ⟨0, 9, none⟩)]).run Tryz.prog w = .ok (.value (.string ⟨#[115, 116, 114, 105, 110, 103]⟩)) w := by kernel_rfl

@[go_sem] theorem str_51 (w : World) : (callFunc 264 #[.pointer (some ⟨0, 51, none⟩)]).run Tryz.prog w = .ok (.value (.string ⟨#[42, 105, 110, 116]⟩)) w := by kernel_rfl

@[go_sem] theorem str_124 (w : World) : (callFunc 264 #[.pointer (some ⟨0, 124, none⟩)]).run Tryz.prog w = .ok (.value (.string ⟨#[42, 42, 105, 110, 116]⟩)) w := by kernel_rfl

@[go_sem] theorem str_53 (w : World) : (callFunc 264 #[.pointer (some ⟨0, 53, none⟩)]).run Tryz.prog w = .ok (.value (.string ⟨#[109, 97, 112, 91, 115, 116, 114, 105, 110, 103, 93, 105, 110, 116]⟩)) w := by kernel_rfl

@[go_sem] theorem str_125 (w : World) : (callFunc 264 #[.pointer (some ⟨0, 125, none⟩)]).run Tryz.prog w = .ok (.value (.string ⟨#[109, 97, 112, 91, 105, 110, 116, 93, 115, 116, 114, 105, 110, 103]⟩)) w := by kernel_rfl

@[go_sem] theorem str_50 (w : World) : (callFunc 264 #[.pointer (some ⟨0, 50, none⟩)]).run Tryz.prog w = .ok (.value (.string ⟨#[91, 93, 105, 110, 116]⟩)) w := by kernel_rfl

@[go_sem] theorem str_126 (w : World) : (callFunc 264 #[.pointer (some ⟨0, 126, none⟩)]).run Tryz.prog w = .ok (.value (.string ⟨#[115, 116, 114, 117, 99, 116, 32, 123, 125]⟩)) w := by kernel_rfl

@[go_sem] theorem str_20 (w : World) : (callFunc 264 #[.pointer (some ⟨0, 20, none⟩)]).run Tryz.prog w = .ok (.value (.string ⟨#[105, 110, 116, 101, 114, 102, 97, 99, 101, 32, 123, 125]⟩)) w := by kernel_rfl

@[go_sem] theorem str_25 (w : World) : (callFunc 264 #[.pointer (some ⟨0, 25, none⟩)]).run Tryz.prog w = .ok (.value (.string ⟨#[101, 114, 114, 111, 114]⟩)) w := by kernel_rfl

@[go_sem] theorem str_128 (w : World) : (callFunc 264 #[.pointer (some ⟨0, 128, none⟩)]).run Tryz.prog w = .ok (.value (.string ⟨#[42, 109, 97, 112, 91, 115, 116, 114, 105, 110, 103, 93, 105, 110, 116]⟩)) w := by kernel_rfl

theorem tk_x (x : Value) (k : Int) (h : (k == 22) = false) (w : World) : Calls Tryz.prog 136 #[x, .int .u64 k] w fun e w' => e = .returned (.tuple #[x, .int .u64 k, .bool false]) ∧ w' = w := by
  go_enter Tryz.func136, Tryz.ntmps136
  go_wp2
  refine wp_loop_rounds 1 ?_
  rw [rounds_succ]
  go_wp2
  go_ret3
  exact ⟨rfl, rfl⟩

@[go_sem] theorem Elem_51 (w : World) : (callFunc 234 #[.pointer (some ⟨0, 51, none⟩)]).run Tryz.prog w = .ok (.value (.iface 122 (.pointer (some ⟨0, 3, none⟩)))) w := by kernel_rfl

theorem tk_51 (w : World) : Calls Tryz.prog 136 #[.iface 122 (.pointer (some ⟨0, 51, none⟩)), .int .u64 22] w fun e w' => e = .returned (.tuple #[.iface 122 (.pointer (some ⟨0, 3, none⟩)), .int .u64 2, .bool true]) ∧ w' = w := by
  go_enter Tryz.func136, Tryz.ntmps136
  go_wp2
  refine wp_loop_rounds 2 ?_
  rw [rounds_succ]
  go_wp2
  rw [rounds_succ]
  go_wp2
  go_ret3
  exact ⟨rfl, rfl⟩

@[go_sem] theorem Elem_124 (w : World) : (callFunc 234 #[.pointer (some ⟨0, 124, none⟩)]).run Tryz.prog w = .ok (.value (.iface 122 (.pointer (some ⟨0, 51, none⟩)))) w := by kernel_rfl

theorem tk_124 (w : World) : Calls Tryz.prog 136 #[.iface 122 (.pointer (some ⟨0, 124, none⟩)), .int .u64 22] w fun e w' => e = .returned (.tuple #[.iface 122 (.pointer (some ⟨0, 3, none⟩)), .int .u64 2, .bool true]) ∧ w' = w := by
  go_enter Tryz.func136, Tryz.ntmps136
  go_wp2
  refine wp_loop_rounds 3 ?_
  rw [rounds_succ]
  go_wp2
  rw [rounds_succ]
  go_wp2
  rw [rounds_succ]
  go_wp2
  go_ret3
  exact ⟨rfl, rfl⟩

@[go_sem] theorem Elem_128 (w : World) : (callFunc 234 #[.pointer (some ⟨0, 128, none⟩)]).run Tryz.prog w = .ok (.value (.iface 122 (.pointer (some ⟨0, 53, none⟩)))) w := by kernel_rfl

theorem tk_128 (w : World) : Calls Tryz.prog 136 #[.iface 122 (.pointer (some ⟨0, 128, none⟩)), .int .u64 22] w fun e w' => e = .returned (.tuple #[.iface 122 (.pointer (some ⟨0, 53, none⟩)), .int .u64 21, .bool true]) ∧ w' = w := by
  go_enter Tryz.func136, Tryz.ntmps136
  go_wp2
  refine wp_loop_rounds 2 ?_
  rw [rounds_succ]
  go_wp2
  rw [rounds_succ]
  go_wp2
  go_ret3
  exact ⟨rfl, rfl⟩

/-- block n of w is a row of cells of which nothing is frozen -/
def Plain (w : World) (n : Nat) : Prop := ∃ c t, w.heap[n]? = some (.cells c t (0, 0))
theorem Plain.lt {w : World} {n : Nat} (h : Plain w n) : n < w.heap.size := by
  obtain ⟨c, t, h⟩ := h
  exact (Array.getElem?_eq_some_iff.1 h).1
@[go_sem] theorem plain_at (w : World) (c : Array Value) (t : TypeId) (n : Nat) (hn : n = w.heap.size) : Plain (w.alloc (.cells c t)) n = True := by
  subst hn
  exact eq_true ⟨c, t, (show (w.heap.push (.cells c t))[w.heap.size]? = some (.cells c t) by simp)⟩
@[go_sem] theorem plain_past (w : World) (o : Obj) (n : Nat) (hn : n < w.heap.size) : Plain (w.alloc o) n = Plain w n := by
  unfold Plain
  rw [Below.heap_alloc w o n hn]
@[go_sem] theorem plain_drew (w : World) (n : Nat) : Plain w.drew n = Plain w n := rfl
@[go_sem] theorem plain_drewN (w : World) (m n : Nat) : Plain (w.drewN m) n = Plain w n := rfl
@[go_sem] theorem plain_set (w : World) (a : Addr) (v : Value) (n : Nat) : Plain (w.setCell a v) n = Plain w n := by
  unfold Plain
  by_cases h : n = a.block
  · subst h
    simp only [World.setCell, Array.getElem?_modify]
    apply propext
    constructor
    · rintro ⟨c, t, h⟩
      cases ho : w.heap[a.block]? with
      | none => simp [ho] at h
      | some o =>
        simp [ho] at h
        cases o <;> simp at h
        obtain ⟨_, rfl, rfl⟩ := h
        exact ⟨_, _, rfl⟩
    · rintro ⟨c, t, h⟩
      rw [h]
      simp only [if_true, Option.map_some]
      exact ⟨_, t, rfl⟩
  · rw [Below.heap_setCell w a v n h]

theorem bset {w v : World} {p : Addr} (h : Below w.heap.size w v) (hp : w.heap.size ≤ p.block) (u : Value) : Below w.heap.size w (v.setCell p u) := h.setCell hp u

@[go_sem] theorem pneq_40 (a : Addr) (w : World) : (binOp .neq 40 (.pointer (some a)) (.pointer (some a))).run Tryz.prog w = .ok (.bool false) w := by
  obtain ⟨j, hj⟩ := Option.isSome_iff_exists.mp (by kernel_rfl : (Tryz.prog.info? 83).isSome = true)
  exact Lib.run_neq_ptr_same w a Tryz.underlying40 hj
@[go_sem] theorem peql_40 (a : Addr) (w : World) : (binOp .eql 40 (.pointer (some a)) (.pointer (some a))).run Tryz.prog w = .ok (.bool true) w := by
  obtain ⟨j, hj⟩ := Option.isSome_iff_exists.mp (by kernel_rfl : (Tryz.prog.info? 83).isSome = true)
  exact run_eql_ptr_same w a Tryz.underlying40 hj
theorem psize_40 : ((Tryz.prog.info? 83).map (fun j => j.size != 0)) = some true := by kernel_rfl
@[go_sem] theorem peqlo_40 (a b : Addr) (w : World) (hne : a ≠ b) (ha : Plain w a.block) (hb : Plain w b.block) : (binOp .eql 40 (.pointer (some a)) (.pointer (some b))).run Tryz.prog w = .ok (.bool false) w := by
  obtain ⟨j, hj, hz⟩ := Option.map_eq_some_iff.mp psize_40
  obtain ⟨_, _, ha⟩ := ha
  obtain ⟨_, _, hb⟩ := hb
  exact run_eql_ptr_other w Tryz.underlying40 hj (by simpa using hz) hne ha hb
@[go_sem] theorem pneqo_40 (a b : Addr) (w : World) (hne : a ≠ b) (ha : Plain w a.block) (hb : Plain w b.block) : (binOp .neq 40 (.pointer (some a)) (.pointer (some b))).run Tryz.prog w = .ok (.bool true) w := by
  obtain ⟨j, hj, hz⟩ := Option.map_eq_some_iff.mp psize_40
  obtain ⟨_, _, ha⟩ := ha
  obtain ⟨_, _, hb⟩ := hb
  have h : ∀ d : Nat, (Op.equalIn (d + 1) 40 (.pointer (some a)) (.pointer (some b))).run Tryz.prog w = .ok false w := fun d => by
    simp [Op.equalIn, run_underlying Tryz.underlying40, sizeOf, typeInfo, hj, (by simpa using hz : j.size ≠ 0), run_sameAddr_other w hne ha hb]
  simp only [binOp]
  simp [Op.equal, Op.maxDepth, h 9999]

@[go_sem] theorem pneq_41 (a : Addr) (w : World) : (binOp .neq 41 (.pointer (some a)) (.pointer (some a))).run Tryz.prog w = .ok (.bool false) w := by
  obtain ⟨j, hj⟩ := Option.isSome_iff_exists.mp (by kernel_rfl : (Tryz.prog.info? 43).isSome = true)
  exact Lib.run_neq_ptr_same w a Tryz.underlying41 hj
@[go_sem] theorem peql_41 (a : Addr) (w : World) : (binOp .eql 41 (.pointer (some a)) (.pointer (some a))).run Tryz.prog w = .ok (.bool true) w := by
  obtain ⟨j, hj⟩ := Option.isSome_iff_exists.mp (by kernel_rfl : (Tryz.prog.info? 43).isSome = true)
  exact run_eql_ptr_same w a Tryz.underlying41 hj
theorem psize_41 : ((Tryz.prog.info? 43).map (fun j => j.size != 0)) = some true := by kernel_rfl
@[go_sem] theorem peqlo_41 (a b : Addr) (w : World) (hne : a ≠ b) (ha : Plain w a.block) (hb : Plain w b.block) : (binOp .eql 41 (.pointer (some a)) (.pointer (some b))).run Tryz.prog w = .ok (.bool false) w := by
  obtain ⟨j, hj, hz⟩ := Option.map_eq_some_iff.mp psize_41
  obtain ⟨_, _, ha⟩ := ha
  obtain ⟨_, _, hb⟩ := hb
  exact run_eql_ptr_other w Tryz.underlying41 hj (by simpa using hz) hne ha hb
@[go_sem] theorem pneqo_41 (a b : Addr) (w : World) (hne : a ≠ b) (ha : Plain w a.block) (hb : Plain w b.block) : (binOp .neq 41 (.pointer (some a)) (.pointer (some b))).run Tryz.prog w = .ok (.bool true) w := by
  obtain ⟨j, hj, hz⟩ := Option.map_eq_some_iff.mp psize_41
  obtain ⟨_, _, ha⟩ := ha
  obtain ⟨_, _, hb⟩ := hb
  have h : ∀ d : Nat, (Op.equalIn (d + 1) 41 (.pointer (some a)) (.pointer (some b))).run Tryz.prog w = .ok false w := fun d => by
    simp [Op.equalIn, run_underlying Tryz.underlying41, sizeOf, typeInfo, hj, (by simpa using hz : j.size ≠ 0), run_sameAddr_other w hne ha hb]
  simp only [binOp]
  simp [Op.equal, Op.maxDepth, h 9999]

theorem strip_0 (w : World) : Calls Tryz.prog 98 #[.string ⟨#[117, 110, 107, 110, 111, 119, 110]⟩] w fun e w' => e = .returned (.string ⟨#[117, 110, 107, 110, 111, 119, 110]⟩) ∧ w = w' := by
  go_enter Tryz.func98, Tryz.ntmps98
  go_wp2
  refine wp_loop_rounds 1 ?_
  rw [rounds_succ]
  go_wp2
  go_ret
  exact ⟨rfl, rfl⟩

theorem strip_1 (w : World) : Calls Tryz.prog 98 #[.string ⟨#[117, 110, 107, 110, 111, 119, 110]⟩] w fun e w' => e = .returned (.string ⟨#[117, 110, 107, 110, 111, 119, 110]⟩) ∧ w = w' := by
  go_enter Tryz.func98, Tryz.ntmps98
  go_wp2
  refine wp_loop_rounds 1 ?_
  rw [rounds_succ]
  go_wp2
  go_ret
  exact ⟨rfl, rfl⟩

theorem strip_2 (w : World) : Calls Tryz.prog 98 #[.string ⟨#[105, 110, 116]⟩] w fun e w' => e = .returned (.string ⟨#[105, 110, 116]⟩) ∧ w = w' := by
  go_enter Tryz.func98, Tryz.ntmps98
  go_wp2
  refine wp_loop_rounds 1 ?_
  rw [rounds_succ]
  go_wp2
  go_ret
  exact ⟨rfl, rfl⟩

theorem strip_3 (w : World) : Calls Tryz.prog 98 #[.string ⟨#[115, 116, 114, 105, 110, 103]⟩] w fun e w' => e = .returned (.string ⟨#[115, 116, 114, 105, 110, 103]⟩) ∧ w = w' := by
  go_enter Tryz.func98, Tryz.ntmps98
  go_wp2
  refine wp_loop_rounds 1 ?_
  rw [rounds_succ]
  go_wp2
  go_ret
  exact ⟨rfl, rfl⟩

theorem strip_4 (w : World) : Calls Tryz.prog 98 #[.string ⟨#[42, 105, 110, 116]⟩] w fun e w' => e = .returned (.string ⟨#[105, 110, 116]⟩) ∧ w = w' := by
  go_enter Tryz.func98, Tryz.ntmps98
  go_wp2
  refine wp_loop_rounds 2 ?_
  rw [rounds_succ]
  go_wp2
  rw [rounds_succ]
  go_wp2
  go_ret
  exact ⟨rfl, rfl⟩

theorem strip_5 (w : World) : Calls Tryz.prog 98 #[.string ⟨#[42, 42, 105, 110, 116]⟩] w fun e w' => e = .returned (.string ⟨#[105, 110, 116]⟩) ∧ w = w' := by
  go_enter Tryz.func98, Tryz.ntmps98
  go_wp2
  refine wp_loop_rounds 3 ?_
  rw [rounds_succ]
  go_wp2
  rw [rounds_succ]
  go_wp2
  rw [rounds_succ]
  go_wp2
  go_ret
  exact ⟨rfl, rfl⟩

theorem strip_6 (w : World) : Calls Tryz.prog 98 #[.string ⟨#[109, 97, 112, 91, 115, 116, 114, 105, 110, 103, 93, 105, 110, 116]⟩] w fun e w' => e = .returned (.string ⟨#[109, 97, 112, 91, 115, 116, 114, 105, 110, 103, 93, 105, 110, 116]⟩) ∧ w = w' := by
  go_enter Tryz.func98, Tryz.ntmps98
  go_wp2
  refine wp_loop_rounds 1 ?_
  rw [rounds_succ]
  go_wp2
  go_ret
  exact ⟨rfl, rfl⟩

theorem strip_7 (w : World) : Calls Tryz.prog 98 #[.string ⟨#[109, 97, 112, 91, 105, 110, 116, 93, 115, 116, 114, 105, 110, 103]⟩] w fun e w' => e = .returned (.string ⟨#[109, 97, 112, 91, 105, 110, 116, 93, 115, 116, 114, 105, 110, 103]⟩) ∧ w = w' := by
  go_enter Tryz.func98, Tryz.ntmps98
  go_wp2
  refine wp_loop_rounds 1 ?_
  rw [rounds_succ]
  go_wp2
  go_ret
  exact ⟨rfl, rfl⟩

theorem strip_8 (w : World) : Calls Tryz.prog 98 #[.string ⟨#[91, 93, 105, 110, 116]⟩] w fun e w' => e = .returned (.string ⟨#[91, 93, 105, 110, 116]⟩) ∧ w = w' := by
  go_enter Tryz.func98, Tryz.ntmps98
  go_wp2
  refine wp_loop_rounds 1 ?_
  rw [rounds_succ]
  go_wp2
  go_ret
  exact ⟨rfl, rfl⟩

theorem strip_9 (w : World) : Calls Tryz.prog 98 #[.string ⟨#[115, 116, 114, 117, 99, 116, 32, 123, 125]⟩] w fun e w' => e = .returned (.string ⟨#[115, 116, 114, 117, 99, 116, 32, 123, 125]⟩) ∧ w = w' := by
  go_enter Tryz.func98, Tryz.ntmps98
  go_wp2
  refine wp_loop_rounds 1 ?_
  rw [rounds_succ]
  go_wp2
  go_ret
  exact ⟨rfl, rfl⟩

theorem strip_10 (w : World) : Calls Tryz.prog 98 #[.string ⟨#[105, 110, 116, 101, 114, 102, 97, 99, 101, 32, 123, 125]⟩] w fun e w' => e = .returned (.string ⟨#[105, 110, 116, 101, 114, 102, 97, 99, 101, 32, 123, 125]⟩) ∧ w = w' := by
  go_enter Tryz.func98, Tryz.ntmps98
  go_wp2
  refine wp_loop_rounds 1 ?_
  rw [rounds_succ]
  go_wp2
  go_ret
  exact ⟨rfl, rfl⟩

theorem strip_11 (w : World) : Calls Tryz.prog 98 #[.string ⟨#[101, 114, 114, 111, 114]⟩] w fun e w' => e = .returned (.string ⟨#[101, 114, 114, 111, 114]⟩) ∧ w = w' := by
  go_enter Tryz.func98, Tryz.ntmps98
  go_wp2
  refine wp_loop_rounds 1 ?_
  rw [rounds_succ]
  go_wp2
  go_ret
  exact ⟨rfl, rfl⟩

theorem strip_12 (w : World) : Calls Tryz.prog 98 #[.string ⟨#[42, 109, 97, 112, 91, 115, 116, 114, 105, 110, 103, 93, 105, 110, 116]⟩] w fun e w' => e = .returned (.string ⟨#[109, 97, 112, 91, 115, 116, 114, 105, 110, 103, 93, 105, 110, 116]⟩) ∧ w = w' := by
  go_enter Tryz.func98, Tryz.ntmps98
  go_wp2
  refine wp_loop_rounds 2 ?_
  rw [rounds_succ]
  go_wp2
  rw [rounds_succ]
  go_wp2
  go_ret
  exact ⟨rfl, rfl⟩

theorem string_at (b t : Nat) (s : ByteArray) (w : World) (hs : ∀ v, (callFunc 264 #[.pointer (some ⟨0, t, none⟩)]).run Tryz.prog v = .ok (.value (.string s)) v) (h : w.cell? ⟨b, 0, none⟩ = some (.iface 122 (.pointer (some ⟨0, t, none⟩)))) : Calls Tryz.prog 90 #[.pointer (some ⟨b, 0, none⟩)] w fun e w' => e = .returned (.string s) ∧ w' = w := by
  go_enter Tryz.func90, Tryz.ntmps90
  go_wp2
  go_ret
  exact ⟨rfl, rfl⟩

theorem string_un (b : Nat) (w : World) (h : w.cell? ⟨b, 0, none⟩ = some (.nilIface)) : Calls Tryz.prog 90 #[.pointer (some ⟨b, 0, none⟩)] w fun e w' => e = .returned (.string ⟨#[117, 110, 107, 110, 111, 119, 110]⟩) ∧ w' = w := by
  go_enter Tryz.func90, Tryz.ntmps90
  go_wp2
  go_ret
  exact ⟨rfl, rfl⟩
end Go.Proofs.YtjdnoaojjmejmaaGreat.fnDerefIdempotentStripsStars
