/-
  The walk of FnClassifyIsTimeIsDurationIsBoolTable: IsTime is true exactly for time.Time, IsDuration exactly for time.Duration, IsBool exactly for a bool value or a nature without a type whose kind is 1.
-/
import Derived.Test.YtnjjndnnpkejlaaGreatBase
import Derived.OpenShut
import Derived.Deep.RegionWith
import Derived.RegionTactic
import Derived.ChangeAlike
import Derived.Deep.QuietTactic
import Derived.BigQuiet
import Derived.WalkSmall
namespace Go.Proofs.YtnjjndnnpkejlaaGreat.fnClassifyIsTimeIsDurationIsBoolTable
open Go.RowKit
set_option maxRecDepth 100000
set_option maxHeartbeats 1000000
set_option linter.unusedVariables false
theorem bal {w v : World} (h : Below w.heap.size w v) (o : Obj) : Below w.heap.size w (v.alloc o) := h.alloc h.size o
theorem bdn {B : Nat} {a w : World} (h : Below B a w) (n : Nat) : Below B a (w.drewN n) := ⟨h.os, h.tape, h.output, h.size, h.block⟩
/-- the slice of integers 'v' reads as 'zs' up to its capacity, or is nil -/
def IntsIn (w : World) (k : IntKind) (v : Value) : Prop := v = .slice none 0 0 ∨ ∃ (a : Addr) (len cap : Nat) (zs : List Int), v = .slice (some a) len cap ∧ len ≤ cap ∧ cap ≤ maxLen ∧ zs.length = cap ∧ (∀ i, i < zs.length → w.cell? (a.add i) = some (.int k (zs.getD i 0))) ∧ (∀ n ∈ zs, (Lit.int k n).wf = true)
/-- the slice of strings 'v' reads as 'ss' up to its capacity, or is nil -/
def StrsIn (w : World) (v : Value) : Prop := v = .slice none 0 0 ∨ ∃ (a : Addr) (len cap : Nat) (ss : List ByteArray), v = .slice (some a) len cap ∧ len ≤ cap ∧ cap ≤ maxLen ∧ ss.length = cap ∧ (∀ i, i < ss.length → w.cell? (a.add i) = some (.string (ss.getD i ByteArray.empty))) ∧ (∀ s ∈ ss, s.size ≤ maxLen)
/-- the pointer 'v' is nil or points at an integer -/
def PtrIn (w : World) (k : IntKind) (v : Value) : Prop := v = .pointer none ∨ ∃ b off n, v = .pointer (some ⟨b, off, none⟩) ∧ w.cell? ⟨b, off, none⟩ = some (.int k n) ∧ (Lit.int k n).wf = true
theorem bnext {a u v : World} (h : Below a.heap.size a u) (k : Below u.heap.size u v) : Below a.heap.size a v := Below.trans h (k.mono h.size)

@[go_sem] theorem kind_4 (w : World) : (callFunc 202 #[.pointer (some ⟨0, 4, none⟩)]).run Tryz.prog w = .ok (.value (.int .u64 1)) w := by kernel_rfl

@[go_sem] theorem kind_2 (w : World) : (callFunc 202 #[.pointer (some ⟨0, 2, none⟩)]).run Tryz.prog w = .ok (.value (.int .u64 6)) w := by kernel_rfl

@[go_sem] theorem kind_27 (w : World) : (callFunc 202 #[.pointer (some ⟨0, 27, none⟩)]).run Tryz.prog w = .ok (.value (.int .u64 14)) w := by kernel_rfl

@[go_sem] theorem kind_9 (w : World) : (callFunc 202 #[.pointer (some ⟨0, 9, none⟩)]).run Tryz.prog w = .ok (.value (.int .u64 24)) w := by kernel_rfl

@[go_sem] theorem kind_58 (w : World) : (callFunc 202 #[.pointer (some ⟨0, 58, none⟩)]).run Tryz.prog w = .ok (.value (.int .u64 25)) w := by kernel_rfl

@[go_sem] theorem kind_59 (w : World) : (callFunc 202 #[.pointer (some ⟨0, 59, none⟩)]).run Tryz.prog w = .ok (.value (.int .u64 6)) w := by kernel_rfl

@[go_sem] theorem kind_3 (w : World) : (callFunc 202 #[.pointer (some ⟨0, 3, none⟩)]).run Tryz.prog w = .ok (.value (.int .u64 2)) w := by kernel_rfl

@[go_sem] theorem kind_26 (w : World) : (callFunc 202 #[.pointer (some ⟨0, 26, none⟩)]).run Tryz.prog w = .ok (.value (.int .u64 13)) w := by kernel_rfl

theorem bi_2  (w : World)  : Calls Tryz.prog 32 #[.iface 62 (.pointer (some ⟨0, 2, none⟩))] w fun e w' => e = .returned (Value.bool true) ∧ (w) = w' := by
  go_enter Tryz.func32, Tryz.ntmps32
  go_wp2
  exact bodyPost_ret (v := (Value.bool true)) (by simp [results, Tryz.results32, go_sem]) rfl ⟨rfl, rfl⟩

theorem bf_27  (w : World)  : Calls Tryz.prog 33 #[.iface 62 (.pointer (some ⟨0, 27, none⟩))] w fun e w' => e = .returned (Value.bool true) ∧ (w) = w' := by
  go_enter Tryz.func33, Tryz.ntmps33
  go_wp2
  exact bodyPost_ret (v := (Value.bool true)) (by simp [results, Tryz.results33, go_sem]) rfl ⟨rfl, rfl⟩

theorem bi_59  (w : World)  : Calls Tryz.prog 32 #[.iface 62 (.pointer (some ⟨0, 59, none⟩))] w fun e w' => e = .returned (Value.bool false) ∧ (w) = w' := by
  go_enter Tryz.func32, Tryz.ntmps32
  go_wp2
  exact bodyPost_ret (v := (Value.bool false)) (by simp [results, Tryz.results32, go_sem]) rfl ⟨rfl, rfl⟩

theorem bi_3  (w : World)  : Calls Tryz.prog 32 #[.iface 62 (.pointer (some ⟨0, 3, none⟩))] w fun e w' => e = .returned (Value.bool true) ∧ (w) = w' := by
  go_enter Tryz.func32, Tryz.ntmps32
  go_wp2
  exact bodyPost_ret (v := (Value.bool true)) (by simp [results, Tryz.results32, go_sem]) rfl ⟨rfl, rfl⟩

theorem bf_26  (w : World)  : Calls Tryz.prog 33 #[.iface 62 (.pointer (some ⟨0, 26, none⟩))] w fun e w' => e = .returned (Value.bool true) ∧ (w) = w' := by
  go_enter Tryz.func33, Tryz.ntmps33
  go_wp2
  exact bodyPost_ret (v := (Value.bool true)) (by simp [results, Tryz.results33, go_sem]) rfl ⟨rfl, rfl⟩

theorem from_4 (c : Option Addr) (w : World) : Calls Tryz.prog 30 #[.pointer c, .iface 62 (.pointer (some ⟨0, 4, none⟩))] w fun e w' => e = .returned (.agg #[.iface 62 (.pointer (some ⟨0, 4, none⟩)), .int .u64 1, .pointer none, .pointer none, .bool false, .bool false, .bool false, .bool false, .bool false]) ∧ w.alloc (.cells #[.iface 62 (.pointer (some ⟨0, 4, none⟩)), .int .u64 1, .pointer none, .pointer none, .bool false, .bool false, .bool false, .bool false, .bool false] 43) = w' :=
  from_plain c 4 1 kind_4 rfl rfl rfl rfl rfl rfl rfl rfl rfl rfl rfl rfl rfl rfl rfl w

theorem from_9 (c : Option Addr) (w : World) : Calls Tryz.prog 30 #[.pointer c, .iface 62 (.pointer (some ⟨0, 9, none⟩))] w fun e w' => e = .returned (.agg #[.iface 62 (.pointer (some ⟨0, 9, none⟩)), .int .u64 24, .pointer none, .pointer none, .bool false, .bool false, .bool false, .bool false, .bool false]) ∧ w.alloc (.cells #[.iface 62 (.pointer (some ⟨0, 9, none⟩)), .int .u64 24, .pointer none, .pointer none, .bool false, .bool false, .bool false, .bool false, .bool false] 43) = w' :=
  from_plain c 9 24 kind_9 rfl rfl rfl rfl rfl rfl rfl rfl rfl rfl rfl rfl rfl rfl rfl w

theorem from_2 (c : Option Addr) (w : World)  : Calls Tryz.prog 30 #[.pointer c, .iface 62 (.pointer (some ⟨0, 2, none⟩))] w fun e w' => e = .returned (Value.agg #[Value.iface 62 (Value.pointer (some { block := 0, off := 2 })), Value.int IntKind.u64 6, Value.pointer none, Value.pointer none, Value.bool false, Value.bool false, Value.bool false, Value.bool true, Value.bool false]) ∧ (w.alloc (Obj.cells #[Value.iface 62 (Value.pointer (some { block := 0, off := 2 })), Value.int IntKind.u64 6, Value.pointer none, Value.pointer none, Value.bool false, Value.bool false, Value.bool false, Value.bool true, Value.bool false] 43)) = w' := by
  go_enter Tryz.func30, Tryz.ntmps30
  go_wp2_with (first | (go_at_call 32; ((with_reducible refine (bi_2 _).mono ?_); rintro e w' ⟨rfl, rfl⟩)))
  exact bodyPost_ret (v := (Value.agg #[Value.iface 62 (Value.pointer (some { block := 0, off := 2 })), Value.int IntKind.u64 6, Value.pointer none, Value.pointer none, Value.bool false, Value.bool false, Value.bool false, Value.bool true, Value.bool false])) (by simp [results, Tryz.results30, go_sem]) rfl ⟨rfl, rfl⟩

theorem from_27 (c : Option Addr) (w : World)  : Calls Tryz.prog 30 #[.pointer c, .iface 62 (.pointer (some ⟨0, 27, none⟩))] w fun e w' => e = .returned (Value.agg #[Value.iface 62 (Value.pointer (some { block := 0, off := 27 })), Value.int IntKind.u64 14, Value.pointer none, Value.pointer none, Value.bool false, Value.bool false, Value.bool false, Value.bool false, Value.bool true]) ∧ (w.alloc (Obj.cells #[Value.iface 62 (Value.pointer (some { block := 0, off := 27 })), Value.int IntKind.u64 14, Value.pointer none, Value.pointer none, Value.bool false, Value.bool false, Value.bool false, Value.bool false, Value.bool true] 43)) = w' := by
  go_enter Tryz.func30, Tryz.ntmps30
  go_wp2_with (first | (go_at_call 33; ((with_reducible refine (bf_27 _).mono ?_); rintro e w' ⟨rfl, rfl⟩)))
  exact bodyPost_ret (v := (Value.agg #[Value.iface 62 (Value.pointer (some { block := 0, off := 27 })), Value.int IntKind.u64 14, Value.pointer none, Value.pointer none, Value.bool false, Value.bool false, Value.bool false, Value.bool false, Value.bool true])) (by simp [results, Tryz.results30, go_sem]) rfl ⟨rfl, rfl⟩

theorem from_58  (w : World)  : Calls Tryz.prog 30 #[.pointer none, .iface 62 (.pointer (some ⟨0, 58, none⟩))] w fun e w' => e = .returned (Value.agg #[Value.iface 62 (Value.pointer (some { block := 0, off := 58 })), Value.int IntKind.u64 25, Value.pointer (some { block := w.heap.size + 1, off := 0 }), Value.pointer none, Value.bool false, Value.bool false, Value.bool false, Value.bool false, Value.bool false]) ∧ ((w.alloc (Obj.cells #[Value.iface 62 (Value.pointer (some { block := 0, off := 58 })), Value.int IntKind.u64 25, Value.pointer (some { block := w.heap.size + 1, off := 0 }), Value.pointer none, Value.bool false, Value.bool false, Value.bool false, Value.bool false, Value.bool false] 43)).alloc (Obj.cells #[Value.pointer none, Value.pointer none, Value.map none, Value.pointer none, Value.pointer none, Value.int IntKind.i64 0, Value.pointer none, Value.pointer none, Value.int IntKind.i64 0, Value.int IntKind.i64 0, Value.bool false, Value.bool false, Value.bool false, Value.bool false] 71)) = w' := by
  go_enter Tryz.func30, Tryz.ntmps30
  go_wp2
  exact bodyPost_ret (v := (Value.agg #[Value.iface 62 (Value.pointer (some { block := 0, off := 58 })), Value.int IntKind.u64 25, Value.pointer (some { block := w.heap.size + 1, off := 0 }), Value.pointer none, Value.bool false, Value.bool false, Value.bool false, Value.bool false, Value.bool false])) (by simp [results, Tryz.results30, go_sem]) rfl ⟨rfl, rfl⟩

theorem from_59 (c : Option Addr) (w : World)  : Calls Tryz.prog 30 #[.pointer c, .iface 62 (.pointer (some ⟨0, 59, none⟩))] w fun e w' => e = .returned (Value.agg #[Value.iface 62 (Value.pointer (some { block := 0, off := 59 })), Value.int IntKind.u64 6, Value.pointer none, Value.pointer none, Value.bool false, Value.bool false, Value.bool false, Value.bool false, Value.bool false]) ∧ (w.alloc (Obj.cells #[Value.iface 62 (Value.pointer (some { block := 0, off := 59 })), Value.int IntKind.u64 6, Value.pointer none, Value.pointer none, Value.bool false, Value.bool false, Value.bool false, Value.bool false, Value.bool false] 43)) = w' := by
  go_enter Tryz.func30, Tryz.ntmps30
  go_wp2_with (first | (go_at_call 32; ((with_reducible refine (bi_59 _).mono ?_); rintro e w' ⟨rfl, rfl⟩)))
  exact bodyPost_ret (v := (Value.agg #[Value.iface 62 (Value.pointer (some { block := 0, off := 59 })), Value.int IntKind.u64 6, Value.pointer none, Value.pointer none, Value.bool false, Value.bool false, Value.bool false, Value.bool false, Value.bool false])) (by simp [results, Tryz.results30, go_sem]) rfl ⟨rfl, rfl⟩

theorem from_3 (c : Option Addr) (w : World)  : Calls Tryz.prog 30 #[.pointer c, .iface 62 (.pointer (some ⟨0, 3, none⟩))] w fun e w' => e = .returned (Value.agg #[Value.iface 62 (Value.pointer (some { block := 0, off := 3 })), Value.int IntKind.u64 2, Value.pointer none, Value.pointer none, Value.bool false, Value.bool false, Value.bool false, Value.bool true, Value.bool false]) ∧ (w.alloc (Obj.cells #[Value.iface 62 (Value.pointer (some { block := 0, off := 3 })), Value.int IntKind.u64 2, Value.pointer none, Value.pointer none, Value.bool false, Value.bool false, Value.bool false, Value.bool true, Value.bool false] 43)) = w' := by
  go_enter Tryz.func30, Tryz.ntmps30
  go_wp2_with (first | (go_at_call 32; ((with_reducible refine (bi_3 _).mono ?_); rintro e w' ⟨rfl, rfl⟩)))
  exact bodyPost_ret (v := (Value.agg #[Value.iface 62 (Value.pointer (some { block := 0, off := 3 })), Value.int IntKind.u64 2, Value.pointer none, Value.pointer none, Value.bool false, Value.bool false, Value.bool false, Value.bool true, Value.bool false])) (by simp [results, Tryz.results30, go_sem]) rfl ⟨rfl, rfl⟩

theorem from_26 (c : Option Addr) (w : World)  : Calls Tryz.prog 30 #[.pointer c, .iface 62 (.pointer (some ⟨0, 26, none⟩))] w fun e w' => e = .returned (Value.agg #[Value.iface 62 (Value.pointer (some { block := 0, off := 26 })), Value.int IntKind.u64 13, Value.pointer none, Value.pointer none, Value.bool false, Value.bool false, Value.bool false, Value.bool false, Value.bool true]) ∧ (w.alloc (Obj.cells #[Value.iface 62 (Value.pointer (some { block := 0, off := 26 })), Value.int IntKind.u64 13, Value.pointer none, Value.pointer none, Value.bool false, Value.bool false, Value.bool false, Value.bool false, Value.bool true] 43)) = w' := by
  go_enter Tryz.func30, Tryz.ntmps30
  go_wp2_with (first | (go_at_call 33; ((with_reducible refine (bf_26 _).mono ?_); rintro e w' ⟨rfl, rfl⟩)))
  exact bodyPost_ret (v := (Value.agg #[Value.iface 62 (Value.pointer (some { block := 0, off := 26 })), Value.int IntKind.u64 13, Value.pointer none, Value.pointer none, Value.bool false, Value.bool false, Value.bool false, Value.bool false, Value.bool true])) (by simp [results, Tryz.results30, go_sem]) rfl ⟨rfl, rfl⟩

theorem nc_4 (x : Value) (w : World)  : Calls Tryz.prog 26 #[.pointer none, .iface 4 x] w fun e w' => e = .returned (Value.agg #[Value.iface 62 (Value.pointer (some { block := 0, off := 4 })), Value.int IntKind.u64 1, Value.pointer none, Value.pointer none, Value.bool false, Value.bool false, Value.bool false, Value.bool false, Value.bool false]) ∧ ((w.alloc (Obj.cells #[Value.iface 62 (Value.pointer (some { block := 0, off := 4 })), Value.int IntKind.u64 1, Value.pointer none, Value.pointer none, Value.bool false, Value.bool false, Value.bool false, Value.bool false, Value.bool false] 43)).alloc (Obj.cells #[Value.iface 62 (Value.pointer (some { block := 0, off := 4 })), Value.int IntKind.u64 1, Value.pointer none, Value.pointer none, Value.bool false, Value.bool false, Value.bool false, Value.bool false, Value.bool false] 43)) = w' := by
  go_enter Tryz.func26, Tryz.ntmps26
  go_wp2_with (first | (go_at_call 30; ((with_reducible refine (from_4 _ _).mono ?_); rintro e w' ⟨rfl, rfl⟩)))
  exact bodyPost_ret (v := (Value.agg #[Value.iface 62 (Value.pointer (some { block := 0, off := 4 })), Value.int IntKind.u64 1, Value.pointer none, Value.pointer none, Value.bool false, Value.bool false, Value.bool false, Value.bool false, Value.bool false])) (by simp [results, Tryz.results26, go_sem]) rfl ⟨rfl, rfl⟩

theorem nc_2 (x : Value) (w : World)  : Calls Tryz.prog 26 #[.pointer none, .iface 2 x] w fun e w' => e = .returned (Value.agg #[Value.iface 62 (Value.pointer (some { block := 0, off := 2 })), Value.int IntKind.u64 6, Value.pointer none, Value.pointer none, Value.bool false, Value.bool false, Value.bool false, Value.bool true, Value.bool false]) ∧ ((w.alloc (Obj.cells #[Value.iface 62 (Value.pointer (some { block := 0, off := 2 })), Value.int IntKind.u64 6, Value.pointer none, Value.pointer none, Value.bool false, Value.bool false, Value.bool false, Value.bool true, Value.bool false] 43)).alloc (Obj.cells #[Value.iface 62 (Value.pointer (some { block := 0, off := 2 })), Value.int IntKind.u64 6, Value.pointer none, Value.pointer none, Value.bool false, Value.bool false, Value.bool false, Value.bool true, Value.bool false] 43)) = w' := by
  go_enter Tryz.func26, Tryz.ntmps26
  go_wp2_with (first | (go_at_call 30; ((with_reducible refine (from_2 _ _).mono ?_); rintro e w' ⟨rfl, rfl⟩)))
  exact bodyPost_ret (v := (Value.agg #[Value.iface 62 (Value.pointer (some { block := 0, off := 2 })), Value.int IntKind.u64 6, Value.pointer none, Value.pointer none, Value.bool false, Value.bool false, Value.bool false, Value.bool true, Value.bool false])) (by simp [results, Tryz.results26, go_sem]) rfl ⟨rfl, rfl⟩

theorem nc_27 (x : Value) (w : World)  : Calls Tryz.prog 26 #[.pointer none, .iface 27 x] w fun e w' => e = .returned (Value.agg #[Value.iface 62 (Value.pointer (some { block := 0, off := 27 })), Value.int IntKind.u64 14, Value.pointer none, Value.pointer none, Value.bool false, Value.bool false, Value.bool false, Value.bool false, Value.bool true]) ∧ ((w.alloc (Obj.cells #[Value.iface 62 (Value.pointer (some { block := 0, off := 27 })), Value.int IntKind.u64 14, Value.pointer none, Value.pointer none, Value.bool false, Value.bool false, Value.bool false, Value.bool false, Value.bool true] 43)).alloc (Obj.cells #[Value.iface 62 (Value.pointer (some { block := 0, off := 27 })), Value.int IntKind.u64 14, Value.pointer none, Value.pointer none, Value.bool false, Value.bool false, Value.bool false, Value.bool false, Value.bool true] 43)) = w' := by
  go_enter Tryz.func26, Tryz.ntmps26
  go_wp2_with (first | (go_at_call 30; ((with_reducible refine (from_27 _ _).mono ?_); rintro e w' ⟨rfl, rfl⟩)))
  exact bodyPost_ret (v := (Value.agg #[Value.iface 62 (Value.pointer (some { block := 0, off := 27 })), Value.int IntKind.u64 14, Value.pointer none, Value.pointer none, Value.bool false, Value.bool false, Value.bool false, Value.bool false, Value.bool true])) (by simp [results, Tryz.results26, go_sem]) rfl ⟨rfl, rfl⟩

theorem nc_9 (x : Value) (w : World)  : Calls Tryz.prog 26 #[.pointer none, .iface 9 x] w fun e w' => e = .returned (Value.agg #[Value.iface 62 (Value.pointer (some { block := 0, off := 9 })), Value.int IntKind.u64 24, Value.pointer none, Value.pointer none, Value.bool false, Value.bool false, Value.bool false, Value.bool false, Value.bool false]) ∧ ((w.alloc (Obj.cells #[Value.iface 62 (Value.pointer (some { block := 0, off := 9 })), Value.int IntKind.u64 24, Value.pointer none, Value.pointer none, Value.bool false, Value.bool false, Value.bool false, Value.bool false, Value.bool false] 43)).alloc (Obj.cells #[Value.iface 62 (Value.pointer (some { block := 0, off := 9 })), Value.int IntKind.u64 24, Value.pointer none, Value.pointer none, Value.bool false, Value.bool false, Value.bool false, Value.bool false, Value.bool false] 43)) = w' := by
  go_enter Tryz.func26, Tryz.ntmps26
  go_wp2_with (first | (go_at_call 30; ((with_reducible refine (from_9 _ _).mono ?_); rintro e w' ⟨rfl, rfl⟩)))
  exact bodyPost_ret (v := (Value.agg #[Value.iface 62 (Value.pointer (some { block := 0, off := 9 })), Value.int IntKind.u64 24, Value.pointer none, Value.pointer none, Value.bool false, Value.bool false, Value.bool false, Value.bool false, Value.bool false])) (by simp [results, Tryz.results26, go_sem]) rfl ⟨rfl, rfl⟩

theorem nc_58 (x : Value) (w : World)  : Calls Tryz.prog 26 #[.pointer none, .iface 58 x] w fun e w' => e = .returned (Value.agg #[Value.iface 62 (Value.pointer (some { block := 0, off := 58 })), Value.int IntKind.u64 25, Value.pointer (some { block := w.heap.size + 1 + 1, off := 0 }), Value.pointer none, Value.bool false, Value.bool false, Value.bool false, Value.bool false, Value.bool false]) ∧ (((w.alloc (Obj.cells #[Value.iface 62 (Value.pointer (some { block := 0, off := 58 })), Value.int IntKind.u64 25, Value.pointer (some { block := w.heap.size + 1 + 1, off := 0 }), Value.pointer none, Value.bool false, Value.bool false, Value.bool false, Value.bool false, Value.bool false] 43)).alloc (Obj.cells #[Value.iface 62 (Value.pointer (some { block := 0, off := 58 })), Value.int IntKind.u64 25, Value.pointer (some { block := w.heap.size + 1 + 1, off := 0 }), Value.pointer none, Value.bool false, Value.bool false, Value.bool false, Value.bool false, Value.bool false] 43)).alloc (Obj.cells #[Value.pointer none, Value.pointer none, Value.map none, Value.pointer none, Value.pointer none, Value.int IntKind.i64 0, Value.pointer none, Value.pointer none, Value.int IntKind.i64 0, Value.int IntKind.i64 0, Value.bool false, Value.bool false, Value.bool false, Value.bool false] 71)) = w' := by
  go_enter Tryz.func26, Tryz.ntmps26
  go_wp2_with (first | (go_at_call 30; ((with_reducible refine (from_58 _).mono ?_); rintro e w' ⟨rfl, rfl⟩)))
  exact bodyPost_ret (v := (Value.agg #[Value.iface 62 (Value.pointer (some { block := 0, off := 58 })), Value.int IntKind.u64 25, Value.pointer (some { block := w.heap.size + 1 + 1, off := 0 }), Value.pointer none, Value.bool false, Value.bool false, Value.bool false, Value.bool false, Value.bool false])) (by simp [results, Tryz.results26, go_sem]) rfl ⟨rfl, rfl⟩

theorem nc_59 (x : Value) (w : World)  : Calls Tryz.prog 26 #[.pointer none, .iface 59 x] w fun e w' => e = .returned (Value.agg #[Value.iface 62 (Value.pointer (some { block := 0, off := 59 })), Value.int IntKind.u64 6, Value.pointer none, Value.pointer none, Value.bool false, Value.bool false, Value.bool false, Value.bool false, Value.bool false]) ∧ ((w.alloc (Obj.cells #[Value.iface 62 (Value.pointer (some { block := 0, off := 59 })), Value.int IntKind.u64 6, Value.pointer none, Value.pointer none, Value.bool false, Value.bool false, Value.bool false, Value.bool false, Value.bool false] 43)).alloc (Obj.cells #[Value.iface 62 (Value.pointer (some { block := 0, off := 59 })), Value.int IntKind.u64 6, Value.pointer none, Value.pointer none, Value.bool false, Value.bool false, Value.bool false, Value.bool false, Value.bool false] 43)) = w' := by
  go_enter Tryz.func26, Tryz.ntmps26
  go_wp2_with (first | (go_at_call 30; ((with_reducible refine (from_59 _ _).mono ?_); rintro e w' ⟨rfl, rfl⟩)))
  exact bodyPost_ret (v := (Value.agg #[Value.iface 62 (Value.pointer (some { block := 0, off := 59 })), Value.int IntKind.u64 6, Value.pointer none, Value.pointer none, Value.bool false, Value.bool false, Value.bool false, Value.bool false, Value.bool false])) (by simp [results, Tryz.results26, go_sem]) rfl ⟨rfl, rfl⟩

theorem nc_3 (x : Value) (w : World)  : Calls Tryz.prog 26 #[.pointer none, .iface 3 x] w fun e w' => e = .returned (Value.agg #[Value.iface 62 (Value.pointer (some { block := 0, off := 3 })), Value.int IntKind.u64 2, Value.pointer none, Value.pointer none, Value.bool false, Value.bool false, Value.bool false, Value.bool true, Value.bool false]) ∧ ((w.alloc (Obj.cells #[Value.iface 62 (Value.pointer (some { block := 0, off := 3 })), Value.int IntKind.u64 2, Value.pointer none, Value.pointer none, Value.bool false, Value.bool false, Value.bool false, Value.bool true, Value.bool false] 43)).alloc (Obj.cells #[Value.iface 62 (Value.pointer (some { block := 0, off := 3 })), Value.int IntKind.u64 2, Value.pointer none, Value.pointer none, Value.bool false, Value.bool false, Value.bool false, Value.bool true, Value.bool false] 43)) = w' := by
  go_enter Tryz.func26, Tryz.ntmps26
  go_wp2_with (first | (go_at_call 30; ((with_reducible refine (from_3 _ _).mono ?_); rintro e w' ⟨rfl, rfl⟩)))
  exact bodyPost_ret (v := (Value.agg #[Value.iface 62 (Value.pointer (some { block := 0, off := 3 })), Value.int IntKind.u64 2, Value.pointer none, Value.pointer none, Value.bool false, Value.bool false, Value.bool false, Value.bool true, Value.bool false])) (by simp [results, Tryz.results26, go_sem]) rfl ⟨rfl, rfl⟩

theorem nc_26 (x : Value) (w : World)  : Calls Tryz.prog 26 #[.pointer none, .iface 26 x] w fun e w' => e = .returned (Value.agg #[Value.iface 62 (Value.pointer (some { block := 0, off := 26 })), Value.int IntKind.u64 13, Value.pointer none, Value.pointer none, Value.bool false, Value.bool false, Value.bool false, Value.bool false, Value.bool true]) ∧ ((w.alloc (Obj.cells #[Value.iface 62 (Value.pointer (some { block := 0, off := 26 })), Value.int IntKind.u64 13, Value.pointer none, Value.pointer none, Value.bool false, Value.bool false, Value.bool false, Value.bool false, Value.bool true] 43)).alloc (Obj.cells #[Value.iface 62 (Value.pointer (some { block := 0, off := 26 })), Value.int IntKind.u64 13, Value.pointer none, Value.pointer none, Value.bool false, Value.bool false, Value.bool false, Value.bool false, Value.bool true] 43)) = w' := by
  go_enter Tryz.func26, Tryz.ntmps26
  go_wp2_with (first | (go_at_call 30; ((with_reducible refine (from_26 _ _).mono ?_); rintro e w' ⟨rfl, rfl⟩)))
  exact bodyPost_ret (v := (Value.agg #[Value.iface 62 (Value.pointer (some { block := 0, off := 26 })), Value.int IntKind.u64 13, Value.pointer none, Value.pointer none, Value.bool false, Value.bool false, Value.bool false, Value.bool false, Value.bool true])) (by simp [results, Tryz.results26, go_sem]) rfl ⟨rfl, rfl⟩

theorem no_4 (x : Value) (w : World)  : Calls Tryz.prog 24 #[.iface 4 x] w fun e w' => e = .returned (Value.agg #[Value.iface 62 (Value.pointer (some { block := 0, off := 4 })), Value.int IntKind.u64 1, Value.pointer none, Value.pointer none, Value.bool false, Value.bool false, Value.bool false, Value.bool false, Value.bool false]) ∧ (((w.alloc (Obj.cells #[Value.iface 62 (Value.pointer (some { block := 0, off := 4 })), Value.int IntKind.u64 1, Value.pointer none, Value.pointer none, Value.bool false, Value.bool false, Value.bool false, Value.bool false, Value.bool false] 43)).alloc (Obj.cells #[Value.iface 62 (Value.pointer (some { block := 0, off := 4 })), Value.int IntKind.u64 1, Value.pointer none, Value.pointer none, Value.bool false, Value.bool false, Value.bool false, Value.bool false, Value.bool false] 43)).alloc (Obj.cells #[Value.iface 62 (Value.pointer (some { block := 0, off := 4 })), Value.int IntKind.u64 1, Value.pointer none, Value.pointer none, Value.bool false, Value.bool false, Value.bool false, Value.bool false, Value.bool false] 43)) = w' := by
  go_enter Tryz.func24, Tryz.ntmps24
  go_wp2_with (first | (go_at_call 26; ((with_reducible refine (nc_4 _ _).mono ?_); rintro e w' ⟨rfl, rfl⟩)))
  exact bodyPost_ret (v := (Value.agg #[Value.iface 62 (Value.pointer (some { block := 0, off := 4 })), Value.int IntKind.u64 1, Value.pointer none, Value.pointer none, Value.bool false, Value.bool false, Value.bool false, Value.bool false, Value.bool false])) (by simp [results, Tryz.results24, go_sem]) rfl ⟨rfl, rfl⟩

theorem no_2 (x : Value) (w : World)  : Calls Tryz.prog 24 #[.iface 2 x] w fun e w' => e = .returned (Value.agg #[Value.iface 62 (Value.pointer (some { block := 0, off := 2 })), Value.int IntKind.u64 6, Value.pointer none, Value.pointer none, Value.bool false, Value.bool false, Value.bool false, Value.bool true, Value.bool false]) ∧ (((w.alloc (Obj.cells #[Value.iface 62 (Value.pointer (some { block := 0, off := 2 })), Value.int IntKind.u64 6, Value.pointer none, Value.pointer none, Value.bool false, Value.bool false, Value.bool false, Value.bool true, Value.bool false] 43)).alloc (Obj.cells #[Value.iface 62 (Value.pointer (some { block := 0, off := 2 })), Value.int IntKind.u64 6, Value.pointer none, Value.pointer none, Value.bool false, Value.bool false, Value.bool false, Value.bool true, Value.bool false] 43)).alloc (Obj.cells #[Value.iface 62 (Value.pointer (some { block := 0, off := 2 })), Value.int IntKind.u64 6, Value.pointer none, Value.pointer none, Value.bool false, Value.bool false, Value.bool false, Value.bool true, Value.bool false] 43)) = w' := by
  go_enter Tryz.func24, Tryz.ntmps24
  go_wp2_with (first | (go_at_call 26; ((with_reducible refine (nc_2 _ _).mono ?_); rintro e w' ⟨rfl, rfl⟩)))
  exact bodyPost_ret (v := (Value.agg #[Value.iface 62 (Value.pointer (some { block := 0, off := 2 })), Value.int IntKind.u64 6, Value.pointer none, Value.pointer none, Value.bool false, Value.bool false, Value.bool false, Value.bool true, Value.bool false])) (by simp [results, Tryz.results24, go_sem]) rfl ⟨rfl, rfl⟩

theorem no_27 (x : Value) (w : World)  : Calls Tryz.prog 24 #[.iface 27 x] w fun e w' => e = .returned (Value.agg #[Value.iface 62 (Value.pointer (some { block := 0, off := 27 })), Value.int IntKind.u64 14, Value.pointer none, Value.pointer none, Value.bool false, Value.bool false, Value.bool false, Value.bool false, Value.bool true]) ∧ (((w.alloc (Obj.cells #[Value.iface 62 (Value.pointer (some { block := 0, off := 27 })), Value.int IntKind.u64 14, Value.pointer none, Value.pointer none, Value.bool false, Value.bool false, Value.bool false, Value.bool false, Value.bool true] 43)).alloc (Obj.cells #[Value.iface 62 (Value.pointer (some { block := 0, off := 27 })), Value.int IntKind.u64 14, Value.pointer none, Value.pointer none, Value.bool false, Value.bool false, Value.bool false, Value.bool false, Value.bool true] 43)).alloc (Obj.cells #[Value.iface 62 (Value.pointer (some { block := 0, off := 27 })), Value.int IntKind.u64 14, Value.pointer none, Value.pointer none, Value.bool false, Value.bool false, Value.bool false, Value.bool false, Value.bool true] 43)) = w' := by
  go_enter Tryz.func24, Tryz.ntmps24
  go_wp2_with (first | (go_at_call 26; ((with_reducible refine (nc_27 _ _).mono ?_); rintro e w' ⟨rfl, rfl⟩)))
  exact bodyPost_ret (v := (Value.agg #[Value.iface 62 (Value.pointer (some { block := 0, off := 27 })), Value.int IntKind.u64 14, Value.pointer none, Value.pointer none, Value.bool false, Value.bool false, Value.bool false, Value.bool false, Value.bool true])) (by simp [results, Tryz.results24, go_sem]) rfl ⟨rfl, rfl⟩

theorem no_9 (x : Value) (w : World)  : Calls Tryz.prog 24 #[.iface 9 x] w fun e w' => e = .returned (Value.agg #[Value.iface 62 (Value.pointer (some { block := 0, off := 9 })), Value.int IntKind.u64 24, Value.pointer none, Value.pointer none, Value.bool false, Value.bool false, Value.bool false, Value.bool false, Value.bool false]) ∧ (((w.alloc (Obj.cells #[Value.iface 62 (Value.pointer (some { block := 0, off := 9 })), Value.int IntKind.u64 24, Value.pointer none, Value.pointer none, Value.bool false, Value.bool false, Value.bool false, Value.bool false, Value.bool false] 43)).alloc (Obj.cells #[Value.iface 62 (Value.pointer (some { block := 0, off := 9 })), Value.int IntKind.u64 24, Value.pointer none, Value.pointer none, Value.bool false, Value.bool false, Value.bool false, Value.bool false, Value.bool false] 43)).alloc (Obj.cells #[Value.iface 62 (Value.pointer (some { block := 0, off := 9 })), Value.int IntKind.u64 24, Value.pointer none, Value.pointer none, Value.bool false, Value.bool false, Value.bool false, Value.bool false, Value.bool false] 43)) = w' := by
  go_enter Tryz.func24, Tryz.ntmps24
  go_wp2_with (first | (go_at_call 26; ((with_reducible refine (nc_9 _ _).mono ?_); rintro e w' ⟨rfl, rfl⟩)))
  exact bodyPost_ret (v := (Value.agg #[Value.iface 62 (Value.pointer (some { block := 0, off := 9 })), Value.int IntKind.u64 24, Value.pointer none, Value.pointer none, Value.bool false, Value.bool false, Value.bool false, Value.bool false, Value.bool false])) (by simp [results, Tryz.results24, go_sem]) rfl ⟨rfl, rfl⟩

theorem no_58 (x : Value) (w : World)  : Calls Tryz.prog 24 #[.iface 58 x] w fun e w' => e = .returned (Value.agg #[Value.iface 62 (Value.pointer (some { block := 0, off := 58 })), Value.int IntKind.u64 25, Value.pointer (some { block := w.heap.size + 1 + 1 + 1, off := 0 }), Value.pointer none, Value.bool false, Value.bool false, Value.bool false, Value.bool false, Value.bool false]) ∧ ((((w.alloc (Obj.cells #[Value.iface 62 (Value.pointer (some { block := 0, off := 58 })), Value.int IntKind.u64 25, Value.pointer (some { block := w.heap.size + 1 + 1 + 1, off := 0 }), Value.pointer none, Value.bool false, Value.bool false, Value.bool false, Value.bool false, Value.bool false] 43)).alloc (Obj.cells #[Value.iface 62 (Value.pointer (some { block := 0, off := 58 })), Value.int IntKind.u64 25, Value.pointer (some { block := w.heap.size + 1 + 1 + 1, off := 0 }), Value.pointer none, Value.bool false, Value.bool false, Value.bool false, Value.bool false, Value.bool false] 43)).alloc (Obj.cells #[Value.iface 62 (Value.pointer (some { block := 0, off := 58 })), Value.int IntKind.u64 25, Value.pointer (some { block := w.heap.size + 1 + 1 + 1, off := 0 }), Value.pointer none, Value.bool false, Value.bool false, Value.bool false, Value.bool false, Value.bool false] 43)).alloc (Obj.cells #[Value.pointer none, Value.pointer none, Value.map none, Value.pointer none, Value.pointer none, Value.int IntKind.i64 0, Value.pointer none, Value.pointer none, Value.int IntKind.i64 0, Value.int IntKind.i64 0, Value.bool false, Value.bool false, Value.bool false, Value.bool false] 71)) = w' := by
  go_enter Tryz.func24, Tryz.ntmps24
  go_wp2_with (first | (go_at_call 26; ((with_reducible refine (nc_58 _ _).mono ?_); rintro e w' ⟨rfl, rfl⟩)))
  exact bodyPost_ret (v := (Value.agg #[Value.iface 62 (Value.pointer (some { block := 0, off := 58 })), Value.int IntKind.u64 25, Value.pointer (some { block := w.heap.size + 1 + 1 + 1, off := 0 }), Value.pointer none, Value.bool false, Value.bool false, Value.bool false, Value.bool false, Value.bool false])) (by simp [results, Tryz.results24, go_sem]) rfl ⟨rfl, rfl⟩

theorem no_59 (x : Value) (w : World)  : Calls Tryz.prog 24 #[.iface 59 x] w fun e w' => e = .returned (Value.agg #[Value.iface 62 (Value.pointer (some { block := 0, off := 59 })), Value.int IntKind.u64 6, Value.pointer none, Value.pointer none, Value.bool false, Value.bool false, Value.bool false, Value.bool false, Value.bool false]) ∧ (((w.alloc (Obj.cells #[Value.iface 62 (Value.pointer (some { block := 0, off := 59 })), Value.int IntKind.u64 6, Value.pointer none, Value.pointer none, Value.bool false, Value.bool false, Value.bool false, Value.bool false, Value.bool false] 43)).alloc (Obj.cells #[Value.iface 62 (Value.pointer (some { block := 0, off := 59 })), Value.int IntKind.u64 6, Value.pointer none, Value.pointer none, Value.bool false, Value.bool false, Value.bool false, Value.bool false, Value.bool false] 43)).alloc (Obj.cells #[Value.iface 62 (Value.pointer (some { block := 0, off := 59 })), Value.int IntKind.u64 6, Value.pointer none, Value.pointer none, Value.bool false, Value.bool false, Value.bool false, Value.bool false, Value.bool false] 43)) = w' := by
  go_enter Tryz.func24, Tryz.ntmps24
  go_wp2_with (first | (go_at_call 26; ((with_reducible refine (nc_59 _ _).mono ?_); rintro e w' ⟨rfl, rfl⟩)))
  exact bodyPost_ret (v := (Value.agg #[Value.iface 62 (Value.pointer (some { block := 0, off := 59 })), Value.int IntKind.u64 6, Value.pointer none, Value.pointer none, Value.bool false, Value.bool false, Value.bool false, Value.bool false, Value.bool false])) (by simp [results, Tryz.results24, go_sem]) rfl ⟨rfl, rfl⟩

theorem no_3 (x : Value) (w : World)  : Calls Tryz.prog 24 #[.iface 3 x] w fun e w' => e = .returned (Value.agg #[Value.iface 62 (Value.pointer (some { block := 0, off := 3 })), Value.int IntKind.u64 2, Value.pointer none, Value.pointer none, Value.bool false, Value.bool false, Value.bool false, Value.bool true, Value.bool false]) ∧ (((w.alloc (Obj.cells #[Value.iface 62 (Value.pointer (some { block := 0, off := 3 })), Value.int IntKind.u64 2, Value.pointer none, Value.pointer none, Value.bool false, Value.bool false, Value.bool false, Value.bool true, Value.bool false] 43)).alloc (Obj.cells #[Value.iface 62 (Value.pointer (some { block := 0, off := 3 })), Value.int IntKind.u64 2, Value.pointer none, Value.pointer none, Value.bool false, Value.bool false, Value.bool false, Value.bool true, Value.bool false] 43)).alloc (Obj.cells #[Value.iface 62 (Value.pointer (some { block := 0, off := 3 })), Value.int IntKind.u64 2, Value.pointer none, Value.pointer none, Value.bool false, Value.bool false, Value.bool false, Value.bool true, Value.bool false] 43)) = w' := by
  go_enter Tryz.func24, Tryz.ntmps24
  go_wp2_with (first | (go_at_call 26; ((with_reducible refine (nc_3 _ _).mono ?_); rintro e w' ⟨rfl, rfl⟩)))
  exact bodyPost_ret (v := (Value.agg #[Value.iface 62 (Value.pointer (some { block := 0, off := 3 })), Value.int IntKind.u64 2, Value.pointer none, Value.pointer none, Value.bool false, Value.bool false, Value.bool false, Value.bool true, Value.bool false])) (by simp [results, Tryz.results24, go_sem]) rfl ⟨rfl, rfl⟩

theorem no_26 (x : Value) (w : World)  : Calls Tryz.prog 24 #[.iface 26 x] w fun e w' => e = .returned (Value.agg #[Value.iface 62 (Value.pointer (some { block := 0, off := 26 })), Value.int IntKind.u64 13, Value.pointer none, Value.pointer none, Value.bool false, Value.bool false, Value.bool false, Value.bool false, Value.bool true]) ∧ (((w.alloc (Obj.cells #[Value.iface 62 (Value.pointer (some { block := 0, off := 26 })), Value.int IntKind.u64 13, Value.pointer none, Value.pointer none, Value.bool false, Value.bool false, Value.bool false, Value.bool false, Value.bool true] 43)).alloc (Obj.cells #[Value.iface 62 (Value.pointer (some { block := 0, off := 26 })), Value.int IntKind.u64 13, Value.pointer none, Value.pointer none, Value.bool false, Value.bool false, Value.bool false, Value.bool false, Value.bool true] 43)).alloc (Obj.cells #[Value.iface 62 (Value.pointer (some { block := 0, off := 26 })), Value.int IntKind.u64 13, Value.pointer none, Value.pointer none, Value.bool false, Value.bool false, Value.bool false, Value.bool false, Value.bool true] 43)) = w' := by
  go_enter Tryz.func24, Tryz.ntmps24
  go_wp2_with (first | (go_at_call 26; ((with_reducible refine (nc_26 _ _).mono ?_); rintro e w' ⟨rfl, rfl⟩)))
  exact bodyPost_ret (v := (Value.agg #[Value.iface 62 (Value.pointer (some { block := 0, off := 26 })), Value.int IntKind.u64 13, Value.pointer none, Value.pointer none, Value.bool false, Value.bool false, Value.bool false, Value.bool false, Value.bool true])) (by simp [results, Tryz.results24, go_sem]) rfl ⟨rfl, rfl⟩

theorem c_12 (x : Bool) (w : World)  : Calls Tryz.prog 12 #[.bool x] w fun e w' => e = .returned (Value.agg #[Value.iface 62 (Value.pointer (some { block := 0, off := 4 })), Value.int IntKind.u64 1, Value.pointer none, Value.pointer none, Value.bool false, Value.bool false, Value.bool false, Value.bool false, Value.bool false]) ∧ ((((w.alloc (Obj.cells #[Value.iface 62 (Value.pointer (some { block := 0, off := 4 })), Value.int IntKind.u64 1, Value.pointer none, Value.pointer none, Value.bool false, Value.bool false, Value.bool false, Value.bool false, Value.bool false] 43)).alloc (Obj.cells #[Value.iface 62 (Value.pointer (some { block := 0, off := 4 })), Value.int IntKind.u64 1, Value.pointer none, Value.pointer none, Value.bool false, Value.bool false, Value.bool false, Value.bool false, Value.bool false] 43)).alloc (Obj.cells #[Value.iface 62 (Value.pointer (some { block := 0, off := 4 })), Value.int IntKind.u64 1, Value.pointer none, Value.pointer none, Value.bool false, Value.bool false, Value.bool false, Value.bool false, Value.bool false] 43)).alloc (Obj.cells #[Value.iface 62 (Value.pointer (some { block := 0, off := 4 })), Value.int IntKind.u64 1, Value.pointer none, Value.pointer none, Value.bool false, Value.bool false, Value.bool false, Value.bool false, Value.bool false] 43)) = w' := by
  go_enter Tryz.func12, Tryz.ntmps12
  go_wp2_with (first | (go_at_call 24; ((with_reducible refine (no_4 _ _).mono ?_); rintro e w' ⟨rfl, rfl⟩)))
  exact bodyPost_ret (v := (Value.agg #[Value.iface 62 (Value.pointer (some { block := 0, off := 4 })), Value.int IntKind.u64 1, Value.pointer none, Value.pointer none, Value.bool false, Value.bool false, Value.bool false, Value.bool false, Value.bool false])) (by simp [results, Tryz.results12, go_sem]) rfl ⟨rfl, rfl⟩

theorem c_13 (x : Int) (w : World)  : Calls Tryz.prog 13 #[.int .i64 x] w fun e w' => e = .returned (Value.agg #[Value.iface 62 (Value.pointer (some { block := 0, off := 2 })), Value.int IntKind.u64 6, Value.pointer none, Value.pointer none, Value.bool false, Value.bool false, Value.bool false, Value.bool true, Value.bool false]) ∧ ((((w.alloc (Obj.cells #[Value.iface 62 (Value.pointer (some { block := 0, off := 2 })), Value.int IntKind.u64 6, Value.pointer none, Value.pointer none, Value.bool false, Value.bool false, Value.bool false, Value.bool true, Value.bool false] 43)).alloc (Obj.cells #[Value.iface 62 (Value.pointer (some { block := 0, off := 2 })), Value.int IntKind.u64 6, Value.pointer none, Value.pointer none, Value.bool false, Value.bool false, Value.bool false, Value.bool true, Value.bool false] 43)).alloc (Obj.cells #[Value.iface 62 (Value.pointer (some { block := 0, off := 2 })), Value.int IntKind.u64 6, Value.pointer none, Value.pointer none, Value.bool false, Value.bool false, Value.bool false, Value.bool true, Value.bool false] 43)).alloc (Obj.cells #[Value.iface 62 (Value.pointer (some { block := 0, off := 2 })), Value.int IntKind.u64 6, Value.pointer none, Value.pointer none, Value.bool false, Value.bool false, Value.bool false, Value.bool true, Value.bool false] 43)) = w' := by
  go_enter Tryz.func13, Tryz.ntmps13
  go_wp2_with (first | (go_at_call 24; ((with_reducible refine (no_2 _ _).mono ?_); rintro e w' ⟨rfl, rfl⟩)))
  exact bodyPost_ret (v := (Value.agg #[Value.iface 62 (Value.pointer (some { block := 0, off := 2 })), Value.int IntKind.u64 6, Value.pointer none, Value.pointer none, Value.bool false, Value.bool false, Value.bool false, Value.bool true, Value.bool false])) (by simp [results, Tryz.results13, go_sem]) rfl ⟨rfl, rfl⟩

theorem c_14 (x : Nat) (w : World)  : Calls Tryz.prog 14 #[.float .f64 x] w fun e w' => e = .returned (Value.agg #[Value.iface 62 (Value.pointer (some { block := 0, off := 27 })), Value.int IntKind.u64 14, Value.pointer none, Value.pointer none, Value.bool false, Value.bool false, Value.bool false, Value.bool false, Value.bool true]) ∧ ((((w.alloc (Obj.cells #[Value.iface 62 (Value.pointer (some { block := 0, off := 27 })), Value.int IntKind.u64 14, Value.pointer none, Value.pointer none, Value.bool false, Value.bool false, Value.bool false, Value.bool false, Value.bool true] 43)).alloc (Obj.cells #[Value.iface 62 (Value.pointer (some { block := 0, off := 27 })), Value.int IntKind.u64 14, Value.pointer none, Value.pointer none, Value.bool false, Value.bool false, Value.bool false, Value.bool false, Value.bool true] 43)).alloc (Obj.cells #[Value.iface 62 (Value.pointer (some { block := 0, off := 27 })), Value.int IntKind.u64 14, Value.pointer none, Value.pointer none, Value.bool false, Value.bool false, Value.bool false, Value.bool false, Value.bool true] 43)).alloc (Obj.cells #[Value.iface 62 (Value.pointer (some { block := 0, off := 27 })), Value.int IntKind.u64 14, Value.pointer none, Value.pointer none, Value.bool false, Value.bool false, Value.bool false, Value.bool false, Value.bool true] 43)) = w' := by
  go_enter Tryz.func14, Tryz.ntmps14
  go_wp2_with (first | (go_at_call 24; ((with_reducible refine (no_27 _ _).mono ?_); rintro e w' ⟨rfl, rfl⟩)))
  exact bodyPost_ret (v := (Value.agg #[Value.iface 62 (Value.pointer (some { block := 0, off := 27 })), Value.int IntKind.u64 14, Value.pointer none, Value.pointer none, Value.bool false, Value.bool false, Value.bool false, Value.bool false, Value.bool true])) (by simp [results, Tryz.results14, go_sem]) rfl ⟨rfl, rfl⟩

theorem c_15 (x : ByteArray) (w : World)  : Calls Tryz.prog 15 #[.string x] w fun e w' => e = .returned (Value.agg #[Value.iface 62 (Value.pointer (some { block := 0, off := 9 })), Value.int IntKind.u64 24, Value.pointer none, Value.pointer none, Value.bool false, Value.bool false, Value.bool false, Value.bool false, Value.bool false]) ∧ ((((w.alloc (Obj.cells #[Value.iface 62 (Value.pointer (some { block := 0, off := 9 })), Value.int IntKind.u64 24, Value.pointer none, Value.pointer none, Value.bool false, Value.bool false, Value.bool false, Value.bool false, Value.bool false] 43)).alloc (Obj.cells #[Value.iface 62 (Value.pointer (some { block := 0, off := 9 })), Value.int IntKind.u64 24, Value.pointer none, Value.pointer none, Value.bool false, Value.bool false, Value.bool false, Value.bool false, Value.bool false] 43)).alloc (Obj.cells #[Value.iface 62 (Value.pointer (some { block := 0, off := 9 })), Value.int IntKind.u64 24, Value.pointer none, Value.pointer none, Value.bool false, Value.bool false, Value.bool false, Value.bool false, Value.bool false] 43)).alloc (Obj.cells #[Value.iface 62 (Value.pointer (some { block := 0, off := 9 })), Value.int IntKind.u64 24, Value.pointer none, Value.pointer none, Value.bool false, Value.bool false, Value.bool false, Value.bool false, Value.bool false] 43)) = w' := by
  go_enter Tryz.func15, Tryz.ntmps15
  go_wp2_with (first | (go_at_call 24; ((with_reducible refine (no_9 _ _).mono ?_); rintro e w' ⟨rfl, rfl⟩)))
  exact bodyPost_ret (v := (Value.agg #[Value.iface 62 (Value.pointer (some { block := 0, off := 9 })), Value.int IntKind.u64 24, Value.pointer none, Value.pointer none, Value.bool false, Value.bool false, Value.bool false, Value.bool false, Value.bool false])) (by simp [results, Tryz.results15, go_sem]) rfl ⟨rfl, rfl⟩

theorem c_16  (w : World)  : Calls Tryz.prog 16 #[] w fun e w' => e = .returned (Value.agg #[Value.iface 62 (Value.pointer (some { block := 0, off := 58 })), Value.int IntKind.u64 25, Value.pointer (some { block := w.heap.size + 1 + 1 + 1 + 1, off := 0 }), Value.pointer none, Value.bool false, Value.bool false, Value.bool false, Value.bool false, Value.bool false]) ∧ (((((w.alloc (Obj.cells #[Value.iface 62 (Value.pointer (some { block := 0, off := 58 })), Value.int IntKind.u64 25, Value.pointer (some { block := w.heap.size + 1 + 1 + 1 + 1, off := 0 }), Value.pointer none, Value.bool false, Value.bool false, Value.bool false, Value.bool false, Value.bool false] 43)).alloc (Obj.cells #[Value.iface 62 (Value.pointer (some { block := 0, off := 58 })), Value.int IntKind.u64 25, Value.pointer (some { block := w.heap.size + 1 + 1 + 1 + 1, off := 0 }), Value.pointer none, Value.bool false, Value.bool false, Value.bool false, Value.bool false, Value.bool false] 43)).alloc (Obj.cells #[Value.iface 62 (Value.pointer (some { block := 0, off := 58 })), Value.int IntKind.u64 25, Value.pointer (some { block := w.heap.size + 1 + 1 + 1 + 1, off := 0 }), Value.pointer none, Value.bool false, Value.bool false, Value.bool false, Value.bool false, Value.bool false] 43)).alloc (Obj.cells #[Value.iface 62 (Value.pointer (some { block := 0, off := 58 })), Value.int IntKind.u64 25, Value.pointer (some { block := w.heap.size + 1 + 1 + 1 + 1, off := 0 }), Value.pointer none, Value.bool false, Value.bool false, Value.bool false, Value.bool false, Value.bool false] 43)).alloc (Obj.cells #[Value.pointer none, Value.pointer none, Value.map none, Value.pointer none, Value.pointer none, Value.int IntKind.i64 0, Value.pointer none, Value.pointer none, Value.int IntKind.i64 0, Value.int IntKind.i64 0, Value.bool false, Value.bool false, Value.bool false, Value.bool false] 71)) = w' := by
  go_enter Tryz.func16, Tryz.ntmps16
  go_wp2_with (first | (go_at_call 24; ((with_reducible refine (no_58 _ _).mono ?_); rintro e w' ⟨rfl, rfl⟩)))
  exact bodyPost_ret (v := (Value.agg #[Value.iface 62 (Value.pointer (some { block := 0, off := 58 })), Value.int IntKind.u64 25, Value.pointer (some { block := w.heap.size + 1 + 1 + 1 + 1, off := 0 }), Value.pointer none, Value.bool false, Value.bool false, Value.bool false, Value.bool false, Value.bool false])) (by simp [results, Tryz.results16, go_sem]) rfl ⟨rfl, rfl⟩

theorem c_17 (x : Int) (w : World)  : Calls Tryz.prog 17 #[.int .i64 x] w fun e w' => e = .returned (Value.agg #[Value.iface 62 (Value.pointer (some { block := 0, off := 59 })), Value.int IntKind.u64 6, Value.pointer none, Value.pointer none, Value.bool false, Value.bool false, Value.bool false, Value.bool false, Value.bool false]) ∧ ((((w.alloc (Obj.cells #[Value.iface 62 (Value.pointer (some { block := 0, off := 59 })), Value.int IntKind.u64 6, Value.pointer none, Value.pointer none, Value.bool false, Value.bool false, Value.bool false, Value.bool false, Value.bool false] 43)).alloc (Obj.cells #[Value.iface 62 (Value.pointer (some { block := 0, off := 59 })), Value.int IntKind.u64 6, Value.pointer none, Value.pointer none, Value.bool false, Value.bool false, Value.bool false, Value.bool false, Value.bool false] 43)).alloc (Obj.cells #[Value.iface 62 (Value.pointer (some { block := 0, off := 59 })), Value.int IntKind.u64 6, Value.pointer none, Value.pointer none, Value.bool false, Value.bool false, Value.bool false, Value.bool false, Value.bool false] 43)).alloc (Obj.cells #[Value.iface 62 (Value.pointer (some { block := 0, off := 59 })), Value.int IntKind.u64 6, Value.pointer none, Value.pointer none, Value.bool false, Value.bool false, Value.bool false, Value.bool false, Value.bool false] 43)) = w' := by
  go_enter Tryz.func17, Tryz.ntmps17
  go_wp2_with (first | (go_at_call 24; ((with_reducible refine (no_59 _ _).mono ?_); rintro e w' ⟨rfl, rfl⟩)))
  exact bodyPost_ret (v := (Value.agg #[Value.iface 62 (Value.pointer (some { block := 0, off := 59 })), Value.int IntKind.u64 6, Value.pointer none, Value.pointer none, Value.bool false, Value.bool false, Value.bool false, Value.bool false, Value.bool false])) (by simp [results, Tryz.results17, go_sem]) rfl ⟨rfl, rfl⟩

theorem c_18 (x : Int) (w : World)  : Calls Tryz.prog 18 #[.int .i64 x] w fun e w' => e = .returned (Value.agg #[Value.iface 62 (Value.pointer (some { block := 0, off := 3 })), Value.int IntKind.u64 2, Value.pointer none, Value.pointer none, Value.bool false, Value.bool false, Value.bool false, Value.bool true, Value.bool false]) ∧ ((((w.alloc (Obj.cells #[Value.iface 62 (Value.pointer (some { block := 0, off := 3 })), Value.int IntKind.u64 2, Value.pointer none, Value.pointer none, Value.bool false, Value.bool false, Value.bool false, Value.bool true, Value.bool false] 43)).alloc (Obj.cells #[Value.iface 62 (Value.pointer (some { block := 0, off := 3 })), Value.int IntKind.u64 2, Value.pointer none, Value.pointer none, Value.bool false, Value.bool false, Value.bool false, Value.bool true, Value.bool false] 43)).alloc (Obj.cells #[Value.iface 62 (Value.pointer (some { block := 0, off := 3 })), Value.int IntKind.u64 2, Value.pointer none, Value.pointer none, Value.bool false, Value.bool false, Value.bool false, Value.bool true, Value.bool false] 43)).alloc (Obj.cells #[Value.iface 62 (Value.pointer (some { block := 0, off := 3 })), Value.int IntKind.u64 2, Value.pointer none, Value.pointer none, Value.bool false, Value.bool false, Value.bool false, Value.bool true, Value.bool false] 43)) = w' := by
  go_enter Tryz.func18, Tryz.ntmps18
  go_wp2_with (first | (go_at_call 24; ((with_reducible refine (no_3 _ _).mono ?_); rintro e w' ⟨rfl, rfl⟩)))
  exact bodyPost_ret (v := (Value.agg #[Value.iface 62 (Value.pointer (some { block := 0, off := 3 })), Value.int IntKind.u64 2, Value.pointer none, Value.pointer none, Value.bool false, Value.bool false, Value.bool false, Value.bool true, Value.bool false])) (by simp [results, Tryz.results18, go_sem]) rfl ⟨rfl, rfl⟩

theorem c_19 (x : Nat) (w : World)  : Calls Tryz.prog 19 #[.float .f32 x] w fun e w' => e = .returned (Value.agg #[Value.iface 62 (Value.pointer (some { block := 0, off := 26 })), Value.int IntKind.u64 13, Value.pointer none, Value.pointer none, Value.bool false, Value.bool false, Value.bool false, Value.bool false, Value.bool true]) ∧ ((((w.alloc (Obj.cells #[Value.iface 62 (Value.pointer (some { block := 0, off := 26 })), Value.int IntKind.u64 13, Value.pointer none, Value.pointer none, Value.bool false, Value.bool false, Value.bool false, Value.bool false, Value.bool true] 43)).alloc (Obj.cells #[Value.iface 62 (Value.pointer (some { block := 0, off := 26 })), Value.int IntKind.u64 13, Value.pointer none, Value.pointer none, Value.bool false, Value.bool false, Value.bool false, Value.bool false, Value.bool true] 43)).alloc (Obj.cells #[Value.iface 62 (Value.pointer (some { block := 0, off := 26 })), Value.int IntKind.u64 13, Value.pointer none, Value.pointer none, Value.bool false, Value.bool false, Value.bool false, Value.bool false, Value.bool true] 43)).alloc (Obj.cells #[Value.iface 62 (Value.pointer (some { block := 0, off := 26 })), Value.int IntKind.u64 13, Value.pointer none, Value.pointer none, Value.bool false, Value.bool false, Value.bool false, Value.bool false, Value.bool true] 43)) = w' := by
  go_enter Tryz.func19, Tryz.ntmps19
  go_wp2_with (first | (go_at_call 24; ((with_reducible refine (no_26 _ _).mono ?_); rintro e w' ⟨rfl, rfl⟩)))
  exact bodyPost_ret (v := (Value.agg #[Value.iface 62 (Value.pointer (some { block := 0, off := 26 })), Value.int IntKind.u64 13, Value.pointer none, Value.pointer none, Value.bool false, Value.bool false, Value.bool false, Value.bool false, Value.bool true])) (by simp [results, Tryz.results19, go_sem]) rfl ⟨rfl, rfl⟩

theorem nc_nil  (w : World)  : Calls Tryz.prog 26 #[.pointer none, .nilIface] w fun e w' => e = .returned (Value.agg #[Value.nilIface, Value.int IntKind.u64 0, Value.pointer none, Value.pointer none, Value.bool true, Value.bool false, Value.bool false, Value.bool false, Value.bool false]) ∧ (w.alloc (Obj.cells #[Value.nilIface, Value.int IntKind.u64 0, Value.pointer none, Value.pointer none, Value.bool true, Value.bool false, Value.bool false, Value.bool false, Value.bool false] 43)) = w' := by
  go_enter Tryz.func26, Tryz.ntmps26
  go_wp2
  exact bodyPost_ret (v := (Value.agg #[Value.nilIface, Value.int IntKind.u64 0, Value.pointer none, Value.pointer none, Value.bool true, Value.bool false, Value.bool false, Value.bool false, Value.bool false])) (by simp [results, Tryz.results26, go_sem]) rfl ⟨rfl, rfl⟩

theorem no_nil  (w : World)  : Calls Tryz.prog 24 #[.nilIface] w fun e w' => e = .returned (Value.agg #[Value.nilIface, Value.int IntKind.u64 0, Value.pointer none, Value.pointer none, Value.bool true, Value.bool false, Value.bool false, Value.bool false, Value.bool false]) ∧ ((w.alloc (Obj.cells #[Value.nilIface, Value.int IntKind.u64 0, Value.pointer none, Value.pointer none, Value.bool true, Value.bool false, Value.bool false, Value.bool false, Value.bool false] 43)).alloc (Obj.cells #[Value.nilIface, Value.int IntKind.u64 0, Value.pointer none, Value.pointer none, Value.bool true, Value.bool false, Value.bool false, Value.bool false, Value.bool false] 43)) = w' := by
  go_enter Tryz.func24, Tryz.ntmps24
  go_wp2_with (first | (go_at_call 26; ((with_reducible refine (nc_nil _).mono ?_); rintro e w' ⟨rfl, rfl⟩)))
  exact bodyPost_ret (v := (Value.agg #[Value.nilIface, Value.int IntKind.u64 0, Value.pointer none, Value.pointer none, Value.bool true, Value.bool false, Value.bool false, Value.bool false, Value.bool false])) (by simp [results, Tryz.results24, go_sem]) rfl ⟨rfl, rfl⟩

theorem c_20  (w : World)  : Calls Tryz.prog 20 #[] w fun e w' => e = .returned (Value.agg #[Value.nilIface, Value.int IntKind.u64 0, Value.pointer none, Value.pointer none, Value.bool true, Value.bool false, Value.bool false, Value.bool false, Value.bool false]) ∧ (((w.alloc (Obj.cells #[Value.nilIface, Value.int IntKind.u64 0, Value.pointer none, Value.pointer none, Value.bool true, Value.bool false, Value.bool false, Value.bool false, Value.bool false] 43)).alloc (Obj.cells #[Value.nilIface, Value.int IntKind.u64 0, Value.pointer none, Value.pointer none, Value.bool true, Value.bool false, Value.bool false, Value.bool false, Value.bool false] 43)).alloc (Obj.cells #[Value.nilIface, Value.int IntKind.u64 0, Value.pointer none, Value.pointer none, Value.bool true, Value.bool false, Value.bool false, Value.bool false, Value.bool false] 43)) = w' := by
  go_enter Tryz.func20, Tryz.ntmps20
  go_wp2_with (first | (go_at_call 24; ((with_reducible refine (no_nil _).mono ?_); rintro e w' ⟨rfl, rfl⟩)))
  exact bodyPost_ret (v := (Value.agg #[Value.nilIface, Value.int IntKind.u64 0, Value.pointer none, Value.pointer none, Value.bool true, Value.bool false, Value.bool false, Value.bool false, Value.bool false])) (by simp [results, Tryz.results20, go_sem]) rfl ⟨rfl, rfl⟩

theorem c_21 (k : Int) (p q r : Bool) (w : World)  : Calls Tryz.prog 21 #[.int .u64 k, .bool p, .bool q, .bool r] w fun e w' => e = .returned (Value.agg #[Value.nilIface, Value.int IntKind.u64 k, Value.pointer none, Value.pointer none, Value.bool r, Value.bool false, Value.bool false, Value.bool p, Value.bool q]) ∧ (w.alloc (Obj.cells #[Value.nilIface, Value.int IntKind.u64 k, Value.pointer none, Value.pointer none, Value.bool r, Value.bool false, Value.bool false, Value.bool p, Value.bool q] 43)) = w' := by
  go_enter Tryz.func21, Tryz.ntmps21
  go_wp2
  exact bodyPost_ret (v := (Value.agg #[Value.nilIface, Value.int IntKind.u64 k, Value.pointer none, Value.pointer none, Value.bool r, Value.bool false, Value.bool false, Value.bool p, Value.bool q])) (by simp [results, Tryz.results21, go_sem]) rfl ⟨rfl, rfl⟩

theorem tt  (w : World)  : Calls Tryz.prog 22 #[] w fun e w' => e = .returned (Value.iface 62 (Value.pointer (some { block := 0, off := 58 }))) ∧ (w) = w' := by
  go_enter Tryz.func22, Tryz.ntmps22
  go_wp2
  exact bodyPost_ret (v := (Value.iface 62 (Value.pointer (some { block := 0, off := 58 })))) (by simp [results, Tryz.results22, go_sem]) rfl ⟨rfl, rfl⟩

theorem dt  (w : World)  : Calls Tryz.prog 23 #[] w fun e w' => e = .returned (Value.iface 62 (Value.pointer (some { block := 0, off := 59 }))) ∧ (w) = w' := by
  go_enter Tryz.func23, Tryz.ntmps23
  go_wp2
  exact bodyPost_ret (v := (Value.iface 62 (Value.pointer (some { block := 0, off := 59 })))) (by simp [results, Tryz.results23, go_sem]) rfl ⟨rfl, rfl⟩

theorem mk_0 (k : Int) (p q r : Bool) (x : Int) (f : Nat) (s : ByteArray) (b : Bool) (w : World)  : Calls Tryz.prog 6 #[.int .i64 0, .int .u64 k, .bool p, .bool q, .bool r, .int .i64 x, .float .f64 f, .string s, .bool b] w fun e w' => e = .returned (Value.agg #[Value.nilIface, Value.int IntKind.u64 k, Value.pointer none, Value.pointer none, Value.bool r, Value.bool false, Value.bool false, Value.bool p, Value.bool q]) ∧ ((w.alloc (Obj.cells #[Value.nilIface, Value.int IntKind.u64 k, Value.pointer none, Value.pointer none, Value.bool r, Value.bool false, Value.bool false, Value.bool p, Value.bool q] 43)).alloc (Obj.cells #[Value.nilIface, Value.int IntKind.u64 k, Value.pointer none, Value.pointer none, Value.bool r, Value.bool false, Value.bool false, Value.bool p, Value.bool q] 43)) = w' := by
  go_enter Tryz.func6, Tryz.ntmps6
  go_wp2_with (first | (go_at_call 21; ((with_reducible refine (c_21 _ _ _ _ _).mono ?_); rintro e w' ⟨rfl, rfl⟩)))
  exact bodyPost_ret (v := (Value.agg #[Value.nilIface, Value.int IntKind.u64 k, Value.pointer none, Value.pointer none, Value.bool r, Value.bool false, Value.bool false, Value.bool p, Value.bool q])) (by simp [results, Tryz.results6, go_sem]) rfl ⟨rfl, rfl⟩

theorem mk_1 (k : Int) (p q r : Bool) (x : Int) (f : Nat) (s : ByteArray) (b : Bool) (w : World)  : Calls Tryz.prog 6 #[.int .i64 1, .int .u64 k, .bool p, .bool q, .bool r, .int .i64 x, .float .f64 f, .string s, .bool b] w fun e w' => e = .returned (Value.agg #[Value.iface 62 (Value.pointer (some { block := 0, off := 4 })), Value.int IntKind.u64 1, Value.pointer none, Value.pointer none, Value.bool false, Value.bool false, Value.bool false, Value.bool false, Value.bool false]) ∧ (((((w.alloc (Obj.cells #[Value.iface 62 (Value.pointer (some { block := 0, off := 4 })), Value.int IntKind.u64 1, Value.pointer none, Value.pointer none, Value.bool false, Value.bool false, Value.bool false, Value.bool false, Value.bool false] 43)).alloc (Obj.cells #[Value.iface 62 (Value.pointer (some { block := 0, off := 4 })), Value.int IntKind.u64 1, Value.pointer none, Value.pointer none, Value.bool false, Value.bool false, Value.bool false, Value.bool false, Value.bool false] 43)).alloc (Obj.cells #[Value.iface 62 (Value.pointer (some { block := 0, off := 4 })), Value.int IntKind.u64 1, Value.pointer none, Value.pointer none, Value.bool false, Value.bool false, Value.bool false, Value.bool false, Value.bool false] 43)).alloc (Obj.cells #[Value.iface 62 (Value.pointer (some { block := 0, off := 4 })), Value.int IntKind.u64 1, Value.pointer none, Value.pointer none, Value.bool false, Value.bool false, Value.bool false, Value.bool false, Value.bool false] 43)).alloc (Obj.cells #[Value.iface 62 (Value.pointer (some { block := 0, off := 4 })), Value.int IntKind.u64 1, Value.pointer none, Value.pointer none, Value.bool false, Value.bool false, Value.bool false, Value.bool false, Value.bool false] 43)) = w' := by
  go_enter Tryz.func6, Tryz.ntmps6
  go_wp2_with (first | (go_at_call 12; ((with_reducible refine (c_12 _ _).mono ?_); rintro e w' ⟨rfl, rfl⟩)))
  exact bodyPost_ret (v := (Value.agg #[Value.iface 62 (Value.pointer (some { block := 0, off := 4 })), Value.int IntKind.u64 1, Value.pointer none, Value.pointer none, Value.bool false, Value.bool false, Value.bool false, Value.bool false, Value.bool false])) (by simp [results, Tryz.results6, go_sem]) rfl ⟨rfl, rfl⟩

theorem mk_2 (k : Int) (p q r : Bool) (x : Int) (f : Nat) (s : ByteArray) (b : Bool) (w : World)  : Calls Tryz.prog 6 #[.int .i64 2, .int .u64 k, .bool p, .bool q, .bool r, .int .i64 x, .float .f64 f, .string s, .bool b] w fun e w' => e = .returned (Value.agg #[Value.iface 62 (Value.pointer (some { block := 0, off := 2 })), Value.int IntKind.u64 6, Value.pointer none, Value.pointer none, Value.bool false, Value.bool false, Value.bool false, Value.bool true, Value.bool false]) ∧ (((((w.alloc (Obj.cells #[Value.iface 62 (Value.pointer (some { block := 0, off := 2 })), Value.int IntKind.u64 6, Value.pointer none, Value.pointer none, Value.bool false, Value.bool false, Value.bool false, Value.bool true, Value.bool false] 43)).alloc (Obj.cells #[Value.iface 62 (Value.pointer (some { block := 0, off := 2 })), Value.int IntKind.u64 6, Value.pointer none, Value.pointer none, Value.bool false, Value.bool false, Value.bool false, Value.bool true, Value.bool false] 43)).alloc (Obj.cells #[Value.iface 62 (Value.pointer (some { block := 0, off := 2 })), Value.int IntKind.u64 6, Value.pointer none, Value.pointer none, Value.bool false, Value.bool false, Value.bool false, Value.bool true, Value.bool false] 43)).alloc (Obj.cells #[Value.iface 62 (Value.pointer (some { block := 0, off := 2 })), Value.int IntKind.u64 6, Value.pointer none, Value.pointer none, Value.bool false, Value.bool false, Value.bool false, Value.bool true, Value.bool false] 43)).alloc (Obj.cells #[Value.iface 62 (Value.pointer (some { block := 0, off := 2 })), Value.int IntKind.u64 6, Value.pointer none, Value.pointer none, Value.bool false, Value.bool false, Value.bool false, Value.bool true, Value.bool false] 43)) = w' := by
  go_enter Tryz.func6, Tryz.ntmps6
  go_wp2_with (first | (go_at_call 13; ((with_reducible refine (c_13 _ _).mono ?_); rintro e w' ⟨rfl, rfl⟩)))
  exact bodyPost_ret (v := (Value.agg #[Value.iface 62 (Value.pointer (some { block := 0, off := 2 })), Value.int IntKind.u64 6, Value.pointer none, Value.pointer none, Value.bool false, Value.bool false, Value.bool false, Value.bool true, Value.bool false])) (by simp [results, Tryz.results6, go_sem]) rfl ⟨rfl, rfl⟩

theorem mk_3 (k : Int) (p q r : Bool) (x : Int) (f : Nat) (s : ByteArray) (b : Bool) (w : World)  : Calls Tryz.prog 6 #[.int .i64 3, .int .u64 k, .bool p, .bool q, .bool r, .int .i64 x, .float .f64 f, .string s, .bool b] w fun e w' => e = .returned (Value.agg #[Value.iface 62 (Value.pointer (some { block := 0, off := 27 })), Value.int IntKind.u64 14, Value.pointer none, Value.pointer none, Value.bool false, Value.bool false, Value.bool false, Value.bool false, Value.bool true]) ∧ (((((w.alloc (Obj.cells #[Value.iface 62 (Value.pointer (some { block := 0, off := 27 })), Value.int IntKind.u64 14, Value.pointer none, Value.pointer none, Value.bool false, Value.bool false, Value.bool false, Value.bool false, Value.bool true] 43)).alloc (Obj.cells #[Value.iface 62 (Value.pointer (some { block := 0, off := 27 })), Value.int IntKind.u64 14, Value.pointer none, Value.pointer none, Value.bool false, Value.bool false, Value.bool false, Value.bool false, Value.bool true] 43)).alloc (Obj.cells #[Value.iface 62 (Value.pointer (some { block := 0, off := 27 })), Value.int IntKind.u64 14, Value.pointer none, Value.pointer none, Value.bool false, Value.bool false, Value.bool false, Value.bool false, Value.bool true] 43)).alloc (Obj.cells #[Value.iface 62 (Value.pointer (some { block := 0, off := 27 })), Value.int IntKind.u64 14, Value.pointer none, Value.pointer none, Value.bool false, Value.bool false, Value.bool false, Value.bool false, Value.bool true] 43)).alloc (Obj.cells #[Value.iface 62 (Value.pointer (some { block := 0, off := 27 })), Value.int IntKind.u64 14, Value.pointer none, Value.pointer none, Value.bool false, Value.bool false, Value.bool false, Value.bool false, Value.bool true] 43)) = w' := by
  go_enter Tryz.func6, Tryz.ntmps6
  go_wp2_with (first | (go_at_call 14; ((with_reducible refine (c_14 _ _).mono ?_); rintro e w' ⟨rfl, rfl⟩)))
  exact bodyPost_ret (v := (Value.agg #[Value.iface 62 (Value.pointer (some { block := 0, off := 27 })), Value.int IntKind.u64 14, Value.pointer none, Value.pointer none, Value.bool false, Value.bool false, Value.bool false, Value.bool false, Value.bool true])) (by simp [results, Tryz.results6, go_sem]) rfl ⟨rfl, rfl⟩

theorem mk_4 (k : Int) (p q r : Bool) (x : Int) (f : Nat) (s : ByteArray) (b : Bool) (w : World)  : Calls Tryz.prog 6 #[.int .i64 4, .int .u64 k, .bool p, .bool q, .bool r, .int .i64 x, .float .f64 f, .string s, .bool b] w fun e w' => e = .returned (Value.agg #[Value.iface 62 (Value.pointer (some { block := 0, off := 9 })), Value.int IntKind.u64 24, Value.pointer none, Value.pointer none, Value.bool false, Value.bool false, Value.bool false, Value.bool false, Value.bool false]) ∧ (((((w.alloc (Obj.cells #[Value.iface 62 (Value.pointer (some { block := 0, off := 9 })), Value.int IntKind.u64 24, Value.pointer none, Value.pointer none, Value.bool false, Value.bool false, Value.bool false, Value.bool false, Value.bool false] 43)).alloc (Obj.cells #[Value.iface 62 (Value.pointer (some { block := 0, off := 9 })), Value.int IntKind.u64 24, Value.pointer none, Value.pointer none, Value.bool false, Value.bool false, Value.bool false, Value.bool false, Value.bool false] 43)).alloc (Obj.cells #[Value.iface 62 (Value.pointer (some { block := 0, off := 9 })), Value.int IntKind.u64 24, Value.pointer none, Value.pointer none, Value.bool false, Value.bool false, Value.bool false, Value.bool false, Value.bool false] 43)).alloc (Obj.cells #[Value.iface 62 (Value.pointer (some { block := 0, off := 9 })), Value.int IntKind.u64 24, Value.pointer none, Value.pointer none, Value.bool false, Value.bool false, Value.bool false, Value.bool false, Value.bool false] 43)).alloc (Obj.cells #[Value.iface 62 (Value.pointer (some { block := 0, off := 9 })), Value.int IntKind.u64 24, Value.pointer none, Value.pointer none, Value.bool false, Value.bool false, Value.bool false, Value.bool false, Value.bool false] 43)) = w' := by
  go_enter Tryz.func6, Tryz.ntmps6
  go_wp2_with (first | (go_at_call 15; ((with_reducible refine (c_15 _ _).mono ?_); rintro e w' ⟨rfl, rfl⟩)))
  exact bodyPost_ret (v := (Value.agg #[Value.iface 62 (Value.pointer (some { block := 0, off := 9 })), Value.int IntKind.u64 24, Value.pointer none, Value.pointer none, Value.bool false, Value.bool false, Value.bool false, Value.bool false, Value.bool false])) (by simp [results, Tryz.results6, go_sem]) rfl ⟨rfl, rfl⟩

theorem mk_5 (k : Int) (p q r : Bool) (x : Int) (f : Nat) (s : ByteArray) (b : Bool) (w : World)  : Calls Tryz.prog 6 #[.int .i64 5, .int .u64 k, .bool p, .bool q, .bool r, .int .i64 x, .float .f64 f, .string s, .bool b] w fun e w' => e = .returned (Value.agg #[Value.iface 62 (Value.pointer (some { block := 0, off := 58 })), Value.int IntKind.u64 25, Value.pointer (some { block := w.heap.size + 1 + 1 + 1 + 1 + 1, off := 0 }), Value.pointer none, Value.bool false, Value.bool false, Value.bool false, Value.bool false, Value.bool false]) ∧ ((((((w.alloc (Obj.cells #[Value.iface 62 (Value.pointer (some { block := 0, off := 58 })), Value.int IntKind.u64 25, Value.pointer (some { block := w.heap.size + 1 + 1 + 1 + 1 + 1, off := 0 }), Value.pointer none, Value.bool false, Value.bool false, Value.bool false, Value.bool false, Value.bool false] 43)).alloc (Obj.cells #[Value.iface 62 (Value.pointer (some { block := 0, off := 58 })), Value.int IntKind.u64 25, Value.pointer (some { block := w.heap.size + 1 + 1 + 1 + 1 + 1, off := 0 }), Value.pointer none, Value.bool false, Value.bool false, Value.bool false, Value.bool false, Value.bool false] 43)).alloc (Obj.cells #[Value.iface 62 (Value.pointer (some { block := 0, off := 58 })), Value.int IntKind.u64 25, Value.pointer (some { block := w.heap.size + 1 + 1 + 1 + 1 + 1, off := 0 }), Value.pointer none, Value.bool false, Value.bool false, Value.bool false, Value.bool false, Value.bool false] 43)).alloc (Obj.cells #[Value.iface 62 (Value.pointer (some { block := 0, off := 58 })), Value.int IntKind.u64 25, Value.pointer (some { block := w.heap.size + 1 + 1 + 1 + 1 + 1, off := 0 }), Value.pointer none, Value.bool false, Value.bool false, Value.bool false, Value.bool false, Value.bool false] 43)).alloc (Obj.cells #[Value.iface 62 (Value.pointer (some { block := 0, off := 58 })), Value.int IntKind.u64 25, Value.pointer (some { block := w.heap.size + 1 + 1 + 1 + 1 + 1, off := 0 }), Value.pointer none, Value.bool false, Value.bool false, Value.bool false, Value.bool false, Value.bool false] 43)).alloc (Obj.cells #[Value.pointer none, Value.pointer none, Value.map none, Value.pointer none, Value.pointer none, Value.int IntKind.i64 0, Value.pointer none, Value.pointer none, Value.int IntKind.i64 0, Value.int IntKind.i64 0, Value.bool false, Value.bool false, Value.bool false, Value.bool false] 71)) = w' := by
  go_enter Tryz.func6, Tryz.ntmps6
  go_wp2_with (first | (go_at_call 16; ((with_reducible refine (c_16 _).mono ?_); rintro e w' ⟨rfl, rfl⟩)))
  exact bodyPost_ret (v := (Value.agg #[Value.iface 62 (Value.pointer (some { block := 0, off := 58 })), Value.int IntKind.u64 25, Value.pointer (some { block := w.heap.size + 1 + 1 + 1 + 1 + 1, off := 0 }), Value.pointer none, Value.bool false, Value.bool false, Value.bool false, Value.bool false, Value.bool false])) (by simp [results, Tryz.results6, go_sem]) rfl ⟨rfl, rfl⟩

theorem mk_6 (k : Int) (p q r : Bool) (x : Int) (f : Nat) (s : ByteArray) (b : Bool) (w : World)  : Calls Tryz.prog 6 #[.int .i64 6, .int .u64 k, .bool p, .bool q, .bool r, .int .i64 x, .float .f64 f, .string s, .bool b] w fun e w' => e = .returned (Value.agg #[Value.iface 62 (Value.pointer (some { block := 0, off := 59 })), Value.int IntKind.u64 6, Value.pointer none, Value.pointer none, Value.bool false, Value.bool false, Value.bool false, Value.bool false, Value.bool false]) ∧ (((((w.alloc (Obj.cells #[Value.iface 62 (Value.pointer (some { block := 0, off := 59 })), Value.int IntKind.u64 6, Value.pointer none, Value.pointer none, Value.bool false, Value.bool false, Value.bool false, Value.bool false, Value.bool false] 43)).alloc (Obj.cells #[Value.iface 62 (Value.pointer (some { block := 0, off := 59 })), Value.int IntKind.u64 6, Value.pointer none, Value.pointer none, Value.bool false, Value.bool false, Value.bool false, Value.bool false, Value.bool false] 43)).alloc (Obj.cells #[Value.iface 62 (Value.pointer (some { block := 0, off := 59 })), Value.int IntKind.u64 6, Value.pointer none, Value.pointer none, Value.bool false, Value.bool false, Value.bool false, Value.bool false, Value.bool false] 43)).alloc (Obj.cells #[Value.iface 62 (Value.pointer (some { block := 0, off := 59 })), Value.int IntKind.u64 6, Value.pointer none, Value.pointer none, Value.bool false, Value.bool false, Value.bool false, Value.bool false, Value.bool false] 43)).alloc (Obj.cells #[Value.iface 62 (Value.pointer (some { block := 0, off := 59 })), Value.int IntKind.u64 6, Value.pointer none, Value.pointer none, Value.bool false, Value.bool false, Value.bool false, Value.bool false, Value.bool false] 43)) = w' := by
  go_enter Tryz.func6, Tryz.ntmps6
  go_wp2_with (first | (go_at_call 17; ((with_reducible refine (c_17 _ _).mono ?_); rintro e w' ⟨rfl, rfl⟩)))
  exact bodyPost_ret (v := (Value.agg #[Value.iface 62 (Value.pointer (some { block := 0, off := 59 })), Value.int IntKind.u64 6, Value.pointer none, Value.pointer none, Value.bool false, Value.bool false, Value.bool false, Value.bool false, Value.bool false])) (by simp [results, Tryz.results6, go_sem]) rfl ⟨rfl, rfl⟩

theorem mk_7 (k : Int) (p q r : Bool) (x : Int) (f : Nat) (s : ByteArray) (b : Bool) (w : World)  : Calls Tryz.prog 6 #[.int .i64 7, .int .u64 k, .bool p, .bool q, .bool r, .int .i64 x, .float .f64 f, .string s, .bool b] w fun e w' => e = .returned (Value.agg #[Value.iface 62 (Value.pointer (some { block := 0, off := 3 })), Value.int IntKind.u64 2, Value.pointer none, Value.pointer none, Value.bool false, Value.bool false, Value.bool false, Value.bool true, Value.bool false]) ∧ (((((w.alloc (Obj.cells #[Value.iface 62 (Value.pointer (some { block := 0, off := 3 })), Value.int IntKind.u64 2, Value.pointer none, Value.pointer none, Value.bool false, Value.bool false, Value.bool false, Value.bool true, Value.bool false] 43)).alloc (Obj.cells #[Value.iface 62 (Value.pointer (some { block := 0, off := 3 })), Value.int IntKind.u64 2, Value.pointer none, Value.pointer none, Value.bool false, Value.bool false, Value.bool false, Value.bool true, Value.bool false] 43)).alloc (Obj.cells #[Value.iface 62 (Value.pointer (some { block := 0, off := 3 })), Value.int IntKind.u64 2, Value.pointer none, Value.pointer none, Value.bool false, Value.bool false, Value.bool false, Value.bool true, Value.bool false] 43)).alloc (Obj.cells #[Value.iface 62 (Value.pointer (some { block := 0, off := 3 })), Value.int IntKind.u64 2, Value.pointer none, Value.pointer none, Value.bool false, Value.bool false, Value.bool false, Value.bool true, Value.bool false] 43)).alloc (Obj.cells #[Value.iface 62 (Value.pointer (some { block := 0, off := 3 })), Value.int IntKind.u64 2, Value.pointer none, Value.pointer none, Value.bool false, Value.bool false, Value.bool false, Value.bool true, Value.bool false] 43)) = w' := by
  go_enter Tryz.func6, Tryz.ntmps6
  go_wp2_with (first | (go_at_call 18; ((with_reducible refine (c_18 _ _).mono ?_); rintro e w' ⟨rfl, rfl⟩)))
  exact bodyPost_ret (v := (Value.agg #[Value.iface 62 (Value.pointer (some { block := 0, off := 3 })), Value.int IntKind.u64 2, Value.pointer none, Value.pointer none, Value.bool false, Value.bool false, Value.bool false, Value.bool true, Value.bool false])) (by simp [results, Tryz.results6, go_sem]) rfl ⟨rfl, rfl⟩

theorem mk_9 (k : Int) (p q r : Bool) (x : Int) (f : Nat) (s : ByteArray) (b : Bool) (w : World)  : Calls Tryz.prog 6 #[.int .i64 9, .int .u64 k, .bool p, .bool q, .bool r, .int .i64 x, .float .f64 f, .string s, .bool b] w fun e w' => e = .returned (Value.agg #[Value.nilIface, Value.int IntKind.u64 0, Value.pointer none, Value.pointer none, Value.bool true, Value.bool false, Value.bool false, Value.bool false, Value.bool false]) ∧ ((((w.alloc (Obj.cells #[Value.nilIface, Value.int IntKind.u64 0, Value.pointer none, Value.pointer none, Value.bool true, Value.bool false, Value.bool false, Value.bool false, Value.bool false] 43)).alloc (Obj.cells #[Value.nilIface, Value.int IntKind.u64 0, Value.pointer none, Value.pointer none, Value.bool true, Value.bool false, Value.bool false, Value.bool false, Value.bool false] 43)).alloc (Obj.cells #[Value.nilIface, Value.int IntKind.u64 0, Value.pointer none, Value.pointer none, Value.bool true, Value.bool false, Value.bool false, Value.bool false, Value.bool false] 43)).alloc (Obj.cells #[Value.nilIface, Value.int IntKind.u64 0, Value.pointer none, Value.pointer none, Value.bool true, Value.bool false, Value.bool false, Value.bool false, Value.bool false] 43)) = w' := by
  go_enter Tryz.func6, Tryz.ntmps6
  go_wp2_with (first | (go_at_call 20; ((with_reducible refine (c_20 _).mono ?_); rintro e w' ⟨rfl, rfl⟩)))
  exact bodyPost_ret (v := (Value.agg #[Value.nilIface, Value.int IntKind.u64 0, Value.pointer none, Value.pointer none, Value.bool true, Value.bool false, Value.bool false, Value.bool false, Value.bool false])) (by simp [results, Tryz.results6, go_sem]) rfl ⟨rfl, rfl⟩

theorem conv0 (f : Nat) (w : World) : (convert 27 26 (.float .f64 f)).run Tryz.prog w = (Conv.floatToFloat .f64 f .f32).run Tryz.prog w := by kernel_rfl
theorem choose_run (q : Question) (w : World) : ∃ y u, (choose q).run Tryz.prog w = .ok y u ∧ (u = w ∨ u = w.drew) := by
  rw [run_choose_drew]
  split
  · exact ⟨_, _, rfl, Or.inl rfl⟩
  · exact ⟨_, _, rfl, Or.inr rfl⟩
theorem conv_run (f : Nat) (w : World) : ∃ y u, (convert 27 26 (.float .f64 f)).run Tryz.prog w = .ok (.float .f32 y) u ∧ (u = w ∨ u = w.drew) := by
  rw [conv0]
  unfold Conv.floatToFloat
  rw [if_neg (by decide)]
  split
  · obtain ⟨y, u, h, hu⟩ := choose_run (.nanConv .f32 f) w
    exact ⟨y, u, by simp only [Sem.run_bind, h, Result.andThen_ok, Sem.run_pure], hu⟩
  · exact ⟨_, w, rfl, Or.inl rfl⟩
  · dsimp only
    split
    · obtain ⟨y, u, h, hu⟩ := choose_run (.floatToFloat f) w
      exact ⟨y, u, by simp only [Sem.run_bind, h, Result.andThen_ok, Sem.run_pure], hu⟩
    · exact ⟨_, w, rfl, Or.inl rfl⟩
theorem bmk_8 (k : Int) (p q r : Bool) (x : Int) (f : Nat) (s : ByteArray) (b : Bool) (w : World) : Calls Tryz.prog 6 #[.int .i64 8, .int .u64 k, .bool p, .bool q, .bool r, .int .i64 x, .float .f64 f, .string s, .bool b] w fun e w' => e = .returned (.agg #[.iface 62 (.pointer (some ⟨0, 26, none⟩)), .int .u64 13, .pointer none, .pointer none, .bool false, .bool false, .bool false, .bool false, .bool true]) ∧ Below w.heap.size w w' := by
  go_enter Tryz.func6, Tryz.ntmps6
  go_wp2
  obtain ⟨y, v, h, hv⟩ := conv_run f (w.alloc (.cells #[.nilIface, .int .u64 0, .pointer none, .pointer none, .bool false, .bool false, .bool false, .bool false, .bool false] 43))
  rw [h]
  have hF := Below.refl w.heap.size w
  rcases hv with rfl | rfl
  all_goals
    clear h
    go_simp
    go_wp2_with (go_at_call 19; ((with_reducible refine (c_19 _ _).mono ?_); rintro e w' ⟨rfl, rfl⟩))
    refine bodyPost_ret (v := .agg #[.iface 62 (.pointer (some ⟨0, 26, none⟩)), .int .u64 13, .pointer none, .pointer none, .bool false, .bool false, .bool false, .bool false, .bool true]) (by simp [results, Tryz.results6, go_sem]) rfl ?_
    refine ⟨rfl, ?_⟩
    repeat (first | with_reducible exact hF | with_reducible refine Below.drew ?_ | with_reducible refine bdn ?_ _ | with_reducible refine bal ?_ _)

@[go_sem] theorem nil_eq (b : Nat) (w : World) : (binOp .eql 38 .nilIface (.iface 62 (.pointer (some ⟨0, b, none⟩)))).run Tryz.prog w = .ok (.bool false) w := by kernel_rfl

theorem isT (b : Nat) (t : Nat)  (w : World) (hb : b < w.heap.size) (h : w.cell? ⟨b, 0, none⟩ = some (.iface 62 (.pointer (some ⟨0, t, none⟩)))) : Calls Tryz.prog 7 #[.pointer (some ⟨b, 0, none⟩)] w fun e w' => e = .returned (Value.bool (t == 58)) ∧ (w.drew) = w' := by
  go_enter Tryz.func7, Tryz.ntmps7
  go_wp2_with fail
  go_region_with (go_at_call 22; ((with_reducible refine (tt _).mono ?_); rintro e w' ⟨rfl, rfl⟩))
  all_goals go_wp2
  all_goals exact bodyPost_ret (v := (Value.bool (t == 58))) (by simp [results, Tryz.results7, go_sem]) rfl ⟨rfl, rfl⟩

theorem isT0 (b : Nat)  (w : World) (hb : b < w.heap.size) (h : w.cell? ⟨b, 0, none⟩ = some (.nilIface)) : Calls Tryz.prog 7 #[.pointer (some ⟨b, 0, none⟩)] w fun e w' => e = .returned (Value.bool false) ∧ (w.drew) = w' := by
  go_enter Tryz.func7, Tryz.ntmps7
  go_wp2_with fail
  go_region_with (go_at_call 22; ((with_reducible refine (tt _).mono ?_); rintro e w' ⟨rfl, rfl⟩))
  all_goals go_wp2
  all_goals exact bodyPost_ret (v := (Value.bool false)) (by simp [results, Tryz.results7, go_sem]) rfl ⟨rfl, rfl⟩

theorem isD (b : Nat) (t : Nat)  (w : World) (hb : b < w.heap.size) (h : w.cell? ⟨b, 0, none⟩ = some (.iface 62 (.pointer (some ⟨0, t, none⟩)))) : Calls Tryz.prog 8 #[.pointer (some ⟨b, 0, none⟩)] w fun e w' => e = .returned (Value.bool (t == 59)) ∧ (w.drew) = w' := by
  go_enter Tryz.func8, Tryz.ntmps8
  go_wp2_with fail
  go_region_with (go_at_call 23; ((with_reducible refine (dt _).mono ?_); rintro e w' ⟨rfl, rfl⟩))
  all_goals go_wp2
  all_goals exact bodyPost_ret (v := (Value.bool (t == 59))) (by simp [results, Tryz.results8, go_sem]) rfl ⟨rfl, rfl⟩

theorem isD0 (b : Nat)  (w : World) (hb : b < w.heap.size) (h : w.cell? ⟨b, 0, none⟩ = some (.nilIface)) : Calls Tryz.prog 8 #[.pointer (some ⟨b, 0, none⟩)] w fun e w' => e = .returned (Value.bool false) ∧ (w.drew) = w' := by
  go_enter Tryz.func8, Tryz.ntmps8
  go_wp2_with fail
  go_region_with (go_at_call 23; ((with_reducible refine (dt _).mono ?_); rintro e w' ⟨rfl, rfl⟩))
  all_goals go_wp2
  all_goals exact bodyPost_ret (v := (Value.bool false)) (by simp [results, Tryz.results8, go_sem]) rfl ⟨rfl, rfl⟩

theorem zb (a k : Int) (p q r : Bool) (x : Int) (f : Nat) (s : ByteArray) (b : Bool) (w : World) : Calls Tryz.prog 5 #[.int .i64 a, .int .u64 k, .bool p, .bool q, .bool r, .int .i64 x, .float .f64 f, .string s, .bool b] w fun e w' => ∃ b, e = .returned (.bool b) ∧ w = w' := by
  go_enter Tryz.func5, Tryz.ntmps5
  go_wp2
  all_goals
    go_ret
    exact ⟨_, rfl, rfl⟩
theorem case_0 (k : Int) (p q r : Bool) (x : Int) (f : Nat) (s : ByteArray) (b : Bool) (w : World) : Calls Tryz.prog 3 #[.int .i64 0, .int .u64 k, .bool p, .bool q, .bool r, .int .i64 x, .float .f64 f, .string s, .bool b] w fun e w' => e = .returned (.bool true) ∧ Below w.heap.size w w' := by
  go_enter Tryz.func3, Tryz.ntmps3
  go_wp2_with (first | (go_at_call 5; ((with_reducible refine (zb _ _ _ _ _ _ _ _ _ _).mono ?_); rintro e w' ⟨bb, rfl, rfl⟩)) | (go_at_call 6; ((with_reducible refine (mk_0 _ _ _ _ _ _ _ _ _ ).mono ?_); rintro e w' ⟨rfl, rfl⟩)) | (go_at_call 7; refine (isT0 _ _ (by simp <;> omega) (by simp [go_sem])).mono ?_; rintro e w' ⟨rfl, rfl⟩) | (go_at_call 8; refine (isD0 _ _ (by simp <;> omega) (by simp [go_sem])).mono ?_; rintro e w' ⟨rfl, rfl⟩) | (go_at_call 9; go_in) | (go_at_call 11; go_in))
  all_goals
    go_ret
    refine ⟨rfl, ?_⟩
    repeat (first | with_reducible refine bal ?_ _ | with_reducible refine Below.drew ?_ | with_reducible refine bdn ?_ _)
    exact Below.refl _ _
theorem case_1 (k : Int) (p q r : Bool) (x : Int) (f : Nat) (s : ByteArray) (b : Bool) (w : World) : Calls Tryz.prog 3 #[.int .i64 1, .int .u64 k, .bool p, .bool q, .bool r, .int .i64 x, .float .f64 f, .string s, .bool b] w fun e w' => e = .returned (.bool true) ∧ Below w.heap.size w w' := by
  go_enter Tryz.func3, Tryz.ntmps3
  go_wp2_with (first | (go_at_call 5; ((with_reducible refine (zb _ _ _ _ _ _ _ _ _ _).mono ?_); rintro e w' ⟨bb, rfl, rfl⟩)) | (go_at_call 6; ((with_reducible refine (mk_1 _ _ _ _ _ _ _ _ _ ).mono ?_); rintro e w' ⟨rfl, rfl⟩)) | (go_at_call 7; refine (isT _ 4 _ (by simp <;> omega) (by simp [go_sem])).mono ?_; rintro e w' ⟨rfl, rfl⟩) | (go_at_call 8; refine (isD _ 4 _ (by simp <;> omega) (by simp [go_sem])).mono ?_; rintro e w' ⟨rfl, rfl⟩) | (go_at_call 9; go_in) | (go_at_call 11; go_in))
  all_goals
    go_ret
    refine ⟨rfl, ?_⟩
    repeat (first | with_reducible refine bal ?_ _ | with_reducible refine Below.drew ?_ | with_reducible refine bdn ?_ _)
    exact Below.refl _ _
theorem case_2 (k : Int) (p q r : Bool) (x : Int) (f : Nat) (s : ByteArray) (b : Bool) (w : World) : Calls Tryz.prog 3 #[.int .i64 2, .int .u64 k, .bool p, .bool q, .bool r, .int .i64 x, .float .f64 f, .string s, .bool b] w fun e w' => e = .returned (.bool true) ∧ Below w.heap.size w w' := by
  go_enter Tryz.func3, Tryz.ntmps3
  go_wp2_with (first | (go_at_call 5; ((with_reducible refine (zb _ _ _ _ _ _ _ _ _ _).mono ?_); rintro e w' ⟨bb, rfl, rfl⟩)) | (go_at_call 6; ((with_reducible refine (mk_2 _ _ _ _ _ _ _ _ _ ).mono ?_); rintro e w' ⟨rfl, rfl⟩)) | (go_at_call 7; refine (isT _ 2 _ (by simp <;> omega) (by simp [go_sem])).mono ?_; rintro e w' ⟨rfl, rfl⟩) | (go_at_call 8; refine (isD _ 2 _ (by simp <;> omega) (by simp [go_sem])).mono ?_; rintro e w' ⟨rfl, rfl⟩) | (go_at_call 9; go_in) | (go_at_call 11; go_in))
  all_goals
    go_ret
    refine ⟨rfl, ?_⟩
    repeat (first | with_reducible refine bal ?_ _ | with_reducible refine Below.drew ?_ | with_reducible refine bdn ?_ _)
    exact Below.refl _ _
theorem case_3 (k : Int) (p q r : Bool) (x : Int) (f : Nat) (s : ByteArray) (b : Bool) (w : World) : Calls Tryz.prog 3 #[.int .i64 3, .int .u64 k, .bool p, .bool q, .bool r, .int .i64 x, .float .f64 f, .string s, .bool b] w fun e w' => e = .returned (.bool true) ∧ Below w.heap.size w w' := by
  go_enter Tryz.func3, Tryz.ntmps3
  go_wp2_with (first | (go_at_call 5; ((with_reducible refine (zb _ _ _ _ _ _ _ _ _ _).mono ?_); rintro e w' ⟨bb, rfl, rfl⟩)) | (go_at_call 6; ((with_reducible refine (mk_3 _ _ _ _ _ _ _ _ _ ).mono ?_); rintro e w' ⟨rfl, rfl⟩)) | (go_at_call 7; refine (isT _ 27 _ (by simp <;> omega) (by simp [go_sem])).mono ?_; rintro e w' ⟨rfl, rfl⟩) | (go_at_call 8; refine (isD _ 27 _ (by simp <;> omega) (by simp [go_sem])).mono ?_; rintro e w' ⟨rfl, rfl⟩) | (go_at_call 9; go_in) | (go_at_call 11; go_in))
  all_goals
    go_ret
    refine ⟨rfl, ?_⟩
    repeat (first | with_reducible refine bal ?_ _ | with_reducible refine Below.drew ?_ | with_reducible refine bdn ?_ _)
    exact Below.refl _ _
theorem case_4 (k : Int) (p q r : Bool) (x : Int) (f : Nat) (s : ByteArray) (b : Bool) (w : World) : Calls Tryz.prog 3 #[.int .i64 4, .int .u64 k, .bool p, .bool q, .bool r, .int .i64 x, .float .f64 f, .string s, .bool b] w fun e w' => e = .returned (.bool true) ∧ Below w.heap.size w w' := by
  go_enter Tryz.func3, Tryz.ntmps3
  go_wp2_with (first | (go_at_call 5; ((with_reducible refine (zb _ _ _ _ _ _ _ _ _ _).mono ?_); rintro e w' ⟨bb, rfl, rfl⟩)) | (go_at_call 6; ((with_reducible refine (mk_4 _ _ _ _ _ _ _ _ _ ).mono ?_); rintro e w' ⟨rfl, rfl⟩)) | (go_at_call 7; refine (isT _ 9 _ (by simp <;> omega) (by simp [go_sem])).mono ?_; rintro e w' ⟨rfl, rfl⟩) | (go_at_call 8; refine (isD _ 9 _ (by simp <;> omega) (by simp [go_sem])).mono ?_; rintro e w' ⟨rfl, rfl⟩) | (go_at_call 9; go_in) | (go_at_call 11; go_in))
  all_goals
    go_ret
    refine ⟨rfl, ?_⟩
    repeat (first | with_reducible refine bal ?_ _ | with_reducible refine Below.drew ?_ | with_reducible refine bdn ?_ _)
    exact Below.refl _ _
theorem case_5 (k : Int) (p q r : Bool) (x : Int) (f : Nat) (s : ByteArray) (b : Bool) (w : World) : Calls Tryz.prog 3 #[.int .i64 5, .int .u64 k, .bool p, .bool q, .bool r, .int .i64 x, .float .f64 f, .string s, .bool b] w fun e w' => e = .returned (.bool true) ∧ Below w.heap.size w w' := by
  go_enter Tryz.func3, Tryz.ntmps3
  go_wp2_with (first | (go_at_call 5; ((with_reducible refine (zb _ _ _ _ _ _ _ _ _ _).mono ?_); rintro e w' ⟨bb, rfl, rfl⟩)) | (go_at_call 6; ((with_reducible refine (mk_5 _ _ _ _ _ _ _ _ _ ).mono ?_); rintro e w' ⟨rfl, rfl⟩)) | (go_at_call 7; refine (isT _ 58 _ (by simp <;> omega) (by simp [go_sem])).mono ?_; rintro e w' ⟨rfl, rfl⟩) | (go_at_call 8; refine (isD _ 58 _ (by simp <;> omega) (by simp [go_sem])).mono ?_; rintro e w' ⟨rfl, rfl⟩) | (go_at_call 9; go_in) | (go_at_call 11; go_in))
  all_goals
    go_ret
    refine ⟨rfl, ?_⟩
    repeat (first | with_reducible refine bal ?_ _ | with_reducible refine Below.drew ?_ | with_reducible refine bdn ?_ _)
    exact Below.refl _ _
theorem case_6 (k : Int) (p q r : Bool) (x : Int) (f : Nat) (s : ByteArray) (b : Bool) (w : World) : Calls Tryz.prog 3 #[.int .i64 6, .int .u64 k, .bool p, .bool q, .bool r, .int .i64 x, .float .f64 f, .string s, .bool b] w fun e w' => e = .returned (.bool true) ∧ Below w.heap.size w w' := by
  go_enter Tryz.func3, Tryz.ntmps3
  go_wp2_with (first | (go_at_call 5; ((with_reducible refine (zb _ _ _ _ _ _ _ _ _ _).mono ?_); rintro e w' ⟨bb, rfl, rfl⟩)) | (go_at_call 6; ((with_reducible refine (mk_6 _ _ _ _ _ _ _ _ _ ).mono ?_); rintro e w' ⟨rfl, rfl⟩)) | (go_at_call 7; refine (isT _ 59 _ (by simp <;> omega) (by simp [go_sem])).mono ?_; rintro e w' ⟨rfl, rfl⟩) | (go_at_call 8; refine (isD _ 59 _ (by simp <;> omega) (by simp [go_sem])).mono ?_; rintro e w' ⟨rfl, rfl⟩) | (go_at_call 9; go_in) | (go_at_call 11; go_in))
  all_goals
    go_ret
    refine ⟨rfl, ?_⟩
    repeat (first | with_reducible refine bal ?_ _ | with_reducible refine Below.drew ?_ | with_reducible refine bdn ?_ _)
    exact Below.refl _ _
theorem case_7 (k : Int) (p q r : Bool) (x : Int) (f : Nat) (s : ByteArray) (b : Bool) (w : World) : Calls Tryz.prog 3 #[.int .i64 7, .int .u64 k, .bool p, .bool q, .bool r, .int .i64 x, .float .f64 f, .string s, .bool b] w fun e w' => e = .returned (.bool true) ∧ Below w.heap.size w w' := by
  go_enter Tryz.func3, Tryz.ntmps3
  go_wp2_with (first | (go_at_call 5; ((with_reducible refine (zb _ _ _ _ _ _ _ _ _ _).mono ?_); rintro e w' ⟨bb, rfl, rfl⟩)) | (go_at_call 6; ((with_reducible refine (mk_7 _ _ _ _ _ _ _ _ _ ).mono ?_); rintro e w' ⟨rfl, rfl⟩)) | (go_at_call 7; refine (isT _ 3 _ (by simp <;> omega) (by simp [go_sem])).mono ?_; rintro e w' ⟨rfl, rfl⟩) | (go_at_call 8; refine (isD _ 3 _ (by simp <;> omega) (by simp [go_sem])).mono ?_; rintro e w' ⟨rfl, rfl⟩) | (go_at_call 9; go_in) | (go_at_call 11; go_in))
  all_goals
    go_ret
    refine ⟨rfl, ?_⟩
    repeat (first | with_reducible refine bal ?_ _ | with_reducible refine Below.drew ?_ | with_reducible refine bdn ?_ _)
    exact Below.refl _ _
theorem case_8 (k : Int) (p q r : Bool) (x : Int) (f : Nat) (s : ByteArray) (b : Bool) (w : World) : Calls Tryz.prog 3 #[.int .i64 8, .int .u64 k, .bool p, .bool q, .bool r, .int .i64 x, .float .f64 f, .string s, .bool b] w fun e w' => e = .returned (.bool true) ∧ Below w.heap.size w w' := by
  have hF := Below.refl w.heap.size w
  go_enter Tryz.func3, Tryz.ntmps3
  go_wp2_with (first | (go_at_call 5; ((with_reducible refine (zb _ _ _ _ _ _ _ _ _ _).mono ?_); rintro e w' ⟨bb, rfl, rfl⟩)) | (go_at_call 6; ((with_reducible refine (bmk_8 _ _ _ _ _ _ _ _ _ ).mono ?_); rintro e w' ⟨rfl, hb⟩; have hF : Below w.heap.size w w' := bnext (Below.refl _ _) hb; clear hb)) | (go_at_call 7; refine (isT _ 26 _ (by simp <;> omega) (by simp [go_sem])).mono ?_; rintro e w' ⟨rfl, rfl⟩) | (go_at_call 8; refine (isD _ 26 _ (by simp <;> omega) (by simp [go_sem])).mono ?_; rintro e w' ⟨rfl, rfl⟩) | (go_at_call 9; go_in) | (go_at_call 11; go_in))
  all_goals
    go_ret
    refine ⟨rfl, ?_⟩
    repeat (first | with_reducible exact hF | with_reducible refine Below.drew ?_ | with_reducible refine bdn ?_ _ | with_reducible refine bal ?_ _)
theorem case_9 (k : Int) (p q r : Bool) (x : Int) (f : Nat) (s : ByteArray) (b : Bool) (w : World) : Calls Tryz.prog 3 #[.int .i64 9, .int .u64 k, .bool p, .bool q, .bool r, .int .i64 x, .float .f64 f, .string s, .bool b] w fun e w' => e = .returned (.bool true) ∧ Below w.heap.size w w' := by
  go_enter Tryz.func3, Tryz.ntmps3
  go_wp2_with (first | (go_at_call 5; ((with_reducible refine (zb _ _ _ _ _ _ _ _ _ _).mono ?_); rintro e w' ⟨bb, rfl, rfl⟩)) | (go_at_call 6; ((with_reducible refine (mk_9 _ _ _ _ _ _ _ _ _ ).mono ?_); rintro e w' ⟨rfl, rfl⟩)) | (go_at_call 7; refine (isT0 _ _ (by simp <;> omega) (by simp [go_sem])).mono ?_; rintro e w' ⟨rfl, rfl⟩) | (go_at_call 8; refine (isD0 _ _ (by simp <;> omega) (by simp [go_sem])).mono ?_; rintro e w' ⟨rfl, rfl⟩) | (go_at_call 9; go_in) | (go_at_call 11; go_in))
  all_goals
    go_ret
    refine ⟨rfl, ?_⟩
    repeat (first | with_reducible refine bal ?_ _ | with_reducible refine Below.drew ?_ | with_reducible refine bdn ?_ _)
    exact Below.refl _ _
theorem case_low (a : Int) (h : a < 0) (k : Int) (p q r : Bool) (x : Int) (f : Nat) (s : ByteArray) (b : Bool) (w : World) : Calls Tryz.prog 3 #[.int .i64 a, .int .u64 k, .bool p, .bool q, .bool r, .int .i64 x, .float .f64 f, .string s, .bool b] w fun e w' => e = .returned (.bool true) ∧ Below w.heap.size w w' := by
  go_enter Tryz.func3, Tryz.ntmps3
  go_wp2_with (go_at_call 5; ((with_reducible refine (zb _ _ _ _ _ _ _ _ _ _).mono ?_); rintro e w' ⟨bb, rfl, rfl⟩))
  all_goals
    go_ret
    exact ⟨rfl, Below.refl _ _⟩
theorem case_high (a : Int) (h : 9 < a) (k : Int) (p q r : Bool) (x : Int) (f : Nat) (s : ByteArray) (b : Bool) (w : World) : Calls Tryz.prog 3 #[.int .i64 a, .int .u64 k, .bool p, .bool q, .bool r, .int .i64 x, .float .f64 f, .string s, .bool b] w fun e w' => e = .returned (.bool true) ∧ Below w.heap.size w w' := by
  go_enter Tryz.func3, Tryz.ntmps3
  go_wp2_with (go_at_call 5; ((with_reducible refine (zb _ _ _ _ _ _ _ _ _ _).mono ?_); rintro e w' ⟨bb, rfl, rfl⟩))
  all_goals
    go_ret
    exact ⟨rfl, Below.refl _ _⟩
theorem walk (a k : Int) (p q r : Bool) (x : Int) (f : Nat) (s : ByteArray) (b : Bool) (w : World) (w0 : (Lit.int .i64 a).wf = true) (w1 : (Lit.int .u64 k).wf = true) (w5 : (Lit.int .i64 x).wf = true) (w7 : s.size ≤ maxLen) : Calls Tryz.prog 3 #[.int .i64 a, .int .u64 k, .bool p, .bool q, .bool r, .int .i64 x, .float .f64 f, .string s, .bool b] w fun e w' => e = .returned (.bool true) ∧ Below w.heap.size w w' := by
  by_cases c1 : a < 0
  · exact case_low a c1 k p q r x f s b w
  by_cases c2 : 9 < a
  · exact case_high a c2 k p q r x f s b w
  have hs : a = 0 ∨ a = 1 ∨ a = 2 ∨ a = 3 ∨ a = 4 ∨ a = 5 ∨ a = 6 ∨ a = 7 ∨ a = 8 ∨ a = 9 := by omega
  rcases hs with rfl | rfl | rfl | rfl | rfl | rfl | rfl | rfl | rfl | rfl
  · exact case_0 k p q r x f s b w
  · exact case_1 k p q r x f s b w
  · exact case_2 k p q r x f s b w
  · exact case_3 k p q r x f s b w
  · exact case_4 k p q r x f s b w
  · exact case_5 k p q r x f s b w
  · exact case_6 k p q r x f s b w
  · exact case_7 k p q r x f s b w
  · exact case_8 k p q r x f s b w
  · exact case_9 k p q r x f s b w
end Go.Proofs.YtnjjndnnpkejlaaGreat.fnClassifyIsTimeIsDurationIsBoolTable
