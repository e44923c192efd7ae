/-
  The walk of FnNatureOfTypedValues: NatureOf of typed values is the nature of that very static type; only the untyped nil gives the Nil nature.
-/
import Derived.Test.YtjdnoaojjmejmaaGreatBase
import Derived.OpenShut
import Derived.Deep.RegionWith
import Derived.RegionTactic
import Derived.ChangeAlike
import Derived.Deep.QuietTactic
import Derived.BigQuiet
import Derived.WalkSmall
import Derived.Carry
import Derived.LaidEqlPtr
import Derived.Lib.Builder
import Derived.Laws.NewBlocks
import Derived.Below
import Derived.Laws.CopyOwn
import Derived.OwnWalk
import Derived.Deep.OwnRows
import Derived.Deep.Cut
import Derived.Deep.CutRange
import Derived.MapKept
namespace Go.Proofs.YtjdnoaojjmejmaaGreat.fnNatureOfTypedValues
open Go.RowKit
set_option maxRecDepth 100000
set_option maxHeartbeats 1000000
set_option linter.unusedVariables false
theorem bal {w v : World} (h : Below w.heap.size w v) (o : Obj) : Below w.heap.size w (v.alloc o) := h.alloc h.size o
theorem bdn {B : Nat} {a w : World} (h : Below B a w) (n : Nat) : Below B a (w.drewN n) := ⟨h.os, h.tape, h.output, h.size, h.block⟩
/-- the slice of integers 'v' reads as 'zs' up to its capacity, or is nil -/
def IntsIn (w : World) (k : IntKind) (v : Value) : Prop := v = .slice none 0 0 ∨ ∃ (a : Addr) (len cap : Nat) (zs : List Int), v = .slice (some a) len cap ∧ len ≤ cap ∧ cap ≤ maxLen ∧ zs.length = cap ∧ (∀ i, i < zs.length → w.cell? (a.add i) = some (.int k (zs.getD i 0))) ∧ (∀ n ∈ zs, (Lit.int k n).wf = true)
/-- the slice of strings 'v' reads as 'ss' up to its capacity, or is nil -/
def StrsIn (w : World) (v : Value) : Prop := v = .slice none 0 0 ∨ ∃ (a : Addr) (len cap : Nat) (ss : List ByteArray), v = .slice (some a) len cap ∧ len ≤ cap ∧ cap ≤ maxLen ∧ ss.length = cap ∧ (∀ i, i < ss.length → w.cell? (a.add i) = some (.string (ss.getD i ByteArray.empty))) ∧ (∀ s ∈ ss, s.size ≤ maxLen)
/-- the pointer 'v' is nil or points at an integer -/
def PtrIn (w : World) (k : IntKind) (v : Value) : Prop := v = .pointer none ∨ ∃ b off n, v = .pointer (some ⟨b, off, none⟩) ∧ w.cell? ⟨b, off, none⟩ = some (.int k n) ∧ (Lit.int k n).wf = true
@[go_sem] theorem kind_2 (w : World) : (callFunc 246 #[.pointer (some ⟨0, 2, none⟩)]).run Tryz.prog w = .ok (.value (.int .u64 6)) w := by kernel_rfl

@[go_sem] theorem kind_5 (w : World) : (callFunc 246 #[.pointer (some ⟨0, 5, none⟩)]).run Tryz.prog w = .ok (.value (.int .u64 8)) w := by kernel_rfl

@[go_sem] theorem kind_27 (w : World) : (callFunc 246 #[.pointer (some ⟨0, 27, none⟩)]).run Tryz.prog w = .ok (.value (.int .u64 14)) w := by kernel_rfl

@[go_sem] theorem kind_9 (w : World) : (callFunc 246 #[.pointer (some ⟨0, 9, none⟩)]).run Tryz.prog w = .ok (.value (.int .u64 24)) w := by kernel_rfl

@[go_sem] theorem kind_4 (w : World) : (callFunc 246 #[.pointer (some ⟨0, 4, none⟩)]).run Tryz.prog w = .ok (.value (.int .u64 1)) w := by kernel_rfl

@[go_sem] theorem kind_50 (w : World) : (callFunc 246 #[.pointer (some ⟨0, 50, none⟩)]).run Tryz.prog w = .ok (.value (.int .u64 23)) w := by kernel_rfl

@[go_sem] theorem kind_53 (w : World) : (callFunc 246 #[.pointer (some ⟨0, 53, none⟩)]).run Tryz.prog w = .ok (.value (.int .u64 21)) w := by kernel_rfl

@[go_sem] theorem kind_51 (w : World) : (callFunc 246 #[.pointer (some ⟨0, 51, none⟩)]).run Tryz.prog w = .ok (.value (.int .u64 22)) w := by kernel_rfl

theorem bi_2  (w : World)  : Calls Tryz.prog 146 #[.iface 122 (.pointer (some ⟨0, 2, none⟩))] w fun e w' => e = .returned (Value.bool true) ∧ (w) = w' := by
  go_enter Tryz.func146, Tryz.ntmps146
  go_wp2
  exact bodyPost_ret (v := (Value.bool true)) (by simp [results, Tryz.results146, go_sem]) rfl ⟨rfl, rfl⟩

theorem bi_5  (w : World)  : Calls Tryz.prog 146 #[.iface 122 (.pointer (some ⟨0, 5, none⟩))] w fun e w' => e = .returned (Value.bool true) ∧ (w) = w' := by
  go_enter Tryz.func146, Tryz.ntmps146
  go_wp2
  exact bodyPost_ret (v := (Value.bool true)) (by simp [results, Tryz.results146, go_sem]) rfl ⟨rfl, rfl⟩

theorem bf_27  (w : World)  : Calls Tryz.prog 147 #[.iface 122 (.pointer (some ⟨0, 27, none⟩))] w fun e w' => e = .returned (Value.bool true) ∧ (w) = w' := by
  go_enter Tryz.func147, Tryz.ntmps147
  go_wp2
  exact bodyPost_ret (v := (Value.bool true)) (by simp [results, Tryz.results147, go_sem]) rfl ⟨rfl, rfl⟩

theorem from_9 (c : Option Addr) (w : World) : Calls Tryz.prog 137 #[.pointer c, .iface 122 (.pointer (some ⟨0, 9, none⟩))] w fun e w' => e = .returned (.agg #[.iface 122 (.pointer (some ⟨0, 9, none⟩)), .int .u64 24, .pointer none, .pointer none, .bool false, .bool false, .bool false, .bool false, .bool false]) ∧ w.alloc (.cells #[.iface 122 (.pointer (some ⟨0, 9, none⟩)), .int .u64 24, .pointer none, .pointer none, .bool false, .bool false, .bool false, .bool false, .bool false] 43) = w' :=
  from_plain c 9 24 kind_9 rfl rfl rfl rfl rfl rfl rfl rfl rfl rfl rfl rfl rfl rfl rfl w

theorem from_4 (c : Option Addr) (w : World) : Calls Tryz.prog 137 #[.pointer c, .iface 122 (.pointer (some ⟨0, 4, none⟩))] w fun e w' => e = .returned (.agg #[.iface 122 (.pointer (some ⟨0, 4, none⟩)), .int .u64 1, .pointer none, .pointer none, .bool false, .bool false, .bool false, .bool false, .bool false]) ∧ w.alloc (.cells #[.iface 122 (.pointer (some ⟨0, 4, none⟩)), .int .u64 1, .pointer none, .pointer none, .bool false, .bool false, .bool false, .bool false, .bool false] 43) = w' :=
  from_plain c 4 1 kind_4 rfl rfl rfl rfl rfl rfl rfl rfl rfl rfl rfl rfl rfl rfl rfl w

theorem from_50 (c : Option Addr) (w : World) : Calls Tryz.prog 137 #[.pointer c, .iface 122 (.pointer (some ⟨0, 50, none⟩))] w fun e w' => e = .returned (.agg #[.iface 122 (.pointer (some ⟨0, 50, none⟩)), .int .u64 23, .pointer none, .pointer none, .bool false, .bool false, .bool false, .bool false, .bool false]) ∧ w.alloc (.cells #[.iface 122 (.pointer (some ⟨0, 50, none⟩)), .int .u64 23, .pointer none, .pointer none, .bool false, .bool false, .bool false, .bool false, .bool false] 43) = w' :=
  from_plain c 50 23 kind_50 rfl rfl rfl rfl rfl rfl rfl rfl rfl rfl rfl rfl rfl rfl rfl w

theorem from_53 (c : Option Addr) (w : World) : Calls Tryz.prog 137 #[.pointer c, .iface 122 (.pointer (some ⟨0, 53, none⟩))] w fun e w' => e = .returned (.agg #[.iface 122 (.pointer (some ⟨0, 53, none⟩)), .int .u64 21, .pointer none, .pointer none, .bool false, .bool false, .bool false, .bool false, .bool false]) ∧ w.alloc (.cells #[.iface 122 (.pointer (some ⟨0, 53, none⟩)), .int .u64 21, .pointer none, .pointer none, .bool false, .bool false, .bool false, .bool false, .bool false] 43) = w' :=
  from_plain c 53 21 kind_53 rfl rfl rfl rfl rfl rfl rfl rfl rfl rfl rfl rfl rfl rfl rfl w

theorem from_51 (c : Option Addr) (w : World) : Calls Tryz.prog 137 #[.pointer c, .iface 122 (.pointer (some ⟨0, 51, none⟩))] w fun e w' => e = .returned (.agg #[.iface 122 (.pointer (some ⟨0, 51, none⟩)), .int .u64 22, .pointer none, .pointer none, .bool false, .bool false, .bool false, .bool false, .bool false]) ∧ w.alloc (.cells #[.iface 122 (.pointer (some ⟨0, 51, none⟩)), .int .u64 22, .pointer none, .pointer none, .bool false, .bool false, .bool false, .bool false, .bool false] 43) = w' :=
  from_plain c 51 22 kind_51 rfl rfl rfl rfl rfl rfl rfl rfl rfl rfl rfl rfl rfl rfl rfl w

theorem from_2 (c : Option Addr) (w : World)  : Calls Tryz.prog 137 #[.pointer c, .iface 122 (.pointer (some ⟨0, 2, none⟩))] w fun e w' => e = .returned (Value.agg #[Value.iface 122 (Value.pointer (some { block := 0, off := 2 })), Value.int IntKind.u64 6, Value.pointer none, Value.pointer none, Value.bool false, Value.bool false, Value.bool false, Value.bool true, Value.bool false]) ∧ (w.alloc (Obj.cells #[Value.iface 122 (Value.pointer (some { block := 0, off := 2 })), Value.int IntKind.u64 6, Value.pointer none, Value.pointer none, Value.bool false, Value.bool false, Value.bool false, Value.bool true, Value.bool false] 43)) = w' := by
  go_enter Tryz.func137, Tryz.ntmps137
  go_wp2_with (first | (go_at_call 146; ((with_reducible refine (bi_2 _).mono ?_); rintro e w' ⟨rfl, rfl⟩)))
  exact bodyPost_ret (v := (Value.agg #[Value.iface 122 (Value.pointer (some { block := 0, off := 2 })), Value.int IntKind.u64 6, Value.pointer none, Value.pointer none, Value.bool false, Value.bool false, Value.bool false, Value.bool true, Value.bool false])) (by simp [results, Tryz.results137, go_sem]) rfl ⟨rfl, rfl⟩

theorem from_5 (c : Option Addr) (w : World)  : Calls Tryz.prog 137 #[.pointer c, .iface 122 (.pointer (some ⟨0, 5, none⟩))] w fun e w' => e = .returned (Value.agg #[Value.iface 122 (Value.pointer (some { block := 0, off := 5 })), Value.int IntKind.u64 8, Value.pointer none, Value.pointer none, Value.bool false, Value.bool false, Value.bool false, Value.bool true, Value.bool false]) ∧ (w.alloc (Obj.cells #[Value.iface 122 (Value.pointer (some { block := 0, off := 5 })), Value.int IntKind.u64 8, Value.pointer none, Value.pointer none, Value.bool false, Value.bool false, Value.bool false, Value.bool true, Value.bool false] 43)) = w' := by
  go_enter Tryz.func137, Tryz.ntmps137
  go_wp2_with (first | (go_at_call 146; ((with_reducible refine (bi_5 _).mono ?_); rintro e w' ⟨rfl, rfl⟩)))
  exact bodyPost_ret (v := (Value.agg #[Value.iface 122 (Value.pointer (some { block := 0, off := 5 })), Value.int IntKind.u64 8, Value.pointer none, Value.pointer none, Value.bool false, Value.bool false, Value.bool false, Value.bool true, Value.bool false])) (by simp [results, Tryz.results137, go_sem]) rfl ⟨rfl, rfl⟩

theorem from_27 (c : Option Addr) (w : World)  : Calls Tryz.prog 137 #[.pointer c, .iface 122 (.pointer (some ⟨0, 27, none⟩))] w fun e w' => e = .returned (Value.agg #[Value.iface 122 (Value.pointer (some { block := 0, off := 27 })), Value.int IntKind.u64 14, Value.pointer none, Value.pointer none, Value.bool false, Value.bool false, Value.bool false, Value.bool false, Value.bool true]) ∧ (w.alloc (Obj.cells #[Value.iface 122 (Value.pointer (some { block := 0, off := 27 })), Value.int IntKind.u64 14, Value.pointer none, Value.pointer none, Value.bool false, Value.bool false, Value.bool false, Value.bool false, Value.bool true] 43)) = w' := by
  go_enter Tryz.func137, Tryz.ntmps137
  go_wp2_with (first | (go_at_call 147; ((with_reducible refine (bf_27 _).mono ?_); rintro e w' ⟨rfl, rfl⟩)))
  exact bodyPost_ret (v := (Value.agg #[Value.iface 122 (Value.pointer (some { block := 0, off := 27 })), Value.int IntKind.u64 14, Value.pointer none, Value.pointer none, Value.bool false, Value.bool false, Value.bool false, Value.bool false, Value.bool true])) (by simp [results, Tryz.results137, go_sem]) rfl ⟨rfl, rfl⟩

theorem nc_2 (x : Value) (w : World)  : Calls Tryz.prog 140 #[.pointer none, .iface 2 x] w fun e w' => e = .returned (Value.agg #[Value.iface 122 (Value.pointer (some { block := 0, off := 2 })), Value.int IntKind.u64 6, Value.pointer none, Value.pointer none, Value.bool false, Value.bool false, Value.bool false, Value.bool true, Value.bool false]) ∧ ((w.alloc (Obj.cells #[Value.iface 122 (Value.pointer (some { block := 0, off := 2 })), Value.int IntKind.u64 6, Value.pointer none, Value.pointer none, Value.bool false, Value.bool false, Value.bool false, Value.bool true, Value.bool false] 43)).alloc (Obj.cells #[Value.iface 122 (Value.pointer (some { block := 0, off := 2 })), Value.int IntKind.u64 6, Value.pointer none, Value.pointer none, Value.bool false, Value.bool false, Value.bool false, Value.bool true, Value.bool false] 43)) = w' := by
  go_enter Tryz.func140, Tryz.ntmps140
  go_wp2_with (first | (go_at_call 137; ((with_reducible refine (from_2 _ _).mono ?_); rintro e w' ⟨rfl, rfl⟩)))
  exact bodyPost_ret (v := (Value.agg #[Value.iface 122 (Value.pointer (some { block := 0, off := 2 })), Value.int IntKind.u64 6, Value.pointer none, Value.pointer none, Value.bool false, Value.bool false, Value.bool false, Value.bool true, Value.bool false])) (by simp [results, Tryz.results140, go_sem]) rfl ⟨rfl, rfl⟩

theorem nc_5 (x : Value) (w : World)  : Calls Tryz.prog 140 #[.pointer none, .iface 5 x] w fun e w' => e = .returned (Value.agg #[Value.iface 122 (Value.pointer (some { block := 0, off := 5 })), Value.int IntKind.u64 8, Value.pointer none, Value.pointer none, Value.bool false, Value.bool false, Value.bool false, Value.bool true, Value.bool false]) ∧ ((w.alloc (Obj.cells #[Value.iface 122 (Value.pointer (some { block := 0, off := 5 })), Value.int IntKind.u64 8, Value.pointer none, Value.pointer none, Value.bool false, Value.bool false, Value.bool false, Value.bool true, Value.bool false] 43)).alloc (Obj.cells #[Value.iface 122 (Value.pointer (some { block := 0, off := 5 })), Value.int IntKind.u64 8, Value.pointer none, Value.pointer none, Value.bool false, Value.bool false, Value.bool false, Value.bool true, Value.bool false] 43)) = w' := by
  go_enter Tryz.func140, Tryz.ntmps140
  go_wp2_with (first | (go_at_call 137; ((with_reducible refine (from_5 _ _).mono ?_); rintro e w' ⟨rfl, rfl⟩)))
  exact bodyPost_ret (v := (Value.agg #[Value.iface 122 (Value.pointer (some { block := 0, off := 5 })), Value.int IntKind.u64 8, Value.pointer none, Value.pointer none, Value.bool false, Value.bool false, Value.bool false, Value.bool true, Value.bool false])) (by simp [results, Tryz.results140, go_sem]) rfl ⟨rfl, rfl⟩

theorem nc_27 (x : Value) (w : World)  : Calls Tryz.prog 140 #[.pointer none, .iface 27 x] w fun e w' => e = .returned (Value.agg #[Value.iface 122 (Value.pointer (some { block := 0, off := 27 })), Value.int IntKind.u64 14, Value.pointer none, Value.pointer none, Value.bool false, Value.bool false, Value.bool false, Value.bool false, Value.bool true]) ∧ ((w.alloc (Obj.cells #[Value.iface 122 (Value.pointer (some { block := 0, off := 27 })), Value.int IntKind.u64 14, Value.pointer none, Value.pointer none, Value.bool false, Value.bool false, Value.bool false, Value.bool false, Value.bool true] 43)).alloc (Obj.cells #[Value.iface 122 (Value.pointer (some { block := 0, off := 27 })), Value.int IntKind.u64 14, Value.pointer none, Value.pointer none, Value.bool false, Value.bool false, Value.bool false, Value.bool false, Value.bool true] 43)) = w' := by
  go_enter Tryz.func140, Tryz.ntmps140
  go_wp2_with (first | (go_at_call 137; ((with_reducible refine (from_27 _ _).mono ?_); rintro e w' ⟨rfl, rfl⟩)))
  exact bodyPost_ret (v := (Value.agg #[Value.iface 122 (Value.pointer (some { block := 0, off := 27 })), Value.int IntKind.u64 14, Value.pointer none, Value.pointer none, Value.bool false, Value.bool false, Value.bool false, Value.bool false, Value.bool true])) (by simp [results, Tryz.results140, go_sem]) rfl ⟨rfl, rfl⟩

theorem nc_9 (x : Value) (w : World)  : Calls Tryz.prog 140 #[.pointer none, .iface 9 x] w fun e w' => e = .returned (Value.agg #[Value.iface 122 (Value.pointer (some { block := 0, off := 9 })), Value.int IntKind.u64 24, Value.pointer none, Value.pointer none, Value.bool false, Value.bool false, Value.bool false, Value.bool false, Value.bool false]) ∧ ((w.alloc (Obj.cells #[Value.iface 122 (Value.pointer (some { block := 0, off := 9 })), Value.int IntKind.u64 24, Value.pointer none, Value.pointer none, Value.bool false, Value.bool false, Value.bool false, Value.bool false, Value.bool false] 43)).alloc (Obj.cells #[Value.iface 122 (Value.pointer (some { block := 0, off := 9 })), Value.int IntKind.u64 24, Value.pointer none, Value.pointer none, Value.bool false, Value.bool false, Value.bool false, Value.bool false, Value.bool false] 43)) = w' := by
  go_enter Tryz.func140, Tryz.ntmps140
  go_wp2_with (first | (go_at_call 137; ((with_reducible refine (from_9 _ _).mono ?_); rintro e w' ⟨rfl, rfl⟩)))
  exact bodyPost_ret (v := (Value.agg #[Value.iface 122 (Value.pointer (some { block := 0, off := 9 })), Value.int IntKind.u64 24, Value.pointer none, Value.pointer none, Value.bool false, Value.bool false, Value.bool false, Value.bool false, Value.bool false])) (by simp [results, Tryz.results140, go_sem]) rfl ⟨rfl, rfl⟩

theorem nc_4 (x : Value) (w : World)  : Calls Tryz.prog 140 #[.pointer none, .iface 4 x] w fun e w' => e = .returned (Value.agg #[Value.iface 122 (Value.pointer (some { block := 0, off := 4 })), Value.int IntKind.u64 1, Value.pointer none, Value.pointer none, Value.bool false, Value.bool false, Value.bool false, Value.bool false, Value.bool false]) ∧ ((w.alloc (Obj.cells #[Value.iface 122 (Value.pointer (some { block := 0, off := 4 })), Value.int IntKind.u64 1, Value.pointer none, Value.pointer none, Value.bool false, Value.bool false, Value.bool false, Value.bool false, Value.bool false] 43)).alloc (Obj.cells #[Value.iface 122 (Value.pointer (some { block := 0, off := 4 })), Value.int IntKind.u64 1, Value.pointer none, Value.pointer none, Value.bool false, Value.bool false, Value.bool false, Value.bool false, Value.bool false] 43)) = w' := by
  go_enter Tryz.func140, Tryz.ntmps140
  go_wp2_with (first | (go_at_call 137; ((with_reducible refine (from_4 _ _).mono ?_); rintro e w' ⟨rfl, rfl⟩)))
  exact bodyPost_ret (v := (Value.agg #[Value.iface 122 (Value.pointer (some { block := 0, off := 4 })), Value.int IntKind.u64 1, Value.pointer none, Value.pointer none, Value.bool false, Value.bool false, Value.bool false, Value.bool false, Value.bool false])) (by simp [results, Tryz.results140, go_sem]) rfl ⟨rfl, rfl⟩

theorem nc_50 (x : Value) (w : World)  : Calls Tryz.prog 140 #[.pointer none, .iface 50 x] w fun e w' => e = .returned (Value.agg #[Value.iface 122 (Value.pointer (some { block := 0, off := 50 })), Value.int IntKind.u64 23, Value.pointer none, Value.pointer none, Value.bool false, Value.bool false, Value.bool false, Value.bool false, Value.bool false]) ∧ ((w.alloc (Obj.cells #[Value.iface 122 (Value.pointer (some { block := 0, off := 50 })), Value.int IntKind.u64 23, Value.pointer none, Value.pointer none, Value.bool false, Value.bool false, Value.bool false, Value.bool false, Value.bool false] 43)).alloc (Obj.cells #[Value.iface 122 (Value.pointer (some { block := 0, off := 50 })), Value.int IntKind.u64 23, Value.pointer none, Value.pointer none, Value.bool false, Value.bool false, Value.bool false, Value.bool false, Value.bool false] 43)) = w' := by
  go_enter Tryz.func140, Tryz.ntmps140
  go_wp2_with (first | (go_at_call 137; ((with_reducible refine (from_50 _ _).mono ?_); rintro e w' ⟨rfl, rfl⟩)))
  exact bodyPost_ret (v := (Value.agg #[Value.iface 122 (Value.pointer (some { block := 0, off := 50 })), Value.int IntKind.u64 23, Value.pointer none, Value.pointer none, Value.bool false, Value.bool false, Value.bool false, Value.bool false, Value.bool false])) (by simp [results, Tryz.results140, go_sem]) rfl ⟨rfl, rfl⟩

theorem nc_53 (x : Value) (w : World)  : Calls Tryz.prog 140 #[.pointer none, .iface 53 x] w fun e w' => e = .returned (Value.agg #[Value.iface 122 (Value.pointer (some { block := 0, off := 53 })), Value.int IntKind.u64 21, Value.pointer none, Value.pointer none, Value.bool false, Value.bool false, Value.bool false, Value.bool false, Value.bool false]) ∧ ((w.alloc (Obj.cells #[Value.iface 122 (Value.pointer (some { block := 0, off := 53 })), Value.int IntKind.u64 21, Value.pointer none, Value.pointer none, Value.bool false, Value.bool false, Value.bool false, Value.bool false, Value.bool false] 43)).alloc (Obj.cells #[Value.iface 122 (Value.pointer (some { block := 0, off := 53 })), Value.int IntKind.u64 21, Value.pointer none, Value.pointer none, Value.bool false, Value.bool false, Value.bool false, Value.bool false, Value.bool false] 43)) = w' := by
  go_enter Tryz.func140, Tryz.ntmps140
  go_wp2_with (first | (go_at_call 137; ((with_reducible refine (from_53 _ _).mono ?_); rintro e w' ⟨rfl, rfl⟩)))
  exact bodyPost_ret (v := (Value.agg #[Value.iface 122 (Value.pointer (some { block := 0, off := 53 })), Value.int IntKind.u64 21, Value.pointer none, Value.pointer none, Value.bool false, Value.bool false, Value.bool false, Value.bool false, Value.bool false])) (by simp [results, Tryz.results140, go_sem]) rfl ⟨rfl, rfl⟩

theorem nc_51 (x : Value) (w : World)  : Calls Tryz.prog 140 #[.pointer none, .iface 51 x] w fun e w' => e = .returned (Value.agg #[Value.iface 122 (Value.pointer (some { block := 0, off := 51 })), Value.int IntKind.u64 22, Value.pointer none, Value.pointer none, Value.bool false, Value.bool false, Value.bool false, Value.bool false, Value.bool false]) ∧ ((w.alloc (Obj.cells #[Value.iface 122 (Value.pointer (some { block := 0, off := 51 })), Value.int IntKind.u64 22, Value.pointer none, Value.pointer none, Value.bool false, Value.bool false, Value.bool false, Value.bool false, Value.bool false] 43)).alloc (Obj.cells #[Value.iface 122 (Value.pointer (some { block := 0, off := 51 })), Value.int IntKind.u64 22, Value.pointer none, Value.pointer none, Value.bool false, Value.bool false, Value.bool false, Value.bool false, Value.bool false] 43)) = w' := by
  go_enter Tryz.func140, Tryz.ntmps140
  go_wp2_with (first | (go_at_call 137; ((with_reducible refine (from_51 _ _).mono ?_); rintro e w' ⟨rfl, rfl⟩)))
  exact bodyPost_ret (v := (Value.agg #[Value.iface 122 (Value.pointer (some { block := 0, off := 51 })), Value.int IntKind.u64 22, Value.pointer none, Value.pointer none, Value.bool false, Value.bool false, Value.bool false, Value.bool false, Value.bool false])) (by simp [results, Tryz.results140, go_sem]) rfl ⟨rfl, rfl⟩

theorem no_2 (x : Value) (w : World)  : Calls Tryz.prog 115 #[.iface 2 x] w fun e w' => e = .returned (Value.agg #[Value.iface 122 (Value.pointer (some { block := 0, off := 2 })), Value.int IntKind.u64 6, Value.pointer none, Value.pointer none, Value.bool false, Value.bool false, Value.bool false, Value.bool true, Value.bool false]) ∧ (((w.alloc (Obj.cells #[Value.iface 122 (Value.pointer (some { block := 0, off := 2 })), Value.int IntKind.u64 6, Value.pointer none, Value.pointer none, Value.bool false, Value.bool false, Value.bool false, Value.bool true, Value.bool false] 43)).alloc (Obj.cells #[Value.iface 122 (Value.pointer (some { block := 0, off := 2 })), Value.int IntKind.u64 6, Value.pointer none, Value.pointer none, Value.bool false, Value.bool false, Value.bool false, Value.bool true, Value.bool false] 43)).alloc (Obj.cells #[Value.iface 122 (Value.pointer (some { block := 0, off := 2 })), Value.int IntKind.u64 6, Value.pointer none, Value.pointer none, Value.bool false, Value.bool false, Value.bool false, Value.bool true, Value.bool false] 43)) = w' := by
  go_enter Tryz.func115, Tryz.ntmps115
  go_wp2_with (first | (go_at_call 140; ((with_reducible refine (nc_2 _ _).mono ?_); rintro e w' ⟨rfl, rfl⟩)))
  exact bodyPost_ret (v := (Value.agg #[Value.iface 122 (Value.pointer (some { block := 0, off := 2 })), Value.int IntKind.u64 6, Value.pointer none, Value.pointer none, Value.bool false, Value.bool false, Value.bool false, Value.bool true, Value.bool false])) (by simp [results, Tryz.results115, go_sem]) rfl ⟨rfl, rfl⟩

theorem no_5 (x : Value) (w : World)  : Calls Tryz.prog 115 #[.iface 5 x] w fun e w' => e = .returned (Value.agg #[Value.iface 122 (Value.pointer (some { block := 0, off := 5 })), Value.int IntKind.u64 8, Value.pointer none, Value.pointer none, Value.bool false, Value.bool false, Value.bool false, Value.bool true, Value.bool false]) ∧ (((w.alloc (Obj.cells #[Value.iface 122 (Value.pointer (some { block := 0, off := 5 })), Value.int IntKind.u64 8, Value.pointer none, Value.pointer none, Value.bool false, Value.bool false, Value.bool false, Value.bool true, Value.bool false] 43)).alloc (Obj.cells #[Value.iface 122 (Value.pointer (some { block := 0, off := 5 })), Value.int IntKind.u64 8, Value.pointer none, Value.pointer none, Value.bool false, Value.bool false, Value.bool false, Value.bool true, Value.bool false] 43)).alloc (Obj.cells #[Value.iface 122 (Value.pointer (some { block := 0, off := 5 })), Value.int IntKind.u64 8, Value.pointer none, Value.pointer none, Value.bool false, Value.bool false, Value.bool false, Value.bool true, Value.bool false] 43)) = w' := by
  go_enter Tryz.func115, Tryz.ntmps115
  go_wp2_with (first | (go_at_call 140; ((with_reducible refine (nc_5 _ _).mono ?_); rintro e w' ⟨rfl, rfl⟩)))
  exact bodyPost_ret (v := (Value.agg #[Value.iface 122 (Value.pointer (some { block := 0, off := 5 })), Value.int IntKind.u64 8, Value.pointer none, Value.pointer none, Value.bool false, Value.bool false, Value.bool false, Value.bool true, Value.bool false])) (by simp [results, Tryz.results115, go_sem]) rfl ⟨rfl, rfl⟩

theorem no_27 (x : Value) (w : World)  : Calls Tryz.prog 115 #[.iface 27 x] w fun e w' => e = .returned (Value.agg #[Value.iface 122 (Value.pointer (some { block := 0, off := 27 })), Value.int IntKind.u64 14, Value.pointer none, Value.pointer none, Value.bool false, Value.bool false, Value.bool false, Value.bool false, Value.bool true]) ∧ (((w.alloc (Obj.cells #[Value.iface 122 (Value.pointer (some { block := 0, off := 27 })), Value.int IntKind.u64 14, Value.pointer none, Value.pointer none, Value.bool false, Value.bool false, Value.bool false, Value.bool false, Value.bool true] 43)).alloc (Obj.cells #[Value.iface 122 (Value.pointer (some { block := 0, off := 27 })), Value.int IntKind.u64 14, Value.pointer none, Value.pointer none, Value.bool false, Value.bool false, Value.bool false, Value.bool false, Value.bool true] 43)).alloc (Obj.cells #[Value.iface 122 (Value.pointer (some { block := 0, off := 27 })), Value.int IntKind.u64 14, Value.pointer none, Value.pointer none, Value.bool false, Value.bool false, Value.bool false, Value.bool false, Value.bool true] 43)) = w' := by
  go_enter Tryz.func115, Tryz.ntmps115
  go_wp2_with (first | (go_at_call 140; ((with_reducible refine (nc_27 _ _).mono ?_); rintro e w' ⟨rfl, rfl⟩)))
  exact bodyPost_ret (v := (Value.agg #[Value.iface 122 (Value.pointer (some { block := 0, off := 27 })), Value.int IntKind.u64 14, Value.pointer none, Value.pointer none, Value.bool false, Value.bool false, Value.bool false, Value.bool false, Value.bool true])) (by simp [results, Tryz.results115, go_sem]) rfl ⟨rfl, rfl⟩

theorem no_9 (x : Value) (w : World)  : Calls Tryz.prog 115 #[.iface 9 x] w fun e w' => e = .returned (Value.agg #[Value.iface 122 (Value.pointer (some { block := 0, off := 9 })), Value.int IntKind.u64 24, Value.pointer none, Value.pointer none, Value.bool false, Value.bool false, Value.bool false, Value.bool false, Value.bool false]) ∧ (((w.alloc (Obj.cells #[Value.iface 122 (Value.pointer (some { block := 0, off := 9 })), Value.int IntKind.u64 24, Value.pointer none, Value.pointer none, Value.bool false, Value.bool false, Value.bool false, Value.bool false, Value.bool false] 43)).alloc (Obj.cells #[Value.iface 122 (Value.pointer (some { block := 0, off := 9 })), Value.int IntKind.u64 24, Value.pointer none, Value.pointer none, Value.bool false, Value.bool false, Value.bool false, Value.bool false, Value.bool false] 43)).alloc (Obj.cells #[Value.iface 122 (Value.pointer (some { block := 0, off := 9 })), Value.int IntKind.u64 24, Value.pointer none, Value.pointer none, Value.bool false, Value.bool false, Value.bool false, Value.bool false, Value.bool false] 43)) = w' := by
  go_enter Tryz.func115, Tryz.ntmps115
  go_wp2_with (first | (go_at_call 140; ((with_reducible refine (nc_9 _ _).mono ?_); rintro e w' ⟨rfl, rfl⟩)))
  exact bodyPost_ret (v := (Value.agg #[Value.iface 122 (Value.pointer (some { block := 0, off := 9 })), Value.int IntKind.u64 24, Value.pointer none, Value.pointer none, Value.bool false, Value.bool false, Value.bool false, Value.bool false, Value.bool false])) (by simp [results, Tryz.results115, go_sem]) rfl ⟨rfl, rfl⟩

theorem no_4 (x : Value) (w : World)  : Calls Tryz.prog 115 #[.iface 4 x] w fun e w' => e = .returned (Value.agg #[Value.iface 122 (Value.pointer (some { block := 0, off := 4 })), Value.int IntKind.u64 1, Value.pointer none, Value.pointer none, Value.bool false, Value.bool false, Value.bool false, Value.bool false, Value.bool false]) ∧ (((w.alloc (Obj.cells #[Value.iface 122 (Value.pointer (some { block := 0, off := 4 })), Value.int IntKind.u64 1, Value.pointer none, Value.pointer none, Value.bool false, Value.bool false, Value.bool false, Value.bool false, Value.bool false] 43)).alloc (Obj.cells #[Value.iface 122 (Value.pointer (some { block := 0, off := 4 })), Value.int IntKind.u64 1, Value.pointer none, Value.pointer none, Value.bool false, Value.bool false, Value.bool false, Value.bool false, Value.bool false] 43)).alloc (Obj.cells #[Value.iface 122 (Value.pointer (some { block := 0, off := 4 })), Value.int IntKind.u64 1, Value.pointer none, Value.pointer none, Value.bool false, Value.bool false, Value.bool false, Value.bool false, Value.bool false] 43)) = w' := by
  go_enter Tryz.func115, Tryz.ntmps115
  go_wp2_with (first | (go_at_call 140; ((with_reducible refine (nc_4 _ _).mono ?_); rintro e w' ⟨rfl, rfl⟩)))
  exact bodyPost_ret (v := (Value.agg #[Value.iface 122 (Value.pointer (some { block := 0, off := 4 })), Value.int IntKind.u64 1, Value.pointer none, Value.pointer none, Value.bool false, Value.bool false, Value.bool false, Value.bool false, Value.bool false])) (by simp [results, Tryz.results115, go_sem]) rfl ⟨rfl, rfl⟩

theorem no_50 (x : Value) (w : World)  : Calls Tryz.prog 115 #[.iface 50 x] w fun e w' => e = .returned (Value.agg #[Value.iface 122 (Value.pointer (some { block := 0, off := 50 })), Value.int IntKind.u64 23, Value.pointer none, Value.pointer none, Value.bool false, Value.bool false, Value.bool false, Value.bool false, Value.bool false]) ∧ (((w.alloc (Obj.cells #[Value.iface 122 (Value.pointer (some { block := 0, off := 50 })), Value.int IntKind.u64 23, Value.pointer none, Value.pointer none, Value.bool false, Value.bool false, Value.bool false, Value.bool false, Value.bool false] 43)).alloc (Obj.cells #[Value.iface 122 (Value.pointer (some { block := 0, off := 50 })), Value.int IntKind.u64 23, Value.pointer none, Value.pointer none, Value.bool false, Value.bool false, Value.bool false, Value.bool false, Value.bool false] 43)).alloc (Obj.cells #[Value.iface 122 (Value.pointer (some { block := 0, off := 50 })), Value.int IntKind.u64 23, Value.pointer none, Value.pointer none, Value.bool false, Value.bool false, Value.bool false, Value.bool false, Value.bool false] 43)) = w' := by
  go_enter Tryz.func115, Tryz.ntmps115
  go_wp2_with (first | (go_at_call 140; ((with_reducible refine (nc_50 _ _).mono ?_); rintro e w' ⟨rfl, rfl⟩)))
  exact bodyPost_ret (v := (Value.agg #[Value.iface 122 (Value.pointer (some { block := 0, off := 50 })), Value.int IntKind.u64 23, Value.pointer none, Value.pointer none, Value.bool false, Value.bool false, Value.bool false, Value.bool false, Value.bool false])) (by simp [results, Tryz.results115, go_sem]) rfl ⟨rfl, rfl⟩

theorem no_53 (x : Value) (w : World)  : Calls Tryz.prog 115 #[.iface 53 x] w fun e w' => e = .returned (Value.agg #[Value.iface 122 (Value.pointer (some { block := 0, off := 53 })), Value.int IntKind.u64 21, Value.pointer none, Value.pointer none, Value.bool false, Value.bool false, Value.bool false, Value.bool false, Value.bool false]) ∧ (((w.alloc (Obj.cells #[Value.iface 122 (Value.pointer (some { block := 0, off := 53 })), Value.int IntKind.u64 21, Value.pointer none, Value.pointer none, Value.bool false, Value.bool false, Value.bool false, Value.bool false, Value.bool false] 43)).alloc (Obj.cells #[Value.iface 122 (Value.pointer (some { block := 0, off := 53 })), Value.int IntKind.u64 21, Value.pointer none, Value.pointer none, Value.bool false, Value.bool false, Value.bool false, Value.bool false, Value.bool false] 43)).alloc (Obj.cells #[Value.iface 122 (Value.pointer (some { block := 0, off := 53 })), Value.int IntKind.u64 21, Value.pointer none, Value.pointer none, Value.bool false, Value.bool false, Value.bool false, Value.bool false, Value.bool false] 43)) = w' := by
  go_enter Tryz.func115, Tryz.ntmps115
  go_wp2_with (first | (go_at_call 140; ((with_reducible refine (nc_53 _ _).mono ?_); rintro e w' ⟨rfl, rfl⟩)))
  exact bodyPost_ret (v := (Value.agg #[Value.iface 122 (Value.pointer (some { block := 0, off := 53 })), Value.int IntKind.u64 21, Value.pointer none, Value.pointer none, Value.bool false, Value.bool false, Value.bool false, Value.bool false, Value.bool false])) (by simp [results, Tryz.results115, go_sem]) rfl ⟨rfl, rfl⟩

theorem no_51 (x : Value) (w : World)  : Calls Tryz.prog 115 #[.iface 51 x] w fun e w' => e = .returned (Value.agg #[Value.iface 122 (Value.pointer (some { block := 0, off := 51 })), Value.int IntKind.u64 22, Value.pointer none, Value.pointer none, Value.bool false, Value.bool false, Value.bool false, Value.bool false, Value.bool false]) ∧ (((w.alloc (Obj.cells #[Value.iface 122 (Value.pointer (some { block := 0, off := 51 })), Value.int IntKind.u64 22, Value.pointer none, Value.pointer none, Value.bool false, Value.bool false, Value.bool false, Value.bool false, Value.bool false] 43)).alloc (Obj.cells #[Value.iface 122 (Value.pointer (some { block := 0, off := 51 })), Value.int IntKind.u64 22, Value.pointer none, Value.pointer none, Value.bool false, Value.bool false, Value.bool false, Value.bool false, Value.bool false] 43)).alloc (Obj.cells #[Value.iface 122 (Value.pointer (some { block := 0, off := 51 })), Value.int IntKind.u64 22, Value.pointer none, Value.pointer none, Value.bool false, Value.bool false, Value.bool false, Value.bool false, Value.bool false] 43)) = w' := by
  go_enter Tryz.func115, Tryz.ntmps115
  go_wp2_with (first | (go_at_call 140; ((with_reducible refine (nc_51 _ _).mono ?_); rintro e w' ⟨rfl, rfl⟩)))
  exact bodyPost_ret (v := (Value.agg #[Value.iface 122 (Value.pointer (some { block := 0, off := 51 })), Value.int IntKind.u64 22, Value.pointer none, Value.pointer none, Value.bool false, Value.bool false, Value.bool false, Value.bool false, Value.bool false])) (by simp [results, Tryz.results115, go_sem]) rfl ⟨rfl, rfl⟩

theorem c_22 (x : Int) (w : World)  : Calls Tryz.prog 22 #[.int .i64 x] w fun e w' => e = .returned (Value.agg #[Value.iface 122 (Value.pointer (some { block := 0, off := 2 })), Value.int IntKind.u64 6, Value.pointer none, Value.pointer none, Value.bool false, Value.bool false, Value.bool false, Value.bool true, Value.bool false]) ∧ ((((w.alloc (Obj.cells #[Value.iface 122 (Value.pointer (some { block := 0, off := 2 })), Value.int IntKind.u64 6, Value.pointer none, Value.pointer none, Value.bool false, Value.bool false, Value.bool false, Value.bool true, Value.bool false] 43)).alloc (Obj.cells #[Value.iface 122 (Value.pointer (some { block := 0, off := 2 })), Value.int IntKind.u64 6, Value.pointer none, Value.pointer none, Value.bool false, Value.bool false, Value.bool false, Value.bool true, Value.bool false] 43)).alloc (Obj.cells #[Value.iface 122 (Value.pointer (some { block := 0, off := 2 })), Value.int IntKind.u64 6, Value.pointer none, Value.pointer none, Value.bool false, Value.bool false, Value.bool false, Value.bool true, Value.bool false] 43)).alloc (Obj.cells #[Value.iface 122 (Value.pointer (some { block := 0, off := 2 })), Value.int IntKind.u64 6, Value.pointer none, Value.pointer none, Value.bool false, Value.bool false, Value.bool false, Value.bool true, Value.bool false] 43)) = w' := by
  go_enter Tryz.func22, Tryz.ntmps22
  go_wp2_with (first | (go_at_call 115; ((with_reducible refine (no_2 _ _).mono ?_); rintro e w' ⟨rfl, rfl⟩)))
  exact bodyPost_ret (v := (Value.agg #[Value.iface 122 (Value.pointer (some { block := 0, off := 2 })), Value.int IntKind.u64 6, Value.pointer none, Value.pointer none, Value.bool false, Value.bool false, Value.bool false, Value.bool true, Value.bool false])) (by simp [results, Tryz.results22, go_sem]) rfl ⟨rfl, rfl⟩

theorem c_25 (x : Int) (w : World)  : Calls Tryz.prog 25 #[.int .u8 x] w fun e w' => e = .returned (Value.agg #[Value.iface 122 (Value.pointer (some { block := 0, off := 5 })), Value.int IntKind.u64 8, Value.pointer none, Value.pointer none, Value.bool false, Value.bool false, Value.bool false, Value.bool true, Value.bool false]) ∧ ((((w.alloc (Obj.cells #[Value.iface 122 (Value.pointer (some { block := 0, off := 5 })), Value.int IntKind.u64 8, Value.pointer none, Value.pointer none, Value.bool false, Value.bool false, Value.bool false, Value.bool true, Value.bool false] 43)).alloc (Obj.cells #[Value.iface 122 (Value.pointer (some { block := 0, off := 5 })), Value.int IntKind.u64 8, Value.pointer none, Value.pointer none, Value.bool false, Value.bool false, Value.bool false, Value.bool true, Value.bool false] 43)).alloc (Obj.cells #[Value.iface 122 (Value.pointer (some { block := 0, off := 5 })), Value.int IntKind.u64 8, Value.pointer none, Value.pointer none, Value.bool false, Value.bool false, Value.bool false, Value.bool true, Value.bool false] 43)).alloc (Obj.cells #[Value.iface 122 (Value.pointer (some { block := 0, off := 5 })), Value.int IntKind.u64 8, Value.pointer none, Value.pointer none, Value.bool false, Value.bool false, Value.bool false, Value.bool true, Value.bool false] 43)) = w' := by
  go_enter Tryz.func25, Tryz.ntmps25
  go_wp2_with (first | (go_at_call 115; ((with_reducible refine (no_5 _ _).mono ?_); rintro e w' ⟨rfl, rfl⟩)))
  exact bodyPost_ret (v := (Value.agg #[Value.iface 122 (Value.pointer (some { block := 0, off := 5 })), Value.int IntKind.u64 8, Value.pointer none, Value.pointer none, Value.bool false, Value.bool false, Value.bool false, Value.bool true, Value.bool false])) (by simp [results, Tryz.results25, go_sem]) rfl ⟨rfl, rfl⟩

theorem c_27 (x : Nat) (w : World)  : Calls Tryz.prog 27 #[.float .f64 x] w fun e w' => e = .returned (Value.agg #[Value.iface 122 (Value.pointer (some { block := 0, off := 27 })), Value.int IntKind.u64 14, Value.pointer none, Value.pointer none, Value.bool false, Value.bool false, Value.bool false, Value.bool false, Value.bool true]) ∧ ((((w.alloc (Obj.cells #[Value.iface 122 (Value.pointer (some { block := 0, off := 27 })), Value.int IntKind.u64 14, Value.pointer none, Value.pointer none, Value.bool false, Value.bool false, Value.bool false, Value.bool false, Value.bool true] 43)).alloc (Obj.cells #[Value.iface 122 (Value.pointer (some { block := 0, off := 27 })), Value.int IntKind.u64 14, Value.pointer none, Value.pointer none, Value.bool false, Value.bool false, Value.bool false, Value.bool false, Value.bool true] 43)).alloc (Obj.cells #[Value.iface 122 (Value.pointer (some { block := 0, off := 27 })), Value.int IntKind.u64 14, Value.pointer none, Value.pointer none, Value.bool false, Value.bool false, Value.bool false, Value.bool false, Value.bool true] 43)).alloc (Obj.cells #[Value.iface 122 (Value.pointer (some { block := 0, off := 27 })), Value.int IntKind.u64 14, Value.pointer none, Value.pointer none, Value.bool false, Value.bool false, Value.bool false, Value.bool false, Value.bool true] 43)) = w' := by
  go_enter Tryz.func27, Tryz.ntmps27
  go_wp2_with (first | (go_at_call 115; ((with_reducible refine (no_27 _ _).mono ?_); rintro e w' ⟨rfl, rfl⟩)))
  exact bodyPost_ret (v := (Value.agg #[Value.iface 122 (Value.pointer (some { block := 0, off := 27 })), Value.int IntKind.u64 14, Value.pointer none, Value.pointer none, Value.bool false, Value.bool false, Value.bool false, Value.bool false, Value.bool true])) (by simp [results, Tryz.results27, go_sem]) rfl ⟨rfl, rfl⟩

theorem c_29 (x : ByteArray) (w : World)  : Calls Tryz.prog 29 #[.string x] w fun e w' => e = .returned (Value.agg #[Value.iface 122 (Value.pointer (some { block := 0, off := 9 })), Value.int IntKind.u64 24, Value.pointer none, Value.pointer none, Value.bool false, Value.bool false, Value.bool false, Value.bool false, Value.bool false]) ∧ ((((w.alloc (Obj.cells #[Value.iface 122 (Value.pointer (some { block := 0, off := 9 })), Value.int IntKind.u64 24, Value.pointer none, Value.pointer none, Value.bool false, Value.bool false, Value.bool false, Value.bool false, Value.bool false] 43)).alloc (Obj.cells #[Value.iface 122 (Value.pointer (some { block := 0, off := 9 })), Value.int IntKind.u64 24, Value.pointer none, Value.pointer none, Value.bool false, Value.bool false, Value.bool false, Value.bool false, Value.bool false] 43)).alloc (Obj.cells #[Value.iface 122 (Value.pointer (some { block := 0, off := 9 })), Value.int IntKind.u64 24, Value.pointer none, Value.pointer none, Value.bool false, Value.bool false, Value.bool false, Value.bool false, Value.bool false] 43)).alloc (Obj.cells #[Value.iface 122 (Value.pointer (some { block := 0, off := 9 })), Value.int IntKind.u64 24, Value.pointer none, Value.pointer none, Value.bool false, Value.bool false, Value.bool false, Value.bool false, Value.bool false] 43)) = w' := by
  go_enter Tryz.func29, Tryz.ntmps29
  go_wp2_with (first | (go_at_call 115; ((with_reducible refine (no_9 _ _).mono ?_); rintro e w' ⟨rfl, rfl⟩)))
  exact bodyPost_ret (v := (Value.agg #[Value.iface 122 (Value.pointer (some { block := 0, off := 9 })), Value.int IntKind.u64 24, Value.pointer none, Value.pointer none, Value.bool false, Value.bool false, Value.bool false, Value.bool false, Value.bool false])) (by simp [results, Tryz.results29, go_sem]) rfl ⟨rfl, rfl⟩

theorem c_31 (x : Bool) (w : World)  : Calls Tryz.prog 31 #[.bool x] w fun e w' => e = .returned (Value.agg #[Value.iface 122 (Value.pointer (some { block := 0, off := 4 })), Value.int IntKind.u64 1, Value.pointer none, Value.pointer none, Value.bool false, Value.bool false, Value.bool false, Value.bool false, Value.bool false]) ∧ ((((w.alloc (Obj.cells #[Value.iface 122 (Value.pointer (some { block := 0, off := 4 })), Value.int IntKind.u64 1, Value.pointer none, Value.pointer none, Value.bool false, Value.bool false, Value.bool false, Value.bool false, Value.bool false] 43)).alloc (Obj.cells #[Value.iface 122 (Value.pointer (some { block := 0, off := 4 })), Value.int IntKind.u64 1, Value.pointer none, Value.pointer none, Value.bool false, Value.bool false, Value.bool false, Value.bool false, Value.bool false] 43)).alloc (Obj.cells #[Value.iface 122 (Value.pointer (some { block := 0, off := 4 })), Value.int IntKind.u64 1, Value.pointer none, Value.pointer none, Value.bool false, Value.bool false, Value.bool false, Value.bool false, Value.bool false] 43)).alloc (Obj.cells #[Value.iface 122 (Value.pointer (some { block := 0, off := 4 })), Value.int IntKind.u64 1, Value.pointer none, Value.pointer none, Value.bool false, Value.bool false, Value.bool false, Value.bool false, Value.bool false] 43)) = w' := by
  go_enter Tryz.func31, Tryz.ntmps31
  go_wp2_with (first | (go_at_call 115; ((with_reducible refine (no_4 _ _).mono ?_); rintro e w' ⟨rfl, rfl⟩)))
  exact bodyPost_ret (v := (Value.agg #[Value.iface 122 (Value.pointer (some { block := 0, off := 4 })), Value.int IntKind.u64 1, Value.pointer none, Value.pointer none, Value.bool false, Value.bool false, Value.bool false, Value.bool false, Value.bool false])) (by simp [results, Tryz.results31, go_sem]) rfl ⟨rfl, rfl⟩

theorem c_33 (x : Option Addr) (n c : Nat) (w : World)  : Calls Tryz.prog 33 #[.slice x n c] w fun e w' => e = .returned (Value.agg #[Value.iface 122 (Value.pointer (some { block := 0, off := 50 })), Value.int IntKind.u64 23, Value.pointer none, Value.pointer none, Value.bool false, Value.bool false, Value.bool false, Value.bool false, Value.bool false]) ∧ ((((w.alloc (Obj.cells #[Value.iface 122 (Value.pointer (some { block := 0, off := 50 })), Value.int IntKind.u64 23, Value.pointer none, Value.pointer none, Value.bool false, Value.bool false, Value.bool false, Value.bool false, Value.bool false] 43)).alloc (Obj.cells #[Value.iface 122 (Value.pointer (some { block := 0, off := 50 })), Value.int IntKind.u64 23, Value.pointer none, Value.pointer none, Value.bool false, Value.bool false, Value.bool false, Value.bool false, Value.bool false] 43)).alloc (Obj.cells #[Value.iface 122 (Value.pointer (some { block := 0, off := 50 })), Value.int IntKind.u64 23, Value.pointer none, Value.pointer none, Value.bool false, Value.bool false, Value.bool false, Value.bool false, Value.bool false] 43)).alloc (Obj.cells #[Value.iface 122 (Value.pointer (some { block := 0, off := 50 })), Value.int IntKind.u64 23, Value.pointer none, Value.pointer none, Value.bool false, Value.bool false, Value.bool false, Value.bool false, Value.bool false] 43)) = w' := by
  go_enter Tryz.func33, Tryz.ntmps33
  go_wp2_with (first | (go_at_call 115; ((with_reducible refine (no_50 _ _).mono ?_); rintro e w' ⟨rfl, rfl⟩)))
  exact bodyPost_ret (v := (Value.agg #[Value.iface 122 (Value.pointer (some { block := 0, off := 50 })), Value.int IntKind.u64 23, Value.pointer none, Value.pointer none, Value.bool false, Value.bool false, Value.bool false, Value.bool false, Value.bool false])) (by simp [results, Tryz.results33, go_sem]) rfl ⟨rfl, rfl⟩

theorem c_35 (x : Option Nat) (w : World)  : Calls Tryz.prog 35 #[.map x] w fun e w' => e = .returned (Value.agg #[Value.iface 122 (Value.pointer (some { block := 0, off := 53 })), Value.int IntKind.u64 21, Value.pointer none, Value.pointer none, Value.bool false, Value.bool false, Value.bool false, Value.bool false, Value.bool false]) ∧ ((((w.alloc (Obj.cells #[Value.iface 122 (Value.pointer (some { block := 0, off := 53 })), Value.int IntKind.u64 21, Value.pointer none, Value.pointer none, Value.bool false, Value.bool false, Value.bool false, Value.bool false, Value.bool false] 43)).alloc (Obj.cells #[Value.iface 122 (Value.pointer (some { block := 0, off := 53 })), Value.int IntKind.u64 21, Value.pointer none, Value.pointer none, Value.bool false, Value.bool false, Value.bool false, Value.bool false, Value.bool false] 43)).alloc (Obj.cells #[Value.iface 122 (Value.pointer (some { block := 0, off := 53 })), Value.int IntKind.u64 21, Value.pointer none, Value.pointer none, Value.bool false, Value.bool false, Value.bool false, Value.bool false, Value.bool false] 43)).alloc (Obj.cells #[Value.iface 122 (Value.pointer (some { block := 0, off := 53 })), Value.int IntKind.u64 21, Value.pointer none, Value.pointer none, Value.bool false, Value.bool false, Value.bool false, Value.bool false, Value.bool false] 43)) = w' := by
  go_enter Tryz.func35, Tryz.ntmps35
  go_wp2_with (first | (go_at_call 115; ((with_reducible refine (no_53 _ _).mono ?_); rintro e w' ⟨rfl, rfl⟩)))
  exact bodyPost_ret (v := (Value.agg #[Value.iface 122 (Value.pointer (some { block := 0, off := 53 })), Value.int IntKind.u64 21, Value.pointer none, Value.pointer none, Value.bool false, Value.bool false, Value.bool false, Value.bool false, Value.bool false])) (by simp [results, Tryz.results35, go_sem]) rfl ⟨rfl, rfl⟩

theorem c_37 (x : Option Addr) (w : World)  : Calls Tryz.prog 37 #[.pointer x] w fun e w' => e = .returned (Value.agg #[Value.iface 122 (Value.pointer (some { block := 0, off := 51 })), Value.int IntKind.u64 22, Value.pointer none, Value.pointer none, Value.bool false, Value.bool false, Value.bool false, Value.bool false, Value.bool false]) ∧ ((((w.alloc (Obj.cells #[Value.iface 122 (Value.pointer (some { block := 0, off := 51 })), Value.int IntKind.u64 22, Value.pointer none, Value.pointer none, Value.bool false, Value.bool false, Value.bool false, Value.bool false, Value.bool false] 43)).alloc (Obj.cells #[Value.iface 122 (Value.pointer (some { block := 0, off := 51 })), Value.int IntKind.u64 22, Value.pointer none, Value.pointer none, Value.bool false, Value.bool false, Value.bool false, Value.bool false, Value.bool false] 43)).alloc (Obj.cells #[Value.iface 122 (Value.pointer (some { block := 0, off := 51 })), Value.int IntKind.u64 22, Value.pointer none, Value.pointer none, Value.bool false, Value.bool false, Value.bool false, Value.bool false, Value.bool false] 43)).alloc (Obj.cells #[Value.iface 122 (Value.pointer (some { block := 0, off := 51 })), Value.int IntKind.u64 22, Value.pointer none, Value.pointer none, Value.bool false, Value.bool false, Value.bool false, Value.bool false, Value.bool false] 43)) = w' := by
  go_enter Tryz.func37, Tryz.ntmps37
  go_wp2_with (first | (go_at_call 115; ((with_reducible refine (no_51 _ _).mono ?_); rintro e w' ⟨rfl, rfl⟩)))
  exact bodyPost_ret (v := (Value.agg #[Value.iface 122 (Value.pointer (some { block := 0, off := 51 })), Value.int IntKind.u64 22, Value.pointer none, Value.pointer none, Value.bool false, Value.bool false, Value.bool false, Value.bool false, Value.bool false])) (by simp [results, Tryz.results37, go_sem]) rfl ⟨rfl, rfl⟩

theorem nc_nil  (w : World)  : Calls Tryz.prog 140 #[.pointer none, .nilIface] w fun e w' => e = .returned (Value.agg #[Value.nilIface, Value.int IntKind.u64 0, Value.pointer none, Value.pointer none, Value.bool true, Value.bool false, Value.bool false, Value.bool false, Value.bool false]) ∧ (w.alloc (Obj.cells #[Value.nilIface, Value.int IntKind.u64 0, Value.pointer none, Value.pointer none, Value.bool true, Value.bool false, Value.bool false, Value.bool false, Value.bool false] 43)) = w' := by
  go_enter Tryz.func140, Tryz.ntmps140
  go_wp2
  exact bodyPost_ret (v := (Value.agg #[Value.nilIface, Value.int IntKind.u64 0, Value.pointer none, Value.pointer none, Value.bool true, Value.bool false, Value.bool false, Value.bool false, Value.bool false])) (by simp [results, Tryz.results140, go_sem]) rfl ⟨rfl, rfl⟩

theorem no_nil  (w : World)  : Calls Tryz.prog 115 #[.nilIface] w fun e w' => e = .returned (Value.agg #[Value.nilIface, Value.int IntKind.u64 0, Value.pointer none, Value.pointer none, Value.bool true, Value.bool false, Value.bool false, Value.bool false, Value.bool false]) ∧ ((w.alloc (Obj.cells #[Value.nilIface, Value.int IntKind.u64 0, Value.pointer none, Value.pointer none, Value.bool true, Value.bool false, Value.bool false, Value.bool false, Value.bool false] 43)).alloc (Obj.cells #[Value.nilIface, Value.int IntKind.u64 0, Value.pointer none, Value.pointer none, Value.bool true, Value.bool false, Value.bool false, Value.bool false, Value.bool false] 43)) = w' := by
  go_enter Tryz.func115, Tryz.ntmps115
  go_wp2_with (first | (go_at_call 140; ((with_reducible refine (nc_nil _).mono ?_); rintro e w' ⟨rfl, rfl⟩)))
  exact bodyPost_ret (v := (Value.agg #[Value.nilIface, Value.int IntKind.u64 0, Value.pointer none, Value.pointer none, Value.bool true, Value.bool false, Value.bool false, Value.bool false, Value.bool false])) (by simp [results, Tryz.results115, go_sem]) rfl ⟨rfl, rfl⟩

theorem c_39  (w : World)  : Calls Tryz.prog 39 #[] w fun e w' => e = .returned (Value.agg #[Value.nilIface, Value.int IntKind.u64 0, Value.pointer none, Value.pointer none, Value.bool true, Value.bool false, Value.bool false, Value.bool false, Value.bool false]) ∧ (((w.alloc (Obj.cells #[Value.nilIface, Value.int IntKind.u64 0, Value.pointer none, Value.pointer none, Value.bool true, Value.bool false, Value.bool false, Value.bool false, Value.bool false] 43)).alloc (Obj.cells #[Value.nilIface, Value.int IntKind.u64 0, Value.pointer none, Value.pointer none, Value.bool true, Value.bool false, Value.bool false, Value.bool false, Value.bool false] 43)).alloc (Obj.cells #[Value.nilIface, Value.int IntKind.u64 0, Value.pointer none, Value.pointer none, Value.bool true, Value.bool false, Value.bool false, Value.bool false, Value.bool false] 43)) = w' := by
  go_enter Tryz.func39, Tryz.ntmps39
  go_wp2_with (first | (go_at_call 115; ((with_reducible refine (no_nil _).mono ?_); rintro e w' ⟨rfl, rfl⟩)))
  exact bodyPost_ret (v := (Value.agg #[Value.nilIface, Value.int IntKind.u64 0, Value.pointer none, Value.pointer none, Value.bool true, Value.bool false, Value.bool false, Value.bool false, Value.bool false])) (by simp [results, Tryz.results39, go_sem]) rfl ⟨rfl, rfl⟩

theorem it_Int64  (w : World)  : Calls Tryz.prog 24 #[.agg #[.iface 122 (.pointer (some ⟨0, 2, none⟩)), .int .u64 6, .pointer none, .pointer none, .bool false, .bool false, .bool false, .bool true, .bool false]] w fun e w' => e = .returned (Value.bool true) ∧ ((w.alloc (Obj.cells #[Value.iface 122 (Value.pointer (some { block := 0, off := 2 })), Value.int IntKind.u64 6, Value.pointer none, Value.pointer none, Value.bool false, Value.bool false, Value.bool false, Value.bool true, Value.bool false] 43)).drew) = w' := by
  go_enter Tryz.func24, Tryz.ntmps24
  go_wp2
  go_region
  all_goals go_wp2
  all_goals exact bodyPost_ret (v := (Value.bool true)) (by simp [results, Tryz.results24, go_sem]) rfl ⟨rfl, rfl⟩

theorem it_Uint8  (w : World)  : Calls Tryz.prog 26 #[.agg #[.iface 122 (.pointer (some ⟨0, 5, none⟩)), .int .u64 8, .pointer none, .pointer none, .bool false, .bool false, .bool false, .bool true, .bool false]] w fun e w' => e = .returned (Value.bool true) ∧ ((w.alloc (Obj.cells #[Value.iface 122 (Value.pointer (some { block := 0, off := 5 })), Value.int IntKind.u64 8, Value.pointer none, Value.pointer none, Value.bool false, Value.bool false, Value.bool false, Value.bool true, Value.bool false] 43)).drew) = w' := by
  go_enter Tryz.func26, Tryz.ntmps26
  go_wp2
  go_region
  all_goals go_wp2
  all_goals exact bodyPost_ret (v := (Value.bool true)) (by simp [results, Tryz.results26, go_sem]) rfl ⟨rfl, rfl⟩

theorem it_Float64  (w : World)  : Calls Tryz.prog 28 #[.agg #[.iface 122 (.pointer (some ⟨0, 27, none⟩)), .int .u64 14, .pointer none, .pointer none, .bool false, .bool false, .bool false, .bool false, .bool true]] w fun e w' => e = .returned (Value.bool true) ∧ ((w.alloc (Obj.cells #[Value.iface 122 (Value.pointer (some { block := 0, off := 27 })), Value.int IntKind.u64 14, Value.pointer none, Value.pointer none, Value.bool false, Value.bool false, Value.bool false, Value.bool false, Value.bool true] 43)).drew) = w' := by
  go_enter Tryz.func28, Tryz.ntmps28
  go_wp2
  go_region
  all_goals go_wp2
  all_goals exact bodyPost_ret (v := (Value.bool true)) (by simp [results, Tryz.results28, go_sem]) rfl ⟨rfl, rfl⟩

theorem it_String  (w : World)  : Calls Tryz.prog 30 #[.agg #[.iface 122 (.pointer (some ⟨0, 9, none⟩)), .int .u64 24, .pointer none, .pointer none, .bool false, .bool false, .bool false, .bool false, .bool false]] w fun e w' => e = .returned (Value.bool true) ∧ ((w.alloc (Obj.cells #[Value.iface 122 (Value.pointer (some { block := 0, off := 9 })), Value.int IntKind.u64 24, Value.pointer none, Value.pointer none, Value.bool false, Value.bool false, Value.bool false, Value.bool false, Value.bool false] 43)).drew) = w' := by
  go_enter Tryz.func30, Tryz.ntmps30
  go_wp2
  go_region
  all_goals go_wp2
  all_goals exact bodyPost_ret (v := (Value.bool true)) (by simp [results, Tryz.results30, go_sem]) rfl ⟨rfl, rfl⟩

theorem it_Bool  (w : World)  : Calls Tryz.prog 32 #[.agg #[.iface 122 (.pointer (some ⟨0, 4, none⟩)), .int .u64 1, .pointer none, .pointer none, .bool false, .bool false, .bool false, .bool false, .bool false]] w fun e w' => e = .returned (Value.bool true) ∧ ((w.alloc (Obj.cells #[Value.iface 122 (Value.pointer (some { block := 0, off := 4 })), Value.int IntKind.u64 1, Value.pointer none, Value.pointer none, Value.bool false, Value.bool false, Value.bool false, Value.bool false, Value.bool false] 43)).drew) = w' := by
  go_enter Tryz.func32, Tryz.ntmps32
  go_wp2
  go_region
  all_goals go_wp2
  all_goals exact bodyPost_ret (v := (Value.bool true)) (by simp [results, Tryz.results32, go_sem]) rfl ⟨rfl, rfl⟩

theorem it_SliceInt  (w : World)  : Calls Tryz.prog 34 #[.agg #[.iface 122 (.pointer (some ⟨0, 50, none⟩)), .int .u64 23, .pointer none, .pointer none, .bool false, .bool false, .bool false, .bool false, .bool false]] w fun e w' => e = .returned (Value.bool true) ∧ ((w.alloc (Obj.cells #[Value.iface 122 (Value.pointer (some { block := 0, off := 50 })), Value.int IntKind.u64 23, Value.pointer none, Value.pointer none, Value.bool false, Value.bool false, Value.bool false, Value.bool false, Value.bool false] 43)).drew) = w' := by
  go_enter Tryz.func34, Tryz.ntmps34
  go_wp2
  go_region
  all_goals go_wp2
  all_goals exact bodyPost_ret (v := (Value.bool true)) (by simp [results, Tryz.results34, go_sem]) rfl ⟨rfl, rfl⟩

theorem it_MapStringInt  (w : World)  : Calls Tryz.prog 36 #[.agg #[.iface 122 (.pointer (some ⟨0, 53, none⟩)), .int .u64 21, .pointer none, .pointer none, .bool false, .bool false, .bool false, .bool false, .bool false]] w fun e w' => e = .returned (Value.bool true) ∧ ((w.alloc (Obj.cells #[Value.iface 122 (Value.pointer (some { block := 0, off := 53 })), Value.int IntKind.u64 21, Value.pointer none, Value.pointer none, Value.bool false, Value.bool false, Value.bool false, Value.bool false, Value.bool false] 43)).drew) = w' := by
  go_enter Tryz.func36, Tryz.ntmps36
  go_wp2
  go_region
  all_goals go_wp2
  all_goals exact bodyPost_ret (v := (Value.bool true)) (by simp [results, Tryz.results36, go_sem]) rfl ⟨rfl, rfl⟩

theorem it_PtrInt  (w : World)  : Calls Tryz.prog 38 #[.agg #[.iface 122 (.pointer (some ⟨0, 51, none⟩)), .int .u64 22, .pointer none, .pointer none, .bool false, .bool false, .bool false, .bool false, .bool false]] w fun e w' => e = .returned (Value.bool true) ∧ ((w.alloc (Obj.cells #[Value.iface 122 (Value.pointer (some { block := 0, off := 51 })), Value.int IntKind.u64 22, Value.pointer none, Value.pointer none, Value.bool false, Value.bool false, Value.bool false, Value.bool false, Value.bool false] 43)).drew) = w' := by
  go_enter Tryz.func38, Tryz.ntmps38
  go_wp2
  go_region
  all_goals go_wp2
  all_goals exact bodyPost_ret (v := (Value.bool true)) (by simp [results, Tryz.results38, go_sem]) rfl ⟨rfl, rfl⟩

theorem sh_Int64  (w : World)  : Calls Tryz.prog 23 #[.agg #[.iface 122 (.pointer (some ⟨0, 2, none⟩)), .int .u64 6, .pointer none, .pointer none, .bool false, .bool false, .bool false, .bool true, .bool false], .bool true, .int .u64 6, .bool true, .bool false, .bool false] w fun e w' => e = .returned (Value.bool true) ∧ (w.alloc (Obj.cells #[Value.iface 122 (Value.pointer (some { block := 0, off := 2 })), Value.int IntKind.u64 6, Value.pointer none, Value.pointer none, Value.bool false, Value.bool false, Value.bool false, Value.bool true, Value.bool false] 43)) = w' := by
  go_enter Tryz.func23, Tryz.ntmps23
  go_wp2
  exact bodyPost_ret (v := (Value.bool true)) (by simp [results, Tryz.results23, go_sem]) rfl ⟨rfl, rfl⟩

theorem sh_Uint8  (w : World)  : Calls Tryz.prog 23 #[.agg #[.iface 122 (.pointer (some ⟨0, 5, none⟩)), .int .u64 8, .pointer none, .pointer none, .bool false, .bool false, .bool false, .bool true, .bool false], .bool true, .int .u64 8, .bool true, .bool false, .bool false] w fun e w' => e = .returned (Value.bool true) ∧ (w.alloc (Obj.cells #[Value.iface 122 (Value.pointer (some { block := 0, off := 5 })), Value.int IntKind.u64 8, Value.pointer none, Value.pointer none, Value.bool false, Value.bool false, Value.bool false, Value.bool true, Value.bool false] 43)) = w' := by
  go_enter Tryz.func23, Tryz.ntmps23
  go_wp2
  exact bodyPost_ret (v := (Value.bool true)) (by simp [results, Tryz.results23, go_sem]) rfl ⟨rfl, rfl⟩

theorem sh_Float64  (w : World)  : Calls Tryz.prog 23 #[.agg #[.iface 122 (.pointer (some ⟨0, 27, none⟩)), .int .u64 14, .pointer none, .pointer none, .bool false, .bool false, .bool false, .bool false, .bool true], .bool true, .int .u64 14, .bool false, .bool true, .bool false] w fun e w' => e = .returned (Value.bool true) ∧ (w.alloc (Obj.cells #[Value.iface 122 (Value.pointer (some { block := 0, off := 27 })), Value.int IntKind.u64 14, Value.pointer none, Value.pointer none, Value.bool false, Value.bool false, Value.bool false, Value.bool false, Value.bool true] 43)) = w' := by
  go_enter Tryz.func23, Tryz.ntmps23
  go_wp2
  exact bodyPost_ret (v := (Value.bool true)) (by simp [results, Tryz.results23, go_sem]) rfl ⟨rfl, rfl⟩

theorem sh_String  (w : World)  : Calls Tryz.prog 23 #[.agg #[.iface 122 (.pointer (some ⟨0, 9, none⟩)), .int .u64 24, .pointer none, .pointer none, .bool false, .bool false, .bool false, .bool false, .bool false], .bool true, .int .u64 24, .bool false, .bool false, .bool false] w fun e w' => e = .returned (Value.bool true) ∧ (w.alloc (Obj.cells #[Value.iface 122 (Value.pointer (some { block := 0, off := 9 })), Value.int IntKind.u64 24, Value.pointer none, Value.pointer none, Value.bool false, Value.bool false, Value.bool false, Value.bool false, Value.bool false] 43)) = w' := by
  go_enter Tryz.func23, Tryz.ntmps23
  go_wp2
  exact bodyPost_ret (v := (Value.bool true)) (by simp [results, Tryz.results23, go_sem]) rfl ⟨rfl, rfl⟩

theorem sh_Bool  (w : World)  : Calls Tryz.prog 23 #[.agg #[.iface 122 (.pointer (some ⟨0, 4, none⟩)), .int .u64 1, .pointer none, .pointer none, .bool false, .bool false, .bool false, .bool false, .bool false], .bool true, .int .u64 1, .bool false, .bool false, .bool false] w fun e w' => e = .returned (Value.bool true) ∧ (w.alloc (Obj.cells #[Value.iface 122 (Value.pointer (some { block := 0, off := 4 })), Value.int IntKind.u64 1, Value.pointer none, Value.pointer none, Value.bool false, Value.bool false, Value.bool false, Value.bool false, Value.bool false] 43)) = w' := by
  go_enter Tryz.func23, Tryz.ntmps23
  go_wp2
  exact bodyPost_ret (v := (Value.bool true)) (by simp [results, Tryz.results23, go_sem]) rfl ⟨rfl, rfl⟩

theorem sh_SliceInt  (w : World)  : Calls Tryz.prog 23 #[.agg #[.iface 122 (.pointer (some ⟨0, 50, none⟩)), .int .u64 23, .pointer none, .pointer none, .bool false, .bool false, .bool false, .bool false, .bool false], .bool true, .int .u64 23, .bool false, .bool false, .bool false] w fun e w' => e = .returned (Value.bool true) ∧ (w.alloc (Obj.cells #[Value.iface 122 (Value.pointer (some { block := 0, off := 50 })), Value.int IntKind.u64 23, Value.pointer none, Value.pointer none, Value.bool false, Value.bool false, Value.bool false, Value.bool false, Value.bool false] 43)) = w' := by
  go_enter Tryz.func23, Tryz.ntmps23
  go_wp2
  exact bodyPost_ret (v := (Value.bool true)) (by simp [results, Tryz.results23, go_sem]) rfl ⟨rfl, rfl⟩

theorem sh_MapStringInt  (w : World)  : Calls Tryz.prog 23 #[.agg #[.iface 122 (.pointer (some ⟨0, 53, none⟩)), .int .u64 21, .pointer none, .pointer none, .bool false, .bool false, .bool false, .bool false, .bool false], .bool true, .int .u64 21, .bool false, .bool false, .bool false] w fun e w' => e = .returned (Value.bool true) ∧ (w.alloc (Obj.cells #[Value.iface 122 (Value.pointer (some { block := 0, off := 53 })), Value.int IntKind.u64 21, Value.pointer none, Value.pointer none, Value.bool false, Value.bool false, Value.bool false, Value.bool false, Value.bool false] 43)) = w' := by
  go_enter Tryz.func23, Tryz.ntmps23
  go_wp2
  exact bodyPost_ret (v := (Value.bool true)) (by simp [results, Tryz.results23, go_sem]) rfl ⟨rfl, rfl⟩

theorem sh_PtrInt  (w : World)  : Calls Tryz.prog 23 #[.agg #[.iface 122 (.pointer (some ⟨0, 51, none⟩)), .int .u64 22, .pointer none, .pointer none, .bool false, .bool false, .bool false, .bool false, .bool false], .bool true, .int .u64 22, .bool false, .bool false, .bool false] w fun e w' => e = .returned (Value.bool true) ∧ (w.alloc (Obj.cells #[Value.iface 122 (Value.pointer (some { block := 0, off := 51 })), Value.int IntKind.u64 22, Value.pointer none, Value.pointer none, Value.bool false, Value.bool false, Value.bool false, Value.bool false, Value.bool false] 43)) = w' := by
  go_enter Tryz.func23, Tryz.ntmps23
  go_wp2
  exact bodyPost_ret (v := (Value.bool true)) (by simp [results, Tryz.results23, go_sem]) rfl ⟨rfl, rfl⟩

/-- block n of w is a row of cells of which nothing is frozen -/
def Plain (w : World) (n : Nat) : Prop := ∃ c t, w.heap[n]? = some (.cells c t (0, 0))
theorem Plain.lt {w : World} {n : Nat} (h : Plain w n) : n < w.heap.size := by
  obtain ⟨c, t, h⟩ := h
  exact (Array.getElem?_eq_some_iff.1 h).1
@[go_sem] theorem plain_at (w : World) (c : Array Value) (t : TypeId) (n : Nat) (hn : n = w.heap.size) : Plain (w.alloc (.cells c t)) n = True := by
  subst hn
  exact eq_true ⟨c, t, (show (w.heap.push (.cells c t))[w.heap.size]? = some (.cells c t) by simp)⟩
@[go_sem] theorem plain_past (w : World) (o : Obj) (n : Nat) (hn : n < w.heap.size) : Plain (w.alloc o) n = Plain w n := by
  unfold Plain
  rw [Below.heap_alloc w o n hn]
@[go_sem] theorem plain_drew (w : World) (n : Nat) : Plain w.drew n = Plain w n := rfl
@[go_sem] theorem plain_drewN (w : World) (m n : Nat) : Plain (w.drewN m) n = Plain w n := rfl
@[go_sem] theorem plain_set (w : World) (a : Addr) (v : Value) (n : Nat) : Plain (w.setCell a v) n = Plain w n := by
  unfold Plain
  by_cases h : n = a.block
  · subst h
    simp only [World.setCell, Array.getElem?_modify]
    apply propext
    constructor
    · rintro ⟨c, t, h⟩
      cases ho : w.heap[a.block]? with
      | none => simp [ho] at h
      | some o =>
        simp [ho] at h
        cases o <;> simp at h
        obtain ⟨_, rfl, rfl⟩ := h
        exact ⟨_, _, rfl⟩
    · rintro ⟨c, t, h⟩
      rw [h]
      simp only [if_true, Option.map_some]
      exact ⟨_, t, rfl⟩
  · rw [Below.heap_setCell w a v n h]
/-- the cells of block n of w, where nothing of it is frozen -/
def cellsAt (w : World) (n : Nat) : Array Value := match w.heap[n]? with | some (.cells c _ (0, 0)) => c | _ => #[]
theorem cellsAt_of {w : World} {n : Nat} {c : Array Value} {t : TypeId} (h : w.heap[n]? = some (.cells c t (0, 0))) : cellsAt w n = c := by simp [cellsAt, h]
theorem cellsAt_heap {w u : World} {n : Nat} (h : u.heap[n]? = w.heap[n]?) : cellsAt u n = cellsAt w n := by
  unfold cellsAt
  rw [h]
theorem plain_heap {w u : World} {n : Nat} (h : u.heap[n]? = w.heap[n]?) (p : Plain w n) : Plain u n := by
  obtain ⟨c, t, hp⟩ := p
  exact ⟨c, t, h.trans hp⟩
theorem Plain.row {w : World} {n : Nat} (h : Plain w n) : ∃ t, w.heap[n]? = some (.cells (cellsAt w n) t (0, 0)) := by
  obtain ⟨c, t, h⟩ := h
  exact ⟨t, by rw [cellsAt_of h]; exact h⟩
@[go_sem] theorem cellsAt_at (w : World) (c : Array Value) (t : TypeId) (n : Nat) (hn : n = w.heap.size) : cellsAt (w.alloc (.cells c t)) n = c := by
  subst hn
  exact cellsAt_of (show (w.heap.push (.cells c t))[w.heap.size]? = some (.cells c t) by simp)
@[go_sem] theorem cellsAt_past (w : World) (o : Obj) (n : Nat) (hn : n < w.heap.size) : cellsAt (w.alloc o) n = cellsAt w n := cellsAt_heap (Below.heap_alloc w o n hn)
@[go_sem] theorem cellsAt_drew (w : World) (n : Nat) : cellsAt w.drew n = cellsAt w n := rfl
@[go_sem] theorem cellsAt_drewN (w : World) (m n : Nat) : cellsAt (w.drewN m) n = cellsAt w n := rfl
@[go_sem] theorem cellsAt_row (w : World) (n : Nat) (c : Array Value) (hp : Plain w n) : cellsAt (w.setRow n c) n = c := by
  obtain ⟨t, h⟩ := hp.row
  exact cellsAt_of (setRow_heap w n _ c t _ h)
@[go_sem] theorem cellsAt_row_other (w : World) (n m : Nat) (c : Array Value) (hne : n ≠ m) : cellsAt (w.setRow m c) n = cellsAt w n := cellsAt_heap (setRow_other w m n c hne)
@[go_sem] theorem plain_row (w : World) (n m : Nat) (c : Array Value) (hp : Plain w n) : Plain (w.setRow m c) n := by
  by_cases h : n = m
  · subst h
    obtain ⟨t, h⟩ := hp.row
    exact ⟨_, t, setRow_heap w n _ c t _ h⟩
  · exact plain_heap (setRow_other w m n c h) hp
@[go_sem] theorem cell_plain (w : World) (n i : Nat) (hp : Plain w n) : w.cell? ⟨n, i, none⟩ = (cellsAt w n)[i]? := by
  obtain ⟨t, h⟩ := hp.row
  exact cell_of_row w n i _ t _ h
@[go_sem] theorem frozen_plain (w : World) (n i : Nat) (hp : Plain w n) : w.frozen? ⟨n, i, none⟩ = false := by
  obtain ⟨t, h⟩ := hp.row
  simp [World.frozen?, h]
@[go_sem] theorem cellsAt_setCell (w : World) (n i : Nat) (v : Value) (hp : Plain w n) : cellsAt (w.setCell ⟨n, i, none⟩ v) n = (cellsAt w n).setIfInBounds i v := by
  obtain ⟨t, h⟩ := hp.row
  rw [setCell_eq_setRow w n i _ t _ v h]
  exact cellsAt_of (setRow_heap w n _ _ t _ h)
@[go_sem] theorem cellsAt_setCell_other (w : World) (n m i : Nat) (v : Value) (hne : n ≠ m) : cellsAt (w.setCell ⟨m, i, none⟩ v) n = cellsAt w n := cellsAt_heap (Below.heap_setCell w ⟨m, i, none⟩ v n hne)
attribute [go_sem] setRow_size
theorem nsz_43 : (Tryz.prog.info? 43).map (·.size) = some 9 := by kernel_rfl
theorem ldv_43 (w : World) (n : Nat) (hp : Plain w n) (hs : (cellsAt w n).size = 9) : (loadVar 43 ⟨n, 0, none⟩).run Tryz.prog w = .ok (.agg (cellsAt w n)) w := by
  obtain ⟨t, h⟩ := hp.row
  exact run_loadVar_row w n t 43 _ _ _ h Tryz.underlying43 rfl (by rw [hs]; exact nsz_43)
@[go_sem ↓] theorem lda_43 (w : World) (n : Nat) (hp : Plain w n) (hs : (cellsAt w n).size = 9) : (Instr.loadAt 43 (.pointer (some ⟨n, 0, none⟩))).run Tryz.prog w = .ok (.agg (cellsAt w n)) w := by
  simp only [Instr.loadAt, Instr.sureAddr, Sem.run_bind, Sem.run_pure, Result.andThen_ok, ldv_43 w n hp hs]
theorem sta_43 (w : World) (n : Nat) (c : Array Value) (hp : Plain w n) (hs : (cellsAt w n).size = 9) (hc : c.size = 9) (h1 : c.all (·.oneCell') = true) : (Instr.storeAt 43 (.pointer (some ⟨n, 0, none⟩)) (.agg c)).run Tryz.prog w = .ok () (w.setRow n c) := by
  obtain ⟨t, h⟩ := hp.row
  simp only [Instr.storeAt, Instr.sureAddr, Sem.run_bind, Sem.run_pure, Result.andThen_ok, run_storeVar_row w n t 43 _ c h (by rw [hc]; exact nsz_43) (by rw [hs, hc]) h1]
@[go_sem ↓] theorem sta_43n (w : World) (n : Nat) (k : IntKind) (a : Int) (td rf : Option Addr) (b1 b2 b3 b4 b5 : Bool) (hp : Plain w n) (hs : (cellsAt w n).size = 9) :
    (Instr.storeAt 43 (.pointer (some ⟨n, 0, none⟩)) (.agg #[.nilIface, .int k a, .pointer td, .pointer rf, .bool b1, .bool b2, .bool b3, .bool b4, .bool b5])).run Tryz.prog w = .ok () (w.setRow n #[.nilIface, .int k a, .pointer td, .pointer rf, .bool b1, .bool b2, .bool b3, .bool b4, .bool b5]) :=
  sta_43 w n _ hp hs rfl (Array.all_eq_true_iff_forall_mem.2 (fun v hv => by simp at hv; rcases hv with rfl | rfl | rfl | rfl | rfl | rfl | rfl | rfl | rfl <;> rfl))
@[go_sem ↓] theorem sta_43i (w : World) (n : Nat) (u : TypeId) (x : Value) (k : IntKind) (a : Int) (td rf : Option Addr) (b1 b2 b3 b4 b5 : Bool) (hp : Plain w n) (hs : (cellsAt w n).size = 9) :
    (Instr.storeAt 43 (.pointer (some ⟨n, 0, none⟩)) (.agg #[.iface u x, .int k a, .pointer td, .pointer rf, .bool b1, .bool b2, .bool b3, .bool b4, .bool b5])).run Tryz.prog w = .ok () (w.setRow n #[.iface u x, .int k a, .pointer td, .pointer rf, .bool b1, .bool b2, .bool b3, .bool b4, .bool b5]) :=
  sta_43 w n _ hp hs rfl (Array.all_eq_true_iff_forall_mem.2 (fun v hv => by simp at hv; rcases hv with rfl | rfl | rfl | rfl | rfl | rfl | rfl | rfl | rfl <;> rfl))
theorem keepP {u v : World} {n : Nat} (hb : Below u.heap.size u v) (hp : Plain u n) : Plain v n ∧ cellsAt v n = cellsAt u n := ⟨plain_heap (hb.block n hp.lt) hp, cellsAt_heap (hb.block n hp.lt)⟩
theorem nk {u v : World} {c : Array Value} {t : TypeId} (hb : Below (u.alloc (.cells c t)).heap.size (u.alloc (.cells c t)) v) : Plain v u.heap.size ∧ cellsAt v u.heap.size = c ∧ u.heap.size < v.heap.size := by
  have h := keepP hb ((plain_at u c t _ rfl).mpr trivial)
  exact ⟨h.1, h.2.trans (cellsAt_at u c t _ rfl), h.1.lt⟩
theorem bnext {a u v : World} (h : Below a.heap.size a u) (k : Below u.heap.size u v) : Below a.heap.size a v :=
  Below.trans h (k.mono h.size)
theorem blk_new (w : World) (o : Obj) : (w.alloc o).heap[w.heap.size]? = some o := (show (w.heap.push o)[w.heap.size]? = some o by simp)
theorem cp_ok {w : World} {a : Addr} {n c : Nat} {zs : List Int} (hz : zs.length = c) (hcell : ∀ i, i < zs.length → w.cell? (a.add i) = some (.int .i64 (zs.getD i 0))) (o : Obj) (j : Nat) (v : Value)
    (hj : ((zs.take n).map (Value.int .i64))[j]? = some v) : (w.alloc o).cell? (a.add j) = some v := by
  simp only [List.getElem?_map, Option.map_eq_some_iff] at hj
  obtain ⟨x, hx, rfl⟩ := hj
  have hx2 : zs[j]? = some x := by
    rw [List.getElem?_take] at hx
    split at hx
    · exact hx
    · cases hx
  have hlt : j < zs.length := (List.getElem?_eq_some_iff.1 hx2).1
  have hc := hcell j hlt
  have hd : zs.getD j 0 = x := by simp [hx2]
  rw [hd] at hc
  have hb : (a.add j).block < w.heap.size := by
    rcases Nat.lt_or_ge (a.add j).block w.heap.size with h | h
    · exact h
    · rw [World.cell?, Array.getElem?_eq_none_iff.2 h] at hc
      cases hc
  rw [World.cell?_of_block (w := w) (Below.heap_alloc w o _ hb)]
  exact hc
theorem cell_lt {w : World} {p : Addr} {v : Value} (hc : w.cell? p = some v) : p.block < w.heap.size := by
  rcases Nat.lt_or_ge p.block w.heap.size with h | h
  · exact h
  · rw [World.cell?, Array.getElem?_eq_none_iff.2 h] at hc
    cases hc
theorem cp_one {n : Nat} {zs : List Int} : ∀ v ∈ (zs.take n).map (Value.int .i64), v.oneCell' = true := by
  intro v hv
  simp only [List.mem_map] at hv
  obtain ⟨x, _, rfl⟩ := hv
  rfl

/-- block r of w, turned into the object o -/
def put (w : World) (r : Nat) (o : Obj) : World := { w with heap := w.heap.setIfInBounds r o }
/-- the map object in block n of w -/
def mapAt (w : World) (n : Nat) : Option (Array MapEntry × Nat) := match w.heap[n]? with | some (.map es c) => some (es, c) | _ => none
theorem mapAt_some {w : World} {n : Nat} {es : Array MapEntry} {c : Nat} (h : mapAt w n = some (es, c)) : w.heap[n]? = some (.map es c) := by
  unfold mapAt at h
  cases ho : w.heap[n]? with
  | none => simp [ho] at h
  | some o => cases o <;> simp [ho] at h; obtain ⟨rfl, rfl⟩ := h; rfl
@[go_sem] theorem mapAt_at (w : World) (es : Array MapEntry) (c n : Nat) (hn : n = w.heap.size) : mapAt (w.alloc (.map es c)) n = some (es, c) := by
  subst hn
  have h : (w.alloc (.map es c)).heap[w.heap.size]? = some (.map es c) := (show (w.heap.push (.map es c))[w.heap.size]? = some (.map es c) by simp)
  simp only [mapAt, h]
@[go_sem] theorem mapAt_past (w : World) (o : Obj) (n : Nat) (hn : n < w.heap.size) : mapAt (w.alloc o) n = mapAt w n := by
  unfold mapAt
  rw [Below.heap_alloc w o n hn]
@[go_sem] theorem mapAt_drew (w : World) (n : Nat) : mapAt w.drew n = mapAt w n := rfl
@[go_sem] theorem mapAt_drewN (w : World) (m n : Nat) : mapAt (w.drewN m) n = mapAt w n := rfl
@[go_sem] theorem mapAt_set (w : World) (a : Addr) (v : Value) (n : Nat) : mapAt (w.setCell a v) n = mapAt w n := by
  unfold mapAt
  by_cases h : n = a.block
  · subst h
    simp only [World.setCell, Array.getElem?_modify]
    cases ho : w.heap[a.block]? with
    | none => simp
    | some o => cases o <;> simp
  · rw [Below.heap_setCell w a v n h]
@[go_sem] theorem put_at (w : World) (o o' : Obj) (n : Nat) (hn : n = w.heap.size) : put (w.alloc o) n o' = w.alloc o' := by
  subst hn
  unfold put World.alloc
  congr 1
  apply Array.ext_getElem?
  intro k
  simp only [Array.getElem?_setIfInBounds, Array.getElem?_push, Array.size_push]
  by_cases hk : w.heap.size = k
  · subst hk; simp
  · have : ¬ k = w.heap.size := fun e => hk e.symm
    simp [hk, this]
@[go_sem] theorem put_past (w : World) (o o' : Obj) (n : Nat) (hn : n < w.heap.size) : put (w.alloc o) n o' = (put w n o').alloc o := by
  unfold put World.alloc
  congr 1
  apply Array.ext_getElem?
  intro k
  simp only [Array.getElem?_setIfInBounds, Array.getElem?_push, Array.size_push, Array.size_setIfInBounds]
  by_cases hk : k = w.heap.size
  · subst hk
    have : ¬ n = w.heap.size := by omega
    simp [this]
  · simp [hk]
    by_cases h2 : n = k
    · subst h2
      have h3 : n < w.heap.size + 1 := by omega
      simp [h3, hn]
    · simp [h2]
@[go_sem] theorem put_drew (w : World) (n : Nat) (o : Obj) : put w.drew n o = (put w n o).drew := rfl
@[go_sem] theorem put_size (w : World) (n : Nat) (o : Obj) : (put w n o).heap.size = w.heap.size := by simp [put]
theorem heap_put (w : World) (n : Nat) (o : Obj) (k : Nat) (h : n ≠ k) : (put w n o).heap[k]? = w.heap[k]? := by simp [put, h]
@[go_sem] theorem put_cell (w : World) (n : Nat) (o : Obj) (b i : Nat) (h : n ≠ b) : (put w n o).cell? ⟨b, i, none⟩ = w.cell? ⟨b, i, none⟩ := by
  unfold World.cell?
  rw [heap_put w n o b h]
@[go_sem] theorem put_frozen (w : World) (n : Nat) (o : Obj) (b i : Nat) (h : n ≠ b) : (put w n o).frozen? ⟨b, i, none⟩ = w.frozen? ⟨b, i, none⟩ := by
  unfold World.frozen?
  rw [heap_put w n o b h]
theorem Below.put {B : Nat} {a w : World} (h : Below B a w) {n : Nat} (hn : B ≤ n) (o : Obj) : Below B a (put w n o) :=
  ⟨h.os, h.tape, h.output, by rw [put_size]; exact h.size, fun k hk => (heap_put w n o k (by omega)).trans (h.block k hk)⟩
/-- every key is a string -/
def allStr : List MapEntry → Bool
  | [] => true
  | e :: es => (match e.key with | .string _ => true | _ => false) && allStr es
/-- the element under a string key -/
def strFind (k : ByteArray) : List MapEntry → Option Value
  | [] => none
  | e :: es => if (match e.key with | .string s => k == s | _ => false) then some e.val else strFind k es
theorem findNow_str (k : ByteArray) : ∀ (es : List MapEntry) (i : Nat), allStr es = true → ∃ r, Instr.findNow .string (.string k) es i = some r ∧ r.map (·.2) = strFind k es := by
  intro es
  induction es with
  | nil => intro i _; exact ⟨none, rfl, rfl⟩
  | cons e es ih =>
    intro i h
    obtain ⟨key, val, born⟩ := e
    cases key <;> simp [allStr] at h
    rename_i s
    by_cases hks : (k == s) = true
    · exact ⟨some (i, val), by simp [Instr.findNow, Instr.sameNow, hks], by simp [strFind, hks]⟩
    · have hf : (k == s) = false := by simpa using hks
      obtain ⟨r, hr, hr2⟩ := ih (i + 1) h
      exact ⟨r, by simp [Instr.findNow, Instr.sameNow, hf, hr], by simp [strFind, hf, hr2]⟩
theorem run_lookup_str {P : Program} {w : World} {t kt et : TypeId} {r : Nat} {es : Array MapEntry} {cl : Nat} {k : ByteArray} {ok : Bool} {z : Value}
    (hm : P.underlying t = some (.map kt et)) (hk : P.underlying kt = some .string) (hat : mapAt w r = some (es, cl)) (hall : allStr es.toList = true) (hz : (zeroValue et).run P w = .ok z w) :
    (Instr.lookup t (.map (some r)) (.string k) ok).run P w = .ok (match strFind k es.toList with | some v => (if ok then .tuple #[v, .bool true] else v) | none => (if ok then .tuple #[z, .bool false] else z)) w := by
  obtain ⟨x, hx, hx2⟩ := findNow_str k es.toList 0 hall
  have h1 := MapKept.run_getObj_map (P := P) (mapAt_some hat)
  have h2 := MapKept.run_checkKey (P := P) (w := w) (k := .string k) hk (by simp [MapKept.IsKey]) es.isEmpty 9999
  have h3 := MapKept.run_findKey (P := P) (w := w) hk hx
  unfold Instr.lookup
  cases x with
  | none =>
    rw [← hx2]
    cases ok <;> simp [run_underlying hm, h1, h2, h3, hz, Result.andThen]
  | some y =>
    rw [← hx2]
    obtain ⟨i, v⟩ := y
    cases ok <;> simp [run_underlying hm, h1, h2, h3, Result.andThen]
theorem run_update_str {P : Program} {w : World} {t kt et : TypeId} {r : Nat} {es : Array MapEntry} {cl : Nat} {k : ByteArray} {v : Value}
    (hm : P.underlying t = some (.map kt et)) (hk : P.underlying kt = some .string) (hat : mapAt w r = some (es, cl)) (hall : allStr es.toList = true) (hnew : strFind k es.toList = none) :
    (Instr.mapUpdate t (.map (some r)) (.string k) v).run P w = .ok () (put w r (.map (es.push { key := .string k, val := v, born := cl }) (cl + 1))) := by
  obtain ⟨x, hx, hx2⟩ := findNow_str k es.toList 0 hall
  have h0 : x = none := by
    rw [hnew] at hx2
    cases x <;> simp_all
  subst h0
  have h1 := MapKept.run_getObj_map (P := P) (mapAt_some hat)
  have h2 := MapKept.run_checkKey (P := P) (w := w) (k := .string k) hk (by simp [MapKept.IsKey]) false 9999
  have h3 := MapKept.run_findKey (P := P) (w := w) hk hx
  have h4 := MapKept.run_setObj_map (P := P) (.map (es.push { key := .string k, val := v, born := cl }) (cl + 1)) (mapAt_some hat)
  unfold Instr.mapUpdate
  simp [run_underlying hm, h1, h2, h3, h4, Result.andThen, put]
/-- every key is an interface value over R, a pointer into block g -/
def allTy (R g : Nat) : List MapEntry → Bool
  | [] => true
  | e :: es => (match e.key with | .iface r (.pointer (some ⟨b, _, none⟩)) => r == R && b == g | _ => false) && allTy R g es
/-- the element under a type's handle -/
def tyFind (a : Nat) : List MapEntry → Option Value
  | [] => none
  | e :: es => if (match e.key with | .iface _ (.pointer (some ⟨_, o, _⟩)) => a == o | _ => false) then some e.val else tyFind a es
theorem findAsking_ty {P : Program} {w : World} {kt R g : Nat} (heq : ∀ a b, (Op.equal kt (.iface R (.pointer (some ⟨g, a, none⟩))) (.iface R (.pointer (some ⟨g, b, none⟩)))).run P w = .ok (a == b) w) (a : Nat) :
    ∀ (es : List MapEntry) (i : Nat), allTy R g es = true → ∃ r, (Instr.findAsking kt (.iface R (.pointer (some ⟨g, a, none⟩))) es i).run P w = .ok r w ∧ r.map (·.2) = tyFind a es := by
  intro es
  induction es with
  | nil => intro i _; exact ⟨none, rfl, rfl⟩
  | cons e es ih =>
    intro i h
    obtain ⟨key, val, born⟩ := e
    simp only [allTy, Bool.and_eq_true] at h
    obtain ⟨h1, h2⟩ := h
    split at h1 <;> simp at h1
    obtain ⟨rfl, rfl⟩ := h1
    rename_i o
    cases hab : (a == o) with
    | true => exact ⟨some (i, val), by simp [Instr.findAsking, heq, hab, Result.andThen], by simp_all [tyFind]⟩
    | false =>
      obtain ⟨r, hr, hr2⟩ := ih (i + 1) h2
      exact ⟨r, by simp [Instr.findAsking, heq, hab, Result.andThen, hr], by simp_all [tyFind]⟩
theorem findKey_ty {P : Program} {w : World} {kt R g : Nat} {ms : Array (String × TypeId)} (hk : P.underlying kt = some (.interface ms)) (heq : ∀ a b, (Op.equal kt (.iface R (.pointer (some ⟨g, a, none⟩))) (.iface R (.pointer (some ⟨g, b, none⟩)))).run P w = .ok (a == b) w) (a : Nat)
    (es : List MapEntry) (h : allTy R g es = true) : ∃ r, (Instr.findKey kt (.iface R (.pointer (some ⟨g, a, none⟩))) es).run P w = .ok r w ∧ r.map (·.2) = tyFind a es := by
  cases es with
  | nil => exact ⟨none, by simp [Instr.findKey, run_underlying hk, Instr.findNow, Result.andThen], rfl⟩
  | cons e es =>
    obtain ⟨r, hr, hr2⟩ := findAsking_ty heq a (e :: es) 0 h
    refine ⟨r, ?_, hr2⟩
    simp [Instr.findKey, run_underlying hk, Instr.findNow, Instr.sameNow, Result.andThen, hr]
theorem run_lookup_ty {P : Program} {w : World} {t kt et R g : Nat} {ms : Array (String × TypeId)} {r : Nat} {es : Array MapEntry} {cl a : Nat} {ok : Bool} {z : Value}
    (hm : P.underlying t = some (.map kt et)) (hk : P.underlying kt = some (.interface ms)) (heq : ∀ a b, (Op.equal kt (.iface R (.pointer (some ⟨g, a, none⟩))) (.iface R (.pointer (some ⟨g, b, none⟩)))).run P w = .ok (a == b) w)
    (hck : ∀ e, (Instr.checkKey e 10000 kt (.iface R (.pointer (some ⟨g, a, none⟩)))).run P w = .ok () w)
    (hat : mapAt w r = some (es, cl)) (hall : allTy R g es.toList = true) (hz : (zeroValue et).run P w = .ok z w) :
    (Instr.lookup t (.map (some r)) (.iface R (.pointer (some ⟨g, a, none⟩))) ok).run P w = .ok (match tyFind a es.toList with | some v => (if ok then .tuple #[v, .bool true] else v) | none => (if ok then .tuple #[z, .bool false] else z)) w := by
  obtain ⟨x, hx, hx2⟩ := findKey_ty hk heq a es.toList hall
  have h1 := MapKept.run_getObj_map (P := P) (mapAt_some hat)
  unfold Instr.lookup
  cases x with
  | none =>
    rw [← hx2]
    cases ok <;> simp [run_underlying hm, h1, hck, hx, hz, Result.andThen]
  | some y =>
    rw [← hx2]
    obtain ⟨i, v⟩ := y
    cases ok <;> simp [run_underlying hm, h1, hck, hx, Result.andThen]
theorem run_update_ty {P : Program} {w : World} {t kt et R g : Nat} {ms : Array (String × TypeId)} {r : Nat} {es : Array MapEntry} {cl a : Nat} {v : Value}
    (hm : P.underlying t = some (.map kt et)) (hk : P.underlying kt = some (.interface ms)) (heq : ∀ a b, (Op.equal kt (.iface R (.pointer (some ⟨g, a, none⟩))) (.iface R (.pointer (some ⟨g, b, none⟩)))).run P w = .ok (a == b) w)
    (hck : ∀ e, (Instr.checkKey e 10000 kt (.iface R (.pointer (some ⟨g, a, none⟩)))).run P w = .ok () w)
    (hat : mapAt w r = some (es, cl)) (hall : allTy R g es.toList = true) (hnew : tyFind a es.toList = none) :
    (Instr.mapUpdate t (.map (some r)) (.iface R (.pointer (some ⟨g, a, none⟩))) v).run P w = .ok () (put w r (.map (es.push { key := .iface R (.pointer (some ⟨g, a, none⟩)), val := v, born := cl }) (cl + 1))) := by
  obtain ⟨x, hx, hx2⟩ := findKey_ty hk heq a es.toList hall
  have h0 : x = none := by
    rw [hnew] at hx2
    cases x <;> simp_all
  subst h0
  have h1 := MapKept.run_getObj_map (P := P) (mapAt_some hat)
  have h4 := MapKept.run_setObj_map (P := P) (.map (es.push { key := .iface R (.pointer (some ⟨g, a, none⟩)), val := v, born := cl }) (cl + 1)) (mapAt_some hat)
  unfold Instr.mapUpdate
  simp [run_underlying hm, h1, hck, hx, h4, Result.andThen, put]
def tyLook (m : Option (Array MapEntry × Nat)) (a : Nat) : Option Value := match m with | some (es, _) => tyFind a es.toList | none => none
def tyOk (R g : Nat) (m : Option (Array MapEntry × Nat)) : Bool := match m with | some (es, _) => allTy R g es.toList | none => false
def mapPush (m : Option (Array MapEntry × Nat)) (k v : Value) : Obj := match m with | some (es, cl) => .map (es.push { key := k, val := v, born := cl }) (cl + 1) | none => .map #[] 0
def strLook (m : Option (Array MapEntry × Nat)) (k : ByteArray) : Option Value := match m with | some (es, _) => strFind k es.toList | none => none
def strOk (m : Option (Array MapEntry × Nat)) : Bool := match m with | some (es, _) => allStr es.toList | none => false
def orZero (r : Option Value) (z : Value) (ok : Bool) : Value := match r, ok with | some v, true => .tuple #[v, .bool true] | some v, false => v | none, true => .tuple #[z, .bool false] | none, false => z
@[go_sem] theorem orZero_some_t (v z : Value) : orZero (some v) z true = .tuple #[v, .bool true] := rfl
@[go_sem] theorem orZero_some_f (v z : Value) : orZero (some v) z false = v := rfl
@[go_sem] theorem orZero_none_t (z : Value) : orZero none z true = .tuple #[z, .bool false] := rfl
@[go_sem] theorem orZero_none_f (z : Value) : orZero none z false = z := rfl
@[go_sem] theorem tyLook_some (es : Array MapEntry) (c a : Nat) : tyLook (some (es, c)) a = tyFind a es.toList := rfl
@[go_sem] theorem tyOk_some (R g : Nat) (es : Array MapEntry) (c : Nat) : tyOk R g (some (es, c)) = allTy R g es.toList := rfl
@[go_sem] theorem strLook_some (es : Array MapEntry) (c : Nat) (k : ByteArray) : strLook (some (es, c)) k = strFind k es.toList := rfl
@[go_sem] theorem strOk_some (es : Array MapEntry) (c : Nat) : strOk (some (es, c)) = allStr es.toList := rfl
@[go_sem] theorem mapPush_some (es : Array MapEntry) (c : Nat) (k v : Value) : mapPush (some (es, c)) k v = .map (es.push { key := k, val := v, born := c }) (c + 1) := rfl
@[go_sem] theorem tyFind_nil (a : Nat) : tyFind a [] = none := rfl
@[go_sem] theorem tyFind_cons (a R b o n : Nat) (v : Value) (es : List MapEntry) : tyFind a (⟨.iface R (.pointer (some ⟨b, o, none⟩)), v, n⟩ :: es) = if (a == o) = true then some v else tyFind a es := rfl
@[go_sem] theorem allTy_nil (R g : Nat) : allTy R g [] = true := rfl
@[go_sem] theorem allTy_cons (R g o n : Nat) (v : Value) (es : List MapEntry) : allTy R g (⟨.iface R (.pointer (some ⟨g, o, none⟩)), v, n⟩ :: es) = allTy R g es := by simp [allTy]
@[go_sem] theorem strFind_nil (k : ByteArray) : strFind k [] = none := rfl
@[go_sem] theorem strFind_cons (k s : ByteArray) (v : Value) (n : Nat) (es : List MapEntry) : strFind k (⟨.string s, v, n⟩ :: es) = if (k == s) = true then some v else strFind k es := rfl
@[go_sem] theorem allStr_nil : allStr [] = true := rfl
@[go_sem] theorem allStr_cons (s : ByteArray) (v : Value) (n : Nat) (es : List MapEntry) : allStr (⟨.string s, v, n⟩ :: es) = allStr es := rfl
theorem tyOk_get {R g : Nat} {m : Option (Array MapEntry × Nat)} (h : tyOk R g m = true) : ∃ es cl, m = some (es, cl) ∧ allTy R g es.toList = true := by
  unfold tyOk at h
  split at h
  · exact ⟨_, _, rfl, h⟩
  · simp at h
theorem strOk_get {m : Option (Array MapEntry × Nat)} (h : strOk m = true) : ∃ es cl, m = some (es, cl) ∧ allStr es.toList = true := by
  unfold strOk at h
  split at h
  · exact ⟨_, _, rfl, h⟩
  · simp at h
theorem look_ty {P : Program} {w : World} {t kt et R g : Nat} {ms : Array (String × TypeId)} {r a : Nat} {ok : Bool} {z : Value}
    (hm : P.underlying t = some (.map kt et)) (hk : P.underlying kt = some (.interface ms)) (heq : ∀ a b, (Op.equal kt (.iface R (.pointer (some ⟨g, a, none⟩))) (.iface R (.pointer (some ⟨g, b, none⟩)))).run P w = .ok (a == b) w)
    (hck : ∀ e, (Instr.checkKey e 10000 kt (.iface R (.pointer (some ⟨g, a, none⟩)))).run P w = .ok () w) (hz : (zeroValue et).run P w = .ok z w) (h : tyOk R g (mapAt w r) = true) :
    (Instr.lookup t (.map (some r)) (.iface R (.pointer (some ⟨g, a, none⟩))) ok).run P w = .ok (orZero (tyLook (mapAt w r) a) z ok) w := by
  obtain ⟨es, cl, hat, hall⟩ := tyOk_get h
  rw [run_lookup_ty hm hk heq hck hat hall hz, hat, tyLook_some]
  cases tyFind a es.toList <;> cases ok <;> rfl
theorem upd_ty {P : Program} {w : World} {t kt et R g : Nat} {ms : Array (String × TypeId)} {r a : Nat} {v : Value}
    (hm : P.underlying t = some (.map kt et)) (hk : P.underlying kt = some (.interface ms)) (heq : ∀ a b, (Op.equal kt (.iface R (.pointer (some ⟨g, a, none⟩))) (.iface R (.pointer (some ⟨g, b, none⟩)))).run P w = .ok (a == b) w)
    (hck : ∀ e, (Instr.checkKey e 10000 kt (.iface R (.pointer (some ⟨g, a, none⟩)))).run P w = .ok () w) (h : tyOk R g (mapAt w r) = true) (hn : tyLook (mapAt w r) a = none) :
    (Instr.mapUpdate t (.map (some r)) (.iface R (.pointer (some ⟨g, a, none⟩))) v).run P w = .ok () (put w r (mapPush (mapAt w r) (.iface R (.pointer (some ⟨g, a, none⟩))) v)) := by
  obtain ⟨es, cl, hat, hall⟩ := tyOk_get h
  rw [hat, tyLook_some] at hn
  rw [run_update_ty hm hk heq hck hat hall hn, hat, mapPush_some]
theorem look_str {P : Program} {w : World} {t kt et : TypeId} {r : Nat} {k : ByteArray} {ok : Bool} {z : Value}
    (hm : P.underlying t = some (.map kt et)) (hk : P.underlying kt = some .string) (hz : (zeroValue et).run P w = .ok z w) (h : strOk (mapAt w r) = true) :
    (Instr.lookup t (.map (some r)) (.string k) ok).run P w = .ok (orZero (strLook (mapAt w r) k) z ok) w := by
  obtain ⟨es, cl, hat, hall⟩ := strOk_get h
  rw [run_lookup_str hm hk hat hall hz, hat, strLook_some]
  cases strFind k es.toList <;> cases ok <;> rfl
theorem upd_str {P : Program} {w : World} {t kt et : TypeId} {r : Nat} {k : ByteArray} {v : Value}
    (hm : P.underlying t = some (.map kt et)) (hk : P.underlying kt = some .string) (h : strOk (mapAt w r) = true) (hn : strLook (mapAt w r) k = none) :
    (Instr.mapUpdate t (.map (some r)) (.string k) v).run P w = .ok () (put w r (mapPush (mapAt w r) (.string k) v)) := by
  obtain ⟨es, cl, hat, hall⟩ := strOk_get h
  rw [hat, strLook_some] at hn
  rw [run_update_str hm hk hat hall hn, hat, mapPush_some]
@[go_sem] theorem su_53 (r : Nat) (k : ByteArray) (v : Value) (w : World) (h : strOk (mapAt w r) = true) (hn : strLook (mapAt w r) k = none) : (Instr.mapUpdate 53 (.map (some r)) (.string k) v).run Tryz.prog w = .ok () (put w r (mapPush (mapAt w r) (.string k) v)) :=
  upd_str Tryz.underlying53 Tryz.underlying9 h hn

theorem zb (a0 a1 : Int) (a2 : Nat) (a3 : ByteArray) (a4 : Bool) (o : Option Addr) (n c : Nat) (a6 : Bool) (q : Option Addr) (w : World) : Calls Tryz.prog 21 #[.int .i64 a0, .int .u8 a1, .float .f64 a2, .string a3, .bool a4, .slice o n c, .bool a6, .pointer q] w fun e w' => ∃ b, e = .returned (.bool b) ∧ w = w' := by
  go_enter Tryz.func21, Tryz.ntmps21
  go_wp2
  all_goals
    go_ret
    exact ⟨_, rfl, rfl⟩

theorem bc_22 (x : Int) (w : World) : Calls Tryz.prog 22 #[.int .i64 x] w fun e w' => e = .returned (.agg #[.iface 122 (.pointer (some ⟨0, 2, none⟩)), .int .u64 6, .pointer none, .pointer none, .bool false, .bool false, .bool false, .bool true, .bool false]) ∧ Below w.heap.size w w' := by
  refine (c_22 x w).mono ?_
  rintro e w' ⟨rfl, rfl⟩
  refine ⟨rfl, ?_⟩
  repeat (first | with_reducible refine bal ?_ _ | with_reducible refine Below.drew ?_ | with_reducible refine bdn ?_ _)
  exact Below.refl _ _

theorem bit_Int64  (w : World) : Calls Tryz.prog 24 #[.agg #[.iface 122 (.pointer (some ⟨0, 2, none⟩)), .int .u64 6, .pointer none, .pointer none, .bool false, .bool false, .bool false, .bool true, .bool false]] w fun e w' => e = .returned (.bool true) ∧ Below w.heap.size w w' := by
  refine (it_Int64  w).mono ?_
  rintro e w' ⟨rfl, rfl⟩
  refine ⟨rfl, ?_⟩
  repeat (first | with_reducible refine bal ?_ _ | with_reducible refine Below.drew ?_ | with_reducible refine bdn ?_ _)
  exact Below.refl _ _

theorem bsh_Int64  (w : World) : Calls Tryz.prog 23 #[.agg #[.iface 122 (.pointer (some ⟨0, 2, none⟩)), .int .u64 6, .pointer none, .pointer none, .bool false, .bool false, .bool false, .bool true, .bool false], .bool true, .int .u64 6, .bool true, .bool false, .bool false] w fun e w' => e = .returned (.bool true) ∧ Below w.heap.size w w' := by
  refine (sh_Int64  w).mono ?_
  rintro e w' ⟨rfl, rfl⟩
  refine ⟨rfl, ?_⟩
  repeat (first | with_reducible refine bal ?_ _ | with_reducible refine Below.drew ?_ | with_reducible refine bdn ?_ _)
  exact Below.refl _ _

theorem bc_25 (x : Int) (w : World) : Calls Tryz.prog 25 #[.int .u8 x] w fun e w' => e = .returned (.agg #[.iface 122 (.pointer (some ⟨0, 5, none⟩)), .int .u64 8, .pointer none, .pointer none, .bool false, .bool false, .bool false, .bool true, .bool false]) ∧ Below w.heap.size w w' := by
  refine (c_25 x w).mono ?_
  rintro e w' ⟨rfl, rfl⟩
  refine ⟨rfl, ?_⟩
  repeat (first | with_reducible refine bal ?_ _ | with_reducible refine Below.drew ?_ | with_reducible refine bdn ?_ _)
  exact Below.refl _ _

theorem bit_Uint8  (w : World) : Calls Tryz.prog 26 #[.agg #[.iface 122 (.pointer (some ⟨0, 5, none⟩)), .int .u64 8, .pointer none, .pointer none, .bool false, .bool false, .bool false, .bool true, .bool false]] w fun e w' => e = .returned (.bool true) ∧ Below w.heap.size w w' := by
  refine (it_Uint8  w).mono ?_
  rintro e w' ⟨rfl, rfl⟩
  refine ⟨rfl, ?_⟩
  repeat (first | with_reducible refine bal ?_ _ | with_reducible refine Below.drew ?_ | with_reducible refine bdn ?_ _)
  exact Below.refl _ _

theorem bsh_Uint8  (w : World) : Calls Tryz.prog 23 #[.agg #[.iface 122 (.pointer (some ⟨0, 5, none⟩)), .int .u64 8, .pointer none, .pointer none, .bool false, .bool false, .bool false, .bool true, .bool false], .bool true, .int .u64 8, .bool true, .bool false, .bool false] w fun e w' => e = .returned (.bool true) ∧ Below w.heap.size w w' := by
  refine (sh_Uint8  w).mono ?_
  rintro e w' ⟨rfl, rfl⟩
  refine ⟨rfl, ?_⟩
  repeat (first | with_reducible refine bal ?_ _ | with_reducible refine Below.drew ?_ | with_reducible refine bdn ?_ _)
  exact Below.refl _ _

theorem bc_27 (x : Nat) (w : World) : Calls Tryz.prog 27 #[.float .f64 x] w fun e w' => e = .returned (.agg #[.iface 122 (.pointer (some ⟨0, 27, none⟩)), .int .u64 14, .pointer none, .pointer none, .bool false, .bool false, .bool false, .bool false, .bool true]) ∧ Below w.heap.size w w' := by
  refine (c_27 x w).mono ?_
  rintro e w' ⟨rfl, rfl⟩
  refine ⟨rfl, ?_⟩
  repeat (first | with_reducible refine bal ?_ _ | with_reducible refine Below.drew ?_ | with_reducible refine bdn ?_ _)
  exact Below.refl _ _

theorem bit_Float64  (w : World) : Calls Tryz.prog 28 #[.agg #[.iface 122 (.pointer (some ⟨0, 27, none⟩)), .int .u64 14, .pointer none, .pointer none, .bool false, .bool false, .bool false, .bool false, .bool true]] w fun e w' => e = .returned (.bool true) ∧ Below w.heap.size w w' := by
  refine (it_Float64  w).mono ?_
  rintro e w' ⟨rfl, rfl⟩
  refine ⟨rfl, ?_⟩
  repeat (first | with_reducible refine bal ?_ _ | with_reducible refine Below.drew ?_ | with_reducible refine bdn ?_ _)
  exact Below.refl _ _

theorem bsh_Float64  (w : World) : Calls Tryz.prog 23 #[.agg #[.iface 122 (.pointer (some ⟨0, 27, none⟩)), .int .u64 14, .pointer none, .pointer none, .bool false, .bool false, .bool false, .bool false, .bool true], .bool true, .int .u64 14, .bool false, .bool true, .bool false] w fun e w' => e = .returned (.bool true) ∧ Below w.heap.size w w' := by
  refine (sh_Float64  w).mono ?_
  rintro e w' ⟨rfl, rfl⟩
  refine ⟨rfl, ?_⟩
  repeat (first | with_reducible refine bal ?_ _ | with_reducible refine Below.drew ?_ | with_reducible refine bdn ?_ _)
  exact Below.refl _ _

theorem bc_29 (x : ByteArray) (w : World) : Calls Tryz.prog 29 #[.string x] w fun e w' => e = .returned (.agg #[.iface 122 (.pointer (some ⟨0, 9, none⟩)), .int .u64 24, .pointer none, .pointer none, .bool false, .bool false, .bool false, .bool false, .bool false]) ∧ Below w.heap.size w w' := by
  refine (c_29 x w).mono ?_
  rintro e w' ⟨rfl, rfl⟩
  refine ⟨rfl, ?_⟩
  repeat (first | with_reducible refine bal ?_ _ | with_reducible refine Below.drew ?_ | with_reducible refine bdn ?_ _)
  exact Below.refl _ _

theorem bit_String  (w : World) : Calls Tryz.prog 30 #[.agg #[.iface 122 (.pointer (some ⟨0, 9, none⟩)), .int .u64 24, .pointer none, .pointer none, .bool false, .bool false, .bool false, .bool false, .bool false]] w fun e w' => e = .returned (.bool true) ∧ Below w.heap.size w w' := by
  refine (it_String  w).mono ?_
  rintro e w' ⟨rfl, rfl⟩
  refine ⟨rfl, ?_⟩
  repeat (first | with_reducible refine bal ?_ _ | with_reducible refine Below.drew ?_ | with_reducible refine bdn ?_ _)
  exact Below.refl _ _

theorem bsh_String  (w : World) : Calls Tryz.prog 23 #[.agg #[.iface 122 (.pointer (some ⟨0, 9, none⟩)), .int .u64 24, .pointer none, .pointer none, .bool false, .bool false, .bool false, .bool false, .bool false], .bool true, .int .u64 24, .bool false, .bool false, .bool false] w fun e w' => e = .returned (.bool true) ∧ Below w.heap.size w w' := by
  refine (sh_String  w).mono ?_
  rintro e w' ⟨rfl, rfl⟩
  refine ⟨rfl, ?_⟩
  repeat (first | with_reducible refine bal ?_ _ | with_reducible refine Below.drew ?_ | with_reducible refine bdn ?_ _)
  exact Below.refl _ _

theorem bc_31 (x : Bool) (w : World) : Calls Tryz.prog 31 #[.bool x] w fun e w' => e = .returned (.agg #[.iface 122 (.pointer (some ⟨0, 4, none⟩)), .int .u64 1, .pointer none, .pointer none, .bool false, .bool false, .bool false, .bool false, .bool false]) ∧ Below w.heap.size w w' := by
  refine (c_31 x w).mono ?_
  rintro e w' ⟨rfl, rfl⟩
  refine ⟨rfl, ?_⟩
  repeat (first | with_reducible refine bal ?_ _ | with_reducible refine Below.drew ?_ | with_reducible refine bdn ?_ _)
  exact Below.refl _ _

theorem bit_Bool  (w : World) : Calls Tryz.prog 32 #[.agg #[.iface 122 (.pointer (some ⟨0, 4, none⟩)), .int .u64 1, .pointer none, .pointer none, .bool false, .bool false, .bool false, .bool false, .bool false]] w fun e w' => e = .returned (.bool true) ∧ Below w.heap.size w w' := by
  refine (it_Bool  w).mono ?_
  rintro e w' ⟨rfl, rfl⟩
  refine ⟨rfl, ?_⟩
  repeat (first | with_reducible refine bal ?_ _ | with_reducible refine Below.drew ?_ | with_reducible refine bdn ?_ _)
  exact Below.refl _ _

theorem bsh_Bool  (w : World) : Calls Tryz.prog 23 #[.agg #[.iface 122 (.pointer (some ⟨0, 4, none⟩)), .int .u64 1, .pointer none, .pointer none, .bool false, .bool false, .bool false, .bool false, .bool false], .bool true, .int .u64 1, .bool false, .bool false, .bool false] w fun e w' => e = .returned (.bool true) ∧ Below w.heap.size w w' := by
  refine (sh_Bool  w).mono ?_
  rintro e w' ⟨rfl, rfl⟩
  refine ⟨rfl, ?_⟩
  repeat (first | with_reducible refine bal ?_ _ | with_reducible refine Below.drew ?_ | with_reducible refine bdn ?_ _)
  exact Below.refl _ _

theorem bc_33 (x : Option Addr) (n c : Nat) (w : World) : Calls Tryz.prog 33 #[.slice x n c] w fun e w' => e = .returned (.agg #[.iface 122 (.pointer (some ⟨0, 50, none⟩)), .int .u64 23, .pointer none, .pointer none, .bool false, .bool false, .bool false, .bool false, .bool false]) ∧ Below w.heap.size w w' := by
  refine (c_33 x n c w).mono ?_
  rintro e w' ⟨rfl, rfl⟩
  refine ⟨rfl, ?_⟩
  repeat (first | with_reducible refine bal ?_ _ | with_reducible refine Below.drew ?_ | with_reducible refine bdn ?_ _)
  exact Below.refl _ _

theorem bit_SliceInt  (w : World) : Calls Tryz.prog 34 #[.agg #[.iface 122 (.pointer (some ⟨0, 50, none⟩)), .int .u64 23, .pointer none, .pointer none, .bool false, .bool false, .bool false, .bool false, .bool false]] w fun e w' => e = .returned (.bool true) ∧ Below w.heap.size w w' := by
  refine (it_SliceInt  w).mono ?_
  rintro e w' ⟨rfl, rfl⟩
  refine ⟨rfl, ?_⟩
  repeat (first | with_reducible refine bal ?_ _ | with_reducible refine Below.drew ?_ | with_reducible refine bdn ?_ _)
  exact Below.refl _ _

theorem bsh_SliceInt  (w : World) : Calls Tryz.prog 23 #[.agg #[.iface 122 (.pointer (some ⟨0, 50, none⟩)), .int .u64 23, .pointer none, .pointer none, .bool false, .bool false, .bool false, .bool false, .bool false], .bool true, .int .u64 23, .bool false, .bool false, .bool false] w fun e w' => e = .returned (.bool true) ∧ Below w.heap.size w w' := by
  refine (sh_SliceInt  w).mono ?_
  rintro e w' ⟨rfl, rfl⟩
  refine ⟨rfl, ?_⟩
  repeat (first | with_reducible refine bal ?_ _ | with_reducible refine Below.drew ?_ | with_reducible refine bdn ?_ _)
  exact Below.refl _ _

theorem bc_35 (x : Option Nat) (w : World) : Calls Tryz.prog 35 #[.map x] w fun e w' => e = .returned (.agg #[.iface 122 (.pointer (some ⟨0, 53, none⟩)), .int .u64 21, .pointer none, .pointer none, .bool false, .bool false, .bool false, .bool false, .bool false]) ∧ Below w.heap.size w w' := by
  refine (c_35 x w).mono ?_
  rintro e w' ⟨rfl, rfl⟩
  refine ⟨rfl, ?_⟩
  repeat (first | with_reducible refine bal ?_ _ | with_reducible refine Below.drew ?_ | with_reducible refine bdn ?_ _)
  exact Below.refl _ _

theorem bit_MapStringInt  (w : World) : Calls Tryz.prog 36 #[.agg #[.iface 122 (.pointer (some ⟨0, 53, none⟩)), .int .u64 21, .pointer none, .pointer none, .bool false, .bool false, .bool false, .bool false, .bool false]] w fun e w' => e = .returned (.bool true) ∧ Below w.heap.size w w' := by
  refine (it_MapStringInt  w).mono ?_
  rintro e w' ⟨rfl, rfl⟩
  refine ⟨rfl, ?_⟩
  repeat (first | with_reducible refine bal ?_ _ | with_reducible refine Below.drew ?_ | with_reducible refine bdn ?_ _)
  exact Below.refl _ _

theorem bsh_MapStringInt  (w : World) : Calls Tryz.prog 23 #[.agg #[.iface 122 (.pointer (some ⟨0, 53, none⟩)), .int .u64 21, .pointer none, .pointer none, .bool false, .bool false, .bool false, .bool false, .bool false], .bool true, .int .u64 21, .bool false, .bool false, .bool false] w fun e w' => e = .returned (.bool true) ∧ Below w.heap.size w w' := by
  refine (sh_MapStringInt  w).mono ?_
  rintro e w' ⟨rfl, rfl⟩
  refine ⟨rfl, ?_⟩
  repeat (first | with_reducible refine bal ?_ _ | with_reducible refine Below.drew ?_ | with_reducible refine bdn ?_ _)
  exact Below.refl _ _

theorem bc_37 (x : Option Addr) (w : World) : Calls Tryz.prog 37 #[.pointer x] w fun e w' => e = .returned (.agg #[.iface 122 (.pointer (some ⟨0, 51, none⟩)), .int .u64 22, .pointer none, .pointer none, .bool false, .bool false, .bool false, .bool false, .bool false]) ∧ Below w.heap.size w w' := by
  refine (c_37 x w).mono ?_
  rintro e w' ⟨rfl, rfl⟩
  refine ⟨rfl, ?_⟩
  repeat (first | with_reducible refine bal ?_ _ | with_reducible refine Below.drew ?_ | with_reducible refine bdn ?_ _)
  exact Below.refl _ _

theorem bit_PtrInt  (w : World) : Calls Tryz.prog 38 #[.agg #[.iface 122 (.pointer (some ⟨0, 51, none⟩)), .int .u64 22, .pointer none, .pointer none, .bool false, .bool false, .bool false, .bool false, .bool false]] w fun e w' => e = .returned (.bool true) ∧ Below w.heap.size w w' := by
  refine (it_PtrInt  w).mono ?_
  rintro e w' ⟨rfl, rfl⟩
  refine ⟨rfl, ?_⟩
  repeat (first | with_reducible refine bal ?_ _ | with_reducible refine Below.drew ?_ | with_reducible refine bdn ?_ _)
  exact Below.refl _ _

theorem bsh_PtrInt  (w : World) : Calls Tryz.prog 23 #[.agg #[.iface 122 (.pointer (some ⟨0, 51, none⟩)), .int .u64 22, .pointer none, .pointer none, .bool false, .bool false, .bool false, .bool false, .bool false], .bool true, .int .u64 22, .bool false, .bool false, .bool false] w fun e w' => e = .returned (.bool true) ∧ Below w.heap.size w w' := by
  refine (sh_PtrInt  w).mono ?_
  rintro e w' ⟨rfl, rfl⟩
  refine ⟨rfl, ?_⟩
  repeat (first | with_reducible refine bal ?_ _ | with_reducible refine Below.drew ?_ | with_reducible refine bdn ?_ _)
  exact Below.refl _ _

theorem bc_39  (w : World) : Calls Tryz.prog 39 #[] w fun e w' => e = .returned (.agg #[.nilIface, .int .u64 0, .pointer none, .pointer none, .bool true, .bool false, .bool false, .bool false, .bool false]) ∧ Below w.heap.size w w' := by
  refine (c_39  w).mono ?_
  rintro e w' ⟨rfl, rfl⟩
  refine ⟨rfl, ?_⟩
  repeat (first | with_reducible refine bal ?_ _ | with_reducible refine Below.drew ?_ | with_reducible refine bdn ?_ _)
  exact Below.refl _ _
set_option maxHeartbeats 20000000 in
theorem walk (a0 a1 : Int) (a2 : Nat) (a3 : ByteArray) (a4 : Bool) (v5 : Value) (a6 : Bool) (v7 : Value) (w : World) (w0 : (Lit.int .i64 a0).wf = true) (w1 : (Lit.int .u8 a1).wf = true) (w3 : a3.size ≤ maxLen) (w5 : IntsIn w .i64 v5) (w7 : PtrIn w .i64 v7) :
    Calls Tryz.prog 4 #[.int .i64 a0, .int .u8 a1, .float .f64 a2, .string a3, .bool a4, v5, .bool a6, v7] w fun e w' => e = .returned (.bool true) ∧ Below w.heap.size w w' := by
  obtain ⟨o, n, c, rfl, ho⟩ : ∃ o n c, v5 = .slice o n c ∧ (∀ a, o = some a → n ≤ c ∧ ∃ zs : List Int, zs.length = c ∧ ∀ i, i < zs.length → w.cell? (a.add i) = some (.int .i64 (zs.getD i 0))) := by
    rcases w5 with rfl | ⟨a, len, cap, zs, rfl, h1, _, h3, h4, _⟩
    · exact ⟨_, _, _, rfl, fun a h => by cases h⟩
    · exact ⟨_, _, _, rfl, fun a' h => by cases h; exact ⟨h1, zs, h3, h4⟩⟩
  obtain ⟨q, rfl, hq⟩ : ∃ q, v7 = .pointer q ∧ (∀ a, q = some a → ∃ b off k, a = ⟨b, off, none⟩ ∧ w.cell? ⟨b, off, none⟩ = some (.int .i64 k)) := by
    rcases w7 with rfl | ⟨b, off, k, rfl, h1, _⟩
    · exact ⟨_, rfl, fun a h => by cases h⟩
    · exact ⟨_, rfl, fun a h => by cases h; exact ⟨b, off, k, rfl, h1⟩⟩
  have nq5 : ∀ u : World, (binOp .neq 50 (.slice o n c) (.slice none 0 0)).run Tryz.prog u = .ok (.bool (!o.isNone)) u := fun u => run_neq_slice_nil u 50 _ o n c Tryz.underlying50
  have nq7 : ∀ u : World, (binOp .neq 51 (.pointer q) (.pointer none)).run Tryz.prog u = .ok (.bool (!q.isNone)) u := fun u => by
    cases q with
    | none => kernel_rfl
    | some a => simp [go_sem]
  go_enter Tryz.func4, Tryz.ntmps4
  go_upto_region 5 with (go_at_call 21; refine (zb _ _ _ _ _ _ _ _ _ _  _).mono ?_; rintro e w' ⟨b, rfl, rfl⟩)
  all_goals first | (go_ret; exact ⟨rfl, Below.refl _ _⟩) | skip
  go_upto_if 50 with fail
  go_cut [5] from 49 to 57 (fun x wx => (∃ o n c, x = .slice o n c) ∧ Below w.heap.size w wx)
  case first =>
    cases o with
    | none =>
      go_wp2_with fail
      go_meet
      case rel => exact ⟨⟨_, _, _, rfl⟩, Below.refl _ _⟩
    | some a =>
      obtain ⟨hnc, zs, hz, hcell⟩ := ho a rfl
      have hn1 : (n : Int) ≤ 65536 := by omega
      have hmk := run_make_row' (P := Tryz.prog) 50 3 (.int .i64 0) 8 Tryz.underlying50 (by kernel_rfl) rfl .i64 .i64 n (by omega) (by omega)
      go_wp2_with (refine wpList_copy_splice (o := ⟨some 56, _, _, _, _, _⟩) rfl _ _ 50 50 rfl 3 Tryz.underlying50 (by kernel_rfl) _ _ _ _ _ _ rfl rfl w.heap.size 0 (madeCells #[Value.int .i64 0] n).toList 3 (blk_new _ _) ((zs.take n).map (Value.int .i64)) (by rw [List.length_map, List.length_take, hz]; show min n c = min n n; omega) (fun _ => ⟨rfl, _, rfl, cp_ok hz hcell _⟩) (by rw [List.length_map, List.length_take, hz, Array.length_toList, size_madeCells]; omega) cp_one w.heap.size w (bal (Below.refl _ _) _) (Nat.le_refl _) ?_; intro wd _ hBd)
      go_meet
      case rel => exact ⟨⟨_, _, _, rfl⟩, hBd⟩
  case rest =>
    obtain ⟨⟨o', n', c', rfl⟩, hB⟩ := hcut
    go_upto_if 59 with fail
    go_cut [7] from 58 to 62 (fun x wx => (∃ o, x = .pointer o) ∧ Below w.heap.size w wx)
    case first =>
      cases q with
      | none =>
        go_wp2_with fail
        go_meet
        case rel => exact ⟨⟨_, rfl⟩, hB⟩
      | some a =>
        obtain ⟨pb, off, k, rfl, hcell⟩ := hq a rfl
        have hlt : pb < w.heap.size := cell_lt hcell
        have hcc : wc.cell? ⟨pb, off, none⟩ = some (.int .i64 k) := (hB.cell hlt).trans hcell
        go_wp2_with fail
        go_meet
        case rel => exact ⟨⟨_, rfl⟩, bal hB _⟩
    case rest =>
      obtain ⟨⟨q', rfl⟩, hB⟩ := hcut
      go_upto_if 63 with fail
      go_cut [19] from 63 to 65 (fun x wx => (∃ o, x = .map o) ∧ Below w.heap.size w wx)
      case first =>
        cases a6 with
        | false =>
          go_wp2_with fail
          go_meet
          case rel => exact ⟨⟨_, rfl⟩, hB⟩
        | true =>
          go_wp2_with fail
          go_meet
          case rel => exact ⟨⟨_, rfl⟩, (by repeat (first | with_reducible exact hB | with_reducible refine Below.drew ?_ | with_reducible refine Below.setCell ?_ hNB _ | with_reducible refine below_setRow ?_ hNB _ | with_reducible refine bal ?_ _))⟩
      case rest =>
        obtain ⟨⟨m, rfl⟩, hB⟩ := hcut
        go_upto_region 16 with (go_at_call 22; ((with_reducible refine (bc_22 _ _).mono ?_); rintro e w1 ⟨rfl, hb⟩; have hB := bnext hB hb; have hNB : w.heap.size ≤ w1.heap.size := hB.size; clear hb; have hP := trivial; have hS := trivial; have hC := trivial))
        go_cut [72] from 68 to 72 (fun x wx => x = .bool false ∧ Below w.heap.size w wx ∧ Plain wx w1.heap.size ∧ cellsAt wx w1.heap.size = #[.iface 122 (.pointer (some ⟨0, 2, none⟩)), .int .u64 6, .pointer none, .pointer none, .bool false, .bool false, .bool false, .bool true, .bool false])
        case first =>
          go_region_with (first | (go_at_call 24; ((with_reducible refine (bit_Int64  _).mono ?_); rintro e x1 ⟨rfl, hb⟩; have hPC := keepP (n := w1.heap.size) hb (by first | (simp [go_sem]; done) | (simp [go_sem, hP]; done)); have hC : cellsAt x1 w1.heap.size = #[.iface 122 (.pointer (some ⟨0, 2, none⟩)), .int .u64 6, .pointer none, .pointer none, .bool false, .bool false, .bool false, .bool true, .bool false] := hPC.2.trans (by first | (simp [go_sem]; done) | (simp [go_sem, hC]; done) | (simp [go_sem, hP, hS]; done) | (simp [go_sem, hP, hC]; done)); have hP := hPC.1; have hB : Below w.heap.size w x1 := bnext (by repeat (first | with_reducible exact hB | with_reducible refine Below.drew ?_ | with_reducible refine Below.setCell ?_ hNB _ | with_reducible refine below_setRow ?_ hNB _ | with_reducible refine bal ?_ _)) hb; clear hb hPC)) | (go_at_call 23; ((with_reducible refine (bsh_Int64  _).mono ?_); rintro e x2 ⟨rfl, hb⟩; have hPC := keepP (n := w1.heap.size) hb (by first | (simp [go_sem]; done) | (simp [go_sem, hP]; done)); have hC : cellsAt x2 w1.heap.size = #[.iface 122 (.pointer (some ⟨0, 2, none⟩)), .int .u64 6, .pointer none, .pointer none, .bool false, .bool false, .bool false, .bool true, .bool false] := hPC.2.trans (by first | (simp [go_sem]; done) | (simp [go_sem, hC]; done) | (simp [go_sem, hP, hS]; done) | (simp [go_sem, hP, hC]; done)); have hP := hPC.1; have hB : Below w.heap.size w x2 := bnext (by repeat (first | with_reducible exact hB | with_reducible refine Below.drew ?_ | with_reducible refine Below.setCell ?_ hNB _ | with_reducible refine below_setRow ?_ hNB _ | with_reducible refine bal ?_ _)) hb; clear hb hPC)))
          all_goals
            go_wp2_with fail
            go_meet
            case rel => exact ⟨rfl, hB, hP, hC⟩
        case rest =>
          obtain ⟨rfl, hB, hP, hS⟩ := hcut
          go_upto_region 19 with (go_at_call 25; ((with_reducible refine (bc_25 _ _).mono ?_); rintro e v1 ⟨rfl, hb⟩; have hS1 := cellsAt_heap (hb.block _ hP.lt); have hP := plain_heap (hb.block _ hP.lt) hP; have hS := hS1.trans hS; have hB := bnext hB hb; clear hb))
          go_cut [79] from 75 to 79 (fun x wx => x = .bool false ∧ Below w.heap.size w wx ∧ Plain wx w1.heap.size ∧ cellsAt wx w1.heap.size = #[.iface 122 (.pointer (some ⟨0, 5, none⟩)), .int .u64 8, .pointer none, .pointer none, .bool false, .bool false, .bool false, .bool true, .bool false])
          case first =>
            go_region_with (first | (go_at_call 26; ((with_reducible refine (bit_Uint8  _).mono ?_); rintro e x1 ⟨rfl, hb⟩; have hPC := keepP (n := w1.heap.size) hb (by first | (simp [go_sem]; done) | (simp [go_sem, hP]; done)); have hC : cellsAt x1 w1.heap.size = #[.iface 122 (.pointer (some ⟨0, 5, none⟩)), .int .u64 8, .pointer none, .pointer none, .bool false, .bool false, .bool false, .bool true, .bool false] := hPC.2.trans (by first | (simp [go_sem]; done) | (simp [go_sem, hC]; done) | (simp [go_sem, hP, hS]; done) | (simp [go_sem, hP, hC]; done)); have hP := hPC.1; have hB : Below w.heap.size w x1 := bnext (by repeat (first | with_reducible exact hB | with_reducible refine Below.drew ?_ | with_reducible refine Below.setCell ?_ hNB _ | with_reducible refine below_setRow ?_ hNB _ | with_reducible refine bal ?_ _)) hb; clear hb hPC)) | (go_at_call 23; ((with_reducible refine (bsh_Uint8  _).mono ?_); rintro e x2 ⟨rfl, hb⟩; have hPC := keepP (n := w1.heap.size) hb (by first | (simp [go_sem]; done) | (simp [go_sem, hP]; done)); have hC : cellsAt x2 w1.heap.size = #[.iface 122 (.pointer (some ⟨0, 5, none⟩)), .int .u64 8, .pointer none, .pointer none, .bool false, .bool false, .bool false, .bool true, .bool false] := hPC.2.trans (by first | (simp [go_sem]; done) | (simp [go_sem, hC]; done) | (simp [go_sem, hP, hS]; done) | (simp [go_sem, hP, hC]; done)); have hP := hPC.1; have hB : Below w.heap.size w x2 := bnext (by repeat (first | with_reducible exact hB | with_reducible refine Below.drew ?_ | with_reducible refine Below.setCell ?_ hNB _ | with_reducible refine below_setRow ?_ hNB _ | with_reducible refine bal ?_ _)) hb; clear hb hPC)))
            all_goals
              go_wp2_with fail
              go_meet
              case rel => exact ⟨rfl, hB, hP, hC⟩
          case rest =>
            obtain ⟨rfl, hB, hP, hS⟩ := hcut
            go_upto_region 22 with (go_at_call 27; ((with_reducible refine (bc_27 _ _).mono ?_); rintro e v2 ⟨rfl, hb⟩; have hS1 := cellsAt_heap (hb.block _ hP.lt); have hP := plain_heap (hb.block _ hP.lt) hP; have hS := hS1.trans hS; have hB := bnext hB hb; clear hb))
            go_cut [86] from 82 to 86 (fun x wx => x = .bool false ∧ Below w.heap.size w wx ∧ Plain wx w1.heap.size ∧ cellsAt wx w1.heap.size = #[.iface 122 (.pointer (some ⟨0, 27, none⟩)), .int .u64 14, .pointer none, .pointer none, .bool false, .bool false, .bool false, .bool false, .bool true])
            case first =>
              go_region_with (first | (go_at_call 28; ((with_reducible refine (bit_Float64  _).mono ?_); rintro e x1 ⟨rfl, hb⟩; have hPC := keepP (n := w1.heap.size) hb (by first | (simp [go_sem]; done) | (simp [go_sem, hP]; done)); have hC : cellsAt x1 w1.heap.size = #[.iface 122 (.pointer (some ⟨0, 27, none⟩)), .int .u64 14, .pointer none, .pointer none, .bool false, .bool false, .bool false, .bool false, .bool true] := hPC.2.trans (by first | (simp [go_sem]; done) | (simp [go_sem, hC]; done) | (simp [go_sem, hP, hS]; done) | (simp [go_sem, hP, hC]; done)); have hP := hPC.1; have hB : Below w.heap.size w x1 := bnext (by repeat (first | with_reducible exact hB | with_reducible refine Below.drew ?_ | with_reducible refine Below.setCell ?_ hNB _ | with_reducible refine below_setRow ?_ hNB _ | with_reducible refine bal ?_ _)) hb; clear hb hPC)) | (go_at_call 23; ((with_reducible refine (bsh_Float64  _).mono ?_); rintro e x2 ⟨rfl, hb⟩; have hPC := keepP (n := w1.heap.size) hb (by first | (simp [go_sem]; done) | (simp [go_sem, hP]; done)); have hC : cellsAt x2 w1.heap.size = #[.iface 122 (.pointer (some ⟨0, 27, none⟩)), .int .u64 14, .pointer none, .pointer none, .bool false, .bool false, .bool false, .bool false, .bool true] := hPC.2.trans (by first | (simp [go_sem]; done) | (simp [go_sem, hC]; done) | (simp [go_sem, hP, hS]; done) | (simp [go_sem, hP, hC]; done)); have hP := hPC.1; have hB : Below w.heap.size w x2 := bnext (by repeat (first | with_reducible exact hB | with_reducible refine Below.drew ?_ | with_reducible refine Below.setCell ?_ hNB _ | with_reducible refine below_setRow ?_ hNB _ | with_reducible refine bal ?_ _)) hb; clear hb hPC)))
              all_goals
                go_wp2_with fail
                go_meet
                case rel => exact ⟨rfl, hB, hP, hC⟩
            case rest =>
              obtain ⟨rfl, hB, hP, hS⟩ := hcut
              go_upto_region 25 with (go_at_call 29; ((with_reducible refine (bc_29 _ _).mono ?_); rintro e v3 ⟨rfl, hb⟩; have hS1 := cellsAt_heap (hb.block _ hP.lt); have hP := plain_heap (hb.block _ hP.lt) hP; have hS := hS1.trans hS; have hB := bnext hB hb; clear hb))
              go_cut [93] from 89 to 93 (fun x wx => x = .bool false ∧ Below w.heap.size w wx ∧ Plain wx w1.heap.size ∧ cellsAt wx w1.heap.size = #[.iface 122 (.pointer (some ⟨0, 9, none⟩)), .int .u64 24, .pointer none, .pointer none, .bool false, .bool false, .bool false, .bool false, .bool false])
              case first =>
                go_region_with (first | (go_at_call 30; ((with_reducible refine (bit_String  _).mono ?_); rintro e x1 ⟨rfl, hb⟩; have hPC := keepP (n := w1.heap.size) hb (by first | (simp [go_sem]; done) | (simp [go_sem, hP]; done)); have hC : cellsAt x1 w1.heap.size = #[.iface 122 (.pointer (some ⟨0, 9, none⟩)), .int .u64 24, .pointer none, .pointer none, .bool false, .bool false, .bool false, .bool false, .bool false] := hPC.2.trans (by first | (simp [go_sem]; done) | (simp [go_sem, hC]; done) | (simp [go_sem, hP, hS]; done) | (simp [go_sem, hP, hC]; done)); have hP := hPC.1; have hB : Below w.heap.size w x1 := bnext (by repeat (first | with_reducible exact hB | with_reducible refine Below.drew ?_ | with_reducible refine Below.setCell ?_ hNB _ | with_reducible refine below_setRow ?_ hNB _ | with_reducible refine bal ?_ _)) hb; clear hb hPC)) | (go_at_call 23; ((with_reducible refine (bsh_String  _).mono ?_); rintro e x2 ⟨rfl, hb⟩; have hPC := keepP (n := w1.heap.size) hb (by first | (simp [go_sem]; done) | (simp [go_sem, hP]; done)); have hC : cellsAt x2 w1.heap.size = #[.iface 122 (.pointer (some ⟨0, 9, none⟩)), .int .u64 24, .pointer none, .pointer none, .bool false, .bool false, .bool false, .bool false, .bool false] := hPC.2.trans (by first | (simp [go_sem]; done) | (simp [go_sem, hC]; done) | (simp [go_sem, hP, hS]; done) | (simp [go_sem, hP, hC]; done)); have hP := hPC.1; have hB : Below w.heap.size w x2 := bnext (by repeat (first | with_reducible exact hB | with_reducible refine Below.drew ?_ | with_reducible refine Below.setCell ?_ hNB _ | with_reducible refine below_setRow ?_ hNB _ | with_reducible refine bal ?_ _)) hb; clear hb hPC)))
                all_goals
                  go_wp2_with fail
                  go_meet
                  case rel => exact ⟨rfl, hB, hP, hC⟩
              case rest =>
                obtain ⟨rfl, hB, hP, hS⟩ := hcut
                go_upto_region 28 with (go_at_call 31; ((with_reducible refine (bc_31 _ _).mono ?_); rintro e v4 ⟨rfl, hb⟩; have hS1 := cellsAt_heap (hb.block _ hP.lt); have hP := plain_heap (hb.block _ hP.lt) hP; have hS := hS1.trans hS; have hB := bnext hB hb; clear hb))
                go_cut [100] from 96 to 100 (fun x wx => x = .bool false ∧ Below w.heap.size w wx ∧ Plain wx w1.heap.size ∧ cellsAt wx w1.heap.size = #[.iface 122 (.pointer (some ⟨0, 4, none⟩)), .int .u64 1, .pointer none, .pointer none, .bool false, .bool false, .bool false, .bool false, .bool false])
                case first =>
                  go_region_with (first | (go_at_call 32; ((with_reducible refine (bit_Bool  _).mono ?_); rintro e x1 ⟨rfl, hb⟩; have hPC := keepP (n := w1.heap.size) hb (by first | (simp [go_sem]; done) | (simp [go_sem, hP]; done)); have hC : cellsAt x1 w1.heap.size = #[.iface 122 (.pointer (some ⟨0, 4, none⟩)), .int .u64 1, .pointer none, .pointer none, .bool false, .bool false, .bool false, .bool false, .bool false] := hPC.2.trans (by first | (simp [go_sem]; done) | (simp [go_sem, hC]; done) | (simp [go_sem, hP, hS]; done) | (simp [go_sem, hP, hC]; done)); have hP := hPC.1; have hB : Below w.heap.size w x1 := bnext (by repeat (first | with_reducible exact hB | with_reducible refine Below.drew ?_ | with_reducible refine Below.setCell ?_ hNB _ | with_reducible refine below_setRow ?_ hNB _ | with_reducible refine bal ?_ _)) hb; clear hb hPC)) | (go_at_call 23; ((with_reducible refine (bsh_Bool  _).mono ?_); rintro e x2 ⟨rfl, hb⟩; have hPC := keepP (n := w1.heap.size) hb (by first | (simp [go_sem]; done) | (simp [go_sem, hP]; done)); have hC : cellsAt x2 w1.heap.size = #[.iface 122 (.pointer (some ⟨0, 4, none⟩)), .int .u64 1, .pointer none, .pointer none, .bool false, .bool false, .bool false, .bool false, .bool false] := hPC.2.trans (by first | (simp [go_sem]; done) | (simp [go_sem, hC]; done) | (simp [go_sem, hP, hS]; done) | (simp [go_sem, hP, hC]; done)); have hP := hPC.1; have hB : Below w.heap.size w x2 := bnext (by repeat (first | with_reducible exact hB | with_reducible refine Below.drew ?_ | with_reducible refine Below.setCell ?_ hNB _ | with_reducible refine below_setRow ?_ hNB _ | with_reducible refine bal ?_ _)) hb; clear hb hPC)))
                  all_goals
                    go_wp2_with fail
                    go_meet
                    case rel => exact ⟨rfl, hB, hP, hC⟩
                case rest =>
                  obtain ⟨rfl, hB, hP, hS⟩ := hcut
                  go_upto_region 31 with (go_at_call 33; ((with_reducible refine (bc_33 _ _ _ _).mono ?_); rintro e v5 ⟨rfl, hb⟩; have hS1 := cellsAt_heap (hb.block _ hP.lt); have hP := plain_heap (hb.block _ hP.lt) hP; have hS := hS1.trans hS; have hB := bnext hB hb; clear hb))
                  go_cut [107] from 103 to 107 (fun x wx => x = .bool false ∧ Below w.heap.size w wx ∧ Plain wx w1.heap.size ∧ cellsAt wx w1.heap.size = #[.iface 122 (.pointer (some ⟨0, 50, none⟩)), .int .u64 23, .pointer none, .pointer none, .bool false, .bool false, .bool false, .bool false, .bool false])
                  case first =>
                    go_region_with (first | (go_at_call 34; ((with_reducible refine (bit_SliceInt  _).mono ?_); rintro e x1 ⟨rfl, hb⟩; have hPC := keepP (n := w1.heap.size) hb (by first | (simp [go_sem]; done) | (simp [go_sem, hP]; done)); have hC : cellsAt x1 w1.heap.size = #[.iface 122 (.pointer (some ⟨0, 50, none⟩)), .int .u64 23, .pointer none, .pointer none, .bool false, .bool false, .bool false, .bool false, .bool false] := hPC.2.trans (by first | (simp [go_sem]; done) | (simp [go_sem, hC]; done) | (simp [go_sem, hP, hS]; done) | (simp [go_sem, hP, hC]; done)); have hP := hPC.1; have hB : Below w.heap.size w x1 := bnext (by repeat (first | with_reducible exact hB | with_reducible refine Below.drew ?_ | with_reducible refine Below.setCell ?_ hNB _ | with_reducible refine below_setRow ?_ hNB _ | with_reducible refine bal ?_ _)) hb; clear hb hPC)) | (go_at_call 23; ((with_reducible refine (bsh_SliceInt  _).mono ?_); rintro e x2 ⟨rfl, hb⟩; have hPC := keepP (n := w1.heap.size) hb (by first | (simp [go_sem]; done) | (simp [go_sem, hP]; done)); have hC : cellsAt x2 w1.heap.size = #[.iface 122 (.pointer (some ⟨0, 50, none⟩)), .int .u64 23, .pointer none, .pointer none, .bool false, .bool false, .bool false, .bool false, .bool false] := hPC.2.trans (by first | (simp [go_sem]; done) | (simp [go_sem, hC]; done) | (simp [go_sem, hP, hS]; done) | (simp [go_sem, hP, hC]; done)); have hP := hPC.1; have hB : Below w.heap.size w x2 := bnext (by repeat (first | with_reducible exact hB | with_reducible refine Below.drew ?_ | with_reducible refine Below.setCell ?_ hNB _ | with_reducible refine below_setRow ?_ hNB _ | with_reducible refine bal ?_ _)) hb; clear hb hPC)))
                    all_goals
                      go_wp2_with fail
                      go_meet
                      case rel => exact ⟨rfl, hB, hP, hC⟩
                  case rest =>
                    obtain ⟨rfl, hB, hP, hS⟩ := hcut
                    go_upto_region 34 with (go_at_call 35; ((with_reducible refine (bc_35 _ _).mono ?_); rintro e v6 ⟨rfl, hb⟩; have hS1 := cellsAt_heap (hb.block _ hP.lt); have hP := plain_heap (hb.block _ hP.lt) hP; have hS := hS1.trans hS; have hB := bnext hB hb; clear hb))
                    go_cut [114] from 110 to 114 (fun x wx => x = .bool false ∧ Below w.heap.size w wx ∧ Plain wx w1.heap.size ∧ cellsAt wx w1.heap.size = #[.iface 122 (.pointer (some ⟨0, 53, none⟩)), .int .u64 21, .pointer none, .pointer none, .bool false, .bool false, .bool false, .bool false, .bool false])
                    case first =>
                      go_region_with (first | (go_at_call 36; ((with_reducible refine (bit_MapStringInt  _).mono ?_); rintro e x1 ⟨rfl, hb⟩; have hPC := keepP (n := w1.heap.size) hb (by first | (simp [go_sem]; done) | (simp [go_sem, hP]; done)); have hC : cellsAt x1 w1.heap.size = #[.iface 122 (.pointer (some ⟨0, 53, none⟩)), .int .u64 21, .pointer none, .pointer none, .bool false, .bool false, .bool false, .bool false, .bool false] := hPC.2.trans (by first | (simp [go_sem]; done) | (simp [go_sem, hC]; done) | (simp [go_sem, hP, hS]; done) | (simp [go_sem, hP, hC]; done)); have hP := hPC.1; have hB : Below w.heap.size w x1 := bnext (by repeat (first | with_reducible exact hB | with_reducible refine Below.drew ?_ | with_reducible refine Below.setCell ?_ hNB _ | with_reducible refine below_setRow ?_ hNB _ | with_reducible refine bal ?_ _)) hb; clear hb hPC)) | (go_at_call 23; ((with_reducible refine (bsh_MapStringInt  _).mono ?_); rintro e x2 ⟨rfl, hb⟩; have hPC := keepP (n := w1.heap.size) hb (by first | (simp [go_sem]; done) | (simp [go_sem, hP]; done)); have hC : cellsAt x2 w1.heap.size = #[.iface 122 (.pointer (some ⟨0, 53, none⟩)), .int .u64 21, .pointer none, .pointer none, .bool false, .bool false, .bool false, .bool false, .bool false] := hPC.2.trans (by first | (simp [go_sem]; done) | (simp [go_sem, hC]; done) | (simp [go_sem, hP, hS]; done) | (simp [go_sem, hP, hC]; done)); have hP := hPC.1; have hB : Below w.heap.size w x2 := bnext (by repeat (first | with_reducible exact hB | with_reducible refine Below.drew ?_ | with_reducible refine Below.setCell ?_ hNB _ | with_reducible refine below_setRow ?_ hNB _ | with_reducible refine bal ?_ _)) hb; clear hb hPC)))
                      all_goals
                        go_wp2_with fail
                        go_meet
                        case rel => exact ⟨rfl, hB, hP, hC⟩
                    case rest =>
                      obtain ⟨rfl, hB, hP, hS⟩ := hcut
                      go_upto_region 37 with (go_at_call 37; ((with_reducible refine (bc_37 _ _).mono ?_); rintro e v7 ⟨rfl, hb⟩; have hS1 := cellsAt_heap (hb.block _ hP.lt); have hP := plain_heap (hb.block _ hP.lt) hP; have hS := hS1.trans hS; have hB := bnext hB hb; clear hb))
                      go_cut [121] from 117 to 121 (fun x wx => x = .bool false ∧ Below w.heap.size w wx ∧ Plain wx w1.heap.size ∧ cellsAt wx w1.heap.size = #[.iface 122 (.pointer (some ⟨0, 51, none⟩)), .int .u64 22, .pointer none, .pointer none, .bool false, .bool false, .bool false, .bool false, .bool false])
                      case first =>
                        go_region_with (first | (go_at_call 38; ((with_reducible refine (bit_PtrInt  _).mono ?_); rintro e x1 ⟨rfl, hb⟩; have hPC := keepP (n := w1.heap.size) hb (by first | (simp [go_sem]; done) | (simp [go_sem, hP]; done)); have hC : cellsAt x1 w1.heap.size = #[.iface 122 (.pointer (some ⟨0, 51, none⟩)), .int .u64 22, .pointer none, .pointer none, .bool false, .bool false, .bool false, .bool false, .bool false] := hPC.2.trans (by first | (simp [go_sem]; done) | (simp [go_sem, hC]; done) | (simp [go_sem, hP, hS]; done) | (simp [go_sem, hP, hC]; done)); have hP := hPC.1; have hB : Below w.heap.size w x1 := bnext (by repeat (first | with_reducible exact hB | with_reducible refine Below.drew ?_ | with_reducible refine Below.setCell ?_ hNB _ | with_reducible refine below_setRow ?_ hNB _ | with_reducible refine bal ?_ _)) hb; clear hb hPC)) | (go_at_call 23; ((with_reducible refine (bsh_PtrInt  _).mono ?_); rintro e x2 ⟨rfl, hb⟩; have hPC := keepP (n := w1.heap.size) hb (by first | (simp [go_sem]; done) | (simp [go_sem, hP]; done)); have hC : cellsAt x2 w1.heap.size = #[.iface 122 (.pointer (some ⟨0, 51, none⟩)), .int .u64 22, .pointer none, .pointer none, .bool false, .bool false, .bool false, .bool false, .bool false] := hPC.2.trans (by first | (simp [go_sem]; done) | (simp [go_sem, hC]; done) | (simp [go_sem, hP, hS]; done) | (simp [go_sem, hP, hC]; done)); have hP := hPC.1; have hB : Below w.heap.size w x2 := bnext (by repeat (first | with_reducible exact hB | with_reducible refine Below.drew ?_ | with_reducible refine Below.setCell ?_ hNB _ | with_reducible refine below_setRow ?_ hNB _ | with_reducible refine bal ?_ _)) hb; clear hb hPC)))
                        all_goals
                          go_wp2_with fail
                          go_meet
                          case rel => exact ⟨rfl, hB, hP, hC⟩
                      case rest =>
                        obtain ⟨rfl, hB, hP, hS⟩ := hcut
                        go_wp2_with (go_at_call 39; ((with_reducible refine (bc_39 _).mono ?_); rintro e z ⟨rfl, hb⟩; have hB := bnext hB hb))
                        go_ret
                        exact ⟨rfl, (by repeat (first | with_reducible exact hB | with_reducible refine Below.drew ?_ | with_reducible refine Below.setCell ?_ hNB _ | with_reducible refine below_setRow ?_ hNB _ | with_reducible refine bal ?_ _))⟩
end Go.Proofs.YtjdnoaojjmejmaaGreat.fnNatureOfTypedValues
