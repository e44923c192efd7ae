/-
  The walk of FnNatureOfAgreesWithFromType: NatureOf of a value and FromType of its static type agree; NatureOf(nil) and FromType(nil) differ in the Nil flag alone.
-/
import Derived.Test.YtjdnoaojjmejmaaGreatBase
import Derived.OpenShut
import Derived.Deep.RegionWith
import Derived.RegionTactic
import Derived.ChangeAlike
import Derived.Deep.QuietTactic
import Derived.BigQuiet
import Derived.WalkSmall
import Derived.Carry
import Derived.LaidEqlPtr
import Derived.Lib.Builder
import Derived.Laws.NewBlocks
import Derived.Below
import Derived.Laws.CopyOwn
import Derived.OwnWalk
import Derived.Deep.OwnRows
import Derived.Deep.Cut
import Derived.Deep.CutRange
import Derived.MapKept
namespace Go.Proofs.YtjdnoaojjmejmaaGreat.fnNatureOfAgreesWithFromType
open Go.RowKit
set_option maxRecDepth 100000
set_option maxHeartbeats 1000000
set_option linter.unusedVariables false
theorem bal {w v : World} (h : Below w.heap.size w v) (o : Obj) : Below w.heap.size w (v.alloc o) := h.alloc h.size o
theorem bdn {B : Nat} {a w : World} (h : Below B a w) (n : Nat) : Below B a (w.drewN n) := ⟨h.os, h.tape, h.output, h.size, h.block⟩
/-- the slice of integers 'v' reads as 'zs' up to its capacity, or is nil -/
def IntsIn (w : World) (k : IntKind) (v : Value) : Prop := v = .slice none 0 0 ∨ ∃ (a : Addr) (len cap : Nat) (zs : List Int), v = .slice (some a) len cap ∧ len ≤ cap ∧ cap ≤ maxLen ∧ zs.length = cap ∧ (∀ i, i < zs.length → w.cell? (a.add i) = some (.int k (zs.getD i 0))) ∧ (∀ n ∈ zs, (Lit.int k n).wf = true)
/-- the slice of strings 'v' reads as 'ss' up to its capacity, or is nil -/
def StrsIn (w : World) (v : Value) : Prop := v = .slice none 0 0 ∨ ∃ (a : Addr) (len cap : Nat) (ss : List ByteArray), v = .slice (some a) len cap ∧ len ≤ cap ∧ cap ≤ maxLen ∧ ss.length = cap ∧ (∀ i, i < ss.length → w.cell? (a.add i) = some (.string (ss.getD i ByteArray.empty))) ∧ (∀ s ∈ ss, s.size ≤ maxLen)
/-- the pointer 'v' is nil or points at an integer -/
def PtrIn (w : World) (k : IntKind) (v : Value) : Prop := v = .pointer none ∨ ∃ b off n, v = .pointer (some ⟨b, off, none⟩) ∧ w.cell? ⟨b, off, none⟩ = some (.int k n) ∧ (Lit.int k n).wf = true
@[go_sem] theorem kind_2 (w : World) : (callFunc 246 #[.pointer (some ⟨0, 2, none⟩)]).run Tryz.prog w = .ok (.value (.int .u64 6)) w := by kernel_rfl

@[go_sem] theorem kind_5 (w : World) : (callFunc 246 #[.pointer (some ⟨0, 5, none⟩)]).run Tryz.prog w = .ok (.value (.int .u64 8)) w := by kernel_rfl

@[go_sem] theorem kind_27 (w : World) : (callFunc 246 #[.pointer (some ⟨0, 27, none⟩)]).run Tryz.prog w = .ok (.value (.int .u64 14)) w := by kernel_rfl

@[go_sem] theorem kind_9 (w : World) : (callFunc 246 #[.pointer (some ⟨0, 9, none⟩)]).run Tryz.prog w = .ok (.value (.int .u64 24)) w := by kernel_rfl

@[go_sem] theorem kind_4 (w : World) : (callFunc 246 #[.pointer (some ⟨0, 4, none⟩)]).run Tryz.prog w = .ok (.value (.int .u64 1)) w := by kernel_rfl

@[go_sem] theorem kind_50 (w : World) : (callFunc 246 #[.pointer (some ⟨0, 50, none⟩)]).run Tryz.prog w = .ok (.value (.int .u64 23)) w := by kernel_rfl

@[go_sem] theorem kind_51 (w : World) : (callFunc 246 #[.pointer (some ⟨0, 51, none⟩)]).run Tryz.prog w = .ok (.value (.int .u64 22)) w := by kernel_rfl

theorem bi_2  (w : World)  : Calls Tryz.prog 146 #[.iface 122 (.pointer (some ⟨0, 2, none⟩))] w fun e w' => e = .returned (Value.bool true) ∧ (w) = w' := by
  go_enter Tryz.func146, Tryz.ntmps146
  go_wp2
  exact bodyPost_ret (v := (Value.bool true)) (by simp [results, Tryz.results146, go_sem]) rfl ⟨rfl, rfl⟩

theorem bi_5  (w : World)  : Calls Tryz.prog 146 #[.iface 122 (.pointer (some ⟨0, 5, none⟩))] w fun e w' => e = .returned (Value.bool true) ∧ (w) = w' := by
  go_enter Tryz.func146, Tryz.ntmps146
  go_wp2
  exact bodyPost_ret (v := (Value.bool true)) (by simp [results, Tryz.results146, go_sem]) rfl ⟨rfl, rfl⟩

theorem bf_27  (w : World)  : Calls Tryz.prog 147 #[.iface 122 (.pointer (some ⟨0, 27, none⟩))] w fun e w' => e = .returned (Value.bool true) ∧ (w) = w' := by
  go_enter Tryz.func147, Tryz.ntmps147
  go_wp2
  exact bodyPost_ret (v := (Value.bool true)) (by simp [results, Tryz.results147, go_sem]) rfl ⟨rfl, rfl⟩

theorem from_9 (c : Option Addr) (w : World) : Calls Tryz.prog 137 #[.pointer c, .iface 122 (.pointer (some ⟨0, 9, none⟩))] w fun e w' => e = .returned (.agg #[.iface 122 (.pointer (some ⟨0, 9, none⟩)), .int .u64 24, .pointer none, .pointer none, .bool false, .bool false, .bool false, .bool false, .bool false]) ∧ w.alloc (.cells #[.iface 122 (.pointer (some ⟨0, 9, none⟩)), .int .u64 24, .pointer none, .pointer none, .bool false, .bool false, .bool false, .bool false, .bool false] 43) = w' :=
  from_plain c 9 24 kind_9 rfl rfl rfl rfl rfl rfl rfl rfl rfl rfl rfl rfl rfl rfl rfl w

theorem from_4 (c : Option Addr) (w : World) : Calls Tryz.prog 137 #[.pointer c, .iface 122 (.pointer (some ⟨0, 4, none⟩))] w fun e w' => e = .returned (.agg #[.iface 122 (.pointer (some ⟨0, 4, none⟩)), .int .u64 1, .pointer none, .pointer none, .bool false, .bool false, .bool false, .bool false, .bool false]) ∧ w.alloc (.cells #[.iface 122 (.pointer (some ⟨0, 4, none⟩)), .int .u64 1, .pointer none, .pointer none, .bool false, .bool false, .bool false, .bool false, .bool false] 43) = w' :=
  from_plain c 4 1 kind_4 rfl rfl rfl rfl rfl rfl rfl rfl rfl rfl rfl rfl rfl rfl rfl w

theorem from_50 (c : Option Addr) (w : World) : Calls Tryz.prog 137 #[.pointer c, .iface 122 (.pointer (some ⟨0, 50, none⟩))] w fun e w' => e = .returned (.agg #[.iface 122 (.pointer (some ⟨0, 50, none⟩)), .int .u64 23, .pointer none, .pointer none, .bool false, .bool false, .bool false, .bool false, .bool false]) ∧ w.alloc (.cells #[.iface 122 (.pointer (some ⟨0, 50, none⟩)), .int .u64 23, .pointer none, .pointer none, .bool false, .bool false, .bool false, .bool false, .bool false] 43) = w' :=
  from_plain c 50 23 kind_50 rfl rfl rfl rfl rfl rfl rfl rfl rfl rfl rfl rfl rfl rfl rfl w

theorem from_51 (c : Option Addr) (w : World) : Calls Tryz.prog 137 #[.pointer c, .iface 122 (.pointer (some ⟨0, 51, none⟩))] w fun e w' => e = .returned (.agg #[.iface 122 (.pointer (some ⟨0, 51, none⟩)), .int .u64 22, .pointer none, .pointer none, .bool false, .bool false, .bool false, .bool false, .bool false]) ∧ w.alloc (.cells #[.iface 122 (.pointer (some ⟨0, 51, none⟩)), .int .u64 22, .pointer none, .pointer none, .bool false, .bool false, .bool false, .bool false, .bool false] 43) = w' :=
  from_plain c 51 22 kind_51 rfl rfl rfl rfl rfl rfl rfl rfl rfl rfl rfl rfl rfl rfl rfl w

theorem from_2 (c : Option Addr) (w : World)  : Calls Tryz.prog 137 #[.pointer c, .iface 122 (.pointer (some ⟨0, 2, none⟩))] w fun e w' => e = .returned (Value.agg #[Value.iface 122 (Value.pointer (some { block := 0, off := 2 })), Value.int IntKind.u64 6, Value.pointer none, Value.pointer none, Value.bool false, Value.bool false, Value.bool false, Value.bool true, Value.bool false]) ∧ (w.alloc (Obj.cells #[Value.iface 122 (Value.pointer (some { block := 0, off := 2 })), Value.int IntKind.u64 6, Value.pointer none, Value.pointer none, Value.bool false, Value.bool false, Value.bool false, Value.bool true, Value.bool false] 43)) = w' := by
  go_enter Tryz.func137, Tryz.ntmps137
  go_wp2_with (first | (go_at_call 146; ((with_reducible refine (bi_2 _).mono ?_); rintro e w' ⟨rfl, rfl⟩)))
  exact bodyPost_ret (v := (Value.agg #[Value.iface 122 (Value.pointer (some { block := 0, off := 2 })), Value.int IntKind.u64 6, Value.pointer none, Value.pointer none, Value.bool false, Value.bool false, Value.bool false, Value.bool true, Value.bool false])) (by simp [results, Tryz.results137, go_sem]) rfl ⟨rfl, rfl⟩

theorem from_5 (c : Option Addr) (w : World)  : Calls Tryz.prog 137 #[.pointer c, .iface 122 (.pointer (some ⟨0, 5, none⟩))] w fun e w' => e = .returned (Value.agg #[Value.iface 122 (Value.pointer (some { block := 0, off := 5 })), Value.int IntKind.u64 8, Value.pointer none, Value.pointer none, Value.bool false, Value.bool false, Value.bool false, Value.bool true, Value.bool false]) ∧ (w.alloc (Obj.cells #[Value.iface 122 (Value.pointer (some { block := 0, off := 5 })), Value.int IntKind.u64 8, Value.pointer none, Value.pointer none, Value.bool false, Value.bool false, Value.bool false, Value.bool true, Value.bool false] 43)) = w' := by
  go_enter Tryz.func137, Tryz.ntmps137
  go_wp2_with (first | (go_at_call 146; ((with_reducible refine (bi_5 _).mono ?_); rintro e w' ⟨rfl, rfl⟩)))
  exact bodyPost_ret (v := (Value.agg #[Value.iface 122 (Value.pointer (some { block := 0, off := 5 })), Value.int IntKind.u64 8, Value.pointer none, Value.pointer none, Value.bool false, Value.bool false, Value.bool false, Value.bool true, Value.bool false])) (by simp [results, Tryz.results137, go_sem]) rfl ⟨rfl, rfl⟩

theorem from_27 (c : Option Addr) (w : World)  : Calls Tryz.prog 137 #[.pointer c, .iface 122 (.pointer (some ⟨0, 27, none⟩))] w fun e w' => e = .returned (Value.agg #[Value.iface 122 (Value.pointer (some { block := 0, off := 27 })), Value.int IntKind.u64 14, Value.pointer none, Value.pointer none, Value.bool false, Value.bool false, Value.bool false, Value.bool false, Value.bool true]) ∧ (w.alloc (Obj.cells #[Value.iface 122 (Value.pointer (some { block := 0, off := 27 })), Value.int IntKind.u64 14, Value.pointer none, Value.pointer none, Value.bool false, Value.bool false, Value.bool false, Value.bool false, Value.bool true] 43)) = w' := by
  go_enter Tryz.func137, Tryz.ntmps137
  go_wp2_with (first | (go_at_call 147; ((with_reducible refine (bf_27 _).mono ?_); rintro e w' ⟨rfl, rfl⟩)))
  exact bodyPost_ret (v := (Value.agg #[Value.iface 122 (Value.pointer (some { block := 0, off := 27 })), Value.int IntKind.u64 14, Value.pointer none, Value.pointer none, Value.bool false, Value.bool false, Value.bool false, Value.bool false, Value.bool true])) (by simp [results, Tryz.results137, go_sem]) rfl ⟨rfl, rfl⟩

theorem ft_9 (w : World) : Calls Tryz.prog 118 #[.iface 122 (.pointer (some ⟨0, 9, none⟩))] w fun e w' => e = .returned (.agg #[.iface 122 (.pointer (some ⟨0, 9, none⟩)), .int .u64 24, .pointer none, .pointer none, .bool false, .bool false, .bool false, .bool false, .bool false]) ∧ (w.alloc (.cells #[.iface 122 (.pointer (some ⟨0, 9, none⟩)), .int .u64 24, .pointer none, .pointer none, .bool false, .bool false, .bool false, .bool false, .bool false] 43)).alloc (.cells #[.iface 122 (.pointer (some ⟨0, 9, none⟩)), .int .u64 24, .pointer none, .pointer none, .bool false, .bool false, .bool false, .bool false, .bool false] 43) = w' :=
  ft_plain 9 24 kind_9 rfl rfl rfl rfl rfl rfl rfl rfl rfl rfl rfl rfl rfl rfl rfl w

theorem ft_4 (w : World) : Calls Tryz.prog 118 #[.iface 122 (.pointer (some ⟨0, 4, none⟩))] w fun e w' => e = .returned (.agg #[.iface 122 (.pointer (some ⟨0, 4, none⟩)), .int .u64 1, .pointer none, .pointer none, .bool false, .bool false, .bool false, .bool false, .bool false]) ∧ (w.alloc (.cells #[.iface 122 (.pointer (some ⟨0, 4, none⟩)), .int .u64 1, .pointer none, .pointer none, .bool false, .bool false, .bool false, .bool false, .bool false] 43)).alloc (.cells #[.iface 122 (.pointer (some ⟨0, 4, none⟩)), .int .u64 1, .pointer none, .pointer none, .bool false, .bool false, .bool false, .bool false, .bool false] 43) = w' :=
  ft_plain 4 1 kind_4 rfl rfl rfl rfl rfl rfl rfl rfl rfl rfl rfl rfl rfl rfl rfl w

theorem ft_50 (w : World) : Calls Tryz.prog 118 #[.iface 122 (.pointer (some ⟨0, 50, none⟩))] w fun e w' => e = .returned (.agg #[.iface 122 (.pointer (some ⟨0, 50, none⟩)), .int .u64 23, .pointer none, .pointer none, .bool false, .bool false, .bool false, .bool false, .bool false]) ∧ (w.alloc (.cells #[.iface 122 (.pointer (some ⟨0, 50, none⟩)), .int .u64 23, .pointer none, .pointer none, .bool false, .bool false, .bool false, .bool false, .bool false] 43)).alloc (.cells #[.iface 122 (.pointer (some ⟨0, 50, none⟩)), .int .u64 23, .pointer none, .pointer none, .bool false, .bool false, .bool false, .bool false, .bool false] 43) = w' :=
  ft_plain 50 23 kind_50 rfl rfl rfl rfl rfl rfl rfl rfl rfl rfl rfl rfl rfl rfl rfl w

theorem ft_51 (w : World) : Calls Tryz.prog 118 #[.iface 122 (.pointer (some ⟨0, 51, none⟩))] w fun e w' => e = .returned (.agg #[.iface 122 (.pointer (some ⟨0, 51, none⟩)), .int .u64 22, .pointer none, .pointer none, .bool false, .bool false, .bool false, .bool false, .bool false]) ∧ (w.alloc (.cells #[.iface 122 (.pointer (some ⟨0, 51, none⟩)), .int .u64 22, .pointer none, .pointer none, .bool false, .bool false, .bool false, .bool false, .bool false] 43)).alloc (.cells #[.iface 122 (.pointer (some ⟨0, 51, none⟩)), .int .u64 22, .pointer none, .pointer none, .bool false, .bool false, .bool false, .bool false, .bool false] 43) = w' :=
  ft_plain 51 22 kind_51 rfl rfl rfl rfl rfl rfl rfl rfl rfl rfl rfl rfl rfl rfl rfl w

theorem ft_2  (w : World)  : Calls Tryz.prog 118 #[.iface 122 (.pointer (some ⟨0, 2, none⟩))] w fun e w' => e = .returned (Value.agg #[Value.iface 122 (Value.pointer (some { block := 0, off := 2 })), Value.int IntKind.u64 6, Value.pointer none, Value.pointer none, Value.bool false, Value.bool false, Value.bool false, Value.bool true, Value.bool false]) ∧ ((w.alloc (Obj.cells #[Value.iface 122 (Value.pointer (some { block := 0, off := 2 })), Value.int IntKind.u64 6, Value.pointer none, Value.pointer none, Value.bool false, Value.bool false, Value.bool false, Value.bool true, Value.bool false] 43)).alloc (Obj.cells #[Value.iface 122 (Value.pointer (some { block := 0, off := 2 })), Value.int IntKind.u64 6, Value.pointer none, Value.pointer none, Value.bool false, Value.bool false, Value.bool false, Value.bool true, Value.bool false] 43)) = w' := by
  go_enter Tryz.func118, Tryz.ntmps118
  go_wp2_with (first | (go_at_call 137; ((with_reducible refine (from_2 _ _).mono ?_); rintro e w' ⟨rfl, rfl⟩)))
  exact bodyPost_ret (v := (Value.agg #[Value.iface 122 (Value.pointer (some { block := 0, off := 2 })), Value.int IntKind.u64 6, Value.pointer none, Value.pointer none, Value.bool false, Value.bool false, Value.bool false, Value.bool true, Value.bool false])) (by simp [results, Tryz.results118, go_sem]) rfl ⟨rfl, rfl⟩

theorem ft_5  (w : World)  : Calls Tryz.prog 118 #[.iface 122 (.pointer (some ⟨0, 5, none⟩))] w fun e w' => e = .returned (Value.agg #[Value.iface 122 (Value.pointer (some { block := 0, off := 5 })), Value.int IntKind.u64 8, Value.pointer none, Value.pointer none, Value.bool false, Value.bool false, Value.bool false, Value.bool true, Value.bool false]) ∧ ((w.alloc (Obj.cells #[Value.iface 122 (Value.pointer (some { block := 0, off := 5 })), Value.int IntKind.u64 8, Value.pointer none, Value.pointer none, Value.bool false, Value.bool false, Value.bool false, Value.bool true, Value.bool false] 43)).alloc (Obj.cells #[Value.iface 122 (Value.pointer (some { block := 0, off := 5 })), Value.int IntKind.u64 8, Value.pointer none, Value.pointer none, Value.bool false, Value.bool false, Value.bool false, Value.bool true, Value.bool false] 43)) = w' := by
  go_enter Tryz.func118, Tryz.ntmps118
  go_wp2_with (first | (go_at_call 137; ((with_reducible refine (from_5 _ _).mono ?_); rintro e w' ⟨rfl, rfl⟩)))
  exact bodyPost_ret (v := (Value.agg #[Value.iface 122 (Value.pointer (some { block := 0, off := 5 })), Value.int IntKind.u64 8, Value.pointer none, Value.pointer none, Value.bool false, Value.bool false, Value.bool false, Value.bool true, Value.bool false])) (by simp [results, Tryz.results118, go_sem]) rfl ⟨rfl, rfl⟩

theorem ft_27  (w : World)  : Calls Tryz.prog 118 #[.iface 122 (.pointer (some ⟨0, 27, none⟩))] w fun e w' => e = .returned (Value.agg #[Value.iface 122 (Value.pointer (some { block := 0, off := 27 })), Value.int IntKind.u64 14, Value.pointer none, Value.pointer none, Value.bool false, Value.bool false, Value.bool false, Value.bool false, Value.bool true]) ∧ ((w.alloc (Obj.cells #[Value.iface 122 (Value.pointer (some { block := 0, off := 27 })), Value.int IntKind.u64 14, Value.pointer none, Value.pointer none, Value.bool false, Value.bool false, Value.bool false, Value.bool false, Value.bool true] 43)).alloc (Obj.cells #[Value.iface 122 (Value.pointer (some { block := 0, off := 27 })), Value.int IntKind.u64 14, Value.pointer none, Value.pointer none, Value.bool false, Value.bool false, Value.bool false, Value.bool false, Value.bool true] 43)) = w' := by
  go_enter Tryz.func118, Tryz.ntmps118
  go_wp2_with (first | (go_at_call 137; ((with_reducible refine (from_27 _ _).mono ?_); rintro e w' ⟨rfl, rfl⟩)))
  exact bodyPost_ret (v := (Value.agg #[Value.iface 122 (Value.pointer (some { block := 0, off := 27 })), Value.int IntKind.u64 14, Value.pointer none, Value.pointer none, Value.bool false, Value.bool false, Value.bool false, Value.bool false, Value.bool true])) (by simp [results, Tryz.results118, go_sem]) rfl ⟨rfl, rfl⟩

theorem c_57  (w : World)  : Calls Tryz.prog 57 #[] w fun e w' => e = .returned (Value.agg #[Value.iface 122 (Value.pointer (some { block := 0, off := 2 })), Value.int IntKind.u64 6, Value.pointer none, Value.pointer none, Value.bool false, Value.bool false, Value.bool false, Value.bool true, Value.bool false]) ∧ (((w.alloc (Obj.cells #[Value.iface 122 (Value.pointer (some { block := 0, off := 2 })), Value.int IntKind.u64 6, Value.pointer none, Value.pointer none, Value.bool false, Value.bool false, Value.bool false, Value.bool true, Value.bool false] 43)).alloc (Obj.cells #[Value.iface 122 (Value.pointer (some { block := 0, off := 2 })), Value.int IntKind.u64 6, Value.pointer none, Value.pointer none, Value.bool false, Value.bool false, Value.bool false, Value.bool true, Value.bool false] 43)).alloc (Obj.cells #[Value.iface 122 (Value.pointer (some { block := 0, off := 2 })), Value.int IntKind.u64 6, Value.pointer none, Value.pointer none, Value.bool false, Value.bool false, Value.bool false, Value.bool true, Value.bool false] 43)) = w' := by
  go_enter Tryz.func57, Tryz.ntmps57
  go_wp2_with (first | (go_at_call 118; ((with_reducible refine (ft_2 _).mono ?_); rintro e w' ⟨rfl, rfl⟩)))
  exact bodyPost_ret (v := (Value.agg #[Value.iface 122 (Value.pointer (some { block := 0, off := 2 })), Value.int IntKind.u64 6, Value.pointer none, Value.pointer none, Value.bool false, Value.bool false, Value.bool false, Value.bool true, Value.bool false])) (by simp [results, Tryz.results57, go_sem]) rfl ⟨rfl, rfl⟩

theorem c_58  (w : World)  : Calls Tryz.prog 58 #[] w fun e w' => e = .returned (Value.agg #[Value.iface 122 (Value.pointer (some { block := 0, off := 5 })), Value.int IntKind.u64 8, Value.pointer none, Value.pointer none, Value.bool false, Value.bool false, Value.bool false, Value.bool true, Value.bool false]) ∧ (((w.alloc (Obj.cells #[Value.iface 122 (Value.pointer (some { block := 0, off := 5 })), Value.int IntKind.u64 8, Value.pointer none, Value.pointer none, Value.bool false, Value.bool false, Value.bool false, Value.bool true, Value.bool false] 43)).alloc (Obj.cells #[Value.iface 122 (Value.pointer (some { block := 0, off := 5 })), Value.int IntKind.u64 8, Value.pointer none, Value.pointer none, Value.bool false, Value.bool false, Value.bool false, Value.bool true, Value.bool false] 43)).alloc (Obj.cells #[Value.iface 122 (Value.pointer (some { block := 0, off := 5 })), Value.int IntKind.u64 8, Value.pointer none, Value.pointer none, Value.bool false, Value.bool false, Value.bool false, Value.bool true, Value.bool false] 43)) = w' := by
  go_enter Tryz.func58, Tryz.ntmps58
  go_wp2_with (first | (go_at_call 118; ((with_reducible refine (ft_5 _).mono ?_); rintro e w' ⟨rfl, rfl⟩)))
  exact bodyPost_ret (v := (Value.agg #[Value.iface 122 (Value.pointer (some { block := 0, off := 5 })), Value.int IntKind.u64 8, Value.pointer none, Value.pointer none, Value.bool false, Value.bool false, Value.bool false, Value.bool true, Value.bool false])) (by simp [results, Tryz.results58, go_sem]) rfl ⟨rfl, rfl⟩

theorem c_65  (w : World)  : Calls Tryz.prog 65 #[] w fun e w' => e = .returned (Value.agg #[Value.iface 122 (Value.pointer (some { block := 0, off := 27 })), Value.int IntKind.u64 14, Value.pointer none, Value.pointer none, Value.bool false, Value.bool false, Value.bool false, Value.bool false, Value.bool true]) ∧ (((w.alloc (Obj.cells #[Value.iface 122 (Value.pointer (some { block := 0, off := 27 })), Value.int IntKind.u64 14, Value.pointer none, Value.pointer none, Value.bool false, Value.bool false, Value.bool false, Value.bool false, Value.bool true] 43)).alloc (Obj.cells #[Value.iface 122 (Value.pointer (some { block := 0, off := 27 })), Value.int IntKind.u64 14, Value.pointer none, Value.pointer none, Value.bool false, Value.bool false, Value.bool false, Value.bool false, Value.bool true] 43)).alloc (Obj.cells #[Value.iface 122 (Value.pointer (some { block := 0, off := 27 })), Value.int IntKind.u64 14, Value.pointer none, Value.pointer none, Value.bool false, Value.bool false, Value.bool false, Value.bool false, Value.bool true] 43)) = w' := by
  go_enter Tryz.func65, Tryz.ntmps65
  go_wp2_with (first | (go_at_call 118; ((with_reducible refine (ft_27 _).mono ?_); rintro e w' ⟨rfl, rfl⟩)))
  exact bodyPost_ret (v := (Value.agg #[Value.iface 122 (Value.pointer (some { block := 0, off := 27 })), Value.int IntKind.u64 14, Value.pointer none, Value.pointer none, Value.bool false, Value.bool false, Value.bool false, Value.bool false, Value.bool true])) (by simp [results, Tryz.results65, go_sem]) rfl ⟨rfl, rfl⟩

theorem c_70  (w : World)  : Calls Tryz.prog 70 #[] w fun e w' => e = .returned (Value.agg #[Value.iface 122 (Value.pointer (some { block := 0, off := 9 })), Value.int IntKind.u64 24, Value.pointer none, Value.pointer none, Value.bool false, Value.bool false, Value.bool false, Value.bool false, Value.bool false]) ∧ (((w.alloc (Obj.cells #[Value.iface 122 (Value.pointer (some { block := 0, off := 9 })), Value.int IntKind.u64 24, Value.pointer none, Value.pointer none, Value.bool false, Value.bool false, Value.bool false, Value.bool false, Value.bool false] 43)).alloc (Obj.cells #[Value.iface 122 (Value.pointer (some { block := 0, off := 9 })), Value.int IntKind.u64 24, Value.pointer none, Value.pointer none, Value.bool false, Value.bool false, Value.bool false, Value.bool false, Value.bool false] 43)).alloc (Obj.cells #[Value.iface 122 (Value.pointer (some { block := 0, off := 9 })), Value.int IntKind.u64 24, Value.pointer none, Value.pointer none, Value.bool false, Value.bool false, Value.bool false, Value.bool false, Value.bool false] 43)) = w' := by
  go_enter Tryz.func70, Tryz.ntmps70
  go_wp2_with (first | (go_at_call 118; ((with_reducible refine (ft_9 _).mono ?_); rintro e w' ⟨rfl, rfl⟩)))
  exact bodyPost_ret (v := (Value.agg #[Value.iface 122 (Value.pointer (some { block := 0, off := 9 })), Value.int IntKind.u64 24, Value.pointer none, Value.pointer none, Value.bool false, Value.bool false, Value.bool false, Value.bool false, Value.bool false])) (by simp [results, Tryz.results70, go_sem]) rfl ⟨rfl, rfl⟩

theorem c_71  (w : World)  : Calls Tryz.prog 71 #[] w fun e w' => e = .returned (Value.agg #[Value.iface 122 (Value.pointer (some { block := 0, off := 4 })), Value.int IntKind.u64 1, Value.pointer none, Value.pointer none, Value.bool false, Value.bool false, Value.bool false, Value.bool false, Value.bool false]) ∧ (((w.alloc (Obj.cells #[Value.iface 122 (Value.pointer (some { block := 0, off := 4 })), Value.int IntKind.u64 1, Value.pointer none, Value.pointer none, Value.bool false, Value.bool false, Value.bool false, Value.bool false, Value.bool false] 43)).alloc (Obj.cells #[Value.iface 122 (Value.pointer (some { block := 0, off := 4 })), Value.int IntKind.u64 1, Value.pointer none, Value.pointer none, Value.bool false, Value.bool false, Value.bool false, Value.bool false, Value.bool false] 43)).alloc (Obj.cells #[Value.iface 122 (Value.pointer (some { block := 0, off := 4 })), Value.int IntKind.u64 1, Value.pointer none, Value.pointer none, Value.bool false, Value.bool false, Value.bool false, Value.bool false, Value.bool false] 43)) = w' := by
  go_enter Tryz.func71, Tryz.ntmps71
  go_wp2_with (first | (go_at_call 118; ((with_reducible refine (ft_4 _).mono ?_); rintro e w' ⟨rfl, rfl⟩)))
  exact bodyPost_ret (v := (Value.agg #[Value.iface 122 (Value.pointer (some { block := 0, off := 4 })), Value.int IntKind.u64 1, Value.pointer none, Value.pointer none, Value.bool false, Value.bool false, Value.bool false, Value.bool false, Value.bool false])) (by simp [results, Tryz.results71, go_sem]) rfl ⟨rfl, rfl⟩

theorem c_76  (w : World)  : Calls Tryz.prog 76 #[] w fun e w' => e = .returned (Value.agg #[Value.iface 122 (Value.pointer (some { block := 0, off := 50 })), Value.int IntKind.u64 23, Value.pointer none, Value.pointer none, Value.bool false, Value.bool false, Value.bool false, Value.bool false, Value.bool false]) ∧ (((w.alloc (Obj.cells #[Value.iface 122 (Value.pointer (some { block := 0, off := 50 })), Value.int IntKind.u64 23, Value.pointer none, Value.pointer none, Value.bool false, Value.bool false, Value.bool false, Value.bool false, Value.bool false] 43)).alloc (Obj.cells #[Value.iface 122 (Value.pointer (some { block := 0, off := 50 })), Value.int IntKind.u64 23, Value.pointer none, Value.pointer none, Value.bool false, Value.bool false, Value.bool false, Value.bool false, Value.bool false] 43)).alloc (Obj.cells #[Value.iface 122 (Value.pointer (some { block := 0, off := 50 })), Value.int IntKind.u64 23, Value.pointer none, Value.pointer none, Value.bool false, Value.bool false, Value.bool false, Value.bool false, Value.bool false] 43)) = w' := by
  go_enter Tryz.func76, Tryz.ntmps76
  go_wp2_with (first | (go_at_call 118; ((with_reducible refine (ft_50 _).mono ?_); rintro e w' ⟨rfl, rfl⟩)))
  exact bodyPost_ret (v := (Value.agg #[Value.iface 122 (Value.pointer (some { block := 0, off := 50 })), Value.int IntKind.u64 23, Value.pointer none, Value.pointer none, Value.bool false, Value.bool false, Value.bool false, Value.bool false, Value.bool false])) (by simp [results, Tryz.results76, go_sem]) rfl ⟨rfl, rfl⟩

theorem c_78  (w : World)  : Calls Tryz.prog 78 #[] w fun e w' => e = .returned (Value.agg #[Value.iface 122 (Value.pointer (some { block := 0, off := 51 })), Value.int IntKind.u64 22, Value.pointer none, Value.pointer none, Value.bool false, Value.bool false, Value.bool false, Value.bool false, Value.bool false]) ∧ (((w.alloc (Obj.cells #[Value.iface 122 (Value.pointer (some { block := 0, off := 51 })), Value.int IntKind.u64 22, Value.pointer none, Value.pointer none, Value.bool false, Value.bool false, Value.bool false, Value.bool false, Value.bool false] 43)).alloc (Obj.cells #[Value.iface 122 (Value.pointer (some { block := 0, off := 51 })), Value.int IntKind.u64 22, Value.pointer none, Value.pointer none, Value.bool false, Value.bool false, Value.bool false, Value.bool false, Value.bool false] 43)).alloc (Obj.cells #[Value.iface 122 (Value.pointer (some { block := 0, off := 51 })), Value.int IntKind.u64 22, Value.pointer none, Value.pointer none, Value.bool false, Value.bool false, Value.bool false, Value.bool false, Value.bool false] 43)) = w' := by
  go_enter Tryz.func78, Tryz.ntmps78
  go_wp2_with (first | (go_at_call 118; ((with_reducible refine (ft_51 _).mono ?_); rintro e w' ⟨rfl, rfl⟩)))
  exact bodyPost_ret (v := (Value.agg #[Value.iface 122 (Value.pointer (some { block := 0, off := 51 })), Value.int IntKind.u64 22, Value.pointer none, Value.pointer none, Value.bool false, Value.bool false, Value.bool false, Value.bool false, Value.bool false])) (by simp [results, Tryz.results78, go_sem]) rfl ⟨rfl, rfl⟩

theorem from_nil  (w : World)  : Calls Tryz.prog 137 #[.pointer none, .nilIface] w fun e w' => e = .returned (Value.agg #[Value.nilIface, Value.int IntKind.u64 0, Value.pointer none, Value.pointer none, Value.bool false, Value.bool false, Value.bool false, Value.bool false, Value.bool false]) ∧ (w.alloc (Obj.cells #[Value.nilIface, Value.int IntKind.u64 0, Value.pointer none, Value.pointer none, Value.bool false, Value.bool false, Value.bool false, Value.bool false, Value.bool false] 43)) = w' := by
  go_enter Tryz.func137, Tryz.ntmps137
  go_wp2
  exact bodyPost_ret (v := (Value.agg #[Value.nilIface, Value.int IntKind.u64 0, Value.pointer none, Value.pointer none, Value.bool false, Value.bool false, Value.bool false, Value.bool false, Value.bool false])) (by simp [results, Tryz.results137, go_sem]) rfl ⟨rfl, rfl⟩

theorem ft_nil  (w : World)  : Calls Tryz.prog 118 #[.nilIface] w fun e w' => e = .returned (Value.agg #[Value.nilIface, Value.int IntKind.u64 0, Value.pointer none, Value.pointer none, Value.bool false, Value.bool false, Value.bool false, Value.bool false, Value.bool false]) ∧ ((w.alloc (Obj.cells #[Value.nilIface, Value.int IntKind.u64 0, Value.pointer none, Value.pointer none, Value.bool false, Value.bool false, Value.bool false, Value.bool false, Value.bool false] 43)).alloc (Obj.cells #[Value.nilIface, Value.int IntKind.u64 0, Value.pointer none, Value.pointer none, Value.bool false, Value.bool false, Value.bool false, Value.bool false, Value.bool false] 43)) = w' := by
  go_enter Tryz.func118, Tryz.ntmps118
  go_wp2_with (first | (go_at_call 137; ((with_reducible refine (from_nil _).mono ?_); rintro e w' ⟨rfl, rfl⟩)))
  exact bodyPost_ret (v := (Value.agg #[Value.nilIface, Value.int IntKind.u64 0, Value.pointer none, Value.pointer none, Value.bool false, Value.bool false, Value.bool false, Value.bool false, Value.bool false])) (by simp [results, Tryz.results118, go_sem]) rfl ⟨rfl, rfl⟩

theorem c_52  (w : World)  : Calls Tryz.prog 52 #[] w fun e w' => e = .returned (Value.agg #[Value.nilIface, Value.int IntKind.u64 0, Value.pointer none, Value.pointer none, Value.bool false, Value.bool false, Value.bool false, Value.bool false, Value.bool false]) ∧ (((w.alloc (Obj.cells #[Value.nilIface, Value.int IntKind.u64 0, Value.pointer none, Value.pointer none, Value.bool false, Value.bool false, Value.bool false, Value.bool false, Value.bool false] 43)).alloc (Obj.cells #[Value.nilIface, Value.int IntKind.u64 0, Value.pointer none, Value.pointer none, Value.bool false, Value.bool false, Value.bool false, Value.bool false, Value.bool false] 43)).alloc (Obj.cells #[Value.nilIface, Value.int IntKind.u64 0, Value.pointer none, Value.pointer none, Value.bool false, Value.bool false, Value.bool false, Value.bool false, Value.bool false] 43)) = w' := by
  go_enter Tryz.func52, Tryz.ntmps52
  go_wp2_with (first | (go_at_call 118; ((with_reducible refine (ft_nil _).mono ?_); rintro e w' ⟨rfl, rfl⟩)))
  exact bodyPost_ret (v := (Value.agg #[Value.nilIface, Value.int IntKind.u64 0, Value.pointer none, Value.pointer none, Value.bool false, Value.bool false, Value.bool false, Value.bool false, Value.bool false])) (by simp [results, Tryz.results52, go_sem]) rfl ⟨rfl, rfl⟩

theorem nc_2 (x : Value) (w : World)  : Calls Tryz.prog 140 #[.pointer none, .iface 2 x] w fun e w' => e = .returned (Value.agg #[Value.iface 122 (Value.pointer (some { block := 0, off := 2 })), Value.int IntKind.u64 6, Value.pointer none, Value.pointer none, Value.bool false, Value.bool false, Value.bool false, Value.bool true, Value.bool false]) ∧ ((w.alloc (Obj.cells #[Value.iface 122 (Value.pointer (some { block := 0, off := 2 })), Value.int IntKind.u64 6, Value.pointer none, Value.pointer none, Value.bool false, Value.bool false, Value.bool false, Value.bool true, Value.bool false] 43)).alloc (Obj.cells #[Value.iface 122 (Value.pointer (some { block := 0, off := 2 })), Value.int IntKind.u64 6, Value.pointer none, Value.pointer none, Value.bool false, Value.bool false, Value.bool false, Value.bool true, Value.bool false] 43)) = w' := by
  go_enter Tryz.func140, Tryz.ntmps140
  go_wp2_with (first | (go_at_call 137; ((with_reducible refine (from_2 _ _).mono ?_); rintro e w' ⟨rfl, rfl⟩)))
  exact bodyPost_ret (v := (Value.agg #[Value.iface 122 (Value.pointer (some { block := 0, off := 2 })), Value.int IntKind.u64 6, Value.pointer none, Value.pointer none, Value.bool false, Value.bool false, Value.bool false, Value.bool true, Value.bool false])) (by simp [results, Tryz.results140, go_sem]) rfl ⟨rfl, rfl⟩

theorem nc_5 (x : Value) (w : World)  : Calls Tryz.prog 140 #[.pointer none, .iface 5 x] w fun e w' => e = .returned (Value.agg #[Value.iface 122 (Value.pointer (some { block := 0, off := 5 })), Value.int IntKind.u64 8, Value.pointer none, Value.pointer none, Value.bool false, Value.bool false, Value.bool false, Value.bool true, Value.bool false]) ∧ ((w.alloc (Obj.cells #[Value.iface 122 (Value.pointer (some { block := 0, off := 5 })), Value.int IntKind.u64 8, Value.pointer none, Value.pointer none, Value.bool false, Value.bool false, Value.bool false, Value.bool true, Value.bool false] 43)).alloc (Obj.cells #[Value.iface 122 (Value.pointer (some { block := 0, off := 5 })), Value.int IntKind.u64 8, Value.pointer none, Value.pointer none, Value.bool false, Value.bool false, Value.bool false, Value.bool true, Value.bool false] 43)) = w' := by
  go_enter Tryz.func140, Tryz.ntmps140
  go_wp2_with (first | (go_at_call 137; ((with_reducible refine (from_5 _ _).mono ?_); rintro e w' ⟨rfl, rfl⟩)))
  exact bodyPost_ret (v := (Value.agg #[Value.iface 122 (Value.pointer (some { block := 0, off := 5 })), Value.int IntKind.u64 8, Value.pointer none, Value.pointer none, Value.bool false, Value.bool false, Value.bool false, Value.bool true, Value.bool false])) (by simp [results, Tryz.results140, go_sem]) rfl ⟨rfl, rfl⟩

theorem nc_27 (x : Value) (w : World)  : Calls Tryz.prog 140 #[.pointer none, .iface 27 x] w fun e w' => e = .returned (Value.agg #[Value.iface 122 (Value.pointer (some { block := 0, off := 27 })), Value.int IntKind.u64 14, Value.pointer none, Value.pointer none, Value.bool false, Value.bool false, Value.bool false, Value.bool false, Value.bool true]) ∧ ((w.alloc (Obj.cells #[Value.iface 122 (Value.pointer (some { block := 0, off := 27 })), Value.int IntKind.u64 14, Value.pointer none, Value.pointer none, Value.bool false, Value.bool false, Value.bool false, Value.bool false, Value.bool true] 43)).alloc (Obj.cells #[Value.iface 122 (Value.pointer (some { block := 0, off := 27 })), Value.int IntKind.u64 14, Value.pointer none, Value.pointer none, Value.bool false, Value.bool false, Value.bool false, Value.bool false, Value.bool true] 43)) = w' := by
  go_enter Tryz.func140, Tryz.ntmps140
  go_wp2_with (first | (go_at_call 137; ((with_reducible refine (from_27 _ _).mono ?_); rintro e w' ⟨rfl, rfl⟩)))
  exact bodyPost_ret (v := (Value.agg #[Value.iface 122 (Value.pointer (some { block := 0, off := 27 })), Value.int IntKind.u64 14, Value.pointer none, Value.pointer none, Value.bool false, Value.bool false, Value.bool false, Value.bool false, Value.bool true])) (by simp [results, Tryz.results140, go_sem]) rfl ⟨rfl, rfl⟩

theorem nc_9 (x : Value) (w : World)  : Calls Tryz.prog 140 #[.pointer none, .iface 9 x] w fun e w' => e = .returned (Value.agg #[Value.iface 122 (Value.pointer (some { block := 0, off := 9 })), Value.int IntKind.u64 24, Value.pointer none, Value.pointer none, Value.bool false, Value.bool false, Value.bool false, Value.bool false, Value.bool false]) ∧ ((w.alloc (Obj.cells #[Value.iface 122 (Value.pointer (some { block := 0, off := 9 })), Value.int IntKind.u64 24, Value.pointer none, Value.pointer none, Value.bool false, Value.bool false, Value.bool false, Value.bool false, Value.bool false] 43)).alloc (Obj.cells #[Value.iface 122 (Value.pointer (some { block := 0, off := 9 })), Value.int IntKind.u64 24, Value.pointer none, Value.pointer none, Value.bool false, Value.bool false, Value.bool false, Value.bool false, Value.bool false] 43)) = w' := by
  go_enter Tryz.func140, Tryz.ntmps140
  go_wp2_with (first | (go_at_call 137; ((with_reducible refine (from_9 _ _).mono ?_); rintro e w' ⟨rfl, rfl⟩)))
  exact bodyPost_ret (v := (Value.agg #[Value.iface 122 (Value.pointer (some { block := 0, off := 9 })), Value.int IntKind.u64 24, Value.pointer none, Value.pointer none, Value.bool false, Value.bool false, Value.bool false, Value.bool false, Value.bool false])) (by simp [results, Tryz.results140, go_sem]) rfl ⟨rfl, rfl⟩

theorem nc_4 (x : Value) (w : World)  : Calls Tryz.prog 140 #[.pointer none, .iface 4 x] w fun e w' => e = .returned (Value.agg #[Value.iface 122 (Value.pointer (some { block := 0, off := 4 })), Value.int IntKind.u64 1, Value.pointer none, Value.pointer none, Value.bool false, Value.bool false, Value.bool false, Value.bool false, Value.bool false]) ∧ ((w.alloc (Obj.cells #[Value.iface 122 (Value.pointer (some { block := 0, off := 4 })), Value.int IntKind.u64 1, Value.pointer none, Value.pointer none, Value.bool false, Value.bool false, Value.bool false, Value.bool false, Value.bool false] 43)).alloc (Obj.cells #[Value.iface 122 (Value.pointer (some { block := 0, off := 4 })), Value.int IntKind.u64 1, Value.pointer none, Value.pointer none, Value.bool false, Value.bool false, Value.bool false, Value.bool false, Value.bool false] 43)) = w' := by
  go_enter Tryz.func140, Tryz.ntmps140
  go_wp2_with (first | (go_at_call 137; ((with_reducible refine (from_4 _ _).mono ?_); rintro e w' ⟨rfl, rfl⟩)))
  exact bodyPost_ret (v := (Value.agg #[Value.iface 122 (Value.pointer (some { block := 0, off := 4 })), Value.int IntKind.u64 1, Value.pointer none, Value.pointer none, Value.bool false, Value.bool false, Value.bool false, Value.bool false, Value.bool false])) (by simp [results, Tryz.results140, go_sem]) rfl ⟨rfl, rfl⟩

theorem nc_50 (x : Value) (w : World)  : Calls Tryz.prog 140 #[.pointer none, .iface 50 x] w fun e w' => e = .returned (Value.agg #[Value.iface 122 (Value.pointer (some { block := 0, off := 50 })), Value.int IntKind.u64 23, Value.pointer none, Value.pointer none, Value.bool false, Value.bool false, Value.bool false, Value.bool false, Value.bool false]) ∧ ((w.alloc (Obj.cells #[Value.iface 122 (Value.pointer (some { block := 0, off := 50 })), Value.int IntKind.u64 23, Value.pointer none, Value.pointer none, Value.bool false, Value.bool false, Value.bool false, Value.bool false, Value.bool false] 43)).alloc (Obj.cells #[Value.iface 122 (Value.pointer (some { block := 0, off := 50 })), Value.int IntKind.u64 23, Value.pointer none, Value.pointer none, Value.bool false, Value.bool false, Value.bool false, Value.bool false, Value.bool false] 43)) = w' := by
  go_enter Tryz.func140, Tryz.ntmps140
  go_wp2_with (first | (go_at_call 137; ((with_reducible refine (from_50 _ _).mono ?_); rintro e w' ⟨rfl, rfl⟩)))
  exact bodyPost_ret (v := (Value.agg #[Value.iface 122 (Value.pointer (some { block := 0, off := 50 })), Value.int IntKind.u64 23, Value.pointer none, Value.pointer none, Value.bool false, Value.bool false, Value.bool false, Value.bool false, Value.bool false])) (by simp [results, Tryz.results140, go_sem]) rfl ⟨rfl, rfl⟩

theorem nc_51 (x : Value) (w : World)  : Calls Tryz.prog 140 #[.pointer none, .iface 51 x] w fun e w' => e = .returned (Value.agg #[Value.iface 122 (Value.pointer (some { block := 0, off := 51 })), Value.int IntKind.u64 22, Value.pointer none, Value.pointer none, Value.bool false, Value.bool false, Value.bool false, Value.bool false, Value.bool false]) ∧ ((w.alloc (Obj.cells #[Value.iface 122 (Value.pointer (some { block := 0, off := 51 })), Value.int IntKind.u64 22, Value.pointer none, Value.pointer none, Value.bool false, Value.bool false, Value.bool false, Value.bool false, Value.bool false] 43)).alloc (Obj.cells #[Value.iface 122 (Value.pointer (some { block := 0, off := 51 })), Value.int IntKind.u64 22, Value.pointer none, Value.pointer none, Value.bool false, Value.bool false, Value.bool false, Value.bool false, Value.bool false] 43)) = w' := by
  go_enter Tryz.func140, Tryz.ntmps140
  go_wp2_with (first | (go_at_call 137; ((with_reducible refine (from_51 _ _).mono ?_); rintro e w' ⟨rfl, rfl⟩)))
  exact bodyPost_ret (v := (Value.agg #[Value.iface 122 (Value.pointer (some { block := 0, off := 51 })), Value.int IntKind.u64 22, Value.pointer none, Value.pointer none, Value.bool false, Value.bool false, Value.bool false, Value.bool false, Value.bool false])) (by simp [results, Tryz.results140, go_sem]) rfl ⟨rfl, rfl⟩

theorem no_2 (x : Value) (w : World)  : Calls Tryz.prog 115 #[.iface 2 x] w fun e w' => e = .returned (Value.agg #[Value.iface 122 (Value.pointer (some { block := 0, off := 2 })), Value.int IntKind.u64 6, Value.pointer none, Value.pointer none, Value.bool false, Value.bool false, Value.bool false, Value.bool true, Value.bool false]) ∧ (((w.alloc (Obj.cells #[Value.iface 122 (Value.pointer (some { block := 0, off := 2 })), Value.int IntKind.u64 6, Value.pointer none, Value.pointer none, Value.bool false, Value.bool false, Value.bool false, Value.bool true, Value.bool false] 43)).alloc (Obj.cells #[Value.iface 122 (Value.pointer (some { block := 0, off := 2 })), Value.int IntKind.u64 6, Value.pointer none, Value.pointer none, Value.bool false, Value.bool false, Value.bool false, Value.bool true, Value.bool false] 43)).alloc (Obj.cells #[Value.iface 122 (Value.pointer (some { block := 0, off := 2 })), Value.int IntKind.u64 6, Value.pointer none, Value.pointer none, Value.bool false, Value.bool false, Value.bool false, Value.bool true, Value.bool false] 43)) = w' := by
  go_enter Tryz.func115, Tryz.ntmps115
  go_wp2_with (first | (go_at_call 140; ((with_reducible refine (nc_2 _ _).mono ?_); rintro e w' ⟨rfl, rfl⟩)))
  exact bodyPost_ret (v := (Value.agg #[Value.iface 122 (Value.pointer (some { block := 0, off := 2 })), Value.int IntKind.u64 6, Value.pointer none, Value.pointer none, Value.bool false, Value.bool false, Value.bool false, Value.bool true, Value.bool false])) (by simp [results, Tryz.results115, go_sem]) rfl ⟨rfl, rfl⟩

theorem no_5 (x : Value) (w : World)  : Calls Tryz.prog 115 #[.iface 5 x] w fun e w' => e = .returned (Value.agg #[Value.iface 122 (Value.pointer (some { block := 0, off := 5 })), Value.int IntKind.u64 8, Value.pointer none, Value.pointer none, Value.bool false, Value.bool false, Value.bool false, Value.bool true, Value.bool false]) ∧ (((w.alloc (Obj.cells #[Value.iface 122 (Value.pointer (some { block := 0, off := 5 })), Value.int IntKind.u64 8, Value.pointer none, Value.pointer none, Value.bool false, Value.bool false, Value.bool false, Value.bool true, Value.bool false] 43)).alloc (Obj.cells #[Value.iface 122 (Value.pointer (some { block := 0, off := 5 })), Value.int IntKind.u64 8, Value.pointer none, Value.pointer none, Value.bool false, Value.bool false, Value.bool false, Value.bool true, Value.bool false] 43)).alloc (Obj.cells #[Value.iface 122 (Value.pointer (some { block := 0, off := 5 })), Value.int IntKind.u64 8, Value.pointer none, Value.pointer none, Value.bool false, Value.bool false, Value.bool false, Value.bool true, Value.bool false] 43)) = w' := by
  go_enter Tryz.func115, Tryz.ntmps115
  go_wp2_with (first | (go_at_call 140; ((with_reducible refine (nc_5 _ _).mono ?_); rintro e w' ⟨rfl, rfl⟩)))
  exact bodyPost_ret (v := (Value.agg #[Value.iface 122 (Value.pointer (some { block := 0, off := 5 })), Value.int IntKind.u64 8, Value.pointer none, Value.pointer none, Value.bool false, Value.bool false, Value.bool false, Value.bool true, Value.bool false])) (by simp [results, Tryz.results115, go_sem]) rfl ⟨rfl, rfl⟩

theorem no_27 (x : Value) (w : World)  : Calls Tryz.prog 115 #[.iface 27 x] w fun e w' => e = .returned (Value.agg #[Value.iface 122 (Value.pointer (some { block := 0, off := 27 })), Value.int IntKind.u64 14, Value.pointer none, Value.pointer none, Value.bool false, Value.bool false, Value.bool false, Value.bool false, Value.bool true]) ∧ (((w.alloc (Obj.cells #[Value.iface 122 (Value.pointer (some { block := 0, off := 27 })), Value.int IntKind.u64 14, Value.pointer none, Value.pointer none, Value.bool false, Value.bool false, Value.bool false, Value.bool false, Value.bool true] 43)).alloc (Obj.cells #[Value.iface 122 (Value.pointer (some { block := 0, off := 27 })), Value.int IntKind.u64 14, Value.pointer none, Value.pointer none, Value.bool false, Value.bool false, Value.bool false, Value.bool false, Value.bool true] 43)).alloc (Obj.cells #[Value.iface 122 (Value.pointer (some { block := 0, off := 27 })), Value.int IntKind.u64 14, Value.pointer none, Value.pointer none, Value.bool false, Value.bool false, Value.bool false, Value.bool false, Value.bool true] 43)) = w' := by
  go_enter Tryz.func115, Tryz.ntmps115
  go_wp2_with (first | (go_at_call 140; ((with_reducible refine (nc_27 _ _).mono ?_); rintro e w' ⟨rfl, rfl⟩)))
  exact bodyPost_ret (v := (Value.agg #[Value.iface 122 (Value.pointer (some { block := 0, off := 27 })), Value.int IntKind.u64 14, Value.pointer none, Value.pointer none, Value.bool false, Value.bool false, Value.bool false, Value.bool false, Value.bool true])) (by simp [results, Tryz.results115, go_sem]) rfl ⟨rfl, rfl⟩

theorem no_9 (x : Value) (w : World)  : Calls Tryz.prog 115 #[.iface 9 x] w fun e w' => e = .returned (Value.agg #[Value.iface 122 (Value.pointer (some { block := 0, off := 9 })), Value.int IntKind.u64 24, Value.pointer none, Value.pointer none, Value.bool false, Value.bool false, Value.bool false, Value.bool false, Value.bool false]) ∧ (((w.alloc (Obj.cells #[Value.iface 122 (Value.pointer (some { block := 0, off := 9 })), Value.int IntKind.u64 24, Value.pointer none, Value.pointer none, Value.bool false, Value.bool false, Value.bool false, Value.bool false, Value.bool false] 43)).alloc (Obj.cells #[Value.iface 122 (Value.pointer (some { block := 0, off := 9 })), Value.int IntKind.u64 24, Value.pointer none, Value.pointer none, Value.bool false, Value.bool false, Value.bool false, Value.bool false, Value.bool false] 43)).alloc (Obj.cells #[Value.iface 122 (Value.pointer (some { block := 0, off := 9 })), Value.int IntKind.u64 24, Value.pointer none, Value.pointer none, Value.bool false, Value.bool false, Value.bool false, Value.bool false, Value.bool false] 43)) = w' := by
  go_enter Tryz.func115, Tryz.ntmps115
  go_wp2_with (first | (go_at_call 140; ((with_reducible refine (nc_9 _ _).mono ?_); rintro e w' ⟨rfl, rfl⟩)))
  exact bodyPost_ret (v := (Value.agg #[Value.iface 122 (Value.pointer (some { block := 0, off := 9 })), Value.int IntKind.u64 24, Value.pointer none, Value.pointer none, Value.bool false, Value.bool false, Value.bool false, Value.bool false, Value.bool false])) (by simp [results, Tryz.results115, go_sem]) rfl ⟨rfl, rfl⟩

theorem no_4 (x : Value) (w : World)  : Calls Tryz.prog 115 #[.iface 4 x] w fun e w' => e = .returned (Value.agg #[Value.iface 122 (Value.pointer (some { block := 0, off := 4 })), Value.int IntKind.u64 1, Value.pointer none, Value.pointer none, Value.bool false, Value.bool false, Value.bool false, Value.bool false, Value.bool false]) ∧ (((w.alloc (Obj.cells #[Value.iface 122 (Value.pointer (some { block := 0, off := 4 })), Value.int IntKind.u64 1, Value.pointer none, Value.pointer none, Value.bool false, Value.bool false, Value.bool false, Value.bool false, Value.bool false] 43)).alloc (Obj.cells #[Value.iface 122 (Value.pointer (some { block := 0, off := 4 })), Value.int IntKind.u64 1, Value.pointer none, Value.pointer none, Value.bool false, Value.bool false, Value.bool false, Value.bool false, Value.bool false] 43)).alloc (Obj.cells #[Value.iface 122 (Value.pointer (some { block := 0, off := 4 })), Value.int IntKind.u64 1, Value.pointer none, Value.pointer none, Value.bool false, Value.bool false, Value.bool false, Value.bool false, Value.bool false] 43)) = w' := by
  go_enter Tryz.func115, Tryz.ntmps115
  go_wp2_with (first | (go_at_call 140; ((with_reducible refine (nc_4 _ _).mono ?_); rintro e w' ⟨rfl, rfl⟩)))
  exact bodyPost_ret (v := (Value.agg #[Value.iface 122 (Value.pointer (some { block := 0, off := 4 })), Value.int IntKind.u64 1, Value.pointer none, Value.pointer none, Value.bool false, Value.bool false, Value.bool false, Value.bool false, Value.bool false])) (by simp [results, Tryz.results115, go_sem]) rfl ⟨rfl, rfl⟩

theorem no_50 (x : Value) (w : World)  : Calls Tryz.prog 115 #[.iface 50 x] w fun e w' => e = .returned (Value.agg #[Value.iface 122 (Value.pointer (some { block := 0, off := 50 })), Value.int IntKind.u64 23, Value.pointer none, Value.pointer none, Value.bool false, Value.bool false, Value.bool false, Value.bool false, Value.bool false]) ∧ (((w.alloc (Obj.cells #[Value.iface 122 (Value.pointer (some { block := 0, off := 50 })), Value.int IntKind.u64 23, Value.pointer none, Value.pointer none, Value.bool false, Value.bool false, Value.bool false, Value.bool false, Value.bool false] 43)).alloc (Obj.cells #[Value.iface 122 (Value.pointer (some { block := 0, off := 50 })), Value.int IntKind.u64 23, Value.pointer none, Value.pointer none, Value.bool false, Value.bool false, Value.bool false, Value.bool false, Value.bool false] 43)).alloc (Obj.cells #[Value.iface 122 (Value.pointer (some { block := 0, off := 50 })), Value.int IntKind.u64 23, Value.pointer none, Value.pointer none, Value.bool false, Value.bool false, Value.bool false, Value.bool false, Value.bool false] 43)) = w' := by
  go_enter Tryz.func115, Tryz.ntmps115
  go_wp2_with (first | (go_at_call 140; ((with_reducible refine (nc_50 _ _).mono ?_); rintro e w' ⟨rfl, rfl⟩)))
  exact bodyPost_ret (v := (Value.agg #[Value.iface 122 (Value.pointer (some { block := 0, off := 50 })), Value.int IntKind.u64 23, Value.pointer none, Value.pointer none, Value.bool false, Value.bool false, Value.bool false, Value.bool false, Value.bool false])) (by simp [results, Tryz.results115, go_sem]) rfl ⟨rfl, rfl⟩

theorem no_51 (x : Value) (w : World)  : Calls Tryz.prog 115 #[.iface 51 x] w fun e w' => e = .returned (Value.agg #[Value.iface 122 (Value.pointer (some { block := 0, off := 51 })), Value.int IntKind.u64 22, Value.pointer none, Value.pointer none, Value.bool false, Value.bool false, Value.bool false, Value.bool false, Value.bool false]) ∧ (((w.alloc (Obj.cells #[Value.iface 122 (Value.pointer (some { block := 0, off := 51 })), Value.int IntKind.u64 22, Value.pointer none, Value.pointer none, Value.bool false, Value.bool false, Value.bool false, Value.bool false, Value.bool false] 43)).alloc (Obj.cells #[Value.iface 122 (Value.pointer (some { block := 0, off := 51 })), Value.int IntKind.u64 22, Value.pointer none, Value.pointer none, Value.bool false, Value.bool false, Value.bool false, Value.bool false, Value.bool false] 43)).alloc (Obj.cells #[Value.iface 122 (Value.pointer (some { block := 0, off := 51 })), Value.int IntKind.u64 22, Value.pointer none, Value.pointer none, Value.bool false, Value.bool false, Value.bool false, Value.bool false, Value.bool false] 43)) = w' := by
  go_enter Tryz.func115, Tryz.ntmps115
  go_wp2_with (first | (go_at_call 140; ((with_reducible refine (nc_51 _ _).mono ?_); rintro e w' ⟨rfl, rfl⟩)))
  exact bodyPost_ret (v := (Value.agg #[Value.iface 122 (Value.pointer (some { block := 0, off := 51 })), Value.int IntKind.u64 22, Value.pointer none, Value.pointer none, Value.bool false, Value.bool false, Value.bool false, Value.bool false, Value.bool false])) (by simp [results, Tryz.results115, go_sem]) rfl ⟨rfl, rfl⟩

theorem c_22 (x : Int) (w : World)  : Calls Tryz.prog 22 #[.int .i64 x] w fun e w' => e = .returned (Value.agg #[Value.iface 122 (Value.pointer (some { block := 0, off := 2 })), Value.int IntKind.u64 6, Value.pointer none, Value.pointer none, Value.bool false, Value.bool false, Value.bool false, Value.bool true, Value.bool false]) ∧ ((((w.alloc (Obj.cells #[Value.iface 122 (Value.pointer (some { block := 0, off := 2 })), Value.int IntKind.u64 6, Value.pointer none, Value.pointer none, Value.bool false, Value.bool false, Value.bool false, Value.bool true, Value.bool false] 43)).alloc (Obj.cells #[Value.iface 122 (Value.pointer (some { block := 0, off := 2 })), Value.int IntKind.u64 6, Value.pointer none, Value.pointer none, Value.bool false, Value.bool false, Value.bool false, Value.bool true, Value.bool false] 43)).alloc (Obj.cells #[Value.iface 122 (Value.pointer (some { block := 0, off := 2 })), Value.int IntKind.u64 6, Value.pointer none, Value.pointer none, Value.bool false, Value.bool false, Value.bool false, Value.bool true, Value.bool false] 43)).alloc (Obj.cells #[Value.iface 122 (Value.pointer (some { block := 0, off := 2 })), Value.int IntKind.u64 6, Value.pointer none, Value.pointer none, Value.bool false, Value.bool false, Value.bool false, Value.bool true, Value.bool false] 43)) = w' := by
  go_enter Tryz.func22, Tryz.ntmps22
  go_wp2_with (first | (go_at_call 115; ((with_reducible refine (no_2 _ _).mono ?_); rintro e w' ⟨rfl, rfl⟩)))
  exact bodyPost_ret (v := (Value.agg #[Value.iface 122 (Value.pointer (some { block := 0, off := 2 })), Value.int IntKind.u64 6, Value.pointer none, Value.pointer none, Value.bool false, Value.bool false, Value.bool false, Value.bool true, Value.bool false])) (by simp [results, Tryz.results22, go_sem]) rfl ⟨rfl, rfl⟩

theorem c_25 (x : Int) (w : World)  : Calls Tryz.prog 25 #[.int .u8 x] w fun e w' => e = .returned (Value.agg #[Value.iface 122 (Value.pointer (some { block := 0, off := 5 })), Value.int IntKind.u64 8, Value.pointer none, Value.pointer none, Value.bool false, Value.bool false, Value.bool false, Value.bool true, Value.bool false]) ∧ ((((w.alloc (Obj.cells #[Value.iface 122 (Value.pointer (some { block := 0, off := 5 })), Value.int IntKind.u64 8, Value.pointer none, Value.pointer none, Value.bool false, Value.bool false, Value.bool false, Value.bool true, Value.bool false] 43)).alloc (Obj.cells #[Value.iface 122 (Value.pointer (some { block := 0, off := 5 })), Value.int IntKind.u64 8, Value.pointer none, Value.pointer none, Value.bool false, Value.bool false, Value.bool false, Value.bool true, Value.bool false] 43)).alloc (Obj.cells #[Value.iface 122 (Value.pointer (some { block := 0, off := 5 })), Value.int IntKind.u64 8, Value.pointer none, Value.pointer none, Value.bool false, Value.bool false, Value.bool false, Value.bool true, Value.bool false] 43)).alloc (Obj.cells #[Value.iface 122 (Value.pointer (some { block := 0, off := 5 })), Value.int IntKind.u64 8, Value.pointer none, Value.pointer none, Value.bool false, Value.bool false, Value.bool false, Value.bool true, Value.bool false] 43)) = w' := by
  go_enter Tryz.func25, Tryz.ntmps25
  go_wp2_with (first | (go_at_call 115; ((with_reducible refine (no_5 _ _).mono ?_); rintro e w' ⟨rfl, rfl⟩)))
  exact bodyPost_ret (v := (Value.agg #[Value.iface 122 (Value.pointer (some { block := 0, off := 5 })), Value.int IntKind.u64 8, Value.pointer none, Value.pointer none, Value.bool false, Value.bool false, Value.bool false, Value.bool true, Value.bool false])) (by simp [results, Tryz.results25, go_sem]) rfl ⟨rfl, rfl⟩

theorem c_27 (x : Nat) (w : World)  : Calls Tryz.prog 27 #[.float .f64 x] w fun e w' => e = .returned (Value.agg #[Value.iface 122 (Value.pointer (some { block := 0, off := 27 })), Value.int IntKind.u64 14, Value.pointer none, Value.pointer none, Value.bool false, Value.bool false, Value.bool false, Value.bool false, Value.bool true]) ∧ ((((w.alloc (Obj.cells #[Value.iface 122 (Value.pointer (some { block := 0, off := 27 })), Value.int IntKind.u64 14, Value.pointer none, Value.pointer none, Value.bool false, Value.bool false, Value.bool false, Value.bool false, Value.bool true] 43)).alloc (Obj.cells #[Value.iface 122 (Value.pointer (some { block := 0, off := 27 })), Value.int IntKind.u64 14, Value.pointer none, Value.pointer none, Value.bool false, Value.bool false, Value.bool false, Value.bool false, Value.bool true] 43)).alloc (Obj.cells #[Value.iface 122 (Value.pointer (some { block := 0, off := 27 })), Value.int IntKind.u64 14, Value.pointer none, Value.pointer none, Value.bool false, Value.bool false, Value.bool false, Value.bool false, Value.bool true] 43)).alloc (Obj.cells #[Value.iface 122 (Value.pointer (some { block := 0, off := 27 })), Value.int IntKind.u64 14, Value.pointer none, Value.pointer none, Value.bool false, Value.bool false, Value.bool false, Value.bool false, Value.bool true] 43)) = w' := by
  go_enter Tryz.func27, Tryz.ntmps27
  go_wp2_with (first | (go_at_call 115; ((with_reducible refine (no_27 _ _).mono ?_); rintro e w' ⟨rfl, rfl⟩)))
  exact bodyPost_ret (v := (Value.agg #[Value.iface 122 (Value.pointer (some { block := 0, off := 27 })), Value.int IntKind.u64 14, Value.pointer none, Value.pointer none, Value.bool false, Value.bool false, Value.bool false, Value.bool false, Value.bool true])) (by simp [results, Tryz.results27, go_sem]) rfl ⟨rfl, rfl⟩

theorem c_29 (x : ByteArray) (w : World)  : Calls Tryz.prog 29 #[.string x] w fun e w' => e = .returned (Value.agg #[Value.iface 122 (Value.pointer (some { block := 0, off := 9 })), Value.int IntKind.u64 24, Value.pointer none, Value.pointer none, Value.bool false, Value.bool false, Value.bool false, Value.bool false, Value.bool false]) ∧ ((((w.alloc (Obj.cells #[Value.iface 122 (Value.pointer (some { block := 0, off := 9 })), Value.int IntKind.u64 24, Value.pointer none, Value.pointer none, Value.bool false, Value.bool false, Value.bool false, Value.bool false, Value.bool false] 43)).alloc (Obj.cells #[Value.iface 122 (Value.pointer (some { block := 0, off := 9 })), Value.int IntKind.u64 24, Value.pointer none, Value.pointer none, Value.bool false, Value.bool false, Value.bool false, Value.bool false, Value.bool false] 43)).alloc (Obj.cells #[Value.iface 122 (Value.pointer (some { block := 0, off := 9 })), Value.int IntKind.u64 24, Value.pointer none, Value.pointer none, Value.bool false, Value.bool false, Value.bool false, Value.bool false, Value.bool false] 43)).alloc (Obj.cells #[Value.iface 122 (Value.pointer (some { block := 0, off := 9 })), Value.int IntKind.u64 24, Value.pointer none, Value.pointer none, Value.bool false, Value.bool false, Value.bool false, Value.bool false, Value.bool false] 43)) = w' := by
  go_enter Tryz.func29, Tryz.ntmps29
  go_wp2_with (first | (go_at_call 115; ((with_reducible refine (no_9 _ _).mono ?_); rintro e w' ⟨rfl, rfl⟩)))
  exact bodyPost_ret (v := (Value.agg #[Value.iface 122 (Value.pointer (some { block := 0, off := 9 })), Value.int IntKind.u64 24, Value.pointer none, Value.pointer none, Value.bool false, Value.bool false, Value.bool false, Value.bool false, Value.bool false])) (by simp [results, Tryz.results29, go_sem]) rfl ⟨rfl, rfl⟩

theorem c_31 (x : Bool) (w : World)  : Calls Tryz.prog 31 #[.bool x] w fun e w' => e = .returned (Value.agg #[Value.iface 122 (Value.pointer (some { block := 0, off := 4 })), Value.int IntKind.u64 1, Value.pointer none, Value.pointer none, Value.bool false, Value.bool false, Value.bool false, Value.bool false, Value.bool false]) ∧ ((((w.alloc (Obj.cells #[Value.iface 122 (Value.pointer (some { block := 0, off := 4 })), Value.int IntKind.u64 1, Value.pointer none, Value.pointer none, Value.bool false, Value.bool false, Value.bool false, Value.bool false, Value.bool false] 43)).alloc (Obj.cells #[Value.iface 122 (Value.pointer (some { block := 0, off := 4 })), Value.int IntKind.u64 1, Value.pointer none, Value.pointer none, Value.bool false, Value.bool false, Value.bool false, Value.bool false, Value.bool false] 43)).alloc (Obj.cells #[Value.iface 122 (Value.pointer (some { block := 0, off := 4 })), Value.int IntKind.u64 1, Value.pointer none, Value.pointer none, Value.bool false, Value.bool false, Value.bool false, Value.bool false, Value.bool false] 43)).alloc (Obj.cells #[Value.iface 122 (Value.pointer (some { block := 0, off := 4 })), Value.int IntKind.u64 1, Value.pointer none, Value.pointer none, Value.bool false, Value.bool false, Value.bool false, Value.bool false, Value.bool false] 43)) = w' := by
  go_enter Tryz.func31, Tryz.ntmps31
  go_wp2_with (first | (go_at_call 115; ((with_reducible refine (no_4 _ _).mono ?_); rintro e w' ⟨rfl, rfl⟩)))
  exact bodyPost_ret (v := (Value.agg #[Value.iface 122 (Value.pointer (some { block := 0, off := 4 })), Value.int IntKind.u64 1, Value.pointer none, Value.pointer none, Value.bool false, Value.bool false, Value.bool false, Value.bool false, Value.bool false])) (by simp [results, Tryz.results31, go_sem]) rfl ⟨rfl, rfl⟩

theorem c_33 (x : Option Addr) (n c : Nat) (w : World)  : Calls Tryz.prog 33 #[.slice x n c] w fun e w' => e = .returned (Value.agg #[Value.iface 122 (Value.pointer (some { block := 0, off := 50 })), Value.int IntKind.u64 23, Value.pointer none, Value.pointer none, Value.bool false, Value.bool false, Value.bool false, Value.bool false, Value.bool false]) ∧ ((((w.alloc (Obj.cells #[Value.iface 122 (Value.pointer (some { block := 0, off := 50 })), Value.int IntKind.u64 23, Value.pointer none, Value.pointer none, Value.bool false, Value.bool false, Value.bool false, Value.bool false, Value.bool false] 43)).alloc (Obj.cells #[Value.iface 122 (Value.pointer (some { block := 0, off := 50 })), Value.int IntKind.u64 23, Value.pointer none, Value.pointer none, Value.bool false, Value.bool false, Value.bool false, Value.bool false, Value.bool false] 43)).alloc (Obj.cells #[Value.iface 122 (Value.pointer (some { block := 0, off := 50 })), Value.int IntKind.u64 23, Value.pointer none, Value.pointer none, Value.bool false, Value.bool false, Value.bool false, Value.bool false, Value.bool false] 43)).alloc (Obj.cells #[Value.iface 122 (Value.pointer (some { block := 0, off := 50 })), Value.int IntKind.u64 23, Value.pointer none, Value.pointer none, Value.bool false, Value.bool false, Value.bool false, Value.bool false, Value.bool false] 43)) = w' := by
  go_enter Tryz.func33, Tryz.ntmps33
  go_wp2_with (first | (go_at_call 115; ((with_reducible refine (no_50 _ _).mono ?_); rintro e w' ⟨rfl, rfl⟩)))
  exact bodyPost_ret (v := (Value.agg #[Value.iface 122 (Value.pointer (some { block := 0, off := 50 })), Value.int IntKind.u64 23, Value.pointer none, Value.pointer none, Value.bool false, Value.bool false, Value.bool false, Value.bool false, Value.bool false])) (by simp [results, Tryz.results33, go_sem]) rfl ⟨rfl, rfl⟩

theorem c_37 (x : Option Addr) (w : World)  : Calls Tryz.prog 37 #[.pointer x] w fun e w' => e = .returned (Value.agg #[Value.iface 122 (Value.pointer (some { block := 0, off := 51 })), Value.int IntKind.u64 22, Value.pointer none, Value.pointer none, Value.bool false, Value.bool false, Value.bool false, Value.bool false, Value.bool false]) ∧ ((((w.alloc (Obj.cells #[Value.iface 122 (Value.pointer (some { block := 0, off := 51 })), Value.int IntKind.u64 22, Value.pointer none, Value.pointer none, Value.bool false, Value.bool false, Value.bool false, Value.bool false, Value.bool false] 43)).alloc (Obj.cells #[Value.iface 122 (Value.pointer (some { block := 0, off := 51 })), Value.int IntKind.u64 22, Value.pointer none, Value.pointer none, Value.bool false, Value.bool false, Value.bool false, Value.bool false, Value.bool false] 43)).alloc (Obj.cells #[Value.iface 122 (Value.pointer (some { block := 0, off := 51 })), Value.int IntKind.u64 22, Value.pointer none, Value.pointer none, Value.bool false, Value.bool false, Value.bool false, Value.bool false, Value.bool false] 43)).alloc (Obj.cells #[Value.iface 122 (Value.pointer (some { block := 0, off := 51 })), Value.int IntKind.u64 22, Value.pointer none, Value.pointer none, Value.bool false, Value.bool false, Value.bool false, Value.bool false, Value.bool false] 43)) = w' := by
  go_enter Tryz.func37, Tryz.ntmps37
  go_wp2_with (first | (go_at_call 115; ((with_reducible refine (no_51 _ _).mono ?_); rintro e w' ⟨rfl, rfl⟩)))
  exact bodyPost_ret (v := (Value.agg #[Value.iface 122 (Value.pointer (some { block := 0, off := 51 })), Value.int IntKind.u64 22, Value.pointer none, Value.pointer none, Value.bool false, Value.bool false, Value.bool false, Value.bool false, Value.bool false])) (by simp [results, Tryz.results37, go_sem]) rfl ⟨rfl, rfl⟩

theorem nc_nil  (w : World)  : Calls Tryz.prog 140 #[.pointer none, .nilIface] w fun e w' => e = .returned (Value.agg #[Value.nilIface, Value.int IntKind.u64 0, Value.pointer none, Value.pointer none, Value.bool true, Value.bool false, Value.bool false, Value.bool false, Value.bool false]) ∧ (w.alloc (Obj.cells #[Value.nilIface, Value.int IntKind.u64 0, Value.pointer none, Value.pointer none, Value.bool true, Value.bool false, Value.bool false, Value.bool false, Value.bool false] 43)) = w' := by
  go_enter Tryz.func140, Tryz.ntmps140
  go_wp2
  exact bodyPost_ret (v := (Value.agg #[Value.nilIface, Value.int IntKind.u64 0, Value.pointer none, Value.pointer none, Value.bool true, Value.bool false, Value.bool false, Value.bool false, Value.bool false])) (by simp [results, Tryz.results140, go_sem]) rfl ⟨rfl, rfl⟩

theorem no_nil  (w : World)  : Calls Tryz.prog 115 #[.nilIface] w fun e w' => e = .returned (Value.agg #[Value.nilIface, Value.int IntKind.u64 0, Value.pointer none, Value.pointer none, Value.bool true, Value.bool false, Value.bool false, Value.bool false, Value.bool false]) ∧ ((w.alloc (Obj.cells #[Value.nilIface, Value.int IntKind.u64 0, Value.pointer none, Value.pointer none, Value.bool true, Value.bool false, Value.bool false, Value.bool false, Value.bool false] 43)).alloc (Obj.cells #[Value.nilIface, Value.int IntKind.u64 0, Value.pointer none, Value.pointer none, Value.bool true, Value.bool false, Value.bool false, Value.bool false, Value.bool false] 43)) = w' := by
  go_enter Tryz.func115, Tryz.ntmps115
  go_wp2_with (first | (go_at_call 140; ((with_reducible refine (nc_nil _).mono ?_); rintro e w' ⟨rfl, rfl⟩)))
  exact bodyPost_ret (v := (Value.agg #[Value.nilIface, Value.int IntKind.u64 0, Value.pointer none, Value.pointer none, Value.bool true, Value.bool false, Value.bool false, Value.bool false, Value.bool false])) (by simp [results, Tryz.results115, go_sem]) rfl ⟨rfl, rfl⟩

theorem c_39  (w : World)  : Calls Tryz.prog 39 #[] w fun e w' => e = .returned (Value.agg #[Value.nilIface, Value.int IntKind.u64 0, Value.pointer none, Value.pointer none, Value.bool true, Value.bool false, Value.bool false, Value.bool false, Value.bool false]) ∧ (((w.alloc (Obj.cells #[Value.nilIface, Value.int IntKind.u64 0, Value.pointer none, Value.pointer none, Value.bool true, Value.bool false, Value.bool false, Value.bool false, Value.bool false] 43)).alloc (Obj.cells #[Value.nilIface, Value.int IntKind.u64 0, Value.pointer none, Value.pointer none, Value.bool true, Value.bool false, Value.bool false, Value.bool false, Value.bool false] 43)).alloc (Obj.cells #[Value.nilIface, Value.int IntKind.u64 0, Value.pointer none, Value.pointer none, Value.bool true, Value.bool false, Value.bool false, Value.bool false, Value.bool false] 43)) = w' := by
  go_enter Tryz.func39, Tryz.ntmps39
  go_wp2_with (first | (go_at_call 115; ((with_reducible refine (no_nil _).mono ?_); rintro e w' ⟨rfl, rfl⟩)))
  exact bodyPost_ret (v := (Value.agg #[Value.nilIface, Value.int IntKind.u64 0, Value.pointer none, Value.pointer none, Value.bool true, Value.bool false, Value.bool false, Value.bool false, Value.bool false])) (by simp [results, Tryz.results39, go_sem]) rfl ⟨rfl, rfl⟩

/-- block n of w is a row of cells of which nothing is frozen -/
def Plain (w : World) (n : Nat) : Prop := ∃ c t, w.heap[n]? = some (.cells c t (0, 0))
theorem Plain.lt {w : World} {n : Nat} (h : Plain w n) : n < w.heap.size := by
  obtain ⟨c, t, h⟩ := h
  exact (Array.getElem?_eq_some_iff.1 h).1
@[go_sem] theorem plain_at (w : World) (c : Array Value) (t : TypeId) (n : Nat) (hn : n = w.heap.size) : Plain (w.alloc (.cells c t)) n = True := by
  subst hn
  exact eq_true ⟨c, t, (show (w.heap.push (.cells c t))[w.heap.size]? = some (.cells c t) by simp)⟩
@[go_sem] theorem plain_past (w : World) (o : Obj) (n : Nat) (hn : n < w.heap.size) : Plain (w.alloc o) n = Plain w n := by
  unfold Plain
  rw [Below.heap_alloc w o n hn]
@[go_sem] theorem plain_drew (w : World) (n : Nat) : Plain w.drew n = Plain w n := rfl
@[go_sem] theorem plain_drewN (w : World) (m n : Nat) : Plain (w.drewN m) n = Plain w n := rfl
@[go_sem] theorem plain_set (w : World) (a : Addr) (v : Value) (n : Nat) : Plain (w.setCell a v) n = Plain w n := by
  unfold Plain
  by_cases h : n = a.block
  · subst h
    simp only [World.setCell, Array.getElem?_modify]
    apply propext
    constructor
    · rintro ⟨c, t, h⟩
      cases ho : w.heap[a.block]? with
      | none => simp [ho] at h
      | some o =>
        simp [ho] at h
        cases o <;> simp at h
        obtain ⟨_, rfl, rfl⟩ := h
        exact ⟨_, _, rfl⟩
    · rintro ⟨c, t, h⟩
      rw [h]
      simp only [if_true, Option.map_some]
      exact ⟨_, t, rfl⟩
  · rw [Below.heap_setCell w a v n h]
/-- the cells of block n of w, where nothing of it is frozen -/
def cellsAt (w : World) (n : Nat) : Array Value := match w.heap[n]? with | some (.cells c _ (0, 0)) => c | _ => #[]
theorem cellsAt_of {w : World} {n : Nat} {c : Array Value} {t : TypeId} (h : w.heap[n]? = some (.cells c t (0, 0))) : cellsAt w n = c := by simp [cellsAt, h]
theorem cellsAt_heap {w u : World} {n : Nat} (h : u.heap[n]? = w.heap[n]?) : cellsAt u n = cellsAt w n := by
  unfold cellsAt
  rw [h]
theorem plain_heap {w u : World} {n : Nat} (h : u.heap[n]? = w.heap[n]?) (p : Plain w n) : Plain u n := by
  obtain ⟨c, t, hp⟩ := p
  exact ⟨c, t, h.trans hp⟩
theorem Plain.row {w : World} {n : Nat} (h : Plain w n) : ∃ t, w.heap[n]? = some (.cells (cellsAt w n) t (0, 0)) := by
  obtain ⟨c, t, h⟩ := h
  exact ⟨t, by rw [cellsAt_of h]; exact h⟩
@[go_sem] theorem cellsAt_at (w : World) (c : Array Value) (t : TypeId) (n : Nat) (hn : n = w.heap.size) : cellsAt (w.alloc (.cells c t)) n = c := by
  subst hn
  exact cellsAt_of (show (w.heap.push (.cells c t))[w.heap.size]? = some (.cells c t) by simp)
@[go_sem] theorem cellsAt_past (w : World) (o : Obj) (n : Nat) (hn : n < w.heap.size) : cellsAt (w.alloc o) n = cellsAt w n := cellsAt_heap (Below.heap_alloc w o n hn)
@[go_sem] theorem cellsAt_drew (w : World) (n : Nat) : cellsAt w.drew n = cellsAt w n := rfl
@[go_sem] theorem cellsAt_drewN (w : World) (m n : Nat) : cellsAt (w.drewN m) n = cellsAt w n := rfl
@[go_sem] theorem cellsAt_row (w : World) (n : Nat) (c : Array Value) (hp : Plain w n) : cellsAt (w.setRow n c) n = c := by
  obtain ⟨t, h⟩ := hp.row
  exact cellsAt_of (setRow_heap w n _ c t _ h)
@[go_sem] theorem cellsAt_row_other (w : World) (n m : Nat) (c : Array Value) (hne : n ≠ m) : cellsAt (w.setRow m c) n = cellsAt w n := cellsAt_heap (setRow_other w m n c hne)
@[go_sem] theorem plain_row (w : World) (n m : Nat) (c : Array Value) (hp : Plain w n) : Plain (w.setRow m c) n := by
  by_cases h : n = m
  · subst h
    obtain ⟨t, h⟩ := hp.row
    exact ⟨_, t, setRow_heap w n _ c t _ h⟩
  · exact plain_heap (setRow_other w m n c h) hp
@[go_sem] theorem cell_plain (w : World) (n i : Nat) (hp : Plain w n) : w.cell? ⟨n, i, none⟩ = (cellsAt w n)[i]? := by
  obtain ⟨t, h⟩ := hp.row
  exact cell_of_row w n i _ t _ h
@[go_sem] theorem frozen_plain (w : World) (n i : Nat) (hp : Plain w n) : w.frozen? ⟨n, i, none⟩ = false := by
  obtain ⟨t, h⟩ := hp.row
  simp [World.frozen?, h]
@[go_sem] theorem cellsAt_setCell (w : World) (n i : Nat) (v : Value) (hp : Plain w n) : cellsAt (w.setCell ⟨n, i, none⟩ v) n = (cellsAt w n).setIfInBounds i v := by
  obtain ⟨t, h⟩ := hp.row
  rw [setCell_eq_setRow w n i _ t _ v h]
  exact cellsAt_of (setRow_heap w n _ _ t _ h)
@[go_sem] theorem cellsAt_setCell_other (w : World) (n m i : Nat) (v : Value) (hne : n ≠ m) : cellsAt (w.setCell ⟨m, i, none⟩ v) n = cellsAt w n := cellsAt_heap (Below.heap_setCell w ⟨m, i, none⟩ v n hne)
attribute [go_sem] setRow_size
theorem nsz_43 : (Tryz.prog.info? 43).map (·.size) = some 9 := by kernel_rfl
theorem ldv_43 (w : World) (n : Nat) (hp : Plain w n) (hs : (cellsAt w n).size = 9) : (loadVar 43 ⟨n, 0, none⟩).run Tryz.prog w = .ok (.agg (cellsAt w n)) w := by
  obtain ⟨t, h⟩ := hp.row
  exact run_loadVar_row w n t 43 _ _ _ h Tryz.underlying43 rfl (by rw [hs]; exact nsz_43)
@[go_sem ↓] theorem lda_43 (w : World) (n : Nat) (hp : Plain w n) (hs : (cellsAt w n).size = 9) : (Instr.loadAt 43 (.pointer (some ⟨n, 0, none⟩))).run Tryz.prog w = .ok (.agg (cellsAt w n)) w := by
  simp only [Instr.loadAt, Instr.sureAddr, Sem.run_bind, Sem.run_pure, Result.andThen_ok, ldv_43 w n hp hs]
theorem sta_43 (w : World) (n : Nat) (c : Array Value) (hp : Plain w n) (hs : (cellsAt w n).size = 9) (hc : c.size = 9) (h1 : c.all (·.oneCell') = true) : (Instr.storeAt 43 (.pointer (some ⟨n, 0, none⟩)) (.agg c)).run Tryz.prog w = .ok () (w.setRow n c) := by
  obtain ⟨t, h⟩ := hp.row
  simp only [Instr.storeAt, Instr.sureAddr, Sem.run_bind, Sem.run_pure, Result.andThen_ok, run_storeVar_row w n t 43 _ c h (by rw [hc]; exact nsz_43) (by rw [hs, hc]) h1]
@[go_sem ↓] theorem sta_43n (w : World) (n : Nat) (k : IntKind) (a : Int) (td rf : Option Addr) (b1 b2 b3 b4 b5 : Bool) (hp : Plain w n) (hs : (cellsAt w n).size = 9) :
    (Instr.storeAt 43 (.pointer (some ⟨n, 0, none⟩)) (.agg #[.nilIface, .int k a, .pointer td, .pointer rf, .bool b1, .bool b2, .bool b3, .bool b4, .bool b5])).run Tryz.prog w = .ok () (w.setRow n #[.nilIface, .int k a, .pointer td, .pointer rf, .bool b1, .bool b2, .bool b3, .bool b4, .bool b5]) :=
  sta_43 w n _ hp hs rfl (Array.all_eq_true_iff_forall_mem.2 (fun v hv => by simp at hv; rcases hv with rfl | rfl | rfl | rfl | rfl | rfl | rfl | rfl | rfl <;> rfl))
@[go_sem ↓] theorem sta_43i (w : World) (n : Nat) (u : TypeId) (x : Value) (k : IntKind) (a : Int) (td rf : Option Addr) (b1 b2 b3 b4 b5 : Bool) (hp : Plain w n) (hs : (cellsAt w n).size = 9) :
    (Instr.storeAt 43 (.pointer (some ⟨n, 0, none⟩)) (.agg #[.iface u x, .int k a, .pointer td, .pointer rf, .bool b1, .bool b2, .bool b3, .bool b4, .bool b5])).run Tryz.prog w = .ok () (w.setRow n #[.iface u x, .int k a, .pointer td, .pointer rf, .bool b1, .bool b2, .bool b3, .bool b4, .bool b5]) :=
  sta_43 w n _ hp hs rfl (Array.all_eq_true_iff_forall_mem.2 (fun v hv => by simp at hv; rcases hv with rfl | rfl | rfl | rfl | rfl | rfl | rfl | rfl | rfl <;> rfl))
theorem keepP {u v : World} {n : Nat} (hb : Below u.heap.size u v) (hp : Plain u n) : Plain v n ∧ cellsAt v n = cellsAt u n := ⟨plain_heap (hb.block n hp.lt) hp, cellsAt_heap (hb.block n hp.lt)⟩
theorem nk {u v : World} {c : Array Value} {t : TypeId} (hb : Below (u.alloc (.cells c t)).heap.size (u.alloc (.cells c t)) v) : Plain v u.heap.size ∧ cellsAt v u.heap.size = c ∧ u.heap.size < v.heap.size := by
  have h := keepP hb ((plain_at u c t _ rfl).mpr trivial)
  exact ⟨h.1, h.2.trans (cellsAt_at u c t _ rfl), h.1.lt⟩
theorem bnext {a u v : World} (h : Below a.heap.size a u) (k : Below u.heap.size u v) : Below a.heap.size a v :=
  Below.trans h (k.mono h.size)
theorem blk_new (w : World) (o : Obj) : (w.alloc o).heap[w.heap.size]? = some o := (show (w.heap.push o)[w.heap.size]? = some o by simp)
theorem cp_ok {w : World} {a : Addr} {n c : Nat} {zs : List Int} (hz : zs.length = c) (hcell : ∀ i, i < zs.length → w.cell? (a.add i) = some (.int .i64 (zs.getD i 0))) (o : Obj) (j : Nat) (v : Value)
    (hj : ((zs.take n).map (Value.int .i64))[j]? = some v) : (w.alloc o).cell? (a.add j) = some v := by
  simp only [List.getElem?_map, Option.map_eq_some_iff] at hj
  obtain ⟨x, hx, rfl⟩ := hj
  have hx2 : zs[j]? = some x := by
    rw [List.getElem?_take] at hx
    split at hx
    · exact hx
    · cases hx
  have hlt : j < zs.length := (List.getElem?_eq_some_iff.1 hx2).1
  have hc := hcell j hlt
  have hd : zs.getD j 0 = x := by simp [hx2]
  rw [hd] at hc
  have hb : (a.add j).block < w.heap.size := by
    rcases Nat.lt_or_ge (a.add j).block w.heap.size with h | h
    · exact h
    · rw [World.cell?, Array.getElem?_eq_none_iff.2 h] at hc
      cases hc
  rw [World.cell?_of_block (w := w) (Below.heap_alloc w o _ hb)]
  exact hc
theorem cell_lt {w : World} {p : Addr} {v : Value} (hc : w.cell? p = some v) : p.block < w.heap.size := by
  rcases Nat.lt_or_ge p.block w.heap.size with h | h
  · exact h
  · rw [World.cell?, Array.getElem?_eq_none_iff.2 h] at hc
    cases hc
theorem cp_one {n : Nat} {zs : List Int} : ∀ v ∈ (zs.take n).map (Value.int .i64), v.oneCell' = true := by
  intro v hv
  simp only [List.mem_map] at hv
  obtain ⟨x, _, rfl⟩ := hv
  rfl

theorem zb (a0 a1 : Int) (a2 : Nat) (a3 : ByteArray) (a4 : Bool) (o : Option Addr) (n c : Nat) (q : Option Addr) (w : World) : Calls Tryz.prog 102 #[.int .i64 a0, .int .u8 a1, .float .f64 a2, .string a3, .bool a4, .slice o n c, .pointer q] w fun e w' => ∃ b, e = .returned (.bool b) ∧ w = w' := by
  go_enter Tryz.func102, Tryz.ntmps102
  go_wp2
  all_goals
    go_ret
    exact ⟨_, rfl, rfl⟩

theorem st_Int64  (w : World)  : Calls Tryz.prog 139 #[.agg #[.iface 122 (.pointer (some ⟨0, 2, none⟩)), .int .u64 6, .pointer none, .pointer none, .bool false, .bool false, .bool false, .bool true, .bool false], .agg #[.iface 122 (.pointer (some ⟨0, 2, none⟩)), .int .u64 6, .pointer none, .pointer none, .bool false, .bool false, .bool false, .bool true, .bool false]] w fun e w' => e = .returned (Value.bool true) ∧ ((w.alloc (Obj.cells #[Value.iface 122 (Value.pointer (some { block := 0, off := 2 })), Value.int IntKind.u64 6, Value.pointer none, Value.pointer none, Value.bool false, Value.bool false, Value.bool false, Value.bool true, Value.bool false] 43)).alloc (Obj.cells #[Value.iface 122 (Value.pointer (some { block := 0, off := 2 })), Value.int IntKind.u64 6, Value.pointer none, Value.pointer none, Value.bool false, Value.bool false, Value.bool false, Value.bool true, Value.bool false] 43)) = w' := by
  go_enter Tryz.func139, Tryz.ntmps139
  go_wp2
  exact bodyPost_ret (v := (Value.bool true)) (by simp [results, Tryz.results139, go_sem]) rfl ⟨rfl, rfl⟩

theorem st_Uint8  (w : World)  : Calls Tryz.prog 139 #[.agg #[.iface 122 (.pointer (some ⟨0, 5, none⟩)), .int .u64 8, .pointer none, .pointer none, .bool false, .bool false, .bool false, .bool true, .bool false], .agg #[.iface 122 (.pointer (some ⟨0, 5, none⟩)), .int .u64 8, .pointer none, .pointer none, .bool false, .bool false, .bool false, .bool true, .bool false]] w fun e w' => e = .returned (Value.bool true) ∧ ((w.alloc (Obj.cells #[Value.iface 122 (Value.pointer (some { block := 0, off := 5 })), Value.int IntKind.u64 8, Value.pointer none, Value.pointer none, Value.bool false, Value.bool false, Value.bool false, Value.bool true, Value.bool false] 43)).alloc (Obj.cells #[Value.iface 122 (Value.pointer (some { block := 0, off := 5 })), Value.int IntKind.u64 8, Value.pointer none, Value.pointer none, Value.bool false, Value.bool false, Value.bool false, Value.bool true, Value.bool false] 43)) = w' := by
  go_enter Tryz.func139, Tryz.ntmps139
  go_wp2
  exact bodyPost_ret (v := (Value.bool true)) (by simp [results, Tryz.results139, go_sem]) rfl ⟨rfl, rfl⟩

theorem st_Float64  (w : World)  : Calls Tryz.prog 139 #[.agg #[.iface 122 (.pointer (some ⟨0, 27, none⟩)), .int .u64 14, .pointer none, .pointer none, .bool false, .bool false, .bool false, .bool false, .bool true], .agg #[.iface 122 (.pointer (some ⟨0, 27, none⟩)), .int .u64 14, .pointer none, .pointer none, .bool false, .bool false, .bool false, .bool false, .bool true]] w fun e w' => e = .returned (Value.bool true) ∧ ((w.alloc (Obj.cells #[Value.iface 122 (Value.pointer (some { block := 0, off := 27 })), Value.int IntKind.u64 14, Value.pointer none, Value.pointer none, Value.bool false, Value.bool false, Value.bool false, Value.bool false, Value.bool true] 43)).alloc (Obj.cells #[Value.iface 122 (Value.pointer (some { block := 0, off := 27 })), Value.int IntKind.u64 14, Value.pointer none, Value.pointer none, Value.bool false, Value.bool false, Value.bool false, Value.bool false, Value.bool true] 43)) = w' := by
  go_enter Tryz.func139, Tryz.ntmps139
  go_wp2
  exact bodyPost_ret (v := (Value.bool true)) (by simp [results, Tryz.results139, go_sem]) rfl ⟨rfl, rfl⟩

theorem st_String  (w : World)  : Calls Tryz.prog 139 #[.agg #[.iface 122 (.pointer (some ⟨0, 9, none⟩)), .int .u64 24, .pointer none, .pointer none, .bool false, .bool false, .bool false, .bool false, .bool false], .agg #[.iface 122 (.pointer (some ⟨0, 9, none⟩)), .int .u64 24, .pointer none, .pointer none, .bool false, .bool false, .bool false, .bool false, .bool false]] w fun e w' => e = .returned (Value.bool true) ∧ ((w.alloc (Obj.cells #[Value.iface 122 (Value.pointer (some { block := 0, off := 9 })), Value.int IntKind.u64 24, Value.pointer none, Value.pointer none, Value.bool false, Value.bool false, Value.bool false, Value.bool false, Value.bool false] 43)).alloc (Obj.cells #[Value.iface 122 (Value.pointer (some { block := 0, off := 9 })), Value.int IntKind.u64 24, Value.pointer none, Value.pointer none, Value.bool false, Value.bool false, Value.bool false, Value.bool false, Value.bool false] 43)) = w' := by
  go_enter Tryz.func139, Tryz.ntmps139
  go_wp2
  exact bodyPost_ret (v := (Value.bool true)) (by simp [results, Tryz.results139, go_sem]) rfl ⟨rfl, rfl⟩

theorem st_Bool  (w : World)  : Calls Tryz.prog 139 #[.agg #[.iface 122 (.pointer (some ⟨0, 4, none⟩)), .int .u64 1, .pointer none, .pointer none, .bool false, .bool false, .bool false, .bool false, .bool false], .agg #[.iface 122 (.pointer (some ⟨0, 4, none⟩)), .int .u64 1, .pointer none, .pointer none, .bool false, .bool false, .bool false, .bool false, .bool false]] w fun e w' => e = .returned (Value.bool true) ∧ ((w.alloc (Obj.cells #[Value.iface 122 (Value.pointer (some { block := 0, off := 4 })), Value.int IntKind.u64 1, Value.pointer none, Value.pointer none, Value.bool false, Value.bool false, Value.bool false, Value.bool false, Value.bool false] 43)).alloc (Obj.cells #[Value.iface 122 (Value.pointer (some { block := 0, off := 4 })), Value.int IntKind.u64 1, Value.pointer none, Value.pointer none, Value.bool false, Value.bool false, Value.bool false, Value.bool false, Value.bool false] 43)) = w' := by
  go_enter Tryz.func139, Tryz.ntmps139
  go_wp2
  exact bodyPost_ret (v := (Value.bool true)) (by simp [results, Tryz.results139, go_sem]) rfl ⟨rfl, rfl⟩

theorem st_SliceInt  (w : World)  : Calls Tryz.prog 139 #[.agg #[.iface 122 (.pointer (some ⟨0, 50, none⟩)), .int .u64 23, .pointer none, .pointer none, .bool false, .bool false, .bool false, .bool false, .bool false], .agg #[.iface 122 (.pointer (some ⟨0, 50, none⟩)), .int .u64 23, .pointer none, .pointer none, .bool false, .bool false, .bool false, .bool false, .bool false]] w fun e w' => e = .returned (Value.bool true) ∧ ((w.alloc (Obj.cells #[Value.iface 122 (Value.pointer (some { block := 0, off := 50 })), Value.int IntKind.u64 23, Value.pointer none, Value.pointer none, Value.bool false, Value.bool false, Value.bool false, Value.bool false, Value.bool false] 43)).alloc (Obj.cells #[Value.iface 122 (Value.pointer (some { block := 0, off := 50 })), Value.int IntKind.u64 23, Value.pointer none, Value.pointer none, Value.bool false, Value.bool false, Value.bool false, Value.bool false, Value.bool false] 43)) = w' := by
  go_enter Tryz.func139, Tryz.ntmps139
  go_wp2
  exact bodyPost_ret (v := (Value.bool true)) (by simp [results, Tryz.results139, go_sem]) rfl ⟨rfl, rfl⟩

theorem st_PtrInt  (w : World)  : Calls Tryz.prog 139 #[.agg #[.iface 122 (.pointer (some ⟨0, 51, none⟩)), .int .u64 22, .pointer none, .pointer none, .bool false, .bool false, .bool false, .bool false, .bool false], .agg #[.iface 122 (.pointer (some ⟨0, 51, none⟩)), .int .u64 22, .pointer none, .pointer none, .bool false, .bool false, .bool false, .bool false, .bool false]] w fun e w' => e = .returned (Value.bool true) ∧ ((w.alloc (Obj.cells #[Value.iface 122 (Value.pointer (some { block := 0, off := 51 })), Value.int IntKind.u64 22, Value.pointer none, Value.pointer none, Value.bool false, Value.bool false, Value.bool false, Value.bool false, Value.bool false] 43)).alloc (Obj.cells #[Value.iface 122 (Value.pointer (some { block := 0, off := 51 })), Value.int IntKind.u64 22, Value.pointer none, Value.pointer none, Value.bool false, Value.bool false, Value.bool false, Value.bool false, Value.bool false] 43)) = w' := by
  go_enter Tryz.func139, Tryz.ntmps139
  go_wp2
  exact bodyPost_ret (v := (Value.bool true)) (by simp [results, Tryz.results139, go_sem]) rfl ⟨rfl, rfl⟩

theorem st_Nil  (w : World)  : Calls Tryz.prog 139 #[.agg #[.nilIface, .int .u64 0, .pointer none, .pointer none, .bool false, .bool false, .bool false, .bool false, .bool false], .agg #[.nilIface, .int .u64 0, .pointer none, .pointer none, .bool false, .bool false, .bool false, .bool false, .bool false]] w fun e w' => e = .returned (Value.bool true) ∧ ((w.alloc (Obj.cells #[Value.nilIface, Value.int IntKind.u64 0, Value.pointer none, Value.pointer none, Value.bool false, Value.bool false, Value.bool false, Value.bool false, Value.bool false] 43)).alloc (Obj.cells #[Value.nilIface, Value.int IntKind.u64 0, Value.pointer none, Value.pointer none, Value.bool false, Value.bool false, Value.bool false, Value.bool false, Value.bool false] 43)) = w' := by
  go_enter Tryz.func139, Tryz.ntmps139
  go_wp2
  exact bodyPost_ret (v := (Value.bool true)) (by simp [results, Tryz.results139, go_sem]) rfl ⟨rfl, rfl⟩

theorem sm_Int64  (w : World)  : Calls Tryz.prog 103 #[.agg #[.iface 122 (.pointer (some ⟨0, 2, none⟩)), .int .u64 6, .pointer none, .pointer none, .bool false, .bool false, .bool false, .bool true, .bool false], .agg #[.iface 122 (.pointer (some ⟨0, 2, none⟩)), .int .u64 6, .pointer none, .pointer none, .bool false, .bool false, .bool false, .bool true, .bool false]] w fun e w' => e = .returned (Value.bool true) ∧ ((((w.alloc (Obj.cells #[Value.iface 122 (Value.pointer (some { block := 0, off := 2 })), Value.int IntKind.u64 6, Value.pointer none, Value.pointer none, Value.bool false, Value.bool false, Value.bool false, Value.bool true, Value.bool false] 43)).alloc (Obj.cells #[Value.iface 122 (Value.pointer (some { block := 0, off := 2 })), Value.int IntKind.u64 6, Value.pointer none, Value.pointer none, Value.bool false, Value.bool false, Value.bool false, Value.bool true, Value.bool false] 43)).alloc (Obj.cells #[Value.iface 122 (Value.pointer (some { block := 0, off := 2 })), Value.int IntKind.u64 6, Value.pointer none, Value.pointer none, Value.bool false, Value.bool false, Value.bool false, Value.bool true, Value.bool false] 43)).alloc (Obj.cells #[Value.iface 122 (Value.pointer (some { block := 0, off := 2 })), Value.int IntKind.u64 6, Value.pointer none, Value.pointer none, Value.bool false, Value.bool false, Value.bool false, Value.bool true, Value.bool false] 43)) = w' := by
  go_enter Tryz.func103, Tryz.ntmps103
  go_wp2_with (first | (go_at_call 139; ((with_reducible refine (st_Int64 _).mono ?_); rintro e w' ⟨rfl, rfl⟩)))
  exact bodyPost_ret (v := (Value.bool true)) (by simp [results, Tryz.results103, go_sem]) rfl ⟨rfl, rfl⟩

theorem sm_Uint8  (w : World)  : Calls Tryz.prog 103 #[.agg #[.iface 122 (.pointer (some ⟨0, 5, none⟩)), .int .u64 8, .pointer none, .pointer none, .bool false, .bool false, .bool false, .bool true, .bool false], .agg #[.iface 122 (.pointer (some ⟨0, 5, none⟩)), .int .u64 8, .pointer none, .pointer none, .bool false, .bool false, .bool false, .bool true, .bool false]] w fun e w' => e = .returned (Value.bool true) ∧ ((((w.alloc (Obj.cells #[Value.iface 122 (Value.pointer (some { block := 0, off := 5 })), Value.int IntKind.u64 8, Value.pointer none, Value.pointer none, Value.bool false, Value.bool false, Value.bool false, Value.bool true, Value.bool false] 43)).alloc (Obj.cells #[Value.iface 122 (Value.pointer (some { block := 0, off := 5 })), Value.int IntKind.u64 8, Value.pointer none, Value.pointer none, Value.bool false, Value.bool false, Value.bool false, Value.bool true, Value.bool false] 43)).alloc (Obj.cells #[Value.iface 122 (Value.pointer (some { block := 0, off := 5 })), Value.int IntKind.u64 8, Value.pointer none, Value.pointer none, Value.bool false, Value.bool false, Value.bool false, Value.bool true, Value.bool false] 43)).alloc (Obj.cells #[Value.iface 122 (Value.pointer (some { block := 0, off := 5 })), Value.int IntKind.u64 8, Value.pointer none, Value.pointer none, Value.bool false, Value.bool false, Value.bool false, Value.bool true, Value.bool false] 43)) = w' := by
  go_enter Tryz.func103, Tryz.ntmps103
  go_wp2_with (first | (go_at_call 139; ((with_reducible refine (st_Uint8 _).mono ?_); rintro e w' ⟨rfl, rfl⟩)))
  exact bodyPost_ret (v := (Value.bool true)) (by simp [results, Tryz.results103, go_sem]) rfl ⟨rfl, rfl⟩

theorem sm_Float64  (w : World)  : Calls Tryz.prog 103 #[.agg #[.iface 122 (.pointer (some ⟨0, 27, none⟩)), .int .u64 14, .pointer none, .pointer none, .bool false, .bool false, .bool false, .bool false, .bool true], .agg #[.iface 122 (.pointer (some ⟨0, 27, none⟩)), .int .u64 14, .pointer none, .pointer none, .bool false, .bool false, .bool false, .bool false, .bool true]] w fun e w' => e = .returned (Value.bool true) ∧ ((((w.alloc (Obj.cells #[Value.iface 122 (Value.pointer (some { block := 0, off := 27 })), Value.int IntKind.u64 14, Value.pointer none, Value.pointer none, Value.bool false, Value.bool false, Value.bool false, Value.bool false, Value.bool true] 43)).alloc (Obj.cells #[Value.iface 122 (Value.pointer (some { block := 0, off := 27 })), Value.int IntKind.u64 14, Value.pointer none, Value.pointer none, Value.bool false, Value.bool false, Value.bool false, Value.bool false, Value.bool true] 43)).alloc (Obj.cells #[Value.iface 122 (Value.pointer (some { block := 0, off := 27 })), Value.int IntKind.u64 14, Value.pointer none, Value.pointer none, Value.bool false, Value.bool false, Value.bool false, Value.bool false, Value.bool true] 43)).alloc (Obj.cells #[Value.iface 122 (Value.pointer (some { block := 0, off := 27 })), Value.int IntKind.u64 14, Value.pointer none, Value.pointer none, Value.bool false, Value.bool false, Value.bool false, Value.bool false, Value.bool true] 43)) = w' := by
  go_enter Tryz.func103, Tryz.ntmps103
  go_wp2_with (first | (go_at_call 139; ((with_reducible refine (st_Float64 _).mono ?_); rintro e w' ⟨rfl, rfl⟩)))
  exact bodyPost_ret (v := (Value.bool true)) (by simp [results, Tryz.results103, go_sem]) rfl ⟨rfl, rfl⟩

theorem sm_String  (w : World)  : Calls Tryz.prog 103 #[.agg #[.iface 122 (.pointer (some ⟨0, 9, none⟩)), .int .u64 24, .pointer none, .pointer none, .bool false, .bool false, .bool false, .bool false, .bool false], .agg #[.iface 122 (.pointer (some ⟨0, 9, none⟩)), .int .u64 24, .pointer none, .pointer none, .bool false, .bool false, .bool false, .bool false, .bool false]] w fun e w' => e = .returned (Value.bool true) ∧ ((((w.alloc (Obj.cells #[Value.iface 122 (Value.pointer (some { block := 0, off := 9 })), Value.int IntKind.u64 24, Value.pointer none, Value.pointer none, Value.bool false, Value.bool false, Value.bool false, Value.bool false, Value.bool false] 43)).alloc (Obj.cells #[Value.iface 122 (Value.pointer (some { block := 0, off := 9 })), Value.int IntKind.u64 24, Value.pointer none, Value.pointer none, Value.bool false, Value.bool false, Value.bool false, Value.bool false, Value.bool false] 43)).alloc (Obj.cells #[Value.iface 122 (Value.pointer (some { block := 0, off := 9 })), Value.int IntKind.u64 24, Value.pointer none, Value.pointer none, Value.bool false, Value.bool false, Value.bool false, Value.bool false, Value.bool false] 43)).alloc (Obj.cells #[Value.iface 122 (Value.pointer (some { block := 0, off := 9 })), Value.int IntKind.u64 24, Value.pointer none, Value.pointer none, Value.bool false, Value.bool false, Value.bool false, Value.bool false, Value.bool false] 43)) = w' := by
  go_enter Tryz.func103, Tryz.ntmps103
  go_wp2_with (first | (go_at_call 139; ((with_reducible refine (st_String _).mono ?_); rintro e w' ⟨rfl, rfl⟩)))
  exact bodyPost_ret (v := (Value.bool true)) (by simp [results, Tryz.results103, go_sem]) rfl ⟨rfl, rfl⟩

theorem sm_Bool  (w : World)  : Calls Tryz.prog 103 #[.agg #[.iface 122 (.pointer (some ⟨0, 4, none⟩)), .int .u64 1, .pointer none, .pointer none, .bool false, .bool false, .bool false, .bool false, .bool false], .agg #[.iface 122 (.pointer (some ⟨0, 4, none⟩)), .int .u64 1, .pointer none, .pointer none, .bool false, .bool false, .bool false, .bool false, .bool false]] w fun e w' => e = .returned (Value.bool true) ∧ ((((w.alloc (Obj.cells #[Value.iface 122 (Value.pointer (some { block := 0, off := 4 })), Value.int IntKind.u64 1, Value.pointer none, Value.pointer none, Value.bool false, Value.bool false, Value.bool false, Value.bool false, Value.bool false] 43)).alloc (Obj.cells #[Value.iface 122 (Value.pointer (some { block := 0, off := 4 })), Value.int IntKind.u64 1, Value.pointer none, Value.pointer none, Value.bool false, Value.bool false, Value.bool false, Value.bool false, Value.bool false] 43)).alloc (Obj.cells #[Value.iface 122 (Value.pointer (some { block := 0, off := 4 })), Value.int IntKind.u64 1, Value.pointer none, Value.pointer none, Value.bool false, Value.bool false, Value.bool false, Value.bool false, Value.bool false] 43)).alloc (Obj.cells #[Value.iface 122 (Value.pointer (some { block := 0, off := 4 })), Value.int IntKind.u64 1, Value.pointer none, Value.pointer none, Value.bool false, Value.bool false, Value.bool false, Value.bool false, Value.bool false] 43)) = w' := by
  go_enter Tryz.func103, Tryz.ntmps103
  go_wp2_with (first | (go_at_call 139; ((with_reducible refine (st_Bool _).mono ?_); rintro e w' ⟨rfl, rfl⟩)))
  exact bodyPost_ret (v := (Value.bool true)) (by simp [results, Tryz.results103, go_sem]) rfl ⟨rfl, rfl⟩

theorem sm_SliceInt  (w : World)  : Calls Tryz.prog 103 #[.agg #[.iface 122 (.pointer (some ⟨0, 50, none⟩)), .int .u64 23, .pointer none, .pointer none, .bool false, .bool false, .bool false, .bool false, .bool false], .agg #[.iface 122 (.pointer (some ⟨0, 50, none⟩)), .int .u64 23, .pointer none, .pointer none, .bool false, .bool false, .bool false, .bool false, .bool false]] w fun e w' => e = .returned (Value.bool true) ∧ ((((w.alloc (Obj.cells #[Value.iface 122 (Value.pointer (some { block := 0, off := 50 })), Value.int IntKind.u64 23, Value.pointer none, Value.pointer none, Value.bool false, Value.bool false, Value.bool false, Value.bool false, Value.bool false] 43)).alloc (Obj.cells #[Value.iface 122 (Value.pointer (some { block := 0, off := 50 })), Value.int IntKind.u64 23, Value.pointer none, Value.pointer none, Value.bool false, Value.bool false, Value.bool false, Value.bool false, Value.bool false] 43)).alloc (Obj.cells #[Value.iface 122 (Value.pointer (some { block := 0, off := 50 })), Value.int IntKind.u64 23, Value.pointer none, Value.pointer none, Value.bool false, Value.bool false, Value.bool false, Value.bool false, Value.bool false] 43)).alloc (Obj.cells #[Value.iface 122 (Value.pointer (some { block := 0, off := 50 })), Value.int IntKind.u64 23, Value.pointer none, Value.pointer none, Value.bool false, Value.bool false, Value.bool false, Value.bool false, Value.bool false] 43)) = w' := by
  go_enter Tryz.func103, Tryz.ntmps103
  go_wp2_with (first | (go_at_call 139; ((with_reducible refine (st_SliceInt _).mono ?_); rintro e w' ⟨rfl, rfl⟩)))
  exact bodyPost_ret (v := (Value.bool true)) (by simp [results, Tryz.results103, go_sem]) rfl ⟨rfl, rfl⟩

theorem sm_PtrInt  (w : World)  : Calls Tryz.prog 103 #[.agg #[.iface 122 (.pointer (some ⟨0, 51, none⟩)), .int .u64 22, .pointer none, .pointer none, .bool false, .bool false, .bool false, .bool false, .bool false], .agg #[.iface 122 (.pointer (some ⟨0, 51, none⟩)), .int .u64 22, .pointer none, .pointer none, .bool false, .bool false, .bool false, .bool false, .bool false]] w fun e w' => e = .returned (Value.bool true) ∧ ((((w.alloc (Obj.cells #[Value.iface 122 (Value.pointer (some { block := 0, off := 51 })), Value.int IntKind.u64 22, Value.pointer none, Value.pointer none, Value.bool false, Value.bool false, Value.bool false, Value.bool false, Value.bool false] 43)).alloc (Obj.cells #[Value.iface 122 (Value.pointer (some { block := 0, off := 51 })), Value.int IntKind.u64 22, Value.pointer none, Value.pointer none, Value.bool false, Value.bool false, Value.bool false, Value.bool false, Value.bool false] 43)).alloc (Obj.cells #[Value.iface 122 (Value.pointer (some { block := 0, off := 51 })), Value.int IntKind.u64 22, Value.pointer none, Value.pointer none, Value.bool false, Value.bool false, Value.bool false, Value.bool false, Value.bool false] 43)).alloc (Obj.cells #[Value.iface 122 (Value.pointer (some { block := 0, off := 51 })), Value.int IntKind.u64 22, Value.pointer none, Value.pointer none, Value.bool false, Value.bool false, Value.bool false, Value.bool false, Value.bool false] 43)) = w' := by
  go_enter Tryz.func103, Tryz.ntmps103
  go_wp2_with (first | (go_at_call 139; ((with_reducible refine (st_PtrInt _).mono ?_); rintro e w' ⟨rfl, rfl⟩)))
  exact bodyPost_ret (v := (Value.bool true)) (by simp [results, Tryz.results103, go_sem]) rfl ⟨rfl, rfl⟩

theorem sm_Nil  (w : World)  : Calls Tryz.prog 103 #[.agg #[.nilIface, .int .u64 0, .pointer none, .pointer none, .bool false, .bool false, .bool false, .bool false, .bool false], .agg #[.nilIface, .int .u64 0, .pointer none, .pointer none, .bool false, .bool false, .bool false, .bool false, .bool false]] w fun e w' => e = .returned (Value.bool true) ∧ ((((w.alloc (Obj.cells #[Value.nilIface, Value.int IntKind.u64 0, Value.pointer none, Value.pointer none, Value.bool false, Value.bool false, Value.bool false, Value.bool false, Value.bool false] 43)).alloc (Obj.cells #[Value.nilIface, Value.int IntKind.u64 0, Value.pointer none, Value.pointer none, Value.bool false, Value.bool false, Value.bool false, Value.bool false, Value.bool false] 43)).alloc (Obj.cells #[Value.nilIface, Value.int IntKind.u64 0, Value.pointer none, Value.pointer none, Value.bool false, Value.bool false, Value.bool false, Value.bool false, Value.bool false] 43)).alloc (Obj.cells #[Value.nilIface, Value.int IntKind.u64 0, Value.pointer none, Value.pointer none, Value.bool false, Value.bool false, Value.bool false, Value.bool false, Value.bool false] 43)) = w' := by
  go_enter Tryz.func103, Tryz.ntmps103
  go_wp2_with (first | (go_at_call 139; ((with_reducible refine (st_Nil _).mono ?_); rintro e w' ⟨rfl, rfl⟩)))
  exact bodyPost_ret (v := (Value.bool true)) (by simp [results, Tryz.results103, go_sem]) rfl ⟨rfl, rfl⟩

theorem bc_22 (x : Int) (w : World) : Calls Tryz.prog 22 #[.int .i64 x] w fun e w' => e = .returned (.agg #[.iface 122 (.pointer (some ⟨0, 2, none⟩)), .int .u64 6, .pointer none, .pointer none, .bool false, .bool false, .bool false, .bool true, .bool false]) ∧ Below w.heap.size w w' := by
  refine (c_22 x w).mono ?_
  rintro e w' ⟨rfl, rfl⟩
  refine ⟨rfl, ?_⟩
  repeat (first | with_reducible refine bal ?_ _ | with_reducible refine Below.drew ?_ | with_reducible refine bdn ?_ _)
  exact Below.refl _ _

theorem bc_57  (w : World) : Calls Tryz.prog 57 #[] w fun e w' => e = .returned (.agg #[.iface 122 (.pointer (some ⟨0, 2, none⟩)), .int .u64 6, .pointer none, .pointer none, .bool false, .bool false, .bool false, .bool true, .bool false]) ∧ Below w.heap.size w w' := by
  refine (c_57  w).mono ?_
  rintro e w' ⟨rfl, rfl⟩
  refine ⟨rfl, ?_⟩
  repeat (first | with_reducible refine bal ?_ _ | with_reducible refine Below.drew ?_ | with_reducible refine bdn ?_ _)
  exact Below.refl _ _

theorem bsm_Int64  (w : World) : Calls Tryz.prog 103 #[.agg #[.iface 122 (.pointer (some ⟨0, 2, none⟩)), .int .u64 6, .pointer none, .pointer none, .bool false, .bool false, .bool false, .bool true, .bool false], .agg #[.iface 122 (.pointer (some ⟨0, 2, none⟩)), .int .u64 6, .pointer none, .pointer none, .bool false, .bool false, .bool false, .bool true, .bool false]] w fun e w' => e = .returned (.bool true) ∧ Below w.heap.size w w' := by
  refine (sm_Int64  w).mono ?_
  rintro e w' ⟨rfl, rfl⟩
  refine ⟨rfl, ?_⟩
  repeat (first | with_reducible refine bal ?_ _ | with_reducible refine Below.drew ?_ | with_reducible refine bdn ?_ _)
  exact Below.refl _ _

theorem bc_25 (x : Int) (w : World) : Calls Tryz.prog 25 #[.int .u8 x] w fun e w' => e = .returned (.agg #[.iface 122 (.pointer (some ⟨0, 5, none⟩)), .int .u64 8, .pointer none, .pointer none, .bool false, .bool false, .bool false, .bool true, .bool false]) ∧ Below w.heap.size w w' := by
  refine (c_25 x w).mono ?_
  rintro e w' ⟨rfl, rfl⟩
  refine ⟨rfl, ?_⟩
  repeat (first | with_reducible refine bal ?_ _ | with_reducible refine Below.drew ?_ | with_reducible refine bdn ?_ _)
  exact Below.refl _ _

theorem bc_58  (w : World) : Calls Tryz.prog 58 #[] w fun e w' => e = .returned (.agg #[.iface 122 (.pointer (some ⟨0, 5, none⟩)), .int .u64 8, .pointer none, .pointer none, .bool false, .bool false, .bool false, .bool true, .bool false]) ∧ Below w.heap.size w w' := by
  refine (c_58  w).mono ?_
  rintro e w' ⟨rfl, rfl⟩
  refine ⟨rfl, ?_⟩
  repeat (first | with_reducible refine bal ?_ _ | with_reducible refine Below.drew ?_ | with_reducible refine bdn ?_ _)
  exact Below.refl _ _

theorem bsm_Uint8  (w : World) : Calls Tryz.prog 103 #[.agg #[.iface 122 (.pointer (some ⟨0, 5, none⟩)), .int .u64 8, .pointer none, .pointer none, .bool false, .bool false, .bool false, .bool true, .bool false], .agg #[.iface 122 (.pointer (some ⟨0, 5, none⟩)), .int .u64 8, .pointer none, .pointer none, .bool false, .bool false, .bool false, .bool true, .bool false]] w fun e w' => e = .returned (.bool true) ∧ Below w.heap.size w w' := by
  refine (sm_Uint8  w).mono ?_
  rintro e w' ⟨rfl, rfl⟩
  refine ⟨rfl, ?_⟩
  repeat (first | with_reducible refine bal ?_ _ | with_reducible refine Below.drew ?_ | with_reducible refine bdn ?_ _)
  exact Below.refl _ _

theorem bc_27 (x : Nat) (w : World) : Calls Tryz.prog 27 #[.float .f64 x] w fun e w' => e = .returned (.agg #[.iface 122 (.pointer (some ⟨0, 27, none⟩)), .int .u64 14, .pointer none, .pointer none, .bool false, .bool false, .bool false, .bool false, .bool true]) ∧ Below w.heap.size w w' := by
  refine (c_27 x w).mono ?_
  rintro e w' ⟨rfl, rfl⟩
  refine ⟨rfl, ?_⟩
  repeat (first | with_reducible refine bal ?_ _ | with_reducible refine Below.drew ?_ | with_reducible refine bdn ?_ _)
  exact Below.refl _ _

theorem bc_65  (w : World) : Calls Tryz.prog 65 #[] w fun e w' => e = .returned (.agg #[.iface 122 (.pointer (some ⟨0, 27, none⟩)), .int .u64 14, .pointer none, .pointer none, .bool false, .bool false, .bool false, .bool false, .bool true]) ∧ Below w.heap.size w w' := by
  refine (c_65  w).mono ?_
  rintro e w' ⟨rfl, rfl⟩
  refine ⟨rfl, ?_⟩
  repeat (first | with_reducible refine bal ?_ _ | with_reducible refine Below.drew ?_ | with_reducible refine bdn ?_ _)
  exact Below.refl _ _

theorem bsm_Float64  (w : World) : Calls Tryz.prog 103 #[.agg #[.iface 122 (.pointer (some ⟨0, 27, none⟩)), .int .u64 14, .pointer none, .pointer none, .bool false, .bool false, .bool false, .bool false, .bool true], .agg #[.iface 122 (.pointer (some ⟨0, 27, none⟩)), .int .u64 14, .pointer none, .pointer none, .bool false, .bool false, .bool false, .bool false, .bool true]] w fun e w' => e = .returned (.bool true) ∧ Below w.heap.size w w' := by
  refine (sm_Float64  w).mono ?_
  rintro e w' ⟨rfl, rfl⟩
  refine ⟨rfl, ?_⟩
  repeat (first | with_reducible refine bal ?_ _ | with_reducible refine Below.drew ?_ | with_reducible refine bdn ?_ _)
  exact Below.refl _ _

theorem bc_29 (x : ByteArray) (w : World) : Calls Tryz.prog 29 #[.string x] w fun e w' => e = .returned (.agg #[.iface 122 (.pointer (some ⟨0, 9, none⟩)), .int .u64 24, .pointer none, .pointer none, .bool false, .bool false, .bool false, .bool false, .bool false]) ∧ Below w.heap.size w w' := by
  refine (c_29 x w).mono ?_
  rintro e w' ⟨rfl, rfl⟩
  refine ⟨rfl, ?_⟩
  repeat (first | with_reducible refine bal ?_ _ | with_reducible refine Below.drew ?_ | with_reducible refine bdn ?_ _)
  exact Below.refl _ _

theorem bc_70  (w : World) : Calls Tryz.prog 70 #[] w fun e w' => e = .returned (.agg #[.iface 122 (.pointer (some ⟨0, 9, none⟩)), .int .u64 24, .pointer none, .pointer none, .bool false, .bool false, .bool false, .bool false, .bool false]) ∧ Below w.heap.size w w' := by
  refine (c_70  w).mono ?_
  rintro e w' ⟨rfl, rfl⟩
  refine ⟨rfl, ?_⟩
  repeat (first | with_reducible refine bal ?_ _ | with_reducible refine Below.drew ?_ | with_reducible refine bdn ?_ _)
  exact Below.refl _ _

theorem bsm_String  (w : World) : Calls Tryz.prog 103 #[.agg #[.iface 122 (.pointer (some ⟨0, 9, none⟩)), .int .u64 24, .pointer none, .pointer none, .bool false, .bool false, .bool false, .bool false, .bool false], .agg #[.iface 122 (.pointer (some ⟨0, 9, none⟩)), .int .u64 24, .pointer none, .pointer none, .bool false, .bool false, .bool false, .bool false, .bool false]] w fun e w' => e = .returned (.bool true) ∧ Below w.heap.size w w' := by
  refine (sm_String  w).mono ?_
  rintro e w' ⟨rfl, rfl⟩
  refine ⟨rfl, ?_⟩
  repeat (first | with_reducible refine bal ?_ _ | with_reducible refine Below.drew ?_ | with_reducible refine bdn ?_ _)
  exact Below.refl _ _

theorem bc_31 (x : Bool) (w : World) : Calls Tryz.prog 31 #[.bool x] w fun e w' => e = .returned (.agg #[.iface 122 (.pointer (some ⟨0, 4, none⟩)), .int .u64 1, .pointer none, .pointer none, .bool false, .bool false, .bool false, .bool false, .bool false]) ∧ Below w.heap.size w w' := by
  refine (c_31 x w).mono ?_
  rintro e w' ⟨rfl, rfl⟩
  refine ⟨rfl, ?_⟩
  repeat (first | with_reducible refine bal ?_ _ | with_reducible refine Below.drew ?_ | with_reducible refine bdn ?_ _)
  exact Below.refl _ _

theorem bc_71  (w : World) : Calls Tryz.prog 71 #[] w fun e w' => e = .returned (.agg #[.iface 122 (.pointer (some ⟨0, 4, none⟩)), .int .u64 1, .pointer none, .pointer none, .bool false, .bool false, .bool false, .bool false, .bool false]) ∧ Below w.heap.size w w' := by
  refine (c_71  w).mono ?_
  rintro e w' ⟨rfl, rfl⟩
  refine ⟨rfl, ?_⟩
  repeat (first | with_reducible refine bal ?_ _ | with_reducible refine Below.drew ?_ | with_reducible refine bdn ?_ _)
  exact Below.refl _ _

theorem bsm_Bool  (w : World) : Calls Tryz.prog 103 #[.agg #[.iface 122 (.pointer (some ⟨0, 4, none⟩)), .int .u64 1, .pointer none, .pointer none, .bool false, .bool false, .bool false, .bool false, .bool false], .agg #[.iface 122 (.pointer (some ⟨0, 4, none⟩)), .int .u64 1, .pointer none, .pointer none, .bool false, .bool false, .bool false, .bool false, .bool false]] w fun e w' => e = .returned (.bool true) ∧ Below w.heap.size w w' := by
  refine (sm_Bool  w).mono ?_
  rintro e w' ⟨rfl, rfl⟩
  refine ⟨rfl, ?_⟩
  repeat (first | with_reducible refine bal ?_ _ | with_reducible refine Below.drew ?_ | with_reducible refine bdn ?_ _)
  exact Below.refl _ _

theorem bc_33 (x : Option Addr) (n c : Nat) (w : World) : Calls Tryz.prog 33 #[.slice x n c] w fun e w' => e = .returned (.agg #[.iface 122 (.pointer (some ⟨0, 50, none⟩)), .int .u64 23, .pointer none, .pointer none, .bool false, .bool false, .bool false, .bool false, .bool false]) ∧ Below w.heap.size w w' := by
  refine (c_33 x n c w).mono ?_
  rintro e w' ⟨rfl, rfl⟩
  refine ⟨rfl, ?_⟩
  repeat (first | with_reducible refine bal ?_ _ | with_reducible refine Below.drew ?_ | with_reducible refine bdn ?_ _)
  exact Below.refl _ _

theorem bc_76  (w : World) : Calls Tryz.prog 76 #[] w fun e w' => e = .returned (.agg #[.iface 122 (.pointer (some ⟨0, 50, none⟩)), .int .u64 23, .pointer none, .pointer none, .bool false, .bool false, .bool false, .bool false, .bool false]) ∧ Below w.heap.size w w' := by
  refine (c_76  w).mono ?_
  rintro e w' ⟨rfl, rfl⟩
  refine ⟨rfl, ?_⟩
  repeat (first | with_reducible refine bal ?_ _ | with_reducible refine Below.drew ?_ | with_reducible refine bdn ?_ _)
  exact Below.refl _ _

theorem bsm_SliceInt  (w : World) : Calls Tryz.prog 103 #[.agg #[.iface 122 (.pointer (some ⟨0, 50, none⟩)), .int .u64 23, .pointer none, .pointer none, .bool false, .bool false, .bool false, .bool false, .bool false], .agg #[.iface 122 (.pointer (some ⟨0, 50, none⟩)), .int .u64 23, .pointer none, .pointer none, .bool false, .bool false, .bool false, .bool false, .bool false]] w fun e w' => e = .returned (.bool true) ∧ Below w.heap.size w w' := by
  refine (sm_SliceInt  w).mono ?_
  rintro e w' ⟨rfl, rfl⟩
  refine ⟨rfl, ?_⟩
  repeat (first | with_reducible refine bal ?_ _ | with_reducible refine Below.drew ?_ | with_reducible refine bdn ?_ _)
  exact Below.refl _ _

theorem bc_37 (x : Option Addr) (w : World) : Calls Tryz.prog 37 #[.pointer x] w fun e w' => e = .returned (.agg #[.iface 122 (.pointer (some ⟨0, 51, none⟩)), .int .u64 22, .pointer none, .pointer none, .bool false, .bool false, .bool false, .bool false, .bool false]) ∧ Below w.heap.size w w' := by
  refine (c_37 x w).mono ?_
  rintro e w' ⟨rfl, rfl⟩
  refine ⟨rfl, ?_⟩
  repeat (first | with_reducible refine bal ?_ _ | with_reducible refine Below.drew ?_ | with_reducible refine bdn ?_ _)
  exact Below.refl _ _

theorem bc_78  (w : World) : Calls Tryz.prog 78 #[] w fun e w' => e = .returned (.agg #[.iface 122 (.pointer (some ⟨0, 51, none⟩)), .int .u64 22, .pointer none, .pointer none, .bool false, .bool false, .bool false, .bool false, .bool false]) ∧ Below w.heap.size w w' := by
  refine (c_78  w).mono ?_
  rintro e w' ⟨rfl, rfl⟩
  refine ⟨rfl, ?_⟩
  repeat (first | with_reducible refine bal ?_ _ | with_reducible refine Below.drew ?_ | with_reducible refine bdn ?_ _)
  exact Below.refl _ _

theorem bsm_PtrInt  (w : World) : Calls Tryz.prog 103 #[.agg #[.iface 122 (.pointer (some ⟨0, 51, none⟩)), .int .u64 22, .pointer none, .pointer none, .bool false, .bool false, .bool false, .bool false, .bool false], .agg #[.iface 122 (.pointer (some ⟨0, 51, none⟩)), .int .u64 22, .pointer none, .pointer none, .bool false, .bool false, .bool false, .bool false, .bool false]] w fun e w' => e = .returned (.bool true) ∧ Below w.heap.size w w' := by
  refine (sm_PtrInt  w).mono ?_
  rintro e w' ⟨rfl, rfl⟩
  refine ⟨rfl, ?_⟩
  repeat (first | with_reducible refine bal ?_ _ | with_reducible refine Below.drew ?_ | with_reducible refine bdn ?_ _)
  exact Below.refl _ _

theorem bc_39  (w : World) : Calls Tryz.prog 39 #[] w fun e w' => e = .returned (.agg #[.nilIface, .int .u64 0, .pointer none, .pointer none, .bool true, .bool false, .bool false, .bool false, .bool false]) ∧ Below w.heap.size w w' := by
  refine (c_39  w).mono ?_
  rintro e w' ⟨rfl, rfl⟩
  refine ⟨rfl, ?_⟩
  repeat (first | with_reducible refine bal ?_ _ | with_reducible refine Below.drew ?_ | with_reducible refine bdn ?_ _)
  exact Below.refl _ _

theorem bc_52  (w : World) : Calls Tryz.prog 52 #[] w fun e w' => e = .returned (.agg #[.nilIface, .int .u64 0, .pointer none, .pointer none, .bool false, .bool false, .bool false, .bool false, .bool false]) ∧ Below w.heap.size w w' := by
  refine (c_52  w).mono ?_
  rintro e w' ⟨rfl, rfl⟩
  refine ⟨rfl, ?_⟩
  repeat (first | with_reducible refine bal ?_ _ | with_reducible refine Below.drew ?_ | with_reducible refine bdn ?_ _)
  exact Below.refl _ _

theorem bsm_Nil  (w : World) : Calls Tryz.prog 103 #[.agg #[.nilIface, .int .u64 0, .pointer none, .pointer none, .bool false, .bool false, .bool false, .bool false, .bool false], .agg #[.nilIface, .int .u64 0, .pointer none, .pointer none, .bool false, .bool false, .bool false, .bool false, .bool false]] w fun e w' => e = .returned (.bool true) ∧ Below w.heap.size w w' := by
  refine (sm_Nil  w).mono ?_
  rintro e w' ⟨rfl, rfl⟩
  refine ⟨rfl, ?_⟩
  repeat (first | with_reducible refine bal ?_ _ | with_reducible refine Below.drew ?_ | with_reducible refine bdn ?_ _)
  exact Below.refl _ _
set_option maxHeartbeats 20000000 in
theorem walk (a0 a1 : Int) (a2 : Nat) (a3 : ByteArray) (a4 : Bool) (v5 v6 : Value) (w : World) (w0 : (Lit.int .i64 a0).wf = true) (w1 : (Lit.int .u8 a1).wf = true) (w3 : a3.size ≤ maxLen) (w5 : IntsIn w .i64 v5) (w6 : PtrIn w .i64 v6) :
    Calls Tryz.prog 15 #[.int .i64 a0, .int .u8 a1, .float .f64 a2, .string a3, .bool a4, v5, v6] w fun e w' => e = .returned (.bool true) ∧ Below w.heap.size w w' := by
  obtain ⟨o, n, c, rfl, ho⟩ : ∃ o n c, v5 = .slice o n c ∧ (∀ a, o = some a → n ≤ c ∧ ∃ zs : List Int, zs.length = c ∧ ∀ i, i < zs.length → w.cell? (a.add i) = some (.int .i64 (zs.getD i 0))) := by
    rcases w5 with rfl | ⟨a, len, cap, zs, rfl, h1, _, h3, h4, _⟩
    · exact ⟨_, _, _, rfl, fun a h => by cases h⟩
    · exact ⟨_, _, _, rfl, fun a' h => by cases h; exact ⟨h1, zs, h3, h4⟩⟩
  obtain ⟨q, rfl, hq⟩ : ∃ q, v6 = .pointer q ∧ (∀ a, q = some a → ∃ b off k, a = ⟨b, off, none⟩ ∧ w.cell? ⟨b, off, none⟩ = some (.int .i64 k)) := by
    rcases w6 with rfl | ⟨b, off, k, rfl, h1, _⟩
    · exact ⟨_, rfl, fun a h => by cases h⟩
    · exact ⟨_, rfl, fun a h => by cases h; exact ⟨b, off, k, rfl, h1⟩⟩
  have nq5 : ∀ u : World, (binOp .neq 50 (.slice o n c) (.slice none 0 0)).run Tryz.prog u = .ok (.bool (!o.isNone)) u := fun u => run_neq_slice_nil u 50 _ o n c Tryz.underlying50
  have nq7 : ∀ u : World, (binOp .neq 51 (.pointer q) (.pointer none)).run Tryz.prog u = .ok (.bool (!q.isNone)) u := fun u => by
    cases q with
    | none => kernel_rfl
    | some a => simp [go_sem]
  go_enter Tryz.func15, Tryz.ntmps15
  go_upto_region 5 with (go_at_call 102; refine (zb _ _ _ _ _ _ _ _ _  _).mono ?_; rintro e w' ⟨b, rfl, rfl⟩)
  all_goals first | (go_ret; exact ⟨rfl, Below.refl _ _⟩) | skip
  go_upto_if 46 with fail
  go_cut [5] from 45 to 53 (fun x wx => (∃ o n c, x = .slice o n c) ∧ Below w.heap.size w wx)
  case first =>
    cases o with
    | none =>
      go_wp2_with fail
      go_meet
      case rel => exact ⟨⟨_, _, _, rfl⟩, Below.refl _ _⟩
    | some a =>
      obtain ⟨hnc, zs, hz, hcell⟩ := ho a rfl
      have hn1 : (n : Int) ≤ 65536 := by omega
      have hmk := run_make_row' (P := Tryz.prog) 50 3 (.int .i64 0) 8 Tryz.underlying50 (by kernel_rfl) rfl .i64 .i64 n (by omega) (by omega)
      go_wp2_with (refine wpList_copy_splice (o := ⟨some 52, _, _, _, _, _⟩) rfl _ _ 50 50 rfl 3 Tryz.underlying50 (by kernel_rfl) _ _ _ _ _ _ rfl rfl w.heap.size 0 (madeCells #[Value.int .i64 0] n).toList 3 (blk_new _ _) ((zs.take n).map (Value.int .i64)) (by rw [List.length_map, List.length_take, hz]; show min n c = min n n; omega) (fun _ => ⟨rfl, _, rfl, cp_ok hz hcell _⟩) (by rw [List.length_map, List.length_take, hz, Array.length_toList, size_madeCells]; omega) cp_one w.heap.size w (bal (Below.refl _ _) _) (Nat.le_refl _) ?_; intro wd _ hBd)
      go_meet
      case rel => exact ⟨⟨_, _, _, rfl⟩, hBd⟩
  case rest =>
    obtain ⟨⟨o', n', c', rfl⟩, hB⟩ := hcut
    go_upto_if 55 with fail
    go_cut [6] from 54 to 58 (fun x wx => (∃ o, x = .pointer o) ∧ Below w.heap.size w wx)
    case first =>
      cases q with
      | none =>
        go_wp2_with fail
        go_meet
        case rel => exact ⟨⟨_, rfl⟩, hB⟩
      | some a =>
        obtain ⟨pb, off, k, rfl, hcell⟩ := hq a rfl
        have hlt : pb < w.heap.size := cell_lt hcell
        have hcc : wc.cell? ⟨pb, off, none⟩ = some (.int .i64 k) := (hB.cell hlt).trans hcell
        go_wp2_with fail
        go_meet
        case rel => exact ⟨⟨_, rfl⟩, bal hB _⟩
    case rest =>
      obtain ⟨⟨q', rfl⟩, hB⟩ := hcut
      go_wp2_with (first | (go_at_call 22; ((with_reducible refine (bc_22 _  _).mono ?_); rintro e w' ⟨rfl, hb⟩; have hB := bnext (a := w) (by repeat (first | with_reducible exact hB | with_reducible refine Below.drew ?_ | with_reducible refine Below.setCell ?_ hNB _ | with_reducible refine below_setRow ?_ hNB _ | with_reducible refine bal ?_ _)) hb; clear hb)) | (go_at_call 57; ((with_reducible refine (bc_57  _).mono ?_); rintro e w' ⟨rfl, hb⟩; have hB := bnext (a := w) (by repeat (first | with_reducible exact hB | with_reducible refine Below.drew ?_ | with_reducible refine Below.setCell ?_ hNB _ | with_reducible refine below_setRow ?_ hNB _ | with_reducible refine bal ?_ _)) hb; clear hb)) | (go_at_call 103; ((with_reducible refine (bsm_Int64  _).mono ?_); rintro e w' ⟨rfl, hb⟩; have hB := bnext (a := w) (by repeat (first | with_reducible exact hB | with_reducible refine Below.drew ?_ | with_reducible refine Below.setCell ?_ hNB _ | with_reducible refine below_setRow ?_ hNB _ | with_reducible refine bal ?_ _)) hb; clear hb)) | (go_at_call 25; ((with_reducible refine (bc_25 _  _).mono ?_); rintro e w' ⟨rfl, hb⟩; have hB := bnext (a := w) (by repeat (first | with_reducible exact hB | with_reducible refine Below.drew ?_ | with_reducible refine Below.setCell ?_ hNB _ | with_reducible refine below_setRow ?_ hNB _ | with_reducible refine bal ?_ _)) hb; clear hb)) | (go_at_call 58; ((with_reducible refine (bc_58  _).mono ?_); rintro e w' ⟨rfl, hb⟩; have hB := bnext (a := w) (by repeat (first | with_reducible exact hB | with_reducible refine Below.drew ?_ | with_reducible refine Below.setCell ?_ hNB _ | with_reducible refine below_setRow ?_ hNB _ | with_reducible refine bal ?_ _)) hb; clear hb)) | (go_at_call 103; ((with_reducible refine (bsm_Uint8  _).mono ?_); rintro e w' ⟨rfl, hb⟩; have hB := bnext (a := w) (by repeat (first | with_reducible exact hB | with_reducible refine Below.drew ?_ | with_reducible refine Below.setCell ?_ hNB _ | with_reducible refine below_setRow ?_ hNB _ | with_reducible refine bal ?_ _)) hb; clear hb)) | (go_at_call 27; ((with_reducible refine (bc_27 _  _).mono ?_); rintro e w' ⟨rfl, hb⟩; have hB := bnext (a := w) (by repeat (first | with_reducible exact hB | with_reducible refine Below.drew ?_ | with_reducible refine Below.setCell ?_ hNB _ | with_reducible refine below_setRow ?_ hNB _ | with_reducible refine bal ?_ _)) hb; clear hb)) | (go_at_call 65; ((with_reducible refine (bc_65  _).mono ?_); rintro e w' ⟨rfl, hb⟩; have hB := bnext (a := w) (by repeat (first | with_reducible exact hB | with_reducible refine Below.drew ?_ | with_reducible refine Below.setCell ?_ hNB _ | with_reducible refine below_setRow ?_ hNB _ | with_reducible refine bal ?_ _)) hb; clear hb)) | (go_at_call 103; ((with_reducible refine (bsm_Float64  _).mono ?_); rintro e w' ⟨rfl, hb⟩; have hB := bnext (a := w) (by repeat (first | with_reducible exact hB | with_reducible refine Below.drew ?_ | with_reducible refine Below.setCell ?_ hNB _ | with_reducible refine below_setRow ?_ hNB _ | with_reducible refine bal ?_ _)) hb; clear hb)) | (go_at_call 29; ((with_reducible refine (bc_29 _  _).mono ?_); rintro e w' ⟨rfl, hb⟩; have hB := bnext (a := w) (by repeat (first | with_reducible exact hB | with_reducible refine Below.drew ?_ | with_reducible refine Below.setCell ?_ hNB _ | with_reducible refine below_setRow ?_ hNB _ | with_reducible refine bal ?_ _)) hb; clear hb)) | (go_at_call 70; ((with_reducible refine (bc_70  _).mono ?_); rintro e w' ⟨rfl, hb⟩; have hB := bnext (a := w) (by repeat (first | with_reducible exact hB | with_reducible refine Below.drew ?_ | with_reducible refine Below.setCell ?_ hNB _ | with_reducible refine below_setRow ?_ hNB _ | with_reducible refine bal ?_ _)) hb; clear hb)) | (go_at_call 103; ((with_reducible refine (bsm_String  _).mono ?_); rintro e w' ⟨rfl, hb⟩; have hB := bnext (a := w) (by repeat (first | with_reducible exact hB | with_reducible refine Below.drew ?_ | with_reducible refine Below.setCell ?_ hNB _ | with_reducible refine below_setRow ?_ hNB _ | with_reducible refine bal ?_ _)) hb; clear hb)) | (go_at_call 31; ((with_reducible refine (bc_31 _  _).mono ?_); rintro e w' ⟨rfl, hb⟩; have hB := bnext (a := w) (by repeat (first | with_reducible exact hB | with_reducible refine Below.drew ?_ | with_reducible refine Below.setCell ?_ hNB _ | with_reducible refine below_setRow ?_ hNB _ | with_reducible refine bal ?_ _)) hb; clear hb)) | (go_at_call 71; ((with_reducible refine (bc_71  _).mono ?_); rintro e w' ⟨rfl, hb⟩; have hB := bnext (a := w) (by repeat (first | with_reducible exact hB | with_reducible refine Below.drew ?_ | with_reducible refine Below.setCell ?_ hNB _ | with_reducible refine below_setRow ?_ hNB _ | with_reducible refine bal ?_ _)) hb; clear hb)) | (go_at_call 103; ((with_reducible refine (bsm_Bool  _).mono ?_); rintro e w' ⟨rfl, hb⟩; have hB := bnext (a := w) (by repeat (first | with_reducible exact hB | with_reducible refine Below.drew ?_ | with_reducible refine Below.setCell ?_ hNB _ | with_reducible refine below_setRow ?_ hNB _ | with_reducible refine bal ?_ _)) hb; clear hb)) | (go_at_call 33; ((with_reducible refine (bc_33 _ _ _  _).mono ?_); rintro e w' ⟨rfl, hb⟩; have hB := bnext (a := w) (by repeat (first | with_reducible exact hB | with_reducible refine Below.drew ?_ | with_reducible refine Below.setCell ?_ hNB _ | with_reducible refine below_setRow ?_ hNB _ | with_reducible refine bal ?_ _)) hb; clear hb)) | (go_at_call 76; ((with_reducible refine (bc_76  _).mono ?_); rintro e w' ⟨rfl, hb⟩; have hB := bnext (a := w) (by repeat (first | with_reducible exact hB | with_reducible refine Below.drew ?_ | with_reducible refine Below.setCell ?_ hNB _ | with_reducible refine below_setRow ?_ hNB _ | with_reducible refine bal ?_ _)) hb; clear hb)) | (go_at_call 103; ((with_reducible refine (bsm_SliceInt  _).mono ?_); rintro e w' ⟨rfl, hb⟩; have hB := bnext (a := w) (by repeat (first | with_reducible exact hB | with_reducible refine Below.drew ?_ | with_reducible refine Below.setCell ?_ hNB _ | with_reducible refine below_setRow ?_ hNB _ | with_reducible refine bal ?_ _)) hb; clear hb)) | (go_at_call 37; ((with_reducible refine (bc_37 _  _).mono ?_); rintro e w' ⟨rfl, hb⟩; have hB := bnext (a := w) (by repeat (first | with_reducible exact hB | with_reducible refine Below.drew ?_ | with_reducible refine Below.setCell ?_ hNB _ | with_reducible refine below_setRow ?_ hNB _ | with_reducible refine bal ?_ _)) hb; clear hb)) | (go_at_call 78; ((with_reducible refine (bc_78  _).mono ?_); rintro e w' ⟨rfl, hb⟩; have hB := bnext (a := w) (by repeat (first | with_reducible exact hB | with_reducible refine Below.drew ?_ | with_reducible refine Below.setCell ?_ hNB _ | with_reducible refine below_setRow ?_ hNB _ | with_reducible refine bal ?_ _)) hb; clear hb)) | (go_at_call 103; ((with_reducible refine (bsm_PtrInt  _).mono ?_); rintro e w' ⟨rfl, hb⟩; have hB := bnext (a := w) (by repeat (first | with_reducible exact hB | with_reducible refine Below.drew ?_ | with_reducible refine Below.setCell ?_ hNB _ | with_reducible refine below_setRow ?_ hNB _ | with_reducible refine bal ?_ _)) hb; clear hb)) | (go_at_call 103; ((with_reducible refine (bsm_Nil  _).mono ?_); rintro e w' ⟨rfl, hb⟩; have hB := bnext (a := w) (by repeat (first | with_reducible exact hB | with_reducible refine Below.drew ?_ | with_reducible refine Below.setCell ?_ hNB _ | with_reducible refine below_setRow ?_ hNB _ | with_reducible refine bal ?_ _)) hb; clear hb)) | (go_at_call 39; ((with_reducible refine (bc_39 _).mono ?_); rintro e u1 ⟨rfl, hb⟩; have hB := bnext (a := w) (by repeat (first | with_reducible exact hB | with_reducible refine Below.drew ?_ | with_reducible refine Below.setCell ?_ hNB _ | with_reducible refine below_setRow ?_ hNB _ | with_reducible refine bal ?_ _)) hb; clear hb; have hNB : w.heap.size ≤ u1.heap.size := hB.size)) | (go_at_call 52; ((with_reducible refine (bc_52 _).mono ?_); rintro e u2 ⟨rfl, hb⟩; obtain ⟨hP, hC, hL⟩ := nk hb; have hB := bnext (a := w) (by repeat (first | with_reducible exact hB | with_reducible refine Below.drew ?_ | with_reducible refine Below.setCell ?_ hNB _ | with_reducible refine below_setRow ?_ hNB _ | with_reducible refine bal ?_ _)) hb; clear hb)))
      go_ret
      exact ⟨rfl, (by repeat (first | with_reducible exact hB | with_reducible refine Below.drew ?_ | with_reducible refine Below.setCell ?_ hNB _ | with_reducible refine below_setRow ?_ hNB _ | with_reducible refine bal ?_ _))⟩
end Go.Proofs.YtjdnoaojjmejmaaGreat.fnNatureOfAgreesWithFromType
