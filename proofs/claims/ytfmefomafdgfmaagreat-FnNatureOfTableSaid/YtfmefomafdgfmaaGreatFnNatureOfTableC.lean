/-
  The contracts of FnNatureOfTable: The nature of a value of each of thirteen types is fixed by a complete table, with a cache, without one, and on a second call to the same cache.
-/
import Derived.Test.YtfmefomafdgfmaaGreatBase
import Derived.IntWalk
import Derived.OpenShut
import Derived.Deep.RegionWith
import Derived.RegionTactic
import Derived.ChangeAlike
import Derived.Deep.QuietTactic
import Derived.BigQuiet
import Derived.WalkSmall
import Derived.Outline
import Derived.Lib.Hide
import Derived.Test.YtfmefomafdgfmaaGreatKit2
namespace Go.Proofs.YtfmefomafdgfmaaGreat.fnNatureOfTable
open Go.RowKit
set_option maxRecDepth 100000
set_option maxHeartbeats 1000000
set_option linter.unusedVariables false
theorem bal {w v : World} (h : Below w.heap.size w v) (o : Obj) : Below w.heap.size w (v.alloc o) := h.alloc h.size o
theorem bdn {B : Nat} {a w : World} (h : Below B a w) (n : Nat) : Below B a (w.drewN n) := ⟨h.os, h.tape, h.output, h.size, h.block⟩
/-- the slice of integers 'v' reads as 'zs' up to its capacity, or is nil -/
def IntsIn (w : World) (k : IntKind) (v : Value) : Prop := v = .slice none 0 0 ∨ ∃ (a : Addr) (len cap : Nat) (zs : List Int), v = .slice (some a) len cap ∧ len ≤ cap ∧ cap ≤ maxLen ∧ zs.length = cap ∧ (∀ i, i < zs.length → w.cell? (a.add i) = some (.int k (zs.getD i 0))) ∧ (∀ n ∈ zs, (Lit.int k n).wf = true)
/-- the slice of strings 'v' reads as 'ss' up to its capacity, or is nil -/
def StrsIn (w : World) (v : Value) : Prop := v = .slice none 0 0 ∨ ∃ (a : Addr) (len cap : Nat) (ss : List ByteArray), v = .slice (some a) len cap ∧ len ≤ cap ∧ cap ≤ maxLen ∧ ss.length = cap ∧ (∀ i, i < ss.length → w.cell? (a.add i) = some (.string (ss.getD i ByteArray.empty))) ∧ (∀ s ∈ ss, s.size ≤ maxLen)
/-- the pointer 'v' is nil or points at an integer -/
def PtrIn (w : World) (k : IntKind) (v : Value) : Prop := v = .pointer none ∨ ∃ b off n, v = .pointer (some ⟨b, off, none⟩) ∧ w.cell? ⟨b, off, none⟩ = some (.int k n) ∧ (Lit.int k n).wf = true
@[go_sem] theorem kind_2 (w : World) : (callFunc 190 #[.pointer (some ⟨0, 2, none⟩)]).run Tryz.prog w = .ok (.value (.int .u64 6)) w := by kernel_rfl

@[go_sem] theorem kind_5 (w : World) : (callFunc 190 #[.pointer (some ⟨0, 5, none⟩)]).run Tryz.prog w = .ok (.value (.int .u64 8)) w := by kernel_rfl

@[go_sem] theorem kind_26 (w : World) : (callFunc 190 #[.pointer (some ⟨0, 26, none⟩)]).run Tryz.prog w = .ok (.value (.int .u64 13)) w := by kernel_rfl

@[go_sem] theorem kind_9 (w : World) : (callFunc 190 #[.pointer (some ⟨0, 9, none⟩)]).run Tryz.prog w = .ok (.value (.int .u64 24)) w := by kernel_rfl

@[go_sem] theorem kind_4 (w : World) : (callFunc 190 #[.pointer (some ⟨0, 4, none⟩)]).run Tryz.prog w = .ok (.value (.int .u64 1)) w := by kernel_rfl

@[go_sem] theorem kind_107 (w : World) : (callFunc 190 #[.pointer (some ⟨0, 107, none⟩)]).run Tryz.prog w = .ok (.value (.int .u64 2)) w := by kernel_rfl

@[go_sem] theorem kind_3 (w : World) : (callFunc 190 #[.pointer (some ⟨0, 3, none⟩)]).run Tryz.prog w = .ok (.value (.int .u64 2)) w := by kernel_rfl

@[go_sem] theorem kind_94 (w : World) : (callFunc 190 #[.pointer (some ⟨0, 94, none⟩)]).run Tryz.prog w = .ok (.value (.int .u64 23)) w := by kernel_rfl

@[go_sem] theorem kind_108 (w : World) : (callFunc 190 #[.pointer (some ⟨0, 108, none⟩)]).run Tryz.prog w = .ok (.value (.int .u64 21)) w := by kernel_rfl

@[go_sem] theorem kind_109 (w : World) : (callFunc 190 #[.pointer (some ⟨0, 109, none⟩)]).run Tryz.prog w = .ok (.value (.int .u64 22)) w := by kernel_rfl

@[go_sem] theorem kind_12 (w : World) : (callFunc 190 #[.pointer (some ⟨0, 12, none⟩)]).run Tryz.prog w = .ok (.value (.int .u64 12)) w := by kernel_rfl

@[go_sem] theorem kind_27 (w : World) : (callFunc 190 #[.pointer (some ⟨0, 27, none⟩)]).run Tryz.prog w = .ok (.value (.int .u64 14)) w := by kernel_rfl

@[go_sem] theorem kind_111 (w : World) : (callFunc 190 #[.pointer (some ⟨0, 111, none⟩)]).run Tryz.prog w = .ok (.value (.int .u64 25)) w := by kernel_rfl

theorem bi_2  (w : World)  : Calls Tryz.prog 81 #[.iface 124 (.pointer (some ⟨0, 2, none⟩))] w fun e w' => e = .returned (Value.bool true) ∧ (w) = w' := by
  go_enter Tryz.func81, Tryz.ntmps81
  go_wp2
  exact bodyPost_ret (v := (Value.bool true)) (by simp [results, Tryz.results81, go_sem]) rfl ⟨rfl, rfl⟩

theorem bi_5  (w : World)  : Calls Tryz.prog 81 #[.iface 124 (.pointer (some ⟨0, 5, none⟩))] w fun e w' => e = .returned (Value.bool true) ∧ (w) = w' := by
  go_enter Tryz.func81, Tryz.ntmps81
  go_wp2
  exact bodyPost_ret (v := (Value.bool true)) (by simp [results, Tryz.results81, go_sem]) rfl ⟨rfl, rfl⟩

theorem bf_26  (w : World)  : Calls Tryz.prog 82 #[.iface 124 (.pointer (some ⟨0, 26, none⟩))] w fun e w' => e = .returned (Value.bool true) ∧ (w) = w' := by
  go_enter Tryz.func82, Tryz.ntmps82
  go_wp2
  exact bodyPost_ret (v := (Value.bool true)) (by simp [results, Tryz.results82, go_sem]) rfl ⟨rfl, rfl⟩

theorem bi_107  (w : World)  : Calls Tryz.prog 81 #[.iface 124 (.pointer (some ⟨0, 107, none⟩))] w fun e w' => e = .returned (Value.bool false) ∧ (w) = w' := by
  go_enter Tryz.func81, Tryz.ntmps81
  go_wp2
  exact bodyPost_ret (v := (Value.bool false)) (by simp [results, Tryz.results81, go_sem]) rfl ⟨rfl, rfl⟩

theorem bi_3  (w : World)  : Calls Tryz.prog 81 #[.iface 124 (.pointer (some ⟨0, 3, none⟩))] w fun e w' => e = .returned (Value.bool true) ∧ (w) = w' := by
  go_enter Tryz.func81, Tryz.ntmps81
  go_wp2
  exact bodyPost_ret (v := (Value.bool true)) (by simp [results, Tryz.results81, go_sem]) rfl ⟨rfl, rfl⟩

theorem bi_12  (w : World)  : Calls Tryz.prog 81 #[.iface 124 (.pointer (some ⟨0, 12, none⟩))] w fun e w' => e = .returned (Value.bool true) ∧ (w) = w' := by
  go_enter Tryz.func81, Tryz.ntmps81
  go_wp2
  exact bodyPost_ret (v := (Value.bool true)) (by simp [results, Tryz.results81, go_sem]) rfl ⟨rfl, rfl⟩

theorem bf_27  (w : World)  : Calls Tryz.prog 82 #[.iface 124 (.pointer (some ⟨0, 27, none⟩))] w fun e w' => e = .returned (Value.bool true) ∧ (w) = w' := by
  go_enter Tryz.func82, Tryz.ntmps82
  go_wp2
  exact bodyPost_ret (v := (Value.bool true)) (by simp [results, Tryz.results82, go_sem]) rfl ⟨rfl, rfl⟩

theorem from_9 (c : Option Addr) (w : World) : Calls Tryz.prog 45 #[.pointer c, .iface 124 (.pointer (some ⟨0, 9, none⟩))] w fun e w' => e = .returned (.agg #[.iface 124 (.pointer (some ⟨0, 9, none⟩)), .int .u64 24, .pointer none, .pointer none, .bool false, .bool false, .bool false, .bool false, .bool false]) ∧ w.alloc (.cells #[.iface 124 (.pointer (some ⟨0, 9, none⟩)), .int .u64 24, .pointer none, .pointer none, .bool false, .bool false, .bool false, .bool false, .bool false] 47) = w' :=
  from_plain c 9 24 kind_9 rfl rfl rfl rfl rfl rfl rfl rfl rfl rfl rfl rfl rfl rfl rfl w

theorem from_4 (c : Option Addr) (w : World) : Calls Tryz.prog 45 #[.pointer c, .iface 124 (.pointer (some ⟨0, 4, none⟩))] w fun e w' => e = .returned (.agg #[.iface 124 (.pointer (some ⟨0, 4, none⟩)), .int .u64 1, .pointer none, .pointer none, .bool false, .bool false, .bool false, .bool false, .bool false]) ∧ w.alloc (.cells #[.iface 124 (.pointer (some ⟨0, 4, none⟩)), .int .u64 1, .pointer none, .pointer none, .bool false, .bool false, .bool false, .bool false, .bool false] 47) = w' :=
  from_plain c 4 1 kind_4 rfl rfl rfl rfl rfl rfl rfl rfl rfl rfl rfl rfl rfl rfl rfl w

theorem from_94 (c : Option Addr) (w : World) : Calls Tryz.prog 45 #[.pointer c, .iface 124 (.pointer (some ⟨0, 94, none⟩))] w fun e w' => e = .returned (.agg #[.iface 124 (.pointer (some ⟨0, 94, none⟩)), .int .u64 23, .pointer none, .pointer none, .bool false, .bool false, .bool false, .bool false, .bool false]) ∧ w.alloc (.cells #[.iface 124 (.pointer (some ⟨0, 94, none⟩)), .int .u64 23, .pointer none, .pointer none, .bool false, .bool false, .bool false, .bool false, .bool false] 47) = w' :=
  from_plain c 94 23 kind_94 rfl rfl rfl rfl rfl rfl rfl rfl rfl rfl rfl rfl rfl rfl rfl w

theorem from_108 (c : Option Addr) (w : World) : Calls Tryz.prog 45 #[.pointer c, .iface 124 (.pointer (some ⟨0, 108, none⟩))] w fun e w' => e = .returned (.agg #[.iface 124 (.pointer (some ⟨0, 108, none⟩)), .int .u64 21, .pointer none, .pointer none, .bool false, .bool false, .bool false, .bool false, .bool false]) ∧ w.alloc (.cells #[.iface 124 (.pointer (some ⟨0, 108, none⟩)), .int .u64 21, .pointer none, .pointer none, .bool false, .bool false, .bool false, .bool false, .bool false] 47) = w' :=
  from_plain c 108 21 kind_108 rfl rfl rfl rfl rfl rfl rfl rfl rfl rfl rfl rfl rfl rfl rfl w

theorem from_109 (c : Option Addr) (w : World) : Calls Tryz.prog 45 #[.pointer c, .iface 124 (.pointer (some ⟨0, 109, none⟩))] w fun e w' => e = .returned (.agg #[.iface 124 (.pointer (some ⟨0, 109, none⟩)), .int .u64 22, .pointer none, .pointer none, .bool false, .bool false, .bool false, .bool false, .bool false]) ∧ w.alloc (.cells #[.iface 124 (.pointer (some ⟨0, 109, none⟩)), .int .u64 22, .pointer none, .pointer none, .bool false, .bool false, .bool false, .bool false, .bool false] 47) = w' :=
  from_plain c 109 22 kind_109 rfl rfl rfl rfl rfl rfl rfl rfl rfl rfl rfl rfl rfl rfl rfl w

theorem from_2 (c : Option Addr) (w : World)  : Calls Tryz.prog 45 #[.pointer c, .iface 124 (.pointer (some ⟨0, 2, none⟩))] w fun e w' => e = .returned (Value.agg #[Value.iface 124 (Value.pointer (some { block := 0, off := 2 })), Value.int IntKind.u64 6, Value.pointer none, Value.pointer none, Value.bool false, Value.bool false, Value.bool false, Value.bool true, Value.bool false]) ∧ (w.alloc (Obj.cells #[Value.iface 124 (Value.pointer (some { block := 0, off := 2 })), Value.int IntKind.u64 6, Value.pointer none, Value.pointer none, Value.bool false, Value.bool false, Value.bool false, Value.bool true, Value.bool false] 47)) = w' := by
  go_enter Tryz.func45, Tryz.ntmps45
  go_wp2_with (first | (go_at_call 81; ((with_reducible refine (bi_2 _).mono ?_); rintro e w' ⟨rfl, rfl⟩)))
  exact bodyPost_ret (v := (Value.agg #[Value.iface 124 (Value.pointer (some { block := 0, off := 2 })), Value.int IntKind.u64 6, Value.pointer none, Value.pointer none, Value.bool false, Value.bool false, Value.bool false, Value.bool true, Value.bool false])) (by simp [results, Tryz.results45, go_sem]) rfl ⟨rfl, rfl⟩

theorem from_5 (c : Option Addr) (w : World)  : Calls Tryz.prog 45 #[.pointer c, .iface 124 (.pointer (some ⟨0, 5, none⟩))] w fun e w' => e = .returned (Value.agg #[Value.iface 124 (Value.pointer (some { block := 0, off := 5 })), Value.int IntKind.u64 8, Value.pointer none, Value.pointer none, Value.bool false, Value.bool false, Value.bool false, Value.bool true, Value.bool false]) ∧ (w.alloc (Obj.cells #[Value.iface 124 (Value.pointer (some { block := 0, off := 5 })), Value.int IntKind.u64 8, Value.pointer none, Value.pointer none, Value.bool false, Value.bool false, Value.bool false, Value.bool true, Value.bool false] 47)) = w' := by
  go_enter Tryz.func45, Tryz.ntmps45
  go_wp2_with (first | (go_at_call 81; ((with_reducible refine (bi_5 _).mono ?_); rintro e w' ⟨rfl, rfl⟩)))
  exact bodyPost_ret (v := (Value.agg #[Value.iface 124 (Value.pointer (some { block := 0, off := 5 })), Value.int IntKind.u64 8, Value.pointer none, Value.pointer none, Value.bool false, Value.bool false, Value.bool false, Value.bool true, Value.bool false])) (by simp [results, Tryz.results45, go_sem]) rfl ⟨rfl, rfl⟩

theorem from_26 (c : Option Addr) (w : World)  : Calls Tryz.prog 45 #[.pointer c, .iface 124 (.pointer (some ⟨0, 26, none⟩))] w fun e w' => e = .returned (Value.agg #[Value.iface 124 (Value.pointer (some { block := 0, off := 26 })), Value.int IntKind.u64 13, Value.pointer none, Value.pointer none, Value.bool false, Value.bool false, Value.bool false, Value.bool false, Value.bool true]) ∧ (w.alloc (Obj.cells #[Value.iface 124 (Value.pointer (some { block := 0, off := 26 })), Value.int IntKind.u64 13, Value.pointer none, Value.pointer none, Value.bool false, Value.bool false, Value.bool false, Value.bool false, Value.bool true] 47)) = w' := by
  go_enter Tryz.func45, Tryz.ntmps45
  go_wp2_with (first | (go_at_call 82; ((with_reducible refine (bf_26 _).mono ?_); rintro e w' ⟨rfl, rfl⟩)))
  exact bodyPost_ret (v := (Value.agg #[Value.iface 124 (Value.pointer (some { block := 0, off := 26 })), Value.int IntKind.u64 13, Value.pointer none, Value.pointer none, Value.bool false, Value.bool false, Value.bool false, Value.bool false, Value.bool true])) (by simp [results, Tryz.results45, go_sem]) rfl ⟨rfl, rfl⟩

theorem from_107 (c : Option Addr) (w : World)  : Calls Tryz.prog 45 #[.pointer c, .iface 124 (.pointer (some ⟨0, 107, none⟩))] w fun e w' => e = .returned (Value.agg #[Value.iface 124 (Value.pointer (some { block := 0, off := 107 })), Value.int IntKind.u64 2, Value.pointer none, Value.pointer none, Value.bool false, Value.bool false, Value.bool false, Value.bool false, Value.bool false]) ∧ (w.alloc (Obj.cells #[Value.iface 124 (Value.pointer (some { block := 0, off := 107 })), Value.int IntKind.u64 2, Value.pointer none, Value.pointer none, Value.bool false, Value.bool false, Value.bool false, Value.bool false, Value.bool false] 47)) = w' := by
  go_enter Tryz.func45, Tryz.ntmps45
  go_wp2_with (first | (go_at_call 81; ((with_reducible refine (bi_107 _).mono ?_); rintro e w' ⟨rfl, rfl⟩)))
  exact bodyPost_ret (v := (Value.agg #[Value.iface 124 (Value.pointer (some { block := 0, off := 107 })), Value.int IntKind.u64 2, Value.pointer none, Value.pointer none, Value.bool false, Value.bool false, Value.bool false, Value.bool false, Value.bool false])) (by simp [results, Tryz.results45, go_sem]) rfl ⟨rfl, rfl⟩

theorem from_3 (c : Option Addr) (w : World)  : Calls Tryz.prog 45 #[.pointer c, .iface 124 (.pointer (some ⟨0, 3, none⟩))] w fun e w' => e = .returned (Value.agg #[Value.iface 124 (Value.pointer (some { block := 0, off := 3 })), Value.int IntKind.u64 2, Value.pointer none, Value.pointer none, Value.bool false, Value.bool false, Value.bool false, Value.bool true, Value.bool false]) ∧ (w.alloc (Obj.cells #[Value.iface 124 (Value.pointer (some { block := 0, off := 3 })), Value.int IntKind.u64 2, Value.pointer none, Value.pointer none, Value.bool false, Value.bool false, Value.bool false, Value.bool true, Value.bool false] 47)) = w' := by
  go_enter Tryz.func45, Tryz.ntmps45
  go_wp2_with (first | (go_at_call 81; ((with_reducible refine (bi_3 _).mono ?_); rintro e w' ⟨rfl, rfl⟩)))
  exact bodyPost_ret (v := (Value.agg #[Value.iface 124 (Value.pointer (some { block := 0, off := 3 })), Value.int IntKind.u64 2, Value.pointer none, Value.pointer none, Value.bool false, Value.bool false, Value.bool false, Value.bool true, Value.bool false])) (by simp [results, Tryz.results45, go_sem]) rfl ⟨rfl, rfl⟩

theorem from_12 (c : Option Addr) (w : World)  : Calls Tryz.prog 45 #[.pointer c, .iface 124 (.pointer (some ⟨0, 12, none⟩))] w fun e w' => e = .returned (Value.agg #[Value.iface 124 (Value.pointer (some { block := 0, off := 12 })), Value.int IntKind.u64 12, Value.pointer none, Value.pointer none, Value.bool false, Value.bool false, Value.bool false, Value.bool true, Value.bool false]) ∧ (w.alloc (Obj.cells #[Value.iface 124 (Value.pointer (some { block := 0, off := 12 })), Value.int IntKind.u64 12, Value.pointer none, Value.pointer none, Value.bool false, Value.bool false, Value.bool false, Value.bool true, Value.bool false] 47)) = w' := by
  go_enter Tryz.func45, Tryz.ntmps45
  go_wp2_with (first | (go_at_call 81; ((with_reducible refine (bi_12 _).mono ?_); rintro e w' ⟨rfl, rfl⟩)))
  exact bodyPost_ret (v := (Value.agg #[Value.iface 124 (Value.pointer (some { block := 0, off := 12 })), Value.int IntKind.u64 12, Value.pointer none, Value.pointer none, Value.bool false, Value.bool false, Value.bool false, Value.bool true, Value.bool false])) (by simp [results, Tryz.results45, go_sem]) rfl ⟨rfl, rfl⟩

theorem from_27 (c : Option Addr) (w : World)  : Calls Tryz.prog 45 #[.pointer c, .iface 124 (.pointer (some ⟨0, 27, none⟩))] w fun e w' => e = .returned (Value.agg #[Value.iface 124 (Value.pointer (some { block := 0, off := 27 })), Value.int IntKind.u64 14, Value.pointer none, Value.pointer none, Value.bool false, Value.bool false, Value.bool false, Value.bool false, Value.bool true]) ∧ (w.alloc (Obj.cells #[Value.iface 124 (Value.pointer (some { block := 0, off := 27 })), Value.int IntKind.u64 14, Value.pointer none, Value.pointer none, Value.bool false, Value.bool false, Value.bool false, Value.bool false, Value.bool true] 47)) = w' := by
  go_enter Tryz.func45, Tryz.ntmps45
  go_wp2_with (first | (go_at_call 82; ((with_reducible refine (bf_27 _).mono ?_); rintro e w' ⟨rfl, rfl⟩)))
  exact bodyPost_ret (v := (Value.agg #[Value.iface 124 (Value.pointer (some { block := 0, off := 27 })), Value.int IntKind.u64 14, Value.pointer none, Value.pointer none, Value.bool false, Value.bool false, Value.bool false, Value.bool false, Value.bool true])) (by simp [results, Tryz.results45, go_sem]) rfl ⟨rfl, rfl⟩

theorem from_111  (w : World)  : Calls Tryz.prog 45 #[.pointer none, .iface 124 (.pointer (some ⟨0, 111, none⟩))] w fun e w' => e = .returned (Value.agg #[Value.iface 124 (Value.pointer (some { block := 0, off := 111 })), Value.int IntKind.u64 25, Value.pointer (some { block := w.heap.size + 1, off := 0 }), Value.pointer none, Value.bool false, Value.bool false, Value.bool false, Value.bool false, Value.bool false]) ∧ ((w.alloc (Obj.cells #[Value.iface 124 (Value.pointer (some { block := 0, off := 111 })), Value.int IntKind.u64 25, Value.pointer (some { block := w.heap.size + 1, off := 0 }), Value.pointer none, Value.bool false, Value.bool false, Value.bool false, Value.bool false, Value.bool false] 47)).alloc (Obj.cells #[Value.pointer none, Value.pointer none, Value.map none, Value.pointer none, Value.pointer none, Value.int IntKind.i64 0, Value.pointer none, Value.pointer none, Value.int IntKind.i64 0, Value.int IntKind.i64 0, Value.bool false, Value.bool false, Value.bool false, Value.bool false] 56)) = w' := by
  go_enter Tryz.func45, Tryz.ntmps45
  go_wp2
  exact bodyPost_ret (v := (Value.agg #[Value.iface 124 (Value.pointer (some { block := 0, off := 111 })), Value.int IntKind.u64 25, Value.pointer (some { block := w.heap.size + 1, off := 0 }), Value.pointer none, Value.bool false, Value.bool false, Value.bool false, Value.bool false, Value.bool false])) (by simp [results, Tryz.results45, go_sem]) rfl ⟨rfl, rfl⟩

@[go_sem] theorem str_2 (w : World) : (callFunc 208 #[.pointer (some ⟨0, 2, none⟩)]).run Tryz.prog w = .ok (.value (.string ⟨#[105, 110, 116, 54, 52]⟩)) w := by kernel_rfl

@[go_sem] theorem str_5 (w : World) : (callFunc 208 #[.pointer (some ⟨0, 5, none⟩)]).run Tryz.prog w = .ok (.value (.string ⟨#[117, 105, 110, 116, 56]⟩)) w := by kernel_rfl

@[go_sem] theorem str_26 (w : World) : (callFunc 208 #[.pointer (some ⟨0, 26, none⟩)]).run Tryz.prog w = .ok (.value (.string ⟨#[102, 108, 111, 97, 116, 51, 50]⟩)) w := by kernel_rfl

@[go_sem] theorem str_9 (w : World) : (callFunc 208 #[.pointer (some ⟨0, 9, none⟩)]).run Tryz.prog w = .ok (.value (.string ⟨#[115, 116, 114, 105, 110, 103]⟩)) w := by kernel_rfl

@[go_sem] theorem str_4 (w : World) : (callFunc 208 #[.pointer (some ⟨0, 4, none⟩)]).run Tryz.prog w = .ok (.value (.string ⟨#[98, 111, 111, 108]⟩)) w := by kernel_rfl

@[go_sem] theorem str_107 (w : World) : (callFunc 208 #[.pointer (some ⟨0, 107, none⟩)]).run Tryz.prog w = .ok (.value (.string ⟨#[122, 122, 108, 97, 119, 115, 46, 122, 122, 77, 121, 73, 110, 116]⟩)) w := by kernel_rfl

@[go_sem] theorem str_3 (w : World) : (callFunc 208 #[.pointer (some ⟨0, 3, none⟩)]).run Tryz.prog w = .ok (.value (.string ⟨#[105, 110, 116]⟩)) w := by kernel_rfl

@[go_sem] theorem str_94 (w : World) : (callFunc 208 #[.pointer (some ⟨0, 94, none⟩)]).run Tryz.prog w = .ok (.value (.string ⟨#[91, 93, 105, 110, 116]⟩)) w := by kernel_rfl

@[go_sem] theorem str_108 (w : World) : (callFunc 208 #[.pointer (some ⟨0, 108, none⟩)]).run Tryz.prog w = .ok (.value (.string ⟨#[109, 97, 112, 91, 115, 116, 114, 105, 110, 103, 93, 98, 111, 111, 108]⟩)) w := by kernel_rfl

@[go_sem] theorem str_109 (w : World) : (callFunc 208 #[.pointer (some ⟨0, 109, none⟩)]).run Tryz.prog w = .ok (.value (.string ⟨#[42, 105, 110, 116, 54, 52]⟩)) w := by kernel_rfl

@[go_sem] theorem str_12 (w : World) : (callFunc 208 #[.pointer (some ⟨0, 12, none⟩)]).run Tryz.prog w = .ok (.value (.string ⟨#[117, 105, 110, 116, 112, 116, 114]⟩)) w := by kernel_rfl

@[go_sem] theorem str_27 (w : World) : (callFunc 208 #[.pointer (some ⟨0, 27, none⟩)]).run Tryz.prog w = .ok (.value (.string ⟨#[102, 108, 111, 97, 116, 54, 52]⟩)) w := by kernel_rfl

@[go_sem] theorem str_111 (w : World) : (callFunc 208 #[.pointer (some ⟨0, 111, none⟩)]).run Tryz.prog w = .ok (.value (.string ⟨#[122, 122, 108, 97, 119, 115, 46, 122, 122, 80, 111, 105, 110, 116]⟩)) w := by kernel_rfl

@[go_sem] theorem su_108 (r : Nat) (k : ByteArray) (v : Value) (w : World) (h : strOk (mapAt w r) = true) (hn : strLook (mapAt w r) k = none) : (Instr.mapUpdate 108 (.map (some r)) (.string k) v).run Tryz.prog w = .ok () (put w r (mapPush (mapAt w r) (.string k) v)) :=
  upd_str Tryz.underlying108 Tryz.underlying9 h hn
theorem conv0 (f : Nat) (w : World) : (convert 26 27 (.float .f32 f)).run Tryz.prog w = (Conv.floatToFloat .f32 f .f64).run Tryz.prog w := by kernel_rfl
theorem choose_run (q : Question) (w : World) : ∃ y u, (choose q).run Tryz.prog w = .ok y u ∧ (u = w ∨ u = w.drew) := by
  rw [run_choose_drew]
  split
  · exact ⟨_, _, rfl, Or.inl rfl⟩
  · exact ⟨_, _, rfl, Or.inr rfl⟩
theorem conv_run (f : Nat) (w : World) : ∃ y u, (convert 26 27 (.float .f32 f)).run Tryz.prog w = .ok (.float .f64 y) u ∧ (u = w ∨ u = w.drew) := by
  rw [conv0]
  unfold Conv.floatToFloat
  rw [if_neg (by decide)]
  split
  · obtain ⟨y, u, h, hu⟩ := choose_run (.nanConv .f64 f) w
    exact ⟨y, u, by simp only [Sem.run_bind, h, Result.andThen_ok, Sem.run_pure], hu⟩
  · exact ⟨_, w, rfl, Or.inl rfl⟩
  · dsimp only
    split
    · obtain ⟨y, u, h, hu⟩ := choose_run (.floatToFloat f) w
      exact ⟨y, u, by simp only [Sem.run_bind, h, Result.andThen_ok, Sem.run_pure], hu⟩
    · exact ⟨_, w, rfl, Or.inl rfl⟩

theorem ncc_2 (c : Option Addr) (x : Value) (w : World)  : Calls Tryz.prog 79 #[.pointer c, .iface 2 x] w fun e w' => e = .returned (Value.agg #[Value.iface 124 (Value.pointer (some { block := 0, off := 2 })), Value.int IntKind.u64 6, Value.pointer none, Value.pointer none, Value.bool false, Value.bool false, Value.bool false, Value.bool true, Value.bool false]) ∧ ((w.alloc (Obj.cells #[Value.iface 124 (Value.pointer (some { block := 0, off := 2 })), Value.int IntKind.u64 6, Value.pointer none, Value.pointer none, Value.bool false, Value.bool false, Value.bool false, Value.bool true, Value.bool false] 47)).alloc (Obj.cells #[Value.iface 124 (Value.pointer (some { block := 0, off := 2 })), Value.int IntKind.u64 6, Value.pointer none, Value.pointer none, Value.bool false, Value.bool false, Value.bool false, Value.bool true, Value.bool false] 47)) = w' := by
  go_enter Tryz.func79, Tryz.ntmps79
  go_wp2_with (first | (go_at_call 45; ((with_reducible refine (from_2 _ _).mono ?_); rintro e w' ⟨rfl, rfl⟩)))
  exact bodyPost_ret (v := (Value.agg #[Value.iface 124 (Value.pointer (some { block := 0, off := 2 })), Value.int IntKind.u64 6, Value.pointer none, Value.pointer none, Value.bool false, Value.bool false, Value.bool false, Value.bool true, Value.bool false])) (by simp [results, Tryz.results79, go_sem]) rfl ⟨rfl, rfl⟩

theorem ncc_5 (c : Option Addr) (x : Value) (w : World)  : Calls Tryz.prog 79 #[.pointer c, .iface 5 x] w fun e w' => e = .returned (Value.agg #[Value.iface 124 (Value.pointer (some { block := 0, off := 5 })), Value.int IntKind.u64 8, Value.pointer none, Value.pointer none, Value.bool false, Value.bool false, Value.bool false, Value.bool true, Value.bool false]) ∧ ((w.alloc (Obj.cells #[Value.iface 124 (Value.pointer (some { block := 0, off := 5 })), Value.int IntKind.u64 8, Value.pointer none, Value.pointer none, Value.bool false, Value.bool false, Value.bool false, Value.bool true, Value.bool false] 47)).alloc (Obj.cells #[Value.iface 124 (Value.pointer (some { block := 0, off := 5 })), Value.int IntKind.u64 8, Value.pointer none, Value.pointer none, Value.bool false, Value.bool false, Value.bool false, Value.bool true, Value.bool false] 47)) = w' := by
  go_enter Tryz.func79, Tryz.ntmps79
  go_wp2_with (first | (go_at_call 45; ((with_reducible refine (from_5 _ _).mono ?_); rintro e w' ⟨rfl, rfl⟩)))
  exact bodyPost_ret (v := (Value.agg #[Value.iface 124 (Value.pointer (some { block := 0, off := 5 })), Value.int IntKind.u64 8, Value.pointer none, Value.pointer none, Value.bool false, Value.bool false, Value.bool false, Value.bool true, Value.bool false])) (by simp [results, Tryz.results79, go_sem]) rfl ⟨rfl, rfl⟩

theorem ncc_26 (c : Option Addr) (x : Value) (w : World)  : Calls Tryz.prog 79 #[.pointer c, .iface 26 x] w fun e w' => e = .returned (Value.agg #[Value.iface 124 (Value.pointer (some { block := 0, off := 26 })), Value.int IntKind.u64 13, Value.pointer none, Value.pointer none, Value.bool false, Value.bool false, Value.bool false, Value.bool false, Value.bool true]) ∧ ((w.alloc (Obj.cells #[Value.iface 124 (Value.pointer (some { block := 0, off := 26 })), Value.int IntKind.u64 13, Value.pointer none, Value.pointer none, Value.bool false, Value.bool false, Value.bool false, Value.bool false, Value.bool true] 47)).alloc (Obj.cells #[Value.iface 124 (Value.pointer (some { block := 0, off := 26 })), Value.int IntKind.u64 13, Value.pointer none, Value.pointer none, Value.bool false, Value.bool false, Value.bool false, Value.bool false, Value.bool true] 47)) = w' := by
  go_enter Tryz.func79, Tryz.ntmps79
  go_wp2_with (first | (go_at_call 45; ((with_reducible refine (from_26 _ _).mono ?_); rintro e w' ⟨rfl, rfl⟩)))
  exact bodyPost_ret (v := (Value.agg #[Value.iface 124 (Value.pointer (some { block := 0, off := 26 })), Value.int IntKind.u64 13, Value.pointer none, Value.pointer none, Value.bool false, Value.bool false, Value.bool false, Value.bool false, Value.bool true])) (by simp [results, Tryz.results79, go_sem]) rfl ⟨rfl, rfl⟩

theorem ncc_9 (c : Option Addr) (x : Value) (w : World)  : Calls Tryz.prog 79 #[.pointer c, .iface 9 x] w fun e w' => e = .returned (Value.agg #[Value.iface 124 (Value.pointer (some { block := 0, off := 9 })), Value.int IntKind.u64 24, Value.pointer none, Value.pointer none, Value.bool false, Value.bool false, Value.bool false, Value.bool false, Value.bool false]) ∧ ((w.alloc (Obj.cells #[Value.iface 124 (Value.pointer (some { block := 0, off := 9 })), Value.int IntKind.u64 24, Value.pointer none, Value.pointer none, Value.bool false, Value.bool false, Value.bool false, Value.bool false, Value.bool false] 47)).alloc (Obj.cells #[Value.iface 124 (Value.pointer (some { block := 0, off := 9 })), Value.int IntKind.u64 24, Value.pointer none, Value.pointer none, Value.bool false, Value.bool false, Value.bool false, Value.bool false, Value.bool false] 47)) = w' := by
  go_enter Tryz.func79, Tryz.ntmps79
  go_wp2_with (first | (go_at_call 45; ((with_reducible refine (from_9 _ _).mono ?_); rintro e w' ⟨rfl, rfl⟩)))
  exact bodyPost_ret (v := (Value.agg #[Value.iface 124 (Value.pointer (some { block := 0, off := 9 })), Value.int IntKind.u64 24, Value.pointer none, Value.pointer none, Value.bool false, Value.bool false, Value.bool false, Value.bool false, Value.bool false])) (by simp [results, Tryz.results79, go_sem]) rfl ⟨rfl, rfl⟩

theorem ncc_4 (c : Option Addr) (x : Value) (w : World)  : Calls Tryz.prog 79 #[.pointer c, .iface 4 x] w fun e w' => e = .returned (Value.agg #[Value.iface 124 (Value.pointer (some { block := 0, off := 4 })), Value.int IntKind.u64 1, Value.pointer none, Value.pointer none, Value.bool false, Value.bool false, Value.bool false, Value.bool false, Value.bool false]) ∧ ((w.alloc (Obj.cells #[Value.iface 124 (Value.pointer (some { block := 0, off := 4 })), Value.int IntKind.u64 1, Value.pointer none, Value.pointer none, Value.bool false, Value.bool false, Value.bool false, Value.bool false, Value.bool false] 47)).alloc (Obj.cells #[Value.iface 124 (Value.pointer (some { block := 0, off := 4 })), Value.int IntKind.u64 1, Value.pointer none, Value.pointer none, Value.bool false, Value.bool false, Value.bool false, Value.bool false, Value.bool false] 47)) = w' := by
  go_enter Tryz.func79, Tryz.ntmps79
  go_wp2_with (first | (go_at_call 45; ((with_reducible refine (from_4 _ _).mono ?_); rintro e w' ⟨rfl, rfl⟩)))
  exact bodyPost_ret (v := (Value.agg #[Value.iface 124 (Value.pointer (some { block := 0, off := 4 })), Value.int IntKind.u64 1, Value.pointer none, Value.pointer none, Value.bool false, Value.bool false, Value.bool false, Value.bool false, Value.bool false])) (by simp [results, Tryz.results79, go_sem]) rfl ⟨rfl, rfl⟩

theorem ncc_107 (c : Option Addr) (x : Value) (w : World)  : Calls Tryz.prog 79 #[.pointer c, .iface 107 x] w fun e w' => e = .returned (Value.agg #[Value.iface 124 (Value.pointer (some { block := 0, off := 107 })), Value.int IntKind.u64 2, Value.pointer none, Value.pointer none, Value.bool false, Value.bool false, Value.bool false, Value.bool false, Value.bool false]) ∧ ((w.alloc (Obj.cells #[Value.iface 124 (Value.pointer (some { block := 0, off := 107 })), Value.int IntKind.u64 2, Value.pointer none, Value.pointer none, Value.bool false, Value.bool false, Value.bool false, Value.bool false, Value.bool false] 47)).alloc (Obj.cells #[Value.iface 124 (Value.pointer (some { block := 0, off := 107 })), Value.int IntKind.u64 2, Value.pointer none, Value.pointer none, Value.bool false, Value.bool false, Value.bool false, Value.bool false, Value.bool false] 47)) = w' := by
  go_enter Tryz.func79, Tryz.ntmps79
  go_wp2_with (first | (go_at_call 45; ((with_reducible refine (from_107 _ _).mono ?_); rintro e w' ⟨rfl, rfl⟩)))
  exact bodyPost_ret (v := (Value.agg #[Value.iface 124 (Value.pointer (some { block := 0, off := 107 })), Value.int IntKind.u64 2, Value.pointer none, Value.pointer none, Value.bool false, Value.bool false, Value.bool false, Value.bool false, Value.bool false])) (by simp [results, Tryz.results79, go_sem]) rfl ⟨rfl, rfl⟩

theorem ncc_3 (c : Option Addr) (x : Value) (w : World)  : Calls Tryz.prog 79 #[.pointer c, .iface 3 x] w fun e w' => e = .returned (Value.agg #[Value.iface 124 (Value.pointer (some { block := 0, off := 3 })), Value.int IntKind.u64 2, Value.pointer none, Value.pointer none, Value.bool false, Value.bool false, Value.bool false, Value.bool true, Value.bool false]) ∧ ((w.alloc (Obj.cells #[Value.iface 124 (Value.pointer (some { block := 0, off := 3 })), Value.int IntKind.u64 2, Value.pointer none, Value.pointer none, Value.bool false, Value.bool false, Value.bool false, Value.bool true, Value.bool false] 47)).alloc (Obj.cells #[Value.iface 124 (Value.pointer (some { block := 0, off := 3 })), Value.int IntKind.u64 2, Value.pointer none, Value.pointer none, Value.bool false, Value.bool false, Value.bool false, Value.bool true, Value.bool false] 47)) = w' := by
  go_enter Tryz.func79, Tryz.ntmps79
  go_wp2_with (first | (go_at_call 45; ((with_reducible refine (from_3 _ _).mono ?_); rintro e w' ⟨rfl, rfl⟩)))
  exact bodyPost_ret (v := (Value.agg #[Value.iface 124 (Value.pointer (some { block := 0, off := 3 })), Value.int IntKind.u64 2, Value.pointer none, Value.pointer none, Value.bool false, Value.bool false, Value.bool false, Value.bool true, Value.bool false])) (by simp [results, Tryz.results79, go_sem]) rfl ⟨rfl, rfl⟩

theorem ncc_94 (c : Option Addr) (x : Value) (w : World)  : Calls Tryz.prog 79 #[.pointer c, .iface 94 x] w fun e w' => e = .returned (Value.agg #[Value.iface 124 (Value.pointer (some { block := 0, off := 94 })), Value.int IntKind.u64 23, Value.pointer none, Value.pointer none, Value.bool false, Value.bool false, Value.bool false, Value.bool false, Value.bool false]) ∧ ((w.alloc (Obj.cells #[Value.iface 124 (Value.pointer (some { block := 0, off := 94 })), Value.int IntKind.u64 23, Value.pointer none, Value.pointer none, Value.bool false, Value.bool false, Value.bool false, Value.bool false, Value.bool false] 47)).alloc (Obj.cells #[Value.iface 124 (Value.pointer (some { block := 0, off := 94 })), Value.int IntKind.u64 23, Value.pointer none, Value.pointer none, Value.bool false, Value.bool false, Value.bool false, Value.bool false, Value.bool false] 47)) = w' := by
  go_enter Tryz.func79, Tryz.ntmps79
  go_wp2_with (first | (go_at_call 45; ((with_reducible refine (from_94 _ _).mono ?_); rintro e w' ⟨rfl, rfl⟩)))
  exact bodyPost_ret (v := (Value.agg #[Value.iface 124 (Value.pointer (some { block := 0, off := 94 })), Value.int IntKind.u64 23, Value.pointer none, Value.pointer none, Value.bool false, Value.bool false, Value.bool false, Value.bool false, Value.bool false])) (by simp [results, Tryz.results79, go_sem]) rfl ⟨rfl, rfl⟩

theorem ncc_108 (c : Option Addr) (x : Value) (w : World)  : Calls Tryz.prog 79 #[.pointer c, .iface 108 x] w fun e w' => e = .returned (Value.agg #[Value.iface 124 (Value.pointer (some { block := 0, off := 108 })), Value.int IntKind.u64 21, Value.pointer none, Value.pointer none, Value.bool false, Value.bool false, Value.bool false, Value.bool false, Value.bool false]) ∧ ((w.alloc (Obj.cells #[Value.iface 124 (Value.pointer (some { block := 0, off := 108 })), Value.int IntKind.u64 21, Value.pointer none, Value.pointer none, Value.bool false, Value.bool false, Value.bool false, Value.bool false, Value.bool false] 47)).alloc (Obj.cells #[Value.iface 124 (Value.pointer (some { block := 0, off := 108 })), Value.int IntKind.u64 21, Value.pointer none, Value.pointer none, Value.bool false, Value.bool false, Value.bool false, Value.bool false, Value.bool false] 47)) = w' := by
  go_enter Tryz.func79, Tryz.ntmps79
  go_wp2_with (first | (go_at_call 45; ((with_reducible refine (from_108 _ _).mono ?_); rintro e w' ⟨rfl, rfl⟩)))
  exact bodyPost_ret (v := (Value.agg #[Value.iface 124 (Value.pointer (some { block := 0, off := 108 })), Value.int IntKind.u64 21, Value.pointer none, Value.pointer none, Value.bool false, Value.bool false, Value.bool false, Value.bool false, Value.bool false])) (by simp [results, Tryz.results79, go_sem]) rfl ⟨rfl, rfl⟩

theorem ncc_109 (c : Option Addr) (x : Value) (w : World)  : Calls Tryz.prog 79 #[.pointer c, .iface 109 x] w fun e w' => e = .returned (Value.agg #[Value.iface 124 (Value.pointer (some { block := 0, off := 109 })), Value.int IntKind.u64 22, Value.pointer none, Value.pointer none, Value.bool false, Value.bool false, Value.bool false, Value.bool false, Value.bool false]) ∧ ((w.alloc (Obj.cells #[Value.iface 124 (Value.pointer (some { block := 0, off := 109 })), Value.int IntKind.u64 22, Value.pointer none, Value.pointer none, Value.bool false, Value.bool false, Value.bool false, Value.bool false, Value.bool false] 47)).alloc (Obj.cells #[Value.iface 124 (Value.pointer (some { block := 0, off := 109 })), Value.int IntKind.u64 22, Value.pointer none, Value.pointer none, Value.bool false, Value.bool false, Value.bool false, Value.bool false, Value.bool false] 47)) = w' := by
  go_enter Tryz.func79, Tryz.ntmps79
  go_wp2_with (first | (go_at_call 45; ((with_reducible refine (from_109 _ _).mono ?_); rintro e w' ⟨rfl, rfl⟩)))
  exact bodyPost_ret (v := (Value.agg #[Value.iface 124 (Value.pointer (some { block := 0, off := 109 })), Value.int IntKind.u64 22, Value.pointer none, Value.pointer none, Value.bool false, Value.bool false, Value.bool false, Value.bool false, Value.bool false])) (by simp [results, Tryz.results79, go_sem]) rfl ⟨rfl, rfl⟩

theorem ncc_12 (c : Option Addr) (x : Value) (w : World)  : Calls Tryz.prog 79 #[.pointer c, .iface 12 x] w fun e w' => e = .returned (Value.agg #[Value.iface 124 (Value.pointer (some { block := 0, off := 12 })), Value.int IntKind.u64 12, Value.pointer none, Value.pointer none, Value.bool false, Value.bool false, Value.bool false, Value.bool true, Value.bool false]) ∧ ((w.alloc (Obj.cells #[Value.iface 124 (Value.pointer (some { block := 0, off := 12 })), Value.int IntKind.u64 12, Value.pointer none, Value.pointer none, Value.bool false, Value.bool false, Value.bool false, Value.bool true, Value.bool false] 47)).alloc (Obj.cells #[Value.iface 124 (Value.pointer (some { block := 0, off := 12 })), Value.int IntKind.u64 12, Value.pointer none, Value.pointer none, Value.bool false, Value.bool false, Value.bool false, Value.bool true, Value.bool false] 47)) = w' := by
  go_enter Tryz.func79, Tryz.ntmps79
  go_wp2_with (first | (go_at_call 45; ((with_reducible refine (from_12 _ _).mono ?_); rintro e w' ⟨rfl, rfl⟩)))
  exact bodyPost_ret (v := (Value.agg #[Value.iface 124 (Value.pointer (some { block := 0, off := 12 })), Value.int IntKind.u64 12, Value.pointer none, Value.pointer none, Value.bool false, Value.bool false, Value.bool false, Value.bool true, Value.bool false])) (by simp [results, Tryz.results79, go_sem]) rfl ⟨rfl, rfl⟩

theorem ncc_27 (c : Option Addr) (x : Value) (w : World)  : Calls Tryz.prog 79 #[.pointer c, .iface 27 x] w fun e w' => e = .returned (Value.agg #[Value.iface 124 (Value.pointer (some { block := 0, off := 27 })), Value.int IntKind.u64 14, Value.pointer none, Value.pointer none, Value.bool false, Value.bool false, Value.bool false, Value.bool false, Value.bool true]) ∧ ((w.alloc (Obj.cells #[Value.iface 124 (Value.pointer (some { block := 0, off := 27 })), Value.int IntKind.u64 14, Value.pointer none, Value.pointer none, Value.bool false, Value.bool false, Value.bool false, Value.bool false, Value.bool true] 47)).alloc (Obj.cells #[Value.iface 124 (Value.pointer (some { block := 0, off := 27 })), Value.int IntKind.u64 14, Value.pointer none, Value.pointer none, Value.bool false, Value.bool false, Value.bool false, Value.bool false, Value.bool true] 47)) = w' := by
  go_enter Tryz.func79, Tryz.ntmps79
  go_wp2_with (first | (go_at_call 45; ((with_reducible refine (from_27 _ _).mono ?_); rintro e w' ⟨rfl, rfl⟩)))
  exact bodyPost_ret (v := (Value.agg #[Value.iface 124 (Value.pointer (some { block := 0, off := 27 })), Value.int IntKind.u64 14, Value.pointer none, Value.pointer none, Value.bool false, Value.bool false, Value.bool false, Value.bool false, Value.bool true])) (by simp [results, Tryz.results79, go_sem]) rfl ⟨rfl, rfl⟩

theorem ncn_111 (x : Value) (w : World)  : Calls Tryz.prog 79 #[.pointer none, .iface 111 x] w fun e w' => e = .returned (Value.agg #[Value.iface 124 (Value.pointer (some { block := 0, off := 111 })), Value.int IntKind.u64 25, Value.pointer (some { block := w.heap.size + 1 + 1, off := 0 }), Value.pointer none, Value.bool false, Value.bool false, Value.bool false, Value.bool false, Value.bool false]) ∧ (((w.alloc (Obj.cells #[Value.iface 124 (Value.pointer (some { block := 0, off := 111 })), Value.int IntKind.u64 25, Value.pointer (some { block := w.heap.size + 1 + 1, off := 0 }), Value.pointer none, Value.bool false, Value.bool false, Value.bool false, Value.bool false, Value.bool false] 47)).alloc (Obj.cells #[Value.iface 124 (Value.pointer (some { block := 0, off := 111 })), Value.int IntKind.u64 25, Value.pointer (some { block := w.heap.size + 1 + 1, off := 0 }), Value.pointer none, Value.bool false, Value.bool false, Value.bool false, Value.bool false, Value.bool false] 47)).alloc (Obj.cells #[Value.pointer none, Value.pointer none, Value.map none, Value.pointer none, Value.pointer none, Value.int IntKind.i64 0, Value.pointer none, Value.pointer none, Value.int IntKind.i64 0, Value.int IntKind.i64 0, Value.bool false, Value.bool false, Value.bool false, Value.bool false] 56)) = w' := by
  go_enter Tryz.func79, Tryz.ntmps79
  go_wp2_with (first | (go_at_call 45; ((with_reducible refine (from_111 _).mono ?_); rintro e w' ⟨rfl, rfl⟩)))
  exact bodyPost_ret (v := (Value.agg #[Value.iface 124 (Value.pointer (some { block := 0, off := 111 })), Value.int IntKind.u64 25, Value.pointer (some { block := w.heap.size + 1 + 1, off := 0 }), Value.pointer none, Value.bool false, Value.bool false, Value.bool false, Value.bool false, Value.bool false])) (by simp [results, Tryz.results79, go_sem]) rfl ⟨rfl, rfl⟩

theorem pk_0 (c : Option Addr) (i u : Int) (f : Nat) (s : ByteArray) (b : Bool) (w : World)  : Calls Tryz.prog 42 #[.pointer c, .int .i64 0, .int .i64 i, .int .u8 u, .float .f32 f, .string s, .bool b] w fun e w' => e = .returned (Value.agg #[Value.iface 124 (Value.pointer (some { block := 0, off := 2 })), Value.int IntKind.u64 6, Value.pointer none, Value.pointer none, Value.bool false, Value.bool false, Value.bool false, Value.bool true, Value.bool false]) ∧ (((w.alloc (Obj.cells #[Value.iface 124 (Value.pointer (some { block := 0, off := 2 })), Value.int IntKind.u64 6, Value.pointer none, Value.pointer none, Value.bool false, Value.bool false, Value.bool false, Value.bool true, Value.bool false] 47)).alloc (Obj.cells #[Value.iface 124 (Value.pointer (some { block := 0, off := 2 })), Value.int IntKind.u64 6, Value.pointer none, Value.pointer none, Value.bool false, Value.bool false, Value.bool false, Value.bool true, Value.bool false] 47)).alloc (Obj.cells #[Value.iface 124 (Value.pointer (some { block := 0, off := 2 })), Value.int IntKind.u64 6, Value.pointer none, Value.pointer none, Value.bool false, Value.bool false, Value.bool false, Value.bool true, Value.bool false] 47)) = w' := by
  go_enter Tryz.func42, Tryz.ntmps42
  go_wp2_with (first | (go_at_call 79; ((with_reducible refine (ncc_2 _ _ _).mono ?_); rintro e w' ⟨rfl, rfl⟩)))
  exact bodyPost_ret (v := (Value.agg #[Value.iface 124 (Value.pointer (some { block := 0, off := 2 })), Value.int IntKind.u64 6, Value.pointer none, Value.pointer none, Value.bool false, Value.bool false, Value.bool false, Value.bool true, Value.bool false])) (by simp [results, Tryz.results42, go_sem]) rfl ⟨rfl, rfl⟩

theorem sc_2 (b : Nat) (w : World) (hp : Plain w b) (hs : (cellsAt w b)[0]? = some (.iface 124 (.pointer (some ⟨0, 2, none⟩)))) : Calls Tryz.prog 36 #[.pointer (some ⟨b, 0, none⟩)] w fun e w' => e = .returned (Value.string { data := #[105, 110, 116, 54, 52] }) ∧ (w) = w' := by
  go_enter Tryz.func36, Tryz.ntmps36
  go_wp2
  exact bodyPost_ret (v := (Value.string { data := #[105, 110, 116, 54, 52] })) (by simp [results, Tryz.results36, go_sem]) rfl ⟨rfl, rfl⟩

theorem pk_1 (c : Option Addr) (i u : Int) (f : Nat) (s : ByteArray) (b : Bool) (w : World)  : Calls Tryz.prog 42 #[.pointer c, .int .i64 1, .int .i64 i, .int .u8 u, .float .f32 f, .string s, .bool b] w fun e w' => e = .returned (Value.agg #[Value.iface 124 (Value.pointer (some { block := 0, off := 5 })), Value.int IntKind.u64 8, Value.pointer none, Value.pointer none, Value.bool false, Value.bool false, Value.bool false, Value.bool true, Value.bool false]) ∧ (((w.alloc (Obj.cells #[Value.iface 124 (Value.pointer (some { block := 0, off := 5 })), Value.int IntKind.u64 8, Value.pointer none, Value.pointer none, Value.bool false, Value.bool false, Value.bool false, Value.bool true, Value.bool false] 47)).alloc (Obj.cells #[Value.iface 124 (Value.pointer (some { block := 0, off := 5 })), Value.int IntKind.u64 8, Value.pointer none, Value.pointer none, Value.bool false, Value.bool false, Value.bool false, Value.bool true, Value.bool false] 47)).alloc (Obj.cells #[Value.iface 124 (Value.pointer (some { block := 0, off := 5 })), Value.int IntKind.u64 8, Value.pointer none, Value.pointer none, Value.bool false, Value.bool false, Value.bool false, Value.bool true, Value.bool false] 47)) = w' := by
  go_enter Tryz.func42, Tryz.ntmps42
  go_wp2_with (first | (go_at_call 79; ((with_reducible refine (ncc_5 _ _ _).mono ?_); rintro e w' ⟨rfl, rfl⟩)))
  exact bodyPost_ret (v := (Value.agg #[Value.iface 124 (Value.pointer (some { block := 0, off := 5 })), Value.int IntKind.u64 8, Value.pointer none, Value.pointer none, Value.bool false, Value.bool false, Value.bool false, Value.bool true, Value.bool false])) (by simp [results, Tryz.results42, go_sem]) rfl ⟨rfl, rfl⟩

theorem sc_5 (b : Nat) (w : World) (hp : Plain w b) (hs : (cellsAt w b)[0]? = some (.iface 124 (.pointer (some ⟨0, 5, none⟩)))) : Calls Tryz.prog 36 #[.pointer (some ⟨b, 0, none⟩)] w fun e w' => e = .returned (Value.string { data := #[117, 105, 110, 116, 56] }) ∧ (w) = w' := by
  go_enter Tryz.func36, Tryz.ntmps36
  go_wp2
  exact bodyPost_ret (v := (Value.string { data := #[117, 105, 110, 116, 56] })) (by simp [results, Tryz.results36, go_sem]) rfl ⟨rfl, rfl⟩

theorem pk_2 (c : Option Addr) (i u : Int) (f : Nat) (s : ByteArray) (b : Bool) (w : World)  : Calls Tryz.prog 42 #[.pointer c, .int .i64 2, .int .i64 i, .int .u8 u, .float .f32 f, .string s, .bool b] w fun e w' => e = .returned (Value.agg #[Value.iface 124 (Value.pointer (some { block := 0, off := 26 })), Value.int IntKind.u64 13, Value.pointer none, Value.pointer none, Value.bool false, Value.bool false, Value.bool false, Value.bool false, Value.bool true]) ∧ (((w.alloc (Obj.cells #[Value.iface 124 (Value.pointer (some { block := 0, off := 26 })), Value.int IntKind.u64 13, Value.pointer none, Value.pointer none, Value.bool false, Value.bool false, Value.bool false, Value.bool false, Value.bool true] 47)).alloc (Obj.cells #[Value.iface 124 (Value.pointer (some { block := 0, off := 26 })), Value.int IntKind.u64 13, Value.pointer none, Value.pointer none, Value.bool false, Value.bool false, Value.bool false, Value.bool false, Value.bool true] 47)).alloc (Obj.cells #[Value.iface 124 (Value.pointer (some { block := 0, off := 26 })), Value.int IntKind.u64 13, Value.pointer none, Value.pointer none, Value.bool false, Value.bool false, Value.bool false, Value.bool false, Value.bool true] 47)) = w' := by
  go_enter Tryz.func42, Tryz.ntmps42
  go_wp2_with (first | (go_at_call 79; ((with_reducible refine (ncc_26 _ _ _).mono ?_); rintro e w' ⟨rfl, rfl⟩)))
  exact bodyPost_ret (v := (Value.agg #[Value.iface 124 (Value.pointer (some { block := 0, off := 26 })), Value.int IntKind.u64 13, Value.pointer none, Value.pointer none, Value.bool false, Value.bool false, Value.bool false, Value.bool false, Value.bool true])) (by simp [results, Tryz.results42, go_sem]) rfl ⟨rfl, rfl⟩

theorem sc_26 (b : Nat) (w : World) (hp : Plain w b) (hs : (cellsAt w b)[0]? = some (.iface 124 (.pointer (some ⟨0, 26, none⟩)))) : Calls Tryz.prog 36 #[.pointer (some ⟨b, 0, none⟩)] w fun e w' => e = .returned (Value.string { data := #[102, 108, 111, 97, 116, 51, 50] }) ∧ (w) = w' := by
  go_enter Tryz.func36, Tryz.ntmps36
  go_wp2
  exact bodyPost_ret (v := (Value.string { data := #[102, 108, 111, 97, 116, 51, 50] })) (by simp [results, Tryz.results36, go_sem]) rfl ⟨rfl, rfl⟩

theorem pk_3 (c : Option Addr) (i u : Int) (f : Nat) (s : ByteArray) (b : Bool) (w : World)  : Calls Tryz.prog 42 #[.pointer c, .int .i64 3, .int .i64 i, .int .u8 u, .float .f32 f, .string s, .bool b] w fun e w' => e = .returned (Value.agg #[Value.iface 124 (Value.pointer (some { block := 0, off := 9 })), Value.int IntKind.u64 24, Value.pointer none, Value.pointer none, Value.bool false, Value.bool false, Value.bool false, Value.bool false, Value.bool false]) ∧ (((w.alloc (Obj.cells #[Value.iface 124 (Value.pointer (some { block := 0, off := 9 })), Value.int IntKind.u64 24, Value.pointer none, Value.pointer none, Value.bool false, Value.bool false, Value.bool false, Value.bool false, Value.bool false] 47)).alloc (Obj.cells #[Value.iface 124 (Value.pointer (some { block := 0, off := 9 })), Value.int IntKind.u64 24, Value.pointer none, Value.pointer none, Value.bool false, Value.bool false, Value.bool false, Value.bool false, Value.bool false] 47)).alloc (Obj.cells #[Value.iface 124 (Value.pointer (some { block := 0, off := 9 })), Value.int IntKind.u64 24, Value.pointer none, Value.pointer none, Value.bool false, Value.bool false, Value.bool false, Value.bool false, Value.bool false] 47)) = w' := by
  go_enter Tryz.func42, Tryz.ntmps42
  go_wp2_with (first | (go_at_call 79; ((with_reducible refine (ncc_9 _ _ _).mono ?_); rintro e w' ⟨rfl, rfl⟩)))
  exact bodyPost_ret (v := (Value.agg #[Value.iface 124 (Value.pointer (some { block := 0, off := 9 })), Value.int IntKind.u64 24, Value.pointer none, Value.pointer none, Value.bool false, Value.bool false, Value.bool false, Value.bool false, Value.bool false])) (by simp [results, Tryz.results42, go_sem]) rfl ⟨rfl, rfl⟩

theorem sc_9 (b : Nat) (w : World) (hp : Plain w b) (hs : (cellsAt w b)[0]? = some (.iface 124 (.pointer (some ⟨0, 9, none⟩)))) : Calls Tryz.prog 36 #[.pointer (some ⟨b, 0, none⟩)] w fun e w' => e = .returned (Value.string { data := #[115, 116, 114, 105, 110, 103] }) ∧ (w) = w' := by
  go_enter Tryz.func36, Tryz.ntmps36
  go_wp2
  exact bodyPost_ret (v := (Value.string { data := #[115, 116, 114, 105, 110, 103] })) (by simp [results, Tryz.results36, go_sem]) rfl ⟨rfl, rfl⟩

theorem pk_4 (c : Option Addr) (i u : Int) (f : Nat) (s : ByteArray) (b : Bool) (w : World)  : Calls Tryz.prog 42 #[.pointer c, .int .i64 4, .int .i64 i, .int .u8 u, .float .f32 f, .string s, .bool b] w fun e w' => e = .returned (Value.agg #[Value.iface 124 (Value.pointer (some { block := 0, off := 4 })), Value.int IntKind.u64 1, Value.pointer none, Value.pointer none, Value.bool false, Value.bool false, Value.bool false, Value.bool false, Value.bool false]) ∧ (((w.alloc (Obj.cells #[Value.iface 124 (Value.pointer (some { block := 0, off := 4 })), Value.int IntKind.u64 1, Value.pointer none, Value.pointer none, Value.bool false, Value.bool false, Value.bool false, Value.bool false, Value.bool false] 47)).alloc (Obj.cells #[Value.iface 124 (Value.pointer (some { block := 0, off := 4 })), Value.int IntKind.u64 1, Value.pointer none, Value.pointer none, Value.bool false, Value.bool false, Value.bool false, Value.bool false, Value.bool false] 47)).alloc (Obj.cells #[Value.iface 124 (Value.pointer (some { block := 0, off := 4 })), Value.int IntKind.u64 1, Value.pointer none, Value.pointer none, Value.bool false, Value.bool false, Value.bool false, Value.bool false, Value.bool false] 47)) = w' := by
  go_enter Tryz.func42, Tryz.ntmps42
  go_wp2_with (first | (go_at_call 79; ((with_reducible refine (ncc_4 _ _ _).mono ?_); rintro e w' ⟨rfl, rfl⟩)))
  exact bodyPost_ret (v := (Value.agg #[Value.iface 124 (Value.pointer (some { block := 0, off := 4 })), Value.int IntKind.u64 1, Value.pointer none, Value.pointer none, Value.bool false, Value.bool false, Value.bool false, Value.bool false, Value.bool false])) (by simp [results, Tryz.results42, go_sem]) rfl ⟨rfl, rfl⟩

theorem sc_4 (b : Nat) (w : World) (hp : Plain w b) (hs : (cellsAt w b)[0]? = some (.iface 124 (.pointer (some ⟨0, 4, none⟩)))) : Calls Tryz.prog 36 #[.pointer (some ⟨b, 0, none⟩)] w fun e w' => e = .returned (Value.string { data := #[98, 111, 111, 108] }) ∧ (w) = w' := by
  go_enter Tryz.func36, Tryz.ntmps36
  go_wp2
  exact bodyPost_ret (v := (Value.string { data := #[98, 111, 111, 108] })) (by simp [results, Tryz.results36, go_sem]) rfl ⟨rfl, rfl⟩

theorem pk_5 (c : Option Addr) (i u : Int) (f : Nat) (s : ByteArray) (b : Bool) (w : World)  : Calls Tryz.prog 42 #[.pointer c, .int .i64 5, .int .i64 i, .int .u8 u, .float .f32 f, .string s, .bool b] w fun e w' => e = .returned (Value.agg #[Value.iface 124 (Value.pointer (some { block := 0, off := 107 })), Value.int IntKind.u64 2, Value.pointer none, Value.pointer none, Value.bool false, Value.bool false, Value.bool false, Value.bool false, Value.bool false]) ∧ (((w.alloc (Obj.cells #[Value.iface 124 (Value.pointer (some { block := 0, off := 107 })), Value.int IntKind.u64 2, Value.pointer none, Value.pointer none, Value.bool false, Value.bool false, Value.bool false, Value.bool false, Value.bool false] 47)).alloc (Obj.cells #[Value.iface 124 (Value.pointer (some { block := 0, off := 107 })), Value.int IntKind.u64 2, Value.pointer none, Value.pointer none, Value.bool false, Value.bool false, Value.bool false, Value.bool false, Value.bool false] 47)).alloc (Obj.cells #[Value.iface 124 (Value.pointer (some { block := 0, off := 107 })), Value.int IntKind.u64 2, Value.pointer none, Value.pointer none, Value.bool false, Value.bool false, Value.bool false, Value.bool false, Value.bool false] 47)) = w' := by
  go_enter Tryz.func42, Tryz.ntmps42
  go_wp2_with (first | (go_at_call 79; ((with_reducible refine (ncc_107 _ _ _).mono ?_); rintro e w' ⟨rfl, rfl⟩)))
  exact bodyPost_ret (v := (Value.agg #[Value.iface 124 (Value.pointer (some { block := 0, off := 107 })), Value.int IntKind.u64 2, Value.pointer none, Value.pointer none, Value.bool false, Value.bool false, Value.bool false, Value.bool false, Value.bool false])) (by simp [results, Tryz.results42, go_sem]) rfl ⟨rfl, rfl⟩

theorem sc_107 (b : Nat) (w : World) (hp : Plain w b) (hs : (cellsAt w b)[0]? = some (.iface 124 (.pointer (some ⟨0, 107, none⟩)))) : Calls Tryz.prog 36 #[.pointer (some ⟨b, 0, none⟩)] w fun e w' => e = .returned (Value.string { data := #[122, 122, 108, 97, 119, 115, 46, 122, 122, 77, 121, 73, 110, 116] }) ∧ (w) = w' := by
  go_enter Tryz.func36, Tryz.ntmps36
  go_wp2
  exact bodyPost_ret (v := (Value.string { data := #[122, 122, 108, 97, 119, 115, 46, 122, 122, 77, 121, 73, 110, 116] })) (by simp [results, Tryz.results36, go_sem]) rfl ⟨rfl, rfl⟩

theorem pk_6 (c : Option Addr) (i u : Int) (f : Nat) (s : ByteArray) (b : Bool) (w : World)  : Calls Tryz.prog 42 #[.pointer c, .int .i64 6, .int .i64 i, .int .u8 u, .float .f32 f, .string s, .bool b] w fun e w' => e = .returned (Value.agg #[Value.iface 124 (Value.pointer (some { block := 0, off := 3 })), Value.int IntKind.u64 2, Value.pointer none, Value.pointer none, Value.bool false, Value.bool false, Value.bool false, Value.bool true, Value.bool false]) ∧ (((w.alloc (Obj.cells #[Value.iface 124 (Value.pointer (some { block := 0, off := 3 })), Value.int IntKind.u64 2, Value.pointer none, Value.pointer none, Value.bool false, Value.bool false, Value.bool false, Value.bool true, Value.bool false] 47)).alloc (Obj.cells #[Value.iface 124 (Value.pointer (some { block := 0, off := 3 })), Value.int IntKind.u64 2, Value.pointer none, Value.pointer none, Value.bool false, Value.bool false, Value.bool false, Value.bool true, Value.bool false] 47)).alloc (Obj.cells #[Value.iface 124 (Value.pointer (some { block := 0, off := 3 })), Value.int IntKind.u64 2, Value.pointer none, Value.pointer none, Value.bool false, Value.bool false, Value.bool false, Value.bool true, Value.bool false] 47)) = w' := by
  go_enter Tryz.func42, Tryz.ntmps42
  go_wp2_with (first | (go_at_call 79; ((with_reducible refine (ncc_3 _ _ _).mono ?_); rintro e w' ⟨rfl, rfl⟩)))
  exact bodyPost_ret (v := (Value.agg #[Value.iface 124 (Value.pointer (some { block := 0, off := 3 })), Value.int IntKind.u64 2, Value.pointer none, Value.pointer none, Value.bool false, Value.bool false, Value.bool false, Value.bool true, Value.bool false])) (by simp [results, Tryz.results42, go_sem]) rfl ⟨rfl, rfl⟩

theorem sc_3 (b : Nat) (w : World) (hp : Plain w b) (hs : (cellsAt w b)[0]? = some (.iface 124 (.pointer (some ⟨0, 3, none⟩)))) : Calls Tryz.prog 36 #[.pointer (some ⟨b, 0, none⟩)] w fun e w' => e = .returned (Value.string { data := #[105, 110, 116] }) ∧ (w) = w' := by
  go_enter Tryz.func36, Tryz.ntmps36
  go_wp2
  exact bodyPost_ret (v := (Value.string { data := #[105, 110, 116] })) (by simp [results, Tryz.results36, go_sem]) rfl ⟨rfl, rfl⟩

theorem pk_7 (c : Option Addr) (i u : Int) (f : Nat) (s : ByteArray) (b : Bool) (w : World)  : Calls Tryz.prog 42 #[.pointer c, .int .i64 7, .int .i64 i, .int .u8 u, .float .f32 f, .string s, .bool b] w fun e w' => e = .returned (Value.agg #[Value.iface 124 (Value.pointer (some { block := 0, off := 94 })), Value.int IntKind.u64 23, Value.pointer none, Value.pointer none, Value.bool false, Value.bool false, Value.bool false, Value.bool false, Value.bool false]) ∧ ((((w.alloc (Obj.cells #[Value.iface 124 (Value.pointer (some { block := 0, off := 94 })), Value.int IntKind.u64 23, Value.pointer none, Value.pointer none, Value.bool false, Value.bool false, Value.bool false, Value.bool false, Value.bool false] 47)).alloc (Obj.cells #[Value.int IntKind.i64 i] 3)).alloc (Obj.cells #[Value.iface 124 (Value.pointer (some { block := 0, off := 94 })), Value.int IntKind.u64 23, Value.pointer none, Value.pointer none, Value.bool false, Value.bool false, Value.bool false, Value.bool false, Value.bool false] 47)).alloc (Obj.cells #[Value.iface 124 (Value.pointer (some { block := 0, off := 94 })), Value.int IntKind.u64 23, Value.pointer none, Value.pointer none, Value.bool false, Value.bool false, Value.bool false, Value.bool false, Value.bool false] 47)) = w' := by
  go_enter Tryz.func42, Tryz.ntmps42
  go_wp2_with (first | (go_at_call 79; ((with_reducible refine (ncc_94 _ _ _).mono ?_); rintro e w' ⟨rfl, rfl⟩)))
  exact bodyPost_ret (v := (Value.agg #[Value.iface 124 (Value.pointer (some { block := 0, off := 94 })), Value.int IntKind.u64 23, Value.pointer none, Value.pointer none, Value.bool false, Value.bool false, Value.bool false, Value.bool false, Value.bool false])) (by simp [results, Tryz.results42, go_sem]) rfl ⟨rfl, rfl⟩

theorem sc_94 (b : Nat) (w : World) (hp : Plain w b) (hs : (cellsAt w b)[0]? = some (.iface 124 (.pointer (some ⟨0, 94, none⟩)))) : Calls Tryz.prog 36 #[.pointer (some ⟨b, 0, none⟩)] w fun e w' => e = .returned (Value.string { data := #[91, 93, 105, 110, 116] }) ∧ (w) = w' := by
  go_enter Tryz.func36, Tryz.ntmps36
  go_wp2
  exact bodyPost_ret (v := (Value.string { data := #[91, 93, 105, 110, 116] })) (by simp [results, Tryz.results36, go_sem]) rfl ⟨rfl, rfl⟩

theorem pk_8 (c : Option Addr) (i u : Int) (f : Nat) (s : ByteArray) (b : Bool) (w : World)  : Calls Tryz.prog 42 #[.pointer c, .int .i64 8, .int .i64 i, .int .u8 u, .float .f32 f, .string s, .bool b] w fun e w' => e = .returned (Value.agg #[Value.iface 124 (Value.pointer (some { block := 0, off := 108 })), Value.int IntKind.u64 21, Value.pointer none, Value.pointer none, Value.bool false, Value.bool false, Value.bool false, Value.bool false, Value.bool false]) ∧ ((((w.alloc (Obj.cells #[Value.iface 124 (Value.pointer (some { block := 0, off := 108 })), Value.int IntKind.u64 21, Value.pointer none, Value.pointer none, Value.bool false, Value.bool false, Value.bool false, Value.bool false, Value.bool false] 47)).alloc (Obj.map #[{ key := Value.string s, val := Value.bool b, born := 0 }] 1)).alloc (Obj.cells #[Value.iface 124 (Value.pointer (some { block := 0, off := 108 })), Value.int IntKind.u64 21, Value.pointer none, Value.pointer none, Value.bool false, Value.bool false, Value.bool false, Value.bool false, Value.bool false] 47)).alloc (Obj.cells #[Value.iface 124 (Value.pointer (some { block := 0, off := 108 })), Value.int IntKind.u64 21, Value.pointer none, Value.pointer none, Value.bool false, Value.bool false, Value.bool false, Value.bool false, Value.bool false] 47)) = w' := by
  go_enter Tryz.func42, Tryz.ntmps42
  go_wp2_with (first | (go_at_call 79; ((with_reducible refine (ncc_108 _ _ _).mono ?_); rintro e w' ⟨rfl, rfl⟩)))
  exact bodyPost_ret (v := (Value.agg #[Value.iface 124 (Value.pointer (some { block := 0, off := 108 })), Value.int IntKind.u64 21, Value.pointer none, Value.pointer none, Value.bool false, Value.bool false, Value.bool false, Value.bool false, Value.bool false])) (by simp [results, Tryz.results42, go_sem]) rfl ⟨rfl, rfl⟩

theorem sc_108 (b : Nat) (w : World) (hp : Plain w b) (hs : (cellsAt w b)[0]? = some (.iface 124 (.pointer (some ⟨0, 108, none⟩)))) : Calls Tryz.prog 36 #[.pointer (some ⟨b, 0, none⟩)] w fun e w' => e = .returned (Value.string { data := #[109, 97, 112, 91, 115, 116, 114, 105, 110, 103, 93, 98, 111, 111, 108] }) ∧ (w) = w' := by
  go_enter Tryz.func36, Tryz.ntmps36
  go_wp2
  exact bodyPost_ret (v := (Value.string { data := #[109, 97, 112, 91, 115, 116, 114, 105, 110, 103, 93, 98, 111, 111, 108] })) (by simp [results, Tryz.results36, go_sem]) rfl ⟨rfl, rfl⟩

theorem pk_9 (c : Option Addr) (i u : Int) (f : Nat) (s : ByteArray) (b : Bool) (w : World)  : Calls Tryz.prog 42 #[.pointer c, .int .i64 9, .int .i64 i, .int .u8 u, .float .f32 f, .string s, .bool b] w fun e w' => e = .returned (Value.agg #[Value.iface 124 (Value.pointer (some { block := 0, off := 109 })), Value.int IntKind.u64 22, Value.pointer none, Value.pointer none, Value.bool false, Value.bool false, Value.bool false, Value.bool false, Value.bool false]) ∧ ((((w.alloc (Obj.cells #[Value.iface 124 (Value.pointer (some { block := 0, off := 109 })), Value.int IntKind.u64 22, Value.pointer none, Value.pointer none, Value.bool false, Value.bool false, Value.bool false, Value.bool false, Value.bool false] 47)).alloc (Obj.cells #[Value.int IntKind.i64 i] 2)).alloc (Obj.cells #[Value.iface 124 (Value.pointer (some { block := 0, off := 109 })), Value.int IntKind.u64 22, Value.pointer none, Value.pointer none, Value.bool false, Value.bool false, Value.bool false, Value.bool false, Value.bool false] 47)).alloc (Obj.cells #[Value.iface 124 (Value.pointer (some { block := 0, off := 109 })), Value.int IntKind.u64 22, Value.pointer none, Value.pointer none, Value.bool false, Value.bool false, Value.bool false, Value.bool false, Value.bool false] 47)) = w' := by
  go_enter Tryz.func42, Tryz.ntmps42
  go_wp2_with (first | (go_at_call 79; ((with_reducible refine (ncc_109 _ _ _).mono ?_); rintro e w' ⟨rfl, rfl⟩)))
  exact bodyPost_ret (v := (Value.agg #[Value.iface 124 (Value.pointer (some { block := 0, off := 109 })), Value.int IntKind.u64 22, Value.pointer none, Value.pointer none, Value.bool false, Value.bool false, Value.bool false, Value.bool false, Value.bool false])) (by simp [results, Tryz.results42, go_sem]) rfl ⟨rfl, rfl⟩

theorem sc_109 (b : Nat) (w : World) (hp : Plain w b) (hs : (cellsAt w b)[0]? = some (.iface 124 (.pointer (some ⟨0, 109, none⟩)))) : Calls Tryz.prog 36 #[.pointer (some ⟨b, 0, none⟩)] w fun e w' => e = .returned (Value.string { data := #[42, 105, 110, 116, 54, 52] }) ∧ (w) = w' := by
  go_enter Tryz.func36, Tryz.ntmps36
  go_wp2
  exact bodyPost_ret (v := (Value.string { data := #[42, 105, 110, 116, 54, 52] })) (by simp [results, Tryz.results36, go_sem]) rfl ⟨rfl, rfl⟩

theorem pk_10 (c : Option Addr) (i u : Int) (f : Nat) (s : ByteArray) (b : Bool) (w : World)  : Calls Tryz.prog 42 #[.pointer c, .int .i64 10, .int .i64 i, .int .u8 u, .float .f32 f, .string s, .bool b] w fun e w' => e = .returned (Value.agg #[Value.iface 124 (Value.pointer (some { block := 0, off := 12 })), Value.int IntKind.u64 12, Value.pointer none, Value.pointer none, Value.bool false, Value.bool false, Value.bool false, Value.bool true, Value.bool false]) ∧ (((w.alloc (Obj.cells #[Value.iface 124 (Value.pointer (some { block := 0, off := 12 })), Value.int IntKind.u64 12, Value.pointer none, Value.pointer none, Value.bool false, Value.bool false, Value.bool false, Value.bool true, Value.bool false] 47)).alloc (Obj.cells #[Value.iface 124 (Value.pointer (some { block := 0, off := 12 })), Value.int IntKind.u64 12, Value.pointer none, Value.pointer none, Value.bool false, Value.bool false, Value.bool false, Value.bool true, Value.bool false] 47)).alloc (Obj.cells #[Value.iface 124 (Value.pointer (some { block := 0, off := 12 })), Value.int IntKind.u64 12, Value.pointer none, Value.pointer none, Value.bool false, Value.bool false, Value.bool false, Value.bool true, Value.bool false] 47)) = w' := by
  go_enter Tryz.func42, Tryz.ntmps42
  go_wp2_with (first | (go_at_call 79; ((with_reducible refine (ncc_12 _ _ _).mono ?_); rintro e w' ⟨rfl, rfl⟩)))
  exact bodyPost_ret (v := (Value.agg #[Value.iface 124 (Value.pointer (some { block := 0, off := 12 })), Value.int IntKind.u64 12, Value.pointer none, Value.pointer none, Value.bool false, Value.bool false, Value.bool false, Value.bool true, Value.bool false])) (by simp [results, Tryz.results42, go_sem]) rfl ⟨rfl, rfl⟩

theorem sc_12 (b : Nat) (w : World) (hp : Plain w b) (hs : (cellsAt w b)[0]? = some (.iface 124 (.pointer (some ⟨0, 12, none⟩)))) : Calls Tryz.prog 36 #[.pointer (some ⟨b, 0, none⟩)] w fun e w' => e = .returned (Value.string { data := #[117, 105, 110, 116, 112, 116, 114] }) ∧ (w) = w' := by
  go_enter Tryz.func36, Tryz.ntmps36
  go_wp2
  exact bodyPost_ret (v := (Value.string { data := #[117, 105, 110, 116, 112, 116, 114] })) (by simp [results, Tryz.results36, go_sem]) rfl ⟨rfl, rfl⟩

theorem sc_27 (b : Nat) (w : World) (hp : Plain w b) (hs : (cellsAt w b)[0]? = some (.iface 124 (.pointer (some ⟨0, 27, none⟩)))) : Calls Tryz.prog 36 #[.pointer (some ⟨b, 0, none⟩)] w fun e w' => e = .returned (Value.string { data := #[102, 108, 111, 97, 116, 54, 52] }) ∧ (w) = w' := by
  go_enter Tryz.func36, Tryz.ntmps36
  go_wp2
  exact bodyPost_ret (v := (Value.string { data := #[102, 108, 111, 97, 116, 54, 52] })) (by simp [results, Tryz.results36, go_sem]) rfl ⟨rfl, rfl⟩

theorem pk_12 (i u : Int) (f : Nat) (s : ByteArray) (b : Bool) (w : World)  : Calls Tryz.prog 42 #[.pointer none, .int .i64 12, .int .i64 i, .int .u8 u, .float .f32 f, .string s, .bool b] w fun e w' => e = .returned (Value.agg #[Value.iface 124 (Value.pointer (some { block := 0, off := 111 })), Value.int IntKind.u64 25, Value.pointer (some { block := w.heap.size + 1 + 1 + 1, off := 0 }), Value.pointer none, Value.bool false, Value.bool false, Value.bool false, Value.bool false, Value.bool false]) ∧ ((((w.alloc (Obj.cells #[Value.iface 124 (Value.pointer (some { block := 0, off := 111 })), Value.int IntKind.u64 25, Value.pointer (some { block := w.heap.size + 1 + 1 + 1, off := 0 }), Value.pointer none, Value.bool false, Value.bool false, Value.bool false, Value.bool false, Value.bool false] 47)).alloc (Obj.cells #[Value.iface 124 (Value.pointer (some { block := 0, off := 111 })), Value.int IntKind.u64 25, Value.pointer (some { block := w.heap.size + 1 + 1 + 1, off := 0 }), Value.pointer none, Value.bool false, Value.bool false, Value.bool false, Value.bool false, Value.bool false] 47)).alloc (Obj.cells #[Value.iface 124 (Value.pointer (some { block := 0, off := 111 })), Value.int IntKind.u64 25, Value.pointer (some { block := w.heap.size + 1 + 1 + 1, off := 0 }), Value.pointer none, Value.bool false, Value.bool false, Value.bool false, Value.bool false, Value.bool false] 47)).alloc (Obj.cells #[Value.pointer none, Value.pointer none, Value.map none, Value.pointer none, Value.pointer none, Value.int IntKind.i64 0, Value.pointer none, Value.pointer none, Value.int IntKind.i64 0, Value.int IntKind.i64 0, Value.bool false, Value.bool false, Value.bool false, Value.bool false] 56)) = w' := by
  go_enter Tryz.func42, Tryz.ntmps42
  go_wp2_with (first | (go_at_call 79; ((with_reducible refine (ncn_111 _ _).mono ?_); rintro e w' ⟨rfl, rfl⟩)))
  exact bodyPost_ret (v := (Value.agg #[Value.iface 124 (Value.pointer (some { block := 0, off := 111 })), Value.int IntKind.u64 25, Value.pointer (some { block := w.heap.size + 1 + 1 + 1, off := 0 }), Value.pointer none, Value.bool false, Value.bool false, Value.bool false, Value.bool false, Value.bool false])) (by simp [results, Tryz.results42, go_sem]) rfl ⟨rfl, rfl⟩

theorem sc_111 (b : Nat) (w : World) (hp : Plain w b) (hs : (cellsAt w b)[0]? = some (.iface 124 (.pointer (some ⟨0, 111, none⟩)))) : Calls Tryz.prog 36 #[.pointer (some ⟨b, 0, none⟩)] w fun e w' => e = .returned (Value.string { data := #[122, 122, 108, 97, 119, 115, 46, 122, 122, 80, 111, 105, 110, 116] }) ∧ (w) = w' := by
  go_enter Tryz.func36, Tryz.ntmps36
  go_wp2
  exact bodyPost_ret (v := (Value.string { data := #[122, 122, 108, 97, 119, 115, 46, 122, 122, 80, 111, 105, 110, 116] })) (by simp [results, Tryz.results36, go_sem]) rfl ⟨rfl, rfl⟩

theorem results_tmp5 {fn : Func} {t u v x y : Tmp} (h : fn.results = #[.tmp t, .tmp u, .tmp v, .tmp x, .tmp y]) (tmps : Array Value) (P : Program) (w : World) :
    (results fn tmps).run P w = .ok (.tuple #[tmps.getD t undef, tmps.getD u undef, tmps.getD v undef, tmps.getD x undef, tmps.getD y undef]) w := by simp [results, h]

theorem zr_0 (w : World) : Calls Tryz.prog 78 #[.int .i64 0] w fun e w' => e = .returned (.tuple #[.int .u64 6, .bool true, .bool false, .bool true, .string ⟨#[105, 110, 116, 54, 52]⟩]) ∧ w = w' := by
  go_enter Tryz.func78, Tryz.ntmps78
  go_wp2
  refine bodyPost_ret (results_tmp5 rfl _ _ _) rfl ?_
  exact ⟨rfl, rfl⟩

theorem zr_1 (w : World) : Calls Tryz.prog 78 #[.int .i64 1] w fun e w' => e = .returned (.tuple #[.int .u64 8, .bool true, .bool false, .bool true, .string ⟨#[117, 105, 110, 116, 56]⟩]) ∧ w = w' := by
  go_enter Tryz.func78, Tryz.ntmps78
  go_wp2
  refine bodyPost_ret (results_tmp5 rfl _ _ _) rfl ?_
  exact ⟨rfl, rfl⟩

theorem zr_2 (w : World) : Calls Tryz.prog 78 #[.int .i64 2] w fun e w' => e = .returned (.tuple #[.int .u64 13, .bool false, .bool true, .bool true, .string ⟨#[102, 108, 111, 97, 116, 51, 50]⟩]) ∧ w = w' := by
  go_enter Tryz.func78, Tryz.ntmps78
  go_wp2
  refine bodyPost_ret (results_tmp5 rfl _ _ _) rfl ?_
  exact ⟨rfl, rfl⟩

theorem zr_3 (w : World) : Calls Tryz.prog 78 #[.int .i64 3] w fun e w' => e = .returned (.tuple #[.int .u64 24, .bool false, .bool false, .bool true, .string ⟨#[115, 116, 114, 105, 110, 103]⟩]) ∧ w = w' := by
  go_enter Tryz.func78, Tryz.ntmps78
  go_wp2
  refine bodyPost_ret (results_tmp5 rfl _ _ _) rfl ?_
  exact ⟨rfl, rfl⟩

theorem zr_4 (w : World) : Calls Tryz.prog 78 #[.int .i64 4] w fun e w' => e = .returned (.tuple #[.int .u64 1, .bool false, .bool false, .bool true, .string ⟨#[98, 111, 111, 108]⟩]) ∧ w = w' := by
  go_enter Tryz.func78, Tryz.ntmps78
  go_wp2
  refine bodyPost_ret (results_tmp5 rfl _ _ _) rfl ?_
  exact ⟨rfl, rfl⟩

theorem zr_5 (w : World) : Calls Tryz.prog 78 #[.int .i64 5] w fun e w' => e = .returned (.tuple #[.int .u64 2, .bool false, .bool false, .bool true, .string ⟨#[122, 122, 108, 97, 119, 115, 46, 122, 122, 77, 121, 73, 110, 116]⟩]) ∧ w = w' := by
  go_enter Tryz.func78, Tryz.ntmps78
  go_wp2
  refine bodyPost_ret (results_tmp5 rfl _ _ _) rfl ?_
  exact ⟨rfl, rfl⟩

theorem zr_6 (w : World) : Calls Tryz.prog 78 #[.int .i64 6] w fun e w' => e = .returned (.tuple #[.int .u64 2, .bool true, .bool false, .bool true, .string ⟨#[105, 110, 116]⟩]) ∧ w = w' := by
  go_enter Tryz.func78, Tryz.ntmps78
  go_wp2
  refine bodyPost_ret (results_tmp5 rfl _ _ _) rfl ?_
  exact ⟨rfl, rfl⟩

theorem zr_7 (w : World) : Calls Tryz.prog 78 #[.int .i64 7] w fun e w' => e = .returned (.tuple #[.int .u64 23, .bool false, .bool false, .bool true, .string ⟨#[91, 93, 105, 110, 116]⟩]) ∧ w = w' := by
  go_enter Tryz.func78, Tryz.ntmps78
  go_wp2
  refine bodyPost_ret (results_tmp5 rfl _ _ _) rfl ?_
  exact ⟨rfl, rfl⟩

theorem zr_8 (w : World) : Calls Tryz.prog 78 #[.int .i64 8] w fun e w' => e = .returned (.tuple #[.int .u64 21, .bool false, .bool false, .bool true, .string ⟨#[109, 97, 112, 91, 115, 116, 114, 105, 110, 103, 93, 98, 111, 111, 108]⟩]) ∧ w = w' := by
  go_enter Tryz.func78, Tryz.ntmps78
  go_wp2
  refine bodyPost_ret (results_tmp5 rfl _ _ _) rfl ?_
  exact ⟨rfl, rfl⟩

theorem zr_9 (w : World) : Calls Tryz.prog 78 #[.int .i64 9] w fun e w' => e = .returned (.tuple #[.int .u64 22, .bool false, .bool false, .bool true, .string ⟨#[42, 105, 110, 116, 54, 52]⟩]) ∧ w = w' := by
  go_enter Tryz.func78, Tryz.ntmps78
  go_wp2
  refine bodyPost_ret (results_tmp5 rfl _ _ _) rfl ?_
  exact ⟨rfl, rfl⟩

theorem zr_10 (w : World) : Calls Tryz.prog 78 #[.int .i64 10] w fun e w' => e = .returned (.tuple #[.int .u64 12, .bool true, .bool false, .bool true, .string ⟨#[117, 105, 110, 116, 112, 116, 114]⟩]) ∧ w = w' := by
  go_enter Tryz.func78, Tryz.ntmps78
  go_wp2
  refine bodyPost_ret (results_tmp5 rfl _ _ _) rfl ?_
  exact ⟨rfl, rfl⟩

theorem zr_11 (w : World) : Calls Tryz.prog 78 #[.int .i64 11] w fun e w' => e = .returned (.tuple #[.int .u64 14, .bool false, .bool true, .bool true, .string ⟨#[102, 108, 111, 97, 116, 54, 52]⟩]) ∧ w = w' := by
  go_enter Tryz.func78, Tryz.ntmps78
  go_wp2
  refine bodyPost_ret (results_tmp5 rfl _ _ _) rfl ?_
  exact ⟨rfl, rfl⟩

theorem zr_12 (w : World) : Calls Tryz.prog 78 #[.int .i64 12] w fun e w' => e = .returned (.tuple #[.int .u64 25, .bool false, .bool false, .bool false, .string ⟨#[122, 122, 108, 97, 119, 115, 46, 122, 122, 80, 111, 105, 110, 116]⟩]) ∧ w = w' := by
  go_enter Tryz.func78, Tryz.ntmps78
  go_wp2
  refine bodyPost_ret (results_tmp5 rfl _ _ _) rfl ?_
  exact ⟨rfl, rfl⟩

theorem mr_0  (w : World)  : Calls Tryz.prog 41 #[.agg #[.iface 124 (.pointer (some ⟨0, 2, none⟩)), .int .u64 6, .pointer none, .pointer none, .bool false, .bool false, .bool false, .bool true, .bool false], .int .i64 0] w fun e w' => e = .returned (Value.bool true) ∧ (w.alloc (Obj.cells #[Value.iface 124 (Value.pointer (some { block := 0, off := 2 })), Value.int IntKind.u64 6, Value.pointer none, Value.pointer none, Value.bool false, Value.bool false, Value.bool false, Value.bool true, Value.bool false] 47)) = w' := by
  go_enter Tryz.func41, Tryz.ntmps41
  go_wp2_with (go_at_call 78; ((with_reducible refine (zr_0 _).mono ?_); rintro e w' ⟨rfl, rfl⟩))
  go_wp2_with (go_at_call 36; refine (sc_2 _ _ (by simp [go_sem] <;> omega) (by simp [go_sem] <;> omega)).mono ?_; rintro e w' ⟨rfl, rfl⟩)
  all_goals exact bodyPost_ret (v := (Value.bool true)) (by simp [results, Tryz.results41, go_sem]) rfl ⟨rfl, rfl⟩

theorem mr_1  (w : World)  : Calls Tryz.prog 41 #[.agg #[.iface 124 (.pointer (some ⟨0, 5, none⟩)), .int .u64 8, .pointer none, .pointer none, .bool false, .bool false, .bool false, .bool true, .bool false], .int .i64 1] w fun e w' => e = .returned (Value.bool true) ∧ (w.alloc (Obj.cells #[Value.iface 124 (Value.pointer (some { block := 0, off := 5 })), Value.int IntKind.u64 8, Value.pointer none, Value.pointer none, Value.bool false, Value.bool false, Value.bool false, Value.bool true, Value.bool false] 47)) = w' := by
  go_enter Tryz.func41, Tryz.ntmps41
  go_wp2_with (go_at_call 78; ((with_reducible refine (zr_1 _).mono ?_); rintro e w' ⟨rfl, rfl⟩))
  go_wp2_with (go_at_call 36; refine (sc_5 _ _ (by simp [go_sem] <;> omega) (by simp [go_sem] <;> omega)).mono ?_; rintro e w' ⟨rfl, rfl⟩)
  all_goals exact bodyPost_ret (v := (Value.bool true)) (by simp [results, Tryz.results41, go_sem]) rfl ⟨rfl, rfl⟩

theorem mr_2  (w : World)  : Calls Tryz.prog 41 #[.agg #[.iface 124 (.pointer (some ⟨0, 26, none⟩)), .int .u64 13, .pointer none, .pointer none, .bool false, .bool false, .bool false, .bool false, .bool true], .int .i64 2] w fun e w' => e = .returned (Value.bool true) ∧ (w.alloc (Obj.cells #[Value.iface 124 (Value.pointer (some { block := 0, off := 26 })), Value.int IntKind.u64 13, Value.pointer none, Value.pointer none, Value.bool false, Value.bool false, Value.bool false, Value.bool false, Value.bool true] 47)) = w' := by
  go_enter Tryz.func41, Tryz.ntmps41
  go_wp2_with (go_at_call 78; ((with_reducible refine (zr_2 _).mono ?_); rintro e w' ⟨rfl, rfl⟩))
  go_wp2_with (go_at_call 36; refine (sc_26 _ _ (by simp [go_sem] <;> omega) (by simp [go_sem] <;> omega)).mono ?_; rintro e w' ⟨rfl, rfl⟩)
  all_goals exact bodyPost_ret (v := (Value.bool true)) (by simp [results, Tryz.results41, go_sem]) rfl ⟨rfl, rfl⟩

theorem mr_3  (w : World)  : Calls Tryz.prog 41 #[.agg #[.iface 124 (.pointer (some ⟨0, 9, none⟩)), .int .u64 24, .pointer none, .pointer none, .bool false, .bool false, .bool false, .bool false, .bool false], .int .i64 3] w fun e w' => e = .returned (Value.bool true) ∧ (w.alloc (Obj.cells #[Value.iface 124 (Value.pointer (some { block := 0, off := 9 })), Value.int IntKind.u64 24, Value.pointer none, Value.pointer none, Value.bool false, Value.bool false, Value.bool false, Value.bool false, Value.bool false] 47)) = w' := by
  go_enter Tryz.func41, Tryz.ntmps41
  go_wp2_with (go_at_call 78; ((with_reducible refine (zr_3 _).mono ?_); rintro e w' ⟨rfl, rfl⟩))
  go_wp2_with (go_at_call 36; refine (sc_9 _ _ (by simp [go_sem] <;> omega) (by simp [go_sem] <;> omega)).mono ?_; rintro e w' ⟨rfl, rfl⟩)
  all_goals exact bodyPost_ret (v := (Value.bool true)) (by simp [results, Tryz.results41, go_sem]) rfl ⟨rfl, rfl⟩

theorem mr_4  (w : World)  : Calls Tryz.prog 41 #[.agg #[.iface 124 (.pointer (some ⟨0, 4, none⟩)), .int .u64 1, .pointer none, .pointer none, .bool false, .bool false, .bool false, .bool false, .bool false], .int .i64 4] w fun e w' => e = .returned (Value.bool true) ∧ (w.alloc (Obj.cells #[Value.iface 124 (Value.pointer (some { block := 0, off := 4 })), Value.int IntKind.u64 1, Value.pointer none, Value.pointer none, Value.bool false, Value.bool false, Value.bool false, Value.bool false, Value.bool false] 47)) = w' := by
  go_enter Tryz.func41, Tryz.ntmps41
  go_wp2_with (go_at_call 78; ((with_reducible refine (zr_4 _).mono ?_); rintro e w' ⟨rfl, rfl⟩))
  go_wp2_with (go_at_call 36; refine (sc_4 _ _ (by simp [go_sem] <;> omega) (by simp [go_sem] <;> omega)).mono ?_; rintro e w' ⟨rfl, rfl⟩)
  all_goals exact bodyPost_ret (v := (Value.bool true)) (by simp [results, Tryz.results41, go_sem]) rfl ⟨rfl, rfl⟩

theorem mr_5  (w : World)  : Calls Tryz.prog 41 #[.agg #[.iface 124 (.pointer (some ⟨0, 107, none⟩)), .int .u64 2, .pointer none, .pointer none, .bool false, .bool false, .bool false, .bool false, .bool false], .int .i64 5] w fun e w' => e = .returned (Value.bool true) ∧ (w.alloc (Obj.cells #[Value.iface 124 (Value.pointer (some { block := 0, off := 107 })), Value.int IntKind.u64 2, Value.pointer none, Value.pointer none, Value.bool false, Value.bool false, Value.bool false, Value.bool false, Value.bool false] 47)) = w' := by
  go_enter Tryz.func41, Tryz.ntmps41
  go_wp2_with (go_at_call 78; ((with_reducible refine (zr_5 _).mono ?_); rintro e w' ⟨rfl, rfl⟩))
  go_wp2_with (go_at_call 36; refine (sc_107 _ _ (by simp [go_sem] <;> omega) (by simp [go_sem] <;> omega)).mono ?_; rintro e w' ⟨rfl, rfl⟩)
  all_goals exact bodyPost_ret (v := (Value.bool true)) (by simp [results, Tryz.results41, go_sem]) rfl ⟨rfl, rfl⟩

theorem mr_6  (w : World)  : Calls Tryz.prog 41 #[.agg #[.iface 124 (.pointer (some ⟨0, 3, none⟩)), .int .u64 2, .pointer none, .pointer none, .bool false, .bool false, .bool false, .bool true, .bool false], .int .i64 6] w fun e w' => e = .returned (Value.bool true) ∧ (w.alloc (Obj.cells #[Value.iface 124 (Value.pointer (some { block := 0, off := 3 })), Value.int IntKind.u64 2, Value.pointer none, Value.pointer none, Value.bool false, Value.bool false, Value.bool false, Value.bool true, Value.bool false] 47)) = w' := by
  go_enter Tryz.func41, Tryz.ntmps41
  go_wp2_with (go_at_call 78; ((with_reducible refine (zr_6 _).mono ?_); rintro e w' ⟨rfl, rfl⟩))
  go_wp2_with (go_at_call 36; refine (sc_3 _ _ (by simp [go_sem] <;> omega) (by simp [go_sem] <;> omega)).mono ?_; rintro e w' ⟨rfl, rfl⟩)
  all_goals exact bodyPost_ret (v := (Value.bool true)) (by simp [results, Tryz.results41, go_sem]) rfl ⟨rfl, rfl⟩

theorem mr_7  (w : World)  : Calls Tryz.prog 41 #[.agg #[.iface 124 (.pointer (some ⟨0, 94, none⟩)), .int .u64 23, .pointer none, .pointer none, .bool false, .bool false, .bool false, .bool false, .bool false], .int .i64 7] w fun e w' => e = .returned (Value.bool true) ∧ (w.alloc (Obj.cells #[Value.iface 124 (Value.pointer (some { block := 0, off := 94 })), Value.int IntKind.u64 23, Value.pointer none, Value.pointer none, Value.bool false, Value.bool false, Value.bool false, Value.bool false, Value.bool false] 47)) = w' := by
  go_enter Tryz.func41, Tryz.ntmps41
  go_wp2_with (go_at_call 78; ((with_reducible refine (zr_7 _).mono ?_); rintro e w' ⟨rfl, rfl⟩))
  go_wp2_with (go_at_call 36; refine (sc_94 _ _ (by simp [go_sem] <;> omega) (by simp [go_sem] <;> omega)).mono ?_; rintro e w' ⟨rfl, rfl⟩)
  all_goals exact bodyPost_ret (v := (Value.bool true)) (by simp [results, Tryz.results41, go_sem]) rfl ⟨rfl, rfl⟩

theorem mr_8  (w : World)  : Calls Tryz.prog 41 #[.agg #[.iface 124 (.pointer (some ⟨0, 108, none⟩)), .int .u64 21, .pointer none, .pointer none, .bool false, .bool false, .bool false, .bool false, .bool false], .int .i64 8] w fun e w' => e = .returned (Value.bool true) ∧ (w.alloc (Obj.cells #[Value.iface 124 (Value.pointer (some { block := 0, off := 108 })), Value.int IntKind.u64 21, Value.pointer none, Value.pointer none, Value.bool false, Value.bool false, Value.bool false, Value.bool false, Value.bool false] 47)) = w' := by
  go_enter Tryz.func41, Tryz.ntmps41
  go_wp2_with (go_at_call 78; ((with_reducible refine (zr_8 _).mono ?_); rintro e w' ⟨rfl, rfl⟩))
  go_wp2_with (go_at_call 36; refine (sc_108 _ _ (by simp [go_sem] <;> omega) (by simp [go_sem] <;> omega)).mono ?_; rintro e w' ⟨rfl, rfl⟩)
  all_goals exact bodyPost_ret (v := (Value.bool true)) (by simp [results, Tryz.results41, go_sem]) rfl ⟨rfl, rfl⟩

theorem mr_9  (w : World)  : Calls Tryz.prog 41 #[.agg #[.iface 124 (.pointer (some ⟨0, 109, none⟩)), .int .u64 22, .pointer none, .pointer none, .bool false, .bool false, .bool false, .bool false, .bool false], .int .i64 9] w fun e w' => e = .returned (Value.bool true) ∧ (w.alloc (Obj.cells #[Value.iface 124 (Value.pointer (some { block := 0, off := 109 })), Value.int IntKind.u64 22, Value.pointer none, Value.pointer none, Value.bool false, Value.bool false, Value.bool false, Value.bool false, Value.bool false] 47)) = w' := by
  go_enter Tryz.func41, Tryz.ntmps41
  go_wp2_with (go_at_call 78; ((with_reducible refine (zr_9 _).mono ?_); rintro e w' ⟨rfl, rfl⟩))
  go_wp2_with (go_at_call 36; refine (sc_109 _ _ (by simp [go_sem] <;> omega) (by simp [go_sem] <;> omega)).mono ?_; rintro e w' ⟨rfl, rfl⟩)
  all_goals exact bodyPost_ret (v := (Value.bool true)) (by simp [results, Tryz.results41, go_sem]) rfl ⟨rfl, rfl⟩

theorem mr_10  (w : World)  : Calls Tryz.prog 41 #[.agg #[.iface 124 (.pointer (some ⟨0, 12, none⟩)), .int .u64 12, .pointer none, .pointer none, .bool false, .bool false, .bool false, .bool true, .bool false], .int .i64 10] w fun e w' => e = .returned (Value.bool true) ∧ (w.alloc (Obj.cells #[Value.iface 124 (Value.pointer (some { block := 0, off := 12 })), Value.int IntKind.u64 12, Value.pointer none, Value.pointer none, Value.bool false, Value.bool false, Value.bool false, Value.bool true, Value.bool false] 47)) = w' := by
  go_enter Tryz.func41, Tryz.ntmps41
  go_wp2_with (go_at_call 78; ((with_reducible refine (zr_10 _).mono ?_); rintro e w' ⟨rfl, rfl⟩))
  go_wp2_with (go_at_call 36; refine (sc_12 _ _ (by simp [go_sem] <;> omega) (by simp [go_sem] <;> omega)).mono ?_; rintro e w' ⟨rfl, rfl⟩)
  all_goals exact bodyPost_ret (v := (Value.bool true)) (by simp [results, Tryz.results41, go_sem]) rfl ⟨rfl, rfl⟩

theorem mr_11  (w : World)  : Calls Tryz.prog 41 #[.agg #[.iface 124 (.pointer (some ⟨0, 27, none⟩)), .int .u64 14, .pointer none, .pointer none, .bool false, .bool false, .bool false, .bool false, .bool true], .int .i64 11] w fun e w' => e = .returned (Value.bool true) ∧ (w.alloc (Obj.cells #[Value.iface 124 (Value.pointer (some { block := 0, off := 27 })), Value.int IntKind.u64 14, Value.pointer none, Value.pointer none, Value.bool false, Value.bool false, Value.bool false, Value.bool false, Value.bool true] 47)) = w' := by
  go_enter Tryz.func41, Tryz.ntmps41
  go_wp2_with (go_at_call 78; ((with_reducible refine (zr_11 _).mono ?_); rintro e w' ⟨rfl, rfl⟩))
  go_wp2_with (go_at_call 36; refine (sc_27 _ _ (by simp [go_sem] <;> omega) (by simp [go_sem] <;> omega)).mono ?_; rintro e w' ⟨rfl, rfl⟩)
  all_goals exact bodyPost_ret (v := (Value.bool true)) (by simp [results, Tryz.results41, go_sem]) rfl ⟨rfl, rfl⟩

theorem mr_12 (td : Addr) (w : World)  : Calls Tryz.prog 41 #[.agg #[.iface 124 (.pointer (some ⟨0, 111, none⟩)), .int .u64 25, .pointer (some td), .pointer none, .bool false, .bool false, .bool false, .bool false, .bool false], .int .i64 12] w fun e w' => e = .returned (Value.bool true) ∧ (w.alloc (Obj.cells #[Value.iface 124 (Value.pointer (some { block := 0, off := 111 })), Value.int IntKind.u64 25, Value.pointer (some td), Value.pointer none, Value.bool false, Value.bool false, Value.bool false, Value.bool false, Value.bool false] 47)) = w' := by
  go_enter Tryz.func41, Tryz.ntmps41
  go_wp2_with (go_at_call 78; ((with_reducible refine (zr_12 _).mono ?_); rintro e w' ⟨rfl, rfl⟩))
  go_wp2_with (go_at_call 36; refine (sc_111 _ _ (by simp [go_sem] <;> omega) (by simp [go_sem] <;> omega)).mono ?_; rintro e w' ⟨rfl, rfl⟩)
  all_goals exact bodyPost_ret (v := (Value.bool true)) (by simp [results, Tryz.results41, go_sem]) rfl ⟨rfl, rfl⟩
end Go.Proofs.YtfmefomafdgfmaaGreat.fnNatureOfTable
