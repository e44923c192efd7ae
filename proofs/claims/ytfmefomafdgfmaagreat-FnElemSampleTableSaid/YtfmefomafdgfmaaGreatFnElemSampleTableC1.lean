/-
  The contracts of FnElemSampleTable: Elem of each of the twelve samples, with or without a cache, is the nature of its element type, or the empty unknown nature where there is none.
-/
import Derived.Test.YtfmefomafdgfmaaGreatBase
import Derived.OpenShut
import Derived.Deep.RegionWith
import Derived.RegionTactic
import Derived.ChangeAlike
import Derived.Deep.QuietTactic
import Derived.BigQuiet
import Derived.WalkSmall
import Derived.Outline
import Derived.Lib.Hide
import Derived.Test.YtfmefomafdgfmaaGreatKit2
import Derived.Test.YtfmefomafdgfmaaGreatFnElemSampleTableC
namespace Go.Proofs.YtfmefomafdgfmaaGreat.fnElemSampleTable
open Go.RowKit
set_option maxRecDepth 100000
set_option maxHeartbeats 1000000
set_option linter.unusedVariables false
@[go_sem] theorem str_3 (w : World) : (callFunc 208 #[.pointer (some ⟨0, 3, none⟩)]).run Tryz.prog w = .ok (.value (.string ⟨#[105, 110, 116]⟩)) w := by kernel_rfl

@[go_sem] theorem str_2 (w : World) : (callFunc 208 #[.pointer (some ⟨0, 2, none⟩)]).run Tryz.prog w = .ok (.value (.string ⟨#[105, 110, 116, 54, 52]⟩)) w := by kernel_rfl

@[go_sem] theorem str_9 (w : World) : (callFunc 208 #[.pointer (some ⟨0, 9, none⟩)]).run Tryz.prog w = .ok (.value (.string ⟨#[115, 116, 114, 105, 110, 103]⟩)) w := by kernel_rfl

@[go_sem] theorem str_94 (w : World) : (callFunc 208 #[.pointer (some ⟨0, 94, none⟩)]).run Tryz.prog w = .ok (.value (.string ⟨#[91, 93, 105, 110, 116]⟩)) w := by kernel_rfl

@[go_sem] theorem str_127 (w : World) : (callFunc 208 #[.pointer (some ⟨0, 127, none⟩)]).run Tryz.prog w = .ok (.value (.string ⟨#[42, 105, 110, 116]⟩)) w := by kernel_rfl

@[go_sem] theorem str_128 (w : World) : (callFunc 208 #[.pointer (some ⟨0, 128, none⟩)]).run Tryz.prog w = .ok (.value (.string ⟨#[109, 97, 112, 91, 115, 116, 114, 105, 110, 103, 93, 105, 110, 116]⟩)) w := by kernel_rfl

@[go_sem] theorem str_1 (w : World) : (callFunc 208 #[.pointer (some ⟨0, 1, none⟩)]).run Tryz.prog w = .ok (.value (.string ⟨#[102, 117, 110, 99, 40, 41]⟩)) w := by kernel_rfl

@[go_sem] theorem str_20 (w : World) : (callFunc 208 #[.pointer (some ⟨0, 20, none⟩)]).run Tryz.prog w = .ok (.value (.string ⟨#[105, 110, 116, 101, 114, 102, 97, 99, 101, 32, 123, 125]⟩)) w := by kernel_rfl

@[go_sem] theorem str_25 (w : World) : (callFunc 208 #[.pointer (some ⟨0, 25, none⟩)]).run Tryz.prog w = .ok (.value (.string ⟨#[101, 114, 114, 111, 114]⟩)) w := by kernel_rfl

@[go_sem] theorem str_36 (w : World) : (callFunc 208 #[.pointer (some ⟨0, 36, none⟩)]).run Tryz.prog w = .ok (.value (.string ⟨#[42, 110, 97, 116, 117, 114, 101, 46, 67, 97, 99, 104, 101]⟩)) w := by kernel_rfl

@[go_sem] theorem str_40 (w : World) : (callFunc 208 #[.pointer (some ⟨0, 40, none⟩)]).run Tryz.prog w = .ok (.value (.string ⟨#[110, 97, 116, 117, 114, 101, 46, 67, 97, 99, 104, 101]⟩)) w := by kernel_rfl

theorem sc_3 (b : Nat) (w : World) (hp : Plain w b) (hs : (cellsAt w b)[0]? = some (.iface 124 (.pointer (some ⟨0, 3, none⟩)))) : Calls Tryz.prog 36 #[.pointer (some ⟨b, 0, none⟩)] w fun e w' => e = .returned (Value.string { data := #[105, 110, 116] }) ∧ (w) = w' := by
  go_enter Tryz.func36, Tryz.ntmps36
  go_wp2
  exact bodyPost_ret (v := (Value.string { data := #[105, 110, 116] })) (by simp [results, Tryz.results36, go_sem]) rfl ⟨rfl, rfl⟩

theorem sc_2 (b : Nat) (w : World) (hp : Plain w b) (hs : (cellsAt w b)[0]? = some (.iface 124 (.pointer (some ⟨0, 2, none⟩)))) : Calls Tryz.prog 36 #[.pointer (some ⟨b, 0, none⟩)] w fun e w' => e = .returned (Value.string { data := #[105, 110, 116, 54, 52] }) ∧ (w) = w' := by
  go_enter Tryz.func36, Tryz.ntmps36
  go_wp2
  exact bodyPost_ret (v := (Value.string { data := #[105, 110, 116, 54, 52] })) (by simp [results, Tryz.results36, go_sem]) rfl ⟨rfl, rfl⟩

theorem sc_9 (b : Nat) (w : World) (hp : Plain w b) (hs : (cellsAt w b)[0]? = some (.iface 124 (.pointer (some ⟨0, 9, none⟩)))) : Calls Tryz.prog 36 #[.pointer (some ⟨b, 0, none⟩)] w fun e w' => e = .returned (Value.string { data := #[115, 116, 114, 105, 110, 103] }) ∧ (w) = w' := by
  go_enter Tryz.func36, Tryz.ntmps36
  go_wp2
  exact bodyPost_ret (v := (Value.string { data := #[115, 116, 114, 105, 110, 103] })) (by simp [results, Tryz.results36, go_sem]) rfl ⟨rfl, rfl⟩

theorem sc_94 (b : Nat) (w : World) (hp : Plain w b) (hs : (cellsAt w b)[0]? = some (.iface 124 (.pointer (some ⟨0, 94, none⟩)))) : Calls Tryz.prog 36 #[.pointer (some ⟨b, 0, none⟩)] w fun e w' => e = .returned (Value.string { data := #[91, 93, 105, 110, 116] }) ∧ (w) = w' := by
  go_enter Tryz.func36, Tryz.ntmps36
  go_wp2
  exact bodyPost_ret (v := (Value.string { data := #[91, 93, 105, 110, 116] })) (by simp [results, Tryz.results36, go_sem]) rfl ⟨rfl, rfl⟩

theorem sc_127 (b : Nat) (w : World) (hp : Plain w b) (hs : (cellsAt w b)[0]? = some (.iface 124 (.pointer (some ⟨0, 127, none⟩)))) : Calls Tryz.prog 36 #[.pointer (some ⟨b, 0, none⟩)] w fun e w' => e = .returned (Value.string { data := #[42, 105, 110, 116] }) ∧ (w) = w' := by
  go_enter Tryz.func36, Tryz.ntmps36
  go_wp2
  exact bodyPost_ret (v := (Value.string { data := #[42, 105, 110, 116] })) (by simp [results, Tryz.results36, go_sem]) rfl ⟨rfl, rfl⟩

theorem sc_128 (b : Nat) (w : World) (hp : Plain w b) (hs : (cellsAt w b)[0]? = some (.iface 124 (.pointer (some ⟨0, 128, none⟩)))) : Calls Tryz.prog 36 #[.pointer (some ⟨b, 0, none⟩)] w fun e w' => e = .returned (Value.string { data := #[109, 97, 112, 91, 115, 116, 114, 105, 110, 103, 93, 105, 110, 116] }) ∧ (w) = w' := by
  go_enter Tryz.func36, Tryz.ntmps36
  go_wp2
  exact bodyPost_ret (v := (Value.string { data := #[109, 97, 112, 91, 115, 116, 114, 105, 110, 103, 93, 105, 110, 116] })) (by simp [results, Tryz.results36, go_sem]) rfl ⟨rfl, rfl⟩

theorem sc_1 (b : Nat) (w : World) (hp : Plain w b) (hs : (cellsAt w b)[0]? = some (.iface 124 (.pointer (some ⟨0, 1, none⟩)))) : Calls Tryz.prog 36 #[.pointer (some ⟨b, 0, none⟩)] w fun e w' => e = .returned (Value.string { data := #[102, 117, 110, 99, 40, 41] }) ∧ (w) = w' := by
  go_enter Tryz.func36, Tryz.ntmps36
  go_wp2
  exact bodyPost_ret (v := (Value.string { data := #[102, 117, 110, 99, 40, 41] })) (by simp [results, Tryz.results36, go_sem]) rfl ⟨rfl, rfl⟩

theorem sc_20 (b : Nat) (w : World) (hp : Plain w b) (hs : (cellsAt w b)[0]? = some (.iface 124 (.pointer (some ⟨0, 20, none⟩)))) : Calls Tryz.prog 36 #[.pointer (some ⟨b, 0, none⟩)] w fun e w' => e = .returned (Value.string { data := #[105, 110, 116, 101, 114, 102, 97, 99, 101, 32, 123, 125] }) ∧ (w) = w' := by
  go_enter Tryz.func36, Tryz.ntmps36
  go_wp2
  exact bodyPost_ret (v := (Value.string { data := #[105, 110, 116, 101, 114, 102, 97, 99, 101, 32, 123, 125] })) (by simp [results, Tryz.results36, go_sem]) rfl ⟨rfl, rfl⟩

theorem sc_25 (b : Nat) (w : World) (hp : Plain w b) (hs : (cellsAt w b)[0]? = some (.iface 124 (.pointer (some ⟨0, 25, none⟩)))) : Calls Tryz.prog 36 #[.pointer (some ⟨b, 0, none⟩)] w fun e w' => e = .returned (Value.string { data := #[101, 114, 114, 111, 114] }) ∧ (w) = w' := by
  go_enter Tryz.func36, Tryz.ntmps36
  go_wp2
  exact bodyPost_ret (v := (Value.string { data := #[101, 114, 114, 111, 114] })) (by simp [results, Tryz.results36, go_sem]) rfl ⟨rfl, rfl⟩

theorem sc_36 (b : Nat) (w : World) (hp : Plain w b) (hs : (cellsAt w b)[0]? = some (.iface 124 (.pointer (some ⟨0, 36, none⟩)))) : Calls Tryz.prog 36 #[.pointer (some ⟨b, 0, none⟩)] w fun e w' => e = .returned (Value.string { data := #[42, 110, 97, 116, 117, 114, 101, 46, 67, 97, 99, 104, 101] }) ∧ (w) = w' := by
  go_enter Tryz.func36, Tryz.ntmps36
  go_wp2
  exact bodyPost_ret (v := (Value.string { data := #[42, 110, 97, 116, 117, 114, 101, 46, 67, 97, 99, 104, 101] })) (by simp [results, Tryz.results36, go_sem]) rfl ⟨rfl, rfl⟩

theorem sc_40 (b : Nat) (w : World) (hp : Plain w b) (hs : (cellsAt w b)[0]? = some (.iface 124 (.pointer (some ⟨0, 40, none⟩)))) : Calls Tryz.prog 36 #[.pointer (some ⟨b, 0, none⟩)] w fun e w' => e = .returned (Value.string { data := #[110, 97, 116, 117, 114, 101, 46, 67, 97, 99, 104, 101] }) ∧ (w) = w' := by
  go_enter Tryz.func36, Tryz.ntmps36
  go_wp2
  exact bodyPost_ret (v := (Value.string { data := #[110, 97, 116, 117, 114, 101, 46, 67, 97, 99, 104, 101] })) (by simp [results, Tryz.results36, go_sem]) rfl ⟨rfl, rfl⟩

theorem sc_un (b : Nat) (w : World) (hp : Plain w b) (hs : (cellsAt w b)[0]? = some .nilIface) : Calls Tryz.prog 36 #[.pointer (some ⟨b, 0, none⟩)] w fun e w' => e = .returned (Value.string { data := #[117, 110, 107, 110, 111, 119, 110] }) ∧ (w) = w' := by
  go_enter Tryz.func36, Tryz.ntmps36
  go_wp2
  exact bodyPost_ret (v := (Value.string { data := #[117, 110, 107, 110, 111, 119, 110] })) (by simp [results, Tryz.results36, go_sem]) rfl ⟨rfl, rfl⟩

@[go_sem] theorem kind_40 (w : World) : (callFunc 190 #[.pointer (some ⟨0, 40, none⟩)]).run Tryz.prog w = .ok (.value (.int .u64 25)) w := by kernel_rfl

theorem from_40  (w : World)  : Calls Tryz.prog 45 #[.pointer none, .iface 124 (.pointer (some ⟨0, 40, none⟩))] w fun e w' => e = .returned (Value.agg #[Value.iface 124 (Value.pointer (some { block := 0, off := 40 })), Value.int IntKind.u64 25, Value.pointer (some { block := w.heap.size + 1, off := 0 }), Value.pointer none, Value.bool false, Value.bool false, Value.bool false, Value.bool false, Value.bool false]) ∧ ((w.alloc (Obj.cells #[Value.iface 124 (Value.pointer (some { block := 0, off := 40 })), Value.int IntKind.u64 25, Value.pointer (some { block := w.heap.size + 1, off := 0 }), Value.pointer none, Value.bool false, Value.bool false, Value.bool false, Value.bool false, Value.bool false] 47)).alloc (Obj.cells #[Value.pointer none, Value.pointer none, Value.map none, Value.pointer none, Value.pointer none, Value.int IntKind.i64 0, Value.pointer none, Value.pointer none, Value.int IntKind.i64 0, Value.int IntKind.i64 0, Value.bool false, Value.bool false, Value.bool false, Value.bool false] 56)) = w' := by
  go_enter Tryz.func45, Tryz.ntmps45
  go_wp2
  exact bodyPost_ret (v := (Value.agg #[Value.iface 124 (Value.pointer (some { block := 0, off := 40 })), Value.int IntKind.u64 25, Value.pointer (some { block := w.heap.size + 1, off := 0 }), Value.pointer none, Value.bool false, Value.bool false, Value.bool false, Value.bool false, Value.bool false])) (by simp [results, Tryz.results45, go_sem]) rfl ⟨rfl, rfl⟩

@[go_sem] theorem Elem_94 (w : World) : (callFunc 178 #[.pointer (some ⟨0, 94, none⟩)]).run Tryz.prog w = .ok (.value (.iface 124 (.pointer (some ⟨0, 3, none⟩)))) w := by kernel_rfl

@[go_sem] theorem Elem_127 (w : World) : (callFunc 178 #[.pointer (some ⟨0, 127, none⟩)]).run Tryz.prog w = .ok (.value (.iface 124 (.pointer (some ⟨0, 3, none⟩)))) w := by kernel_rfl

@[go_sem] theorem Elem_128 (w : World) : (callFunc 178 #[.pointer (some ⟨0, 128, none⟩)]).run Tryz.prog w = .ok (.value (.iface 124 (.pointer (some ⟨0, 3, none⟩)))) w := by kernel_rfl

@[go_sem] theorem Elem_36 (w : World) : (callFunc 178 #[.pointer (some ⟨0, 36, none⟩)]).run Tryz.prog w = .ok (.value (.iface 124 (.pointer (some ⟨0, 40, none⟩)))) w := by kernel_rfl

theorem el_0 (b : Nat) (c : Option Addr) (w : World) (hb : b < w.heap.size) (hp : Plain w b) (hs : cellsAt w b = #[.iface 124 (.pointer (some ⟨0, 3, none⟩)), .int .u64 2, .pointer none, .pointer none, .bool false, .bool false, .bool false, .bool true, .bool false]) : Calls Tryz.prog 35 #[.pointer (some ⟨b, 0, none⟩), .pointer c] w fun e w' => e = .returned (Value.agg #[Value.nilIface, Value.int IntKind.u64 0, Value.pointer none, Value.pointer none, Value.bool false, Value.bool false, Value.bool false, Value.bool false, Value.bool false]) ∧ (w.alloc (Obj.cells #[Value.nilIface, Value.int IntKind.u64 0, Value.pointer none, Value.pointer none, Value.bool false, Value.bool false, Value.bool false, Value.bool false, Value.bool false] 47)) = w' := by
  obtain ⟨s1, s2, s3, s4⟩ := szs hb
  go_enter Tryz.func35, Tryz.ntmps35
  go_wp2
  exact bodyPost_ret (v := (Value.agg #[Value.nilIface, Value.int IntKind.u64 0, Value.pointer none, Value.pointer none, Value.bool false, Value.bool false, Value.bool false, Value.bool false, Value.bool false])) (by simp [results, Tryz.results35, go_sem]) rfl ⟨rfl, rfl⟩

theorem el_1 (b : Nat) (c : Option Addr) (w : World) (hb : b < w.heap.size) (hp : Plain w b) (hs : cellsAt w b = #[.iface 124 (.pointer (some ⟨0, 2, none⟩)), .int .u64 6, .pointer none, .pointer none, .bool false, .bool false, .bool false, .bool true, .bool false]) : Calls Tryz.prog 35 #[.pointer (some ⟨b, 0, none⟩), .pointer c] w fun e w' => e = .returned (Value.agg #[Value.nilIface, Value.int IntKind.u64 0, Value.pointer none, Value.pointer none, Value.bool false, Value.bool false, Value.bool false, Value.bool false, Value.bool false]) ∧ (w.alloc (Obj.cells #[Value.nilIface, Value.int IntKind.u64 0, Value.pointer none, Value.pointer none, Value.bool false, Value.bool false, Value.bool false, Value.bool false, Value.bool false] 47)) = w' := by
  obtain ⟨s1, s2, s3, s4⟩ := szs hb
  go_enter Tryz.func35, Tryz.ntmps35
  go_wp2
  exact bodyPost_ret (v := (Value.agg #[Value.nilIface, Value.int IntKind.u64 0, Value.pointer none, Value.pointer none, Value.bool false, Value.bool false, Value.bool false, Value.bool false, Value.bool false])) (by simp [results, Tryz.results35, go_sem]) rfl ⟨rfl, rfl⟩

theorem el_2 (b : Nat) (c : Option Addr) (w : World) (hb : b < w.heap.size) (hp : Plain w b) (hs : cellsAt w b = #[.iface 124 (.pointer (some ⟨0, 9, none⟩)), .int .u64 24, .pointer none, .pointer none, .bool false, .bool false, .bool false, .bool false, .bool false]) : Calls Tryz.prog 35 #[.pointer (some ⟨b, 0, none⟩), .pointer c] w fun e w' => e = .returned (Value.agg #[Value.nilIface, Value.int IntKind.u64 0, Value.pointer none, Value.pointer none, Value.bool false, Value.bool false, Value.bool false, Value.bool false, Value.bool false]) ∧ (w.alloc (Obj.cells #[Value.nilIface, Value.int IntKind.u64 0, Value.pointer none, Value.pointer none, Value.bool false, Value.bool false, Value.bool false, Value.bool false, Value.bool false] 47)) = w' := by
  obtain ⟨s1, s2, s3, s4⟩ := szs hb
  go_enter Tryz.func35, Tryz.ntmps35
  go_wp2
  exact bodyPost_ret (v := (Value.agg #[Value.nilIface, Value.int IntKind.u64 0, Value.pointer none, Value.pointer none, Value.bool false, Value.bool false, Value.bool false, Value.bool false, Value.bool false])) (by simp [results, Tryz.results35, go_sem]) rfl ⟨rfl, rfl⟩

theorem el_3 (b : Nat) (c : Option Addr) (w : World) (hb : b < w.heap.size) (hp : Plain w b) (hs : cellsAt w b = #[.iface 124 (.pointer (some ⟨0, 94, none⟩)), .int .u64 23, .pointer none, .pointer none, .bool false, .bool false, .bool false, .bool false, .bool false]) : Calls Tryz.prog 35 #[.pointer (some ⟨b, 0, none⟩), .pointer c] w fun e w' => e = .returned (Value.agg #[Value.iface 124 (Value.pointer (some { block := 0, off := 3 })), Value.int IntKind.u64 2, Value.pointer none, Value.pointer none, Value.bool false, Value.bool false, Value.bool false, Value.bool true, Value.bool false]) ∧ ((w.alloc (Obj.cells #[Value.iface 124 (Value.pointer (some { block := 0, off := 3 })), Value.int IntKind.u64 2, Value.pointer none, Value.pointer none, Value.bool false, Value.bool false, Value.bool false, Value.bool true, Value.bool false] 47)).alloc (Obj.cells #[Value.iface 124 (Value.pointer (some { block := 0, off := 3 })), Value.int IntKind.u64 2, Value.pointer none, Value.pointer none, Value.bool false, Value.bool false, Value.bool false, Value.bool true, Value.bool false] 47)) = w' := by
  obtain ⟨s1, s2, s3, s4⟩ := szs hb
  go_enter Tryz.func35, Tryz.ntmps35
  go_wp2_with (first | (go_at_call 45; ((with_reducible refine (from_3 _ _).mono ?_); rintro e w' ⟨rfl, rfl⟩)))
  exact bodyPost_ret (v := (Value.agg #[Value.iface 124 (Value.pointer (some { block := 0, off := 3 })), Value.int IntKind.u64 2, Value.pointer none, Value.pointer none, Value.bool false, Value.bool false, Value.bool false, Value.bool true, Value.bool false])) (by simp [results, Tryz.results35, go_sem]) rfl ⟨rfl, rfl⟩

theorem el_4 (b : Nat) (c : Option Addr) (w : World) (hb : b < w.heap.size) (hp : Plain w b) (hs : cellsAt w b = #[.iface 124 (.pointer (some ⟨0, 127, none⟩)), .int .u64 22, .pointer none, .pointer none, .bool false, .bool false, .bool false, .bool false, .bool false]) : Calls Tryz.prog 35 #[.pointer (some ⟨b, 0, none⟩), .pointer c] w fun e w' => e = .returned (Value.agg #[Value.iface 124 (Value.pointer (some { block := 0, off := 3 })), Value.int IntKind.u64 2, Value.pointer none, Value.pointer none, Value.bool false, Value.bool false, Value.bool false, Value.bool true, Value.bool false]) ∧ ((w.alloc (Obj.cells #[Value.iface 124 (Value.pointer (some { block := 0, off := 3 })), Value.int IntKind.u64 2, Value.pointer none, Value.pointer none, Value.bool false, Value.bool false, Value.bool false, Value.bool true, Value.bool false] 47)).alloc (Obj.cells #[Value.iface 124 (Value.pointer (some { block := 0, off := 3 })), Value.int IntKind.u64 2, Value.pointer none, Value.pointer none, Value.bool false, Value.bool false, Value.bool false, Value.bool true, Value.bool false] 47)) = w' := by
  obtain ⟨s1, s2, s3, s4⟩ := szs hb
  go_enter Tryz.func35, Tryz.ntmps35
  go_wp2_with (first | (go_at_call 45; ((with_reducible refine (from_3 _ _).mono ?_); rintro e w' ⟨rfl, rfl⟩)))
  exact bodyPost_ret (v := (Value.agg #[Value.iface 124 (Value.pointer (some { block := 0, off := 3 })), Value.int IntKind.u64 2, Value.pointer none, Value.pointer none, Value.bool false, Value.bool false, Value.bool false, Value.bool true, Value.bool false])) (by simp [results, Tryz.results35, go_sem]) rfl ⟨rfl, rfl⟩

theorem el_5 (b : Nat) (c : Option Addr) (w : World) (hb : b < w.heap.size) (hp : Plain w b) (hs : cellsAt w b = #[.iface 124 (.pointer (some ⟨0, 128, none⟩)), .int .u64 21, .pointer none, .pointer none, .bool false, .bool false, .bool false, .bool false, .bool false]) : Calls Tryz.prog 35 #[.pointer (some ⟨b, 0, none⟩), .pointer c] w fun e w' => e = .returned (Value.agg #[Value.iface 124 (Value.pointer (some { block := 0, off := 3 })), Value.int IntKind.u64 2, Value.pointer none, Value.pointer none, Value.bool false, Value.bool false, Value.bool false, Value.bool true, Value.bool false]) ∧ ((w.alloc (Obj.cells #[Value.iface 124 (Value.pointer (some { block := 0, off := 3 })), Value.int IntKind.u64 2, Value.pointer none, Value.pointer none, Value.bool false, Value.bool false, Value.bool false, Value.bool true, Value.bool false] 47)).alloc (Obj.cells #[Value.iface 124 (Value.pointer (some { block := 0, off := 3 })), Value.int IntKind.u64 2, Value.pointer none, Value.pointer none, Value.bool false, Value.bool false, Value.bool false, Value.bool true, Value.bool false] 47)) = w' := by
  obtain ⟨s1, s2, s3, s4⟩ := szs hb
  go_enter Tryz.func35, Tryz.ntmps35
  go_wp2_with (first | (go_at_call 45; ((with_reducible refine (from_3 _ _).mono ?_); rintro e w' ⟨rfl, rfl⟩)))
  exact bodyPost_ret (v := (Value.agg #[Value.iface 124 (Value.pointer (some { block := 0, off := 3 })), Value.int IntKind.u64 2, Value.pointer none, Value.pointer none, Value.bool false, Value.bool false, Value.bool false, Value.bool true, Value.bool false])) (by simp [results, Tryz.results35, go_sem]) rfl ⟨rfl, rfl⟩

theorem el_6 (b : Nat) (c : Option Addr) (w : World) (hb : b < w.heap.size) (hp : Plain w b) (hs : (cellsAt w b)[1]? = some (.int .u64 19)) : Calls Tryz.prog 35 #[.pointer (some ⟨b, 0, none⟩), .pointer c] w fun e w' => e = .returned (Value.agg #[Value.nilIface, Value.int IntKind.u64 0, Value.pointer none, Value.pointer none, Value.bool false, Value.bool false, Value.bool false, Value.bool false, Value.bool false]) ∧ (w.alloc (Obj.cells #[Value.nilIface, Value.int IntKind.u64 0, Value.pointer none, Value.pointer none, Value.bool false, Value.bool false, Value.bool false, Value.bool false, Value.bool false] 47)) = w' := by
  obtain ⟨s1, s2, s3, s4⟩ := szs hb
  go_enter Tryz.func35, Tryz.ntmps35
  go_wp2
  exact bodyPost_ret (v := (Value.agg #[Value.nilIface, Value.int IntKind.u64 0, Value.pointer none, Value.pointer none, Value.bool false, Value.bool false, Value.bool false, Value.bool false, Value.bool false])) (by simp [results, Tryz.results35, go_sem]) rfl ⟨rfl, rfl⟩

theorem el_7 (b : Nat) (c : Option Addr) (w : World) (hb : b < w.heap.size) (hp : Plain w b) (hs : cellsAt w b = #[.iface 124 (.pointer (some ⟨0, 20, none⟩)), .int .u64 20, .pointer none, .pointer none, .bool false, .bool false, .bool false, .bool false, .bool false]) : Calls Tryz.prog 35 #[.pointer (some ⟨b, 0, none⟩), .pointer c] w fun e w' => e = .returned (Value.agg #[Value.nilIface, Value.int IntKind.u64 0, Value.pointer none, Value.pointer none, Value.bool false, Value.bool false, Value.bool false, Value.bool false, Value.bool false]) ∧ (w.alloc (Obj.cells #[Value.nilIface, Value.int IntKind.u64 0, Value.pointer none, Value.pointer none, Value.bool false, Value.bool false, Value.bool false, Value.bool false, Value.bool false] 47)) = w' := by
  obtain ⟨s1, s2, s3, s4⟩ := szs hb
  go_enter Tryz.func35, Tryz.ntmps35
  go_wp2
  exact bodyPost_ret (v := (Value.agg #[Value.nilIface, Value.int IntKind.u64 0, Value.pointer none, Value.pointer none, Value.bool false, Value.bool false, Value.bool false, Value.bool false, Value.bool false])) (by simp [results, Tryz.results35, go_sem]) rfl ⟨rfl, rfl⟩

theorem el_8 (b : Nat) (c : Option Addr) (w : World) (hb : b < w.heap.size) (hp : Plain w b) (hs : cellsAt w b = #[.iface 124 (.pointer (some ⟨0, 25, none⟩)), .int .u64 20, .pointer none, .pointer none, .bool false, .bool false, .bool false, .bool false, .bool false]) : Calls Tryz.prog 35 #[.pointer (some ⟨b, 0, none⟩), .pointer c] w fun e w' => e = .returned (Value.agg #[Value.nilIface, Value.int IntKind.u64 0, Value.pointer none, Value.pointer none, Value.bool false, Value.bool false, Value.bool false, Value.bool false, Value.bool false]) ∧ (w.alloc (Obj.cells #[Value.nilIface, Value.int IntKind.u64 0, Value.pointer none, Value.pointer none, Value.bool false, Value.bool false, Value.bool false, Value.bool false, Value.bool false] 47)) = w' := by
  obtain ⟨s1, s2, s3, s4⟩ := szs hb
  go_enter Tryz.func35, Tryz.ntmps35
  go_wp2
  exact bodyPost_ret (v := (Value.agg #[Value.nilIface, Value.int IntKind.u64 0, Value.pointer none, Value.pointer none, Value.bool false, Value.bool false, Value.bool false, Value.bool false, Value.bool false])) (by simp [results, Tryz.results35, go_sem]) rfl ⟨rfl, rfl⟩

theorem el_9 (b : Nat) (w : World) (hb : b < w.heap.size) (hp : Plain w b) (hs : cellsAt w b = #[.iface 124 (.pointer (some ⟨0, 36, none⟩)), .int .u64 22, .pointer none, .pointer none, .bool false, .bool false, .bool false, .bool false, .bool false]) : Calls Tryz.prog 35 #[.pointer (some ⟨b, 0, none⟩), .pointer none] w fun e w' => e = .returned (Value.agg #[Value.iface 124 (Value.pointer (some { block := 0, off := 40 })), Value.int IntKind.u64 25, Value.pointer (some { block := w.heap.size + 1 + 1, off := 0 }), Value.pointer none, Value.bool false, Value.bool false, Value.bool false, Value.bool false, Value.bool false]) ∧ (((w.alloc (Obj.cells #[Value.iface 124 (Value.pointer (some { block := 0, off := 40 })), Value.int IntKind.u64 25, Value.pointer (some { block := w.heap.size + 1 + 1, off := 0 }), Value.pointer none, Value.bool false, Value.bool false, Value.bool false, Value.bool false, Value.bool false] 47)).alloc (Obj.cells #[Value.iface 124 (Value.pointer (some { block := 0, off := 40 })), Value.int IntKind.u64 25, Value.pointer (some { block := w.heap.size + 1 + 1, off := 0 }), Value.pointer none, Value.bool false, Value.bool false, Value.bool false, Value.bool false, Value.bool false] 47)).alloc (Obj.cells #[Value.pointer none, Value.pointer none, Value.map none, Value.pointer none, Value.pointer none, Value.int IntKind.i64 0, Value.pointer none, Value.pointer none, Value.int IntKind.i64 0, Value.int IntKind.i64 0, Value.bool false, Value.bool false, Value.bool false, Value.bool false] 56)) = w' := by
  obtain ⟨s1, s2, s3, s4⟩ := szs hb
  go_enter Tryz.func35, Tryz.ntmps35
  go_wp2_with (first | (go_at_call 45; ((with_reducible refine (from_40 _).mono ?_); rintro e w' ⟨rfl, rfl⟩)))
  exact bodyPost_ret (v := (Value.agg #[Value.iface 124 (Value.pointer (some { block := 0, off := 40 })), Value.int IntKind.u64 25, Value.pointer (some { block := w.heap.size + 1 + 1, off := 0 }), Value.pointer none, Value.bool false, Value.bool false, Value.bool false, Value.bool false, Value.bool false])) (by simp [results, Tryz.results35, go_sem]) rfl ⟨rfl, rfl⟩

theorem el_10 (b : Nat) (c : Option Addr) (w : World) (hb : b < w.heap.size) (hp : Plain w b) (hs : cellsAt w b = #[.nilIface, .int .u64 0, .pointer none, .pointer none, .bool true, .bool false, .bool false, .bool false, .bool false]) : Calls Tryz.prog 35 #[.pointer (some ⟨b, 0, none⟩), .pointer c] w fun e w' => e = .returned (Value.agg #[Value.nilIface, Value.int IntKind.u64 0, Value.pointer none, Value.pointer none, Value.bool false, Value.bool false, Value.bool false, Value.bool false, Value.bool false]) ∧ (w.alloc (Obj.cells #[Value.nilIface, Value.int IntKind.u64 0, Value.pointer none, Value.pointer none, Value.bool false, Value.bool false, Value.bool false, Value.bool false, Value.bool false] 47)) = w' := by
  obtain ⟨s1, s2, s3, s4⟩ := szs hb
  go_enter Tryz.func35, Tryz.ntmps35
  go_wp2
  exact bodyPost_ret (v := (Value.agg #[Value.nilIface, Value.int IntKind.u64 0, Value.pointer none, Value.pointer none, Value.bool false, Value.bool false, Value.bool false, Value.bool false, Value.bool false])) (by simp [results, Tryz.results35, go_sem]) rfl ⟨rfl, rfl⟩

theorem el_11 (b : Nat) (c : Option Addr) (w : World) (hb : b < w.heap.size) (hp : Plain w b) (hs : cellsAt w b = #[.nilIface, .int .u64 0, .pointer none, .pointer none, .bool false, .bool false, .bool false, .bool false, .bool false]) : Calls Tryz.prog 35 #[.pointer (some ⟨b, 0, none⟩), .pointer c] w fun e w' => e = .returned (Value.agg #[Value.nilIface, Value.int IntKind.u64 0, Value.pointer none, Value.pointer none, Value.bool false, Value.bool false, Value.bool false, Value.bool false, Value.bool false]) ∧ (w.alloc (Obj.cells #[Value.nilIface, Value.int IntKind.u64 0, Value.pointer none, Value.pointer none, Value.bool false, Value.bool false, Value.bool false, Value.bool false, Value.bool false] 47)) = w' := by
  obtain ⟨s1, s2, s3, s4⟩ := szs hb
  go_enter Tryz.func35, Tryz.ntmps35
  go_wp2
  exact bodyPost_ret (v := (Value.agg #[Value.nilIface, Value.int IntKind.u64 0, Value.pointer none, Value.pointer none, Value.bool false, Value.bool false, Value.bool false, Value.bool false, Value.bool false])) (by simp [results, Tryz.results35, go_sem]) rfl ⟨rfl, rfl⟩
end Go.Proofs.YtfmefomafdgfmaaGreat.fnElemSampleTable
