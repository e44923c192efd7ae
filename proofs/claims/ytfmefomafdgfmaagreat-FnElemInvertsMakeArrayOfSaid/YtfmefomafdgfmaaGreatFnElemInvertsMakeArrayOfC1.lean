/-
  The contracts of FnElemInvertsMakeArrayOf: Elem undoes MakeArrayOf: for any nature n, the array made of n has Ref n, and its Elem is n field for field.
-/
import Derived.Test.YtfmefomafdgfmaaGreatBase
import Derived.OpenShut
import Derived.Deep.RegionWith
import Derived.RegionTactic
import Derived.ChangeAlike
import Derived.Deep.QuietTactic
import Derived.BigQuiet
import Derived.WalkSmall
import Derived.Outline
import Derived.Lib.Hide
import Derived.Test.YtfmefomafdgfmaaGreatKit2
import Derived.Test.YtfmefomafdgfmaaGreatFnElemInvertsMakeArrayOfC
namespace Go.Proofs.YtfmefomafdgfmaaGreat.fnElemInvertsMakeArrayOf
open Go.RowKit
set_option maxRecDepth 100000
set_option maxHeartbeats 1000000
set_option linter.unusedVariables false
@[go_sem] theorem str_3 (w : World) : (callFunc 208 #[.pointer (some ⟨0, 3, none⟩)]).run Tryz.prog w = .ok (.value (.string ⟨#[105, 110, 116]⟩)) w := by kernel_rfl

@[go_sem] theorem str_2 (w : World) : (callFunc 208 #[.pointer (some ⟨0, 2, none⟩)]).run Tryz.prog w = .ok (.value (.string ⟨#[105, 110, 116, 54, 52]⟩)) w := by kernel_rfl

@[go_sem] theorem str_9 (w : World) : (callFunc 208 #[.pointer (some ⟨0, 9, none⟩)]).run Tryz.prog w = .ok (.value (.string ⟨#[115, 116, 114, 105, 110, 103]⟩)) w := by kernel_rfl

@[go_sem] theorem str_94 (w : World) : (callFunc 208 #[.pointer (some ⟨0, 94, none⟩)]).run Tryz.prog w = .ok (.value (.string ⟨#[91, 93, 105, 110, 116]⟩)) w := by kernel_rfl

@[go_sem] theorem str_127 (w : World) : (callFunc 208 #[.pointer (some ⟨0, 127, none⟩)]).run Tryz.prog w = .ok (.value (.string ⟨#[42, 105, 110, 116]⟩)) w := by kernel_rfl

@[go_sem] theorem str_128 (w : World) : (callFunc 208 #[.pointer (some ⟨0, 128, none⟩)]).run Tryz.prog w = .ok (.value (.string ⟨#[109, 97, 112, 91, 115, 116, 114, 105, 110, 103, 93, 105, 110, 116]⟩)) w := by kernel_rfl

@[go_sem] theorem str_1 (w : World) : (callFunc 208 #[.pointer (some ⟨0, 1, none⟩)]).run Tryz.prog w = .ok (.value (.string ⟨#[102, 117, 110, 99, 40, 41]⟩)) w := by kernel_rfl

@[go_sem] theorem str_20 (w : World) : (callFunc 208 #[.pointer (some ⟨0, 20, none⟩)]).run Tryz.prog w = .ok (.value (.string ⟨#[105, 110, 116, 101, 114, 102, 97, 99, 101, 32, 123, 125]⟩)) w := by kernel_rfl

@[go_sem] theorem str_25 (w : World) : (callFunc 208 #[.pointer (some ⟨0, 25, none⟩)]).run Tryz.prog w = .ok (.value (.string ⟨#[101, 114, 114, 111, 114]⟩)) w := by kernel_rfl

@[go_sem] theorem str_36 (w : World) : (callFunc 208 #[.pointer (some ⟨0, 36, none⟩)]).run Tryz.prog w = .ok (.value (.string ⟨#[42, 110, 97, 116, 117, 114, 101, 46, 67, 97, 99, 104, 101]⟩)) w := by kernel_rfl

@[go_sem] theorem str_40 (w : World) : (callFunc 208 #[.pointer (some ⟨0, 40, none⟩)]).run Tryz.prog w = .ok (.value (.string ⟨#[110, 97, 116, 117, 114, 101, 46, 67, 97, 99, 104, 101]⟩)) w := by kernel_rfl

theorem sc_3 (b : Nat) (w : World) (hp : Plain w b) (hs : (cellsAt w b)[0]? = some (.iface 124 (.pointer (some ⟨0, 3, none⟩)))) : Calls Tryz.prog 36 #[.pointer (some ⟨b, 0, none⟩)] w fun e w' => e = .returned (Value.string { data := #[105, 110, 116] }) ∧ (w) = w' := by
  go_enter Tryz.func36, Tryz.ntmps36
  go_wp2
  exact bodyPost_ret (v := (Value.string { data := #[105, 110, 116] })) (by simp [results, Tryz.results36, go_sem]) rfl ⟨rfl, rfl⟩

theorem sc_2 (b : Nat) (w : World) (hp : Plain w b) (hs : (cellsAt w b)[0]? = some (.iface 124 (.pointer (some ⟨0, 2, none⟩)))) : Calls Tryz.prog 36 #[.pointer (some ⟨b, 0, none⟩)] w fun e w' => e = .returned (Value.string { data := #[105, 110, 116, 54, 52] }) ∧ (w) = w' := by
  go_enter Tryz.func36, Tryz.ntmps36
  go_wp2
  exact bodyPost_ret (v := (Value.string { data := #[105, 110, 116, 54, 52] })) (by simp [results, Tryz.results36, go_sem]) rfl ⟨rfl, rfl⟩

theorem sc_9 (b : Nat) (w : World) (hp : Plain w b) (hs : (cellsAt w b)[0]? = some (.iface 124 (.pointer (some ⟨0, 9, none⟩)))) : Calls Tryz.prog 36 #[.pointer (some ⟨b, 0, none⟩)] w fun e w' => e = .returned (Value.string { data := #[115, 116, 114, 105, 110, 103] }) ∧ (w) = w' := by
  go_enter Tryz.func36, Tryz.ntmps36
  go_wp2
  exact bodyPost_ret (v := (Value.string { data := #[115, 116, 114, 105, 110, 103] })) (by simp [results, Tryz.results36, go_sem]) rfl ⟨rfl, rfl⟩

theorem sc_94 (b : Nat) (w : World) (hp : Plain w b) (hs : (cellsAt w b)[0]? = some (.iface 124 (.pointer (some ⟨0, 94, none⟩)))) : Calls Tryz.prog 36 #[.pointer (some ⟨b, 0, none⟩)] w fun e w' => e = .returned (Value.string { data := #[91, 93, 105, 110, 116] }) ∧ (w) = w' := by
  go_enter Tryz.func36, Tryz.ntmps36
  go_wp2
  exact bodyPost_ret (v := (Value.string { data := #[91, 93, 105, 110, 116] })) (by simp [results, Tryz.results36, go_sem]) rfl ⟨rfl, rfl⟩

theorem sc_127 (b : Nat) (w : World) (hp : Plain w b) (hs : (cellsAt w b)[0]? = some (.iface 124 (.pointer (some ⟨0, 127, none⟩)))) : Calls Tryz.prog 36 #[.pointer (some ⟨b, 0, none⟩)] w fun e w' => e = .returned (Value.string { data := #[42, 105, 110, 116] }) ∧ (w) = w' := by
  go_enter Tryz.func36, Tryz.ntmps36
  go_wp2
  exact bodyPost_ret (v := (Value.string { data := #[42, 105, 110, 116] })) (by simp [results, Tryz.results36, go_sem]) rfl ⟨rfl, rfl⟩

theorem sc_128 (b : Nat) (w : World) (hp : Plain w b) (hs : (cellsAt w b)[0]? = some (.iface 124 (.pointer (some ⟨0, 128, none⟩)))) : Calls Tryz.prog 36 #[.pointer (some ⟨b, 0, none⟩)] w fun e w' => e = .returned (Value.string { data := #[109, 97, 112, 91, 115, 116, 114, 105, 110, 103, 93, 105, 110, 116] }) ∧ (w) = w' := by
  go_enter Tryz.func36, Tryz.ntmps36
  go_wp2
  exact bodyPost_ret (v := (Value.string { data := #[109, 97, 112, 91, 115, 116, 114, 105, 110, 103, 93, 105, 110, 116] })) (by simp [results, Tryz.results36, go_sem]) rfl ⟨rfl, rfl⟩

theorem sc_1 (b : Nat) (w : World) (hp : Plain w b) (hs : (cellsAt w b)[0]? = some (.iface 124 (.pointer (some ⟨0, 1, none⟩)))) : Calls Tryz.prog 36 #[.pointer (some ⟨b, 0, none⟩)] w fun e w' => e = .returned (Value.string { data := #[102, 117, 110, 99, 40, 41] }) ∧ (w) = w' := by
  go_enter Tryz.func36, Tryz.ntmps36
  go_wp2
  exact bodyPost_ret (v := (Value.string { data := #[102, 117, 110, 99, 40, 41] })) (by simp [results, Tryz.results36, go_sem]) rfl ⟨rfl, rfl⟩

theorem sc_20 (b : Nat) (w : World) (hp : Plain w b) (hs : (cellsAt w b)[0]? = some (.iface 124 (.pointer (some ⟨0, 20, none⟩)))) : Calls Tryz.prog 36 #[.pointer (some ⟨b, 0, none⟩)] w fun e w' => e = .returned (Value.string { data := #[105, 110, 116, 101, 114, 102, 97, 99, 101, 32, 123, 125] }) ∧ (w) = w' := by
  go_enter Tryz.func36, Tryz.ntmps36
  go_wp2
  exact bodyPost_ret (v := (Value.string { data := #[105, 110, 116, 101, 114, 102, 97, 99, 101, 32, 123, 125] })) (by simp [results, Tryz.results36, go_sem]) rfl ⟨rfl, rfl⟩

theorem sc_25 (b : Nat) (w : World) (hp : Plain w b) (hs : (cellsAt w b)[0]? = some (.iface 124 (.pointer (some ⟨0, 25, none⟩)))) : Calls Tryz.prog 36 #[.pointer (some ⟨b, 0, none⟩)] w fun e w' => e = .returned (Value.string { data := #[101, 114, 114, 111, 114] }) ∧ (w) = w' := by
  go_enter Tryz.func36, Tryz.ntmps36
  go_wp2
  exact bodyPost_ret (v := (Value.string { data := #[101, 114, 114, 111, 114] })) (by simp [results, Tryz.results36, go_sem]) rfl ⟨rfl, rfl⟩

theorem sc_36 (b : Nat) (w : World) (hp : Plain w b) (hs : (cellsAt w b)[0]? = some (.iface 124 (.pointer (some ⟨0, 36, none⟩)))) : Calls Tryz.prog 36 #[.pointer (some ⟨b, 0, none⟩)] w fun e w' => e = .returned (Value.string { data := #[42, 110, 97, 116, 117, 114, 101, 46, 67, 97, 99, 104, 101] }) ∧ (w) = w' := by
  go_enter Tryz.func36, Tryz.ntmps36
  go_wp2
  exact bodyPost_ret (v := (Value.string { data := #[42, 110, 97, 116, 117, 114, 101, 46, 67, 97, 99, 104, 101] })) (by simp [results, Tryz.results36, go_sem]) rfl ⟨rfl, rfl⟩

theorem sc_40 (b : Nat) (w : World) (hp : Plain w b) (hs : (cellsAt w b)[0]? = some (.iface 124 (.pointer (some ⟨0, 40, none⟩)))) : Calls Tryz.prog 36 #[.pointer (some ⟨b, 0, none⟩)] w fun e w' => e = .returned (Value.string { data := #[110, 97, 116, 117, 114, 101, 46, 67, 97, 99, 104, 101] }) ∧ (w) = w' := by
  go_enter Tryz.func36, Tryz.ntmps36
  go_wp2
  exact bodyPost_ret (v := (Value.string { data := #[110, 97, 116, 117, 114, 101, 46, 67, 97, 99, 104, 101] })) (by simp [results, Tryz.results36, go_sem]) rfl ⟨rfl, rfl⟩

theorem sc_un (b : Nat) (w : World) (hp : Plain w b) (hs : (cellsAt w b)[0]? = some .nilIface) : Calls Tryz.prog 36 #[.pointer (some ⟨b, 0, none⟩)] w fun e w' => e = .returned (Value.string { data := #[117, 110, 107, 110, 111, 119, 110] }) ∧ (w) = w' := by
  go_enter Tryz.func36, Tryz.ntmps36
  go_wp2
  exact bodyPost_ret (v := (Value.string { data := #[117, 110, 107, 110, 111, 119, 110] })) (by simp [results, Tryz.results36, go_sem]) rfl ⟨rfl, rfl⟩

@[go_sem] theorem kind_88 (w : World) : (callFunc 190 #[.pointer (some ⟨0, 88, none⟩)]).run Tryz.prog w = .ok (.value (.int .u64 23)) w := by kernel_rfl

theorem from_88 (c : Option Addr) (w : World) : Calls Tryz.prog 45 #[.pointer c, .iface 124 (.pointer (some ⟨0, 88, none⟩))] w fun e w' => e = .returned (.agg #[.iface 124 (.pointer (some ⟨0, 88, none⟩)), .int .u64 23, .pointer none, .pointer none, .bool false, .bool false, .bool false, .bool false, .bool false]) ∧ w.alloc (.cells #[.iface 124 (.pointer (some ⟨0, 88, none⟩)), .int .u64 23, .pointer none, .pointer none, .bool false, .bool false, .bool false, .bool false, .bool false] 47) = w' :=
  from_plain c 88 23 kind_88 rfl rfl rfl rfl rfl rfl rfl rfl rfl rfl rfl rfl rfl rfl rfl w

theorem aty  (w : World)  : Calls Tryz.prog 77 #[] w fun e w' => e = .returned (Value.iface 124 (Value.pointer (some { block := 0, off := 88 }))) ∧ (w.alloc (Obj.cells #[] 20)) = w' := by
  go_enter Tryz.func77, Tryz.ntmps77
  go_wp2
  exact bodyPost_ret (v := (Value.iface 124 (Value.pointer (some { block := 0, off := 88 })))) (by simp [results, Tryz.results77, go_sem]) rfl ⟨rfl, rfl⟩

theorem mk (b : Nat) (c : Option Addr) (w : World)  : Calls Tryz.prog 38 #[.pointer (some ⟨b, 0, none⟩), .pointer c] w fun e w' => e = .returned (Value.agg #[Value.iface 124 (Value.pointer (some { block := 0, off := 88 })), Value.int IntKind.u64 23, Value.pointer none, Value.pointer (some { block := b, off := 0 }), Value.bool false, Value.bool false, Value.bool false, Value.bool false, Value.bool false]) ∧ ((((w.alloc (Obj.cells #[Value.iface 124 (Value.pointer (some { block := 0, off := 88 })), Value.int IntKind.u64 23, Value.pointer none, Value.pointer (some { block := b, off := 0 }), Value.bool false, Value.bool false, Value.bool false, Value.bool false, Value.bool false] 47)).alloc (Obj.cells #[] 20)).alloc (Obj.cells #[Value.iface 124 (Value.pointer (some { block := 0, off := 88 })), Value.int IntKind.u64 23, Value.pointer none, Value.pointer none, Value.bool false, Value.bool false, Value.bool false, Value.bool false, Value.bool false] 47)).alloc (Obj.cells #[Value.iface 124 (Value.pointer (some { block := 0, off := 88 })), Value.int IntKind.u64 23, Value.pointer none, Value.pointer (some { block := b, off := 0 }), Value.bool false, Value.bool false, Value.bool false, Value.bool false, Value.bool false] 47)) = w' := by
  go_enter Tryz.func38, Tryz.ntmps38
  go_wp2_with (first | (go_at_call 77; ((with_reducible refine (aty _).mono ?_); rintro e w' ⟨rfl, rfl⟩)) | (go_at_call 45; ((with_reducible refine (from_88 _ _).mono ?_); rintro e w' ⟨rfl, rfl⟩)))
  exact bodyPost_ret (v := (Value.agg #[Value.iface 124 (Value.pointer (some { block := 0, off := 88 })), Value.int IntKind.u64 23, Value.pointer none, Value.pointer (some { block := b, off := 0 }), Value.bool false, Value.bool false, Value.bool false, Value.bool false, Value.bool false])) (by simp [results, Tryz.results38, go_sem]) rfl ⟨rfl, rfl⟩

theorem pl (k : Int) (b1 b2 b3 b4 b5 : Bool) (w : World)  : Calls Tryz.prog 37 #[.int .u64 k, .bool b1, .bool b2, .bool b3, .bool b4, .bool b5] w fun e w' => e = .returned (Value.agg #[Value.nilIface, Value.int IntKind.u64 k, Value.pointer none, Value.pointer none, Value.bool b1, Value.bool b2, Value.bool b3, Value.bool b4, Value.bool b5]) ∧ (w.alloc (Obj.cells #[Value.nilIface, Value.int IntKind.u64 k, Value.pointer none, Value.pointer none, Value.bool b1, Value.bool b2, Value.bool b3, Value.bool b4, Value.bool b5] 47)) = w' := by
  go_enter Tryz.func37, Tryz.ntmps37
  go_wp2_with (first | (go_at_call 76; go_in))
  exact bodyPost_ret (v := (Value.agg #[Value.nilIface, Value.int IntKind.u64 k, Value.pointer none, Value.pointer none, Value.bool b1, Value.bool b2, Value.bool b3, Value.bool b4, Value.bool b5])) (by simp [results, Tryz.results37, go_sem]) rfl ⟨rfl, rfl⟩

theorem ea_t (b n : Nat) (c : Option Addr) (u : TypeId) (x : Value) (k : Int) (td rf : Option Addr) (b1 b2 b3 b4 b5 : Bool) (w : World) (hb : b < w.heap.size) (hp : Plain w b) (hs : cellsAt w b = #[.iface 124 (.pointer (some ⟨0, 88, none⟩)), .int .u64 23, .pointer none, .pointer (some ⟨n, 0, none⟩), .bool false, .bool false, .bool false, .bool false, .bool false]) (hn : n < w.heap.size) (hq : Plain w n) (hr : cellsAt w n = #[.iface u x, .int .u64 k, .pointer td, .pointer rf, .bool b1, .bool b2, .bool b3, .bool b4, .bool b5]) : Calls Tryz.prog 35 #[.pointer (some ⟨b, 0, none⟩), .pointer c] w fun e w' => e = .returned (Value.agg #[Value.iface u x, Value.int IntKind.u64 k, Value.pointer td, Value.pointer rf, Value.bool b1, Value.bool b2, Value.bool b3, Value.bool b4, Value.bool b5]) ∧ (w.alloc (Obj.cells #[Value.iface u x, Value.int IntKind.u64 k, Value.pointer td, Value.pointer rf, Value.bool b1, Value.bool b2, Value.bool b3, Value.bool b4, Value.bool b5] 47)) = w' := by
  obtain ⟨s1, s2, s3, s4⟩ := szs hb
  obtain ⟨q1, q2, q3, q4⟩ := szs hn
  go_enter Tryz.func35, Tryz.ntmps35
  go_wp2
  exact bodyPost_ret (v := (Value.agg #[Value.iface u x, Value.int IntKind.u64 k, Value.pointer td, Value.pointer rf, Value.bool b1, Value.bool b2, Value.bool b3, Value.bool b4, Value.bool b5])) (by simp [results, Tryz.results35, go_sem]) rfl ⟨rfl, rfl⟩

theorem ea_u (b n : Nat) (c : Option Addr) (k : Int) (td rf : Option Addr) (b1 b2 b3 b4 b5 : Bool) (w : World) (hb : b < w.heap.size) (hp : Plain w b) (hs : cellsAt w b = #[.iface 124 (.pointer (some ⟨0, 88, none⟩)), .int .u64 23, .pointer none, .pointer (some ⟨n, 0, none⟩), .bool false, .bool false, .bool false, .bool false, .bool false]) (hn : n < w.heap.size) (hq : Plain w n) (hr : cellsAt w n = #[.nilIface, .int .u64 k, .pointer td, .pointer rf, .bool b1, .bool b2, .bool b3, .bool b4, .bool b5]) : Calls Tryz.prog 35 #[.pointer (some ⟨b, 0, none⟩), .pointer c] w fun e w' => e = .returned (Value.agg #[Value.nilIface, Value.int IntKind.u64 k, Value.pointer td, Value.pointer rf, Value.bool b1, Value.bool b2, Value.bool b3, Value.bool b4, Value.bool b5]) ∧ (w.alloc (Obj.cells #[Value.nilIface, Value.int IntKind.u64 k, Value.pointer td, Value.pointer rf, Value.bool b1, Value.bool b2, Value.bool b3, Value.bool b4, Value.bool b5] 47)) = w' := by
  obtain ⟨s1, s2, s3, s4⟩ := szs hb
  obtain ⟨q1, q2, q3, q4⟩ := szs hn
  go_enter Tryz.func35, Tryz.ntmps35
  go_wp2
  exact bodyPost_ret (v := (Value.agg #[Value.nilIface, Value.int IntKind.u64 k, Value.pointer td, Value.pointer rf, Value.bool b1, Value.bool b2, Value.bool b3, Value.bool b4, Value.bool b5])) (by simp [results, Tryz.results35, go_sem]) rfl ⟨rfl, rfl⟩
end Go.Proofs.YtfmefomafdgfmaaGreat.fnElemInvertsMakeArrayOf
