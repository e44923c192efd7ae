/-
  The contracts of FnFromTypeKindTable: FromType with a nil cache gives exactly the tabled nature for each of the 22 types.
-/
import Derived.Test.YtjdnoaojjmejmaaGreatBase
import Derived.OpenShut
import Derived.Deep.RegionWith
import Derived.RegionTactic
import Derived.ChangeAlike
import Derived.Deep.QuietTactic
import Derived.BigQuiet
import Derived.WalkSmall
import Derived.Test.YtjdnoaojjmejmaaGreatFnFromTypeKindTableC
namespace Go.Proofs.YtjdnoaojjmejmaaGreat.fnFromTypeKindTable
open Go.RowKit
set_option maxRecDepth 100000
set_option maxHeartbeats 1000000
set_option linter.unusedVariables false
theorem it_Int  (w : World)  : Calls Tryz.prog 54 #[.agg #[.iface 122 (.pointer (some ⟨0, 3, none⟩)), .int .u64 2, .pointer none, .pointer none, .bool false, .bool false, .bool false, .bool true, .bool false]] w fun e w' => e = .returned (Value.bool true) ∧ ((w.alloc (Obj.cells #[Value.iface 122 (Value.pointer (some { block := 0, off := 3 })), Value.int IntKind.u64 2, Value.pointer none, Value.pointer none, Value.bool false, Value.bool false, Value.bool false, Value.bool true, Value.bool false] 43)).drew) = w' := by
  go_enter Tryz.func54, Tryz.ntmps54
  go_wp2
  go_region
  all_goals go_wp2
  all_goals exact bodyPost_ret (v := (Value.bool true)) (by simp [results, Tryz.results54, go_sem]) rfl ⟨rfl, rfl⟩

theorem it_Int8  (w : World)  : Calls Tryz.prog 56 #[.agg #[.iface 122 (.pointer (some ⟨0, 29, none⟩)), .int .u64 3, .pointer none, .pointer none, .bool false, .bool false, .bool false, .bool true, .bool false]] w fun e w' => e = .returned (Value.bool true) ∧ ((w.alloc (Obj.cells #[Value.iface 122 (Value.pointer (some { block := 0, off := 29 })), Value.int IntKind.u64 3, Value.pointer none, Value.pointer none, Value.bool false, Value.bool false, Value.bool false, Value.bool true, Value.bool false] 43)).drew) = w' := by
  go_enter Tryz.func56, Tryz.ntmps56
  go_wp2
  go_region
  all_goals go_wp2
  all_goals exact bodyPost_ret (v := (Value.bool true)) (by simp [results, Tryz.results56, go_sem]) rfl ⟨rfl, rfl⟩

theorem it_Int64  (w : World)  : Calls Tryz.prog 24 #[.agg #[.iface 122 (.pointer (some ⟨0, 2, none⟩)), .int .u64 6, .pointer none, .pointer none, .bool false, .bool false, .bool false, .bool true, .bool false]] w fun e w' => e = .returned (Value.bool true) ∧ ((w.alloc (Obj.cells #[Value.iface 122 (Value.pointer (some { block := 0, off := 2 })), Value.int IntKind.u64 6, Value.pointer none, Value.pointer none, Value.bool false, Value.bool false, Value.bool false, Value.bool true, Value.bool false] 43)).drew) = w' := by
  go_enter Tryz.func24, Tryz.ntmps24
  go_wp2
  go_region
  all_goals go_wp2
  all_goals exact bodyPost_ret (v := (Value.bool true)) (by simp [results, Tryz.results24, go_sem]) rfl ⟨rfl, rfl⟩

theorem it_Uint8  (w : World)  : Calls Tryz.prog 26 #[.agg #[.iface 122 (.pointer (some ⟨0, 5, none⟩)), .int .u64 8, .pointer none, .pointer none, .bool false, .bool false, .bool false, .bool true, .bool false]] w fun e w' => e = .returned (Value.bool true) ∧ ((w.alloc (Obj.cells #[Value.iface 122 (Value.pointer (some { block := 0, off := 5 })), Value.int IntKind.u64 8, Value.pointer none, Value.pointer none, Value.bool false, Value.bool false, Value.bool false, Value.bool true, Value.bool false] 43)).drew) = w' := by
  go_enter Tryz.func26, Tryz.ntmps26
  go_wp2
  go_region
  all_goals go_wp2
  all_goals exact bodyPost_ret (v := (Value.bool true)) (by simp [results, Tryz.results26, go_sem]) rfl ⟨rfl, rfl⟩

theorem it_Uint64  (w : World)  : Calls Tryz.prog 60 #[.agg #[.iface 122 (.pointer (some ⟨0, 33, none⟩)), .int .u64 11, .pointer none, .pointer none, .bool false, .bool false, .bool false, .bool true, .bool false]] w fun e w' => e = .returned (Value.bool true) ∧ ((w.alloc (Obj.cells #[Value.iface 122 (Value.pointer (some { block := 0, off := 33 })), Value.int IntKind.u64 11, Value.pointer none, Value.pointer none, Value.bool false, Value.bool false, Value.bool false, Value.bool true, Value.bool false] 43)).drew) = w' := by
  go_enter Tryz.func60, Tryz.ntmps60
  go_wp2
  go_region
  all_goals go_wp2
  all_goals exact bodyPost_ret (v := (Value.bool true)) (by simp [results, Tryz.results60, go_sem]) rfl ⟨rfl, rfl⟩

theorem it_Uintptr  (w : World)  : Calls Tryz.prog 62 #[.agg #[.iface 122 (.pointer (some ⟨0, 12, none⟩)), .int .u64 12, .pointer none, .pointer none, .bool false, .bool false, .bool false, .bool true, .bool false]] w fun e w' => e = .returned (Value.bool true) ∧ ((w.alloc (Obj.cells #[Value.iface 122 (Value.pointer (some { block := 0, off := 12 })), Value.int IntKind.u64 12, Value.pointer none, Value.pointer none, Value.bool false, Value.bool false, Value.bool false, Value.bool true, Value.bool false] 43)).drew) = w' := by
  go_enter Tryz.func62, Tryz.ntmps62
  go_wp2
  go_region
  all_goals go_wp2
  all_goals exact bodyPost_ret (v := (Value.bool true)) (by simp [results, Tryz.results62, go_sem]) rfl ⟨rfl, rfl⟩

theorem it_Float32  (w : World)  : Calls Tryz.prog 64 #[.agg #[.iface 122 (.pointer (some ⟨0, 26, none⟩)), .int .u64 13, .pointer none, .pointer none, .bool false, .bool false, .bool false, .bool false, .bool true]] w fun e w' => e = .returned (Value.bool true) ∧ ((w.alloc (Obj.cells #[Value.iface 122 (Value.pointer (some { block := 0, off := 26 })), Value.int IntKind.u64 13, Value.pointer none, Value.pointer none, Value.bool false, Value.bool false, Value.bool false, Value.bool false, Value.bool true] 43)).drew) = w' := by
  go_enter Tryz.func64, Tryz.ntmps64
  go_wp2
  go_region
  all_goals go_wp2
  all_goals exact bodyPost_ret (v := (Value.bool true)) (by simp [results, Tryz.results64, go_sem]) rfl ⟨rfl, rfl⟩

theorem it_Float64  (w : World)  : Calls Tryz.prog 28 #[.agg #[.iface 122 (.pointer (some ⟨0, 27, none⟩)), .int .u64 14, .pointer none, .pointer none, .bool false, .bool false, .bool false, .bool false, .bool true]] w fun e w' => e = .returned (Value.bool true) ∧ ((w.alloc (Obj.cells #[Value.iface 122 (Value.pointer (some { block := 0, off := 27 })), Value.int IntKind.u64 14, Value.pointer none, Value.pointer none, Value.bool false, Value.bool false, Value.bool false, Value.bool false, Value.bool true] 43)).drew) = w' := by
  go_enter Tryz.func28, Tryz.ntmps28
  go_wp2
  go_region
  all_goals go_wp2
  all_goals exact bodyPost_ret (v := (Value.bool true)) (by simp [results, Tryz.results28, go_sem]) rfl ⟨rfl, rfl⟩

theorem it_MyInt  (w : World)  : Calls Tryz.prog 67 #[.agg #[.iface 122 (.pointer (some ⟨0, 104, none⟩)), .int .u64 2, .pointer none, .pointer none, .bool false, .bool false, .bool false, .bool false, .bool false]] w fun e w' => e = .returned (Value.bool true) ∧ ((w.alloc (Obj.cells #[Value.iface 122 (Value.pointer (some { block := 0, off := 104 })), Value.int IntKind.u64 2, Value.pointer none, Value.pointer none, Value.bool false, Value.bool false, Value.bool false, Value.bool false, Value.bool false] 43)).drew) = w' := by
  go_enter Tryz.func67, Tryz.ntmps67
  go_wp2
  go_region
  all_goals go_wp2
  all_goals exact bodyPost_ret (v := (Value.bool true)) (by simp [results, Tryz.results67, go_sem]) rfl ⟨rfl, rfl⟩

theorem it_MyFloat  (w : World)  : Calls Tryz.prog 69 #[.agg #[.iface 122 (.pointer (some ⟨0, 105, none⟩)), .int .u64 14, .pointer none, .pointer none, .bool false, .bool false, .bool false, .bool false, .bool false]] w fun e w' => e = .returned (Value.bool true) ∧ ((w.alloc (Obj.cells #[Value.iface 122 (Value.pointer (some { block := 0, off := 105 })), Value.int IntKind.u64 14, Value.pointer none, Value.pointer none, Value.bool false, Value.bool false, Value.bool false, Value.bool false, Value.bool false] 43)).drew) = w' := by
  go_enter Tryz.func69, Tryz.ntmps69
  go_wp2
  go_region
  all_goals go_wp2
  all_goals exact bodyPost_ret (v := (Value.bool true)) (by simp [results, Tryz.results69, go_sem]) rfl ⟨rfl, rfl⟩

theorem it_String  (w : World)  : Calls Tryz.prog 30 #[.agg #[.iface 122 (.pointer (some ⟨0, 9, none⟩)), .int .u64 24, .pointer none, .pointer none, .bool false, .bool false, .bool false, .bool false, .bool false]] w fun e w' => e = .returned (Value.bool true) ∧ ((w.alloc (Obj.cells #[Value.iface 122 (Value.pointer (some { block := 0, off := 9 })), Value.int IntKind.u64 24, Value.pointer none, Value.pointer none, Value.bool false, Value.bool false, Value.bool false, Value.bool false, Value.bool false] 43)).drew) = w' := by
  go_enter Tryz.func30, Tryz.ntmps30
  go_wp2
  go_region
  all_goals go_wp2
  all_goals exact bodyPost_ret (v := (Value.bool true)) (by simp [results, Tryz.results30, go_sem]) rfl ⟨rfl, rfl⟩

theorem it_Bool  (w : World)  : Calls Tryz.prog 32 #[.agg #[.iface 122 (.pointer (some ⟨0, 4, none⟩)), .int .u64 1, .pointer none, .pointer none, .bool false, .bool false, .bool false, .bool false, .bool false]] w fun e w' => e = .returned (Value.bool true) ∧ ((w.alloc (Obj.cells #[Value.iface 122 (Value.pointer (some { block := 0, off := 4 })), Value.int IntKind.u64 1, Value.pointer none, Value.pointer none, Value.bool false, Value.bool false, Value.bool false, Value.bool false, Value.bool false] 43)).drew) = w' := by
  go_enter Tryz.func32, Tryz.ntmps32
  go_wp2
  go_region
  all_goals go_wp2
  all_goals exact bodyPost_ret (v := (Value.bool true)) (by simp [results, Tryz.results32, go_sem]) rfl ⟨rfl, rfl⟩

theorem it_Func (td : Option Addr) (w : World)  : Calls Tryz.prog 73 #[.agg #[.iface 122 (.pointer (some ⟨0, 36, none⟩)), .int .u64 19, .pointer td, .pointer none, .bool false, .bool false, .bool false, .bool false, .bool false]] w fun e w' => e = .returned (Value.bool true) ∧ ((w.alloc (Obj.cells #[Value.iface 122 (Value.pointer (some { block := 0, off := 36 })), Value.int IntKind.u64 19, Value.pointer td, Value.pointer none, Value.bool false, Value.bool false, Value.bool false, Value.bool false, Value.bool false] 43)).drew) = w' := by
  go_enter Tryz.func73, Tryz.ntmps73
  go_wp2
  go_region
  all_goals go_wp2
  all_goals exact bodyPost_ret (v := (Value.bool true)) (by simp [results, Tryz.results73, go_sem]) rfl ⟨rfl, rfl⟩

theorem it_Struct (td : Option Addr) (w : World)  : Calls Tryz.prog 75 #[.agg #[.iface 122 (.pointer (some ⟨0, 107, none⟩)), .int .u64 25, .pointer td, .pointer none, .bool false, .bool false, .bool false, .bool false, .bool false]] w fun e w' => e = .returned (Value.bool true) ∧ ((w.alloc (Obj.cells #[Value.iface 122 (Value.pointer (some { block := 0, off := 107 })), Value.int IntKind.u64 25, Value.pointer td, Value.pointer none, Value.bool false, Value.bool false, Value.bool false, Value.bool false, Value.bool false] 43)).drew) = w' := by
  go_enter Tryz.func75, Tryz.ntmps75
  go_wp2
  go_region
  all_goals go_wp2
  all_goals exact bodyPost_ret (v := (Value.bool true)) (by simp [results, Tryz.results75, go_sem]) rfl ⟨rfl, rfl⟩

theorem it_SliceInt  (w : World)  : Calls Tryz.prog 34 #[.agg #[.iface 122 (.pointer (some ⟨0, 50, none⟩)), .int .u64 23, .pointer none, .pointer none, .bool false, .bool false, .bool false, .bool false, .bool false]] w fun e w' => e = .returned (Value.bool true) ∧ ((w.alloc (Obj.cells #[Value.iface 122 (Value.pointer (some { block := 0, off := 50 })), Value.int IntKind.u64 23, Value.pointer none, Value.pointer none, Value.bool false, Value.bool false, Value.bool false, Value.bool false, Value.bool false] 43)).drew) = w' := by
  go_enter Tryz.func34, Tryz.ntmps34
  go_wp2
  go_region
  all_goals go_wp2
  all_goals exact bodyPost_ret (v := (Value.bool true)) (by simp [results, Tryz.results34, go_sem]) rfl ⟨rfl, rfl⟩

theorem it_MapStringInt  (w : World)  : Calls Tryz.prog 36 #[.agg #[.iface 122 (.pointer (some ⟨0, 53, none⟩)), .int .u64 21, .pointer none, .pointer none, .bool false, .bool false, .bool false, .bool false, .bool false]] w fun e w' => e = .returned (Value.bool true) ∧ ((w.alloc (Obj.cells #[Value.iface 122 (Value.pointer (some { block := 0, off := 53 })), Value.int IntKind.u64 21, Value.pointer none, Value.pointer none, Value.bool false, Value.bool false, Value.bool false, Value.bool false, Value.bool false] 43)).drew) = w' := by
  go_enter Tryz.func36, Tryz.ntmps36
  go_wp2
  go_region
  all_goals go_wp2
  all_goals exact bodyPost_ret (v := (Value.bool true)) (by simp [results, Tryz.results36, go_sem]) rfl ⟨rfl, rfl⟩

theorem it_PtrInt  (w : World)  : Calls Tryz.prog 38 #[.agg #[.iface 122 (.pointer (some ⟨0, 51, none⟩)), .int .u64 22, .pointer none, .pointer none, .bool false, .bool false, .bool false, .bool false, .bool false]] w fun e w' => e = .returned (Value.bool true) ∧ ((w.alloc (Obj.cells #[Value.iface 122 (Value.pointer (some { block := 0, off := 51 })), Value.int IntKind.u64 22, Value.pointer none, Value.pointer none, Value.bool false, Value.bool false, Value.bool false, Value.bool false, Value.bool false] 43)).drew) = w' := by
  go_enter Tryz.func38, Tryz.ntmps38
  go_wp2
  go_region
  all_goals go_wp2
  all_goals exact bodyPost_ret (v := (Value.bool true)) (by simp [results, Tryz.results38, go_sem]) rfl ⟨rfl, rfl⟩

theorem it_Complex128  (w : World)  : Calls Tryz.prog 80 #[.agg #[.iface 122 (.pointer (some ⟨0, 22, none⟩)), .int .u64 16, .pointer none, .pointer none, .bool false, .bool false, .bool false, .bool false, .bool false]] w fun e w' => e = .returned (Value.bool true) ∧ ((w.alloc (Obj.cells #[Value.iface 122 (Value.pointer (some { block := 0, off := 22 })), Value.int IntKind.u64 16, Value.pointer none, Value.pointer none, Value.bool false, Value.bool false, Value.bool false, Value.bool false, Value.bool false] 43)).drew) = w' := by
  go_enter Tryz.func80, Tryz.ntmps80
  go_wp2
  go_region
  all_goals go_wp2
  all_goals exact bodyPost_ret (v := (Value.bool true)) (by simp [results, Tryz.results80, go_sem]) rfl ⟨rfl, rfl⟩

theorem it_Any  (w : World)  : Calls Tryz.prog 82 #[.agg #[.iface 122 (.pointer (some ⟨0, 20, none⟩)), .int .u64 20, .pointer none, .pointer none, .bool false, .bool false, .bool false, .bool false, .bool false]] w fun e w' => e = .returned (Value.bool true) ∧ ((w.alloc (Obj.cells #[Value.iface 122 (Value.pointer (some { block := 0, off := 20 })), Value.int IntKind.u64 20, Value.pointer none, Value.pointer none, Value.bool false, Value.bool false, Value.bool false, Value.bool false, Value.bool false] 43)).drew) = w' := by
  go_enter Tryz.func82, Tryz.ntmps82
  go_wp2
  go_region
  all_goals go_wp2
  all_goals exact bodyPost_ret (v := (Value.bool true)) (by simp [results, Tryz.results82, go_sem]) rfl ⟨rfl, rfl⟩

theorem it_EmptyIface  (w : World)  : Calls Tryz.prog 84 #[.agg #[.iface 122 (.pointer (some ⟨0, 221, none⟩)), .int .u64 20, .pointer none, .pointer none, .bool false, .bool false, .bool false, .bool false, .bool false]] w fun e w' => e = .returned (Value.bool true) ∧ ((w.alloc (Obj.cells #[Value.iface 122 (Value.pointer (some { block := 0, off := 221 })), Value.int IntKind.u64 20, Value.pointer none, Value.pointer none, Value.bool false, Value.bool false, Value.bool false, Value.bool false, Value.bool false] 43)).drew) = w' := by
  go_enter Tryz.func84, Tryz.ntmps84
  go_wp2
  go_region
  all_goals go_wp2
  all_goals exact bodyPost_ret (v := (Value.bool true)) (by simp [results, Tryz.results84, go_sem]) rfl ⟨rfl, rfl⟩

theorem it_OneMethod  (w : World)  : Calls Tryz.prog 86 #[.agg #[.iface 122 (.pointer (some ⟨0, 223, none⟩)), .int .u64 20, .pointer none, .pointer none, .bool false, .bool false, .bool false, .bool false, .bool false]] w fun e w' => e = .returned (Value.bool true) ∧ ((w.alloc (Obj.cells #[Value.iface 122 (Value.pointer (some { block := 0, off := 223 })), Value.int IntKind.u64 20, Value.pointer none, Value.pointer none, Value.bool false, Value.bool false, Value.bool false, Value.bool false, Value.bool false] 43)).drew) = w' := by
  go_enter Tryz.func86, Tryz.ntmps86
  go_wp2
  go_region
  all_goals go_wp2
  all_goals exact bodyPost_ret (v := (Value.bool true)) (by simp [results, Tryz.results86, go_sem]) rfl ⟨rfl, rfl⟩

theorem sh_Nil  (w : World)  : Calls Tryz.prog 23 #[.agg #[.nilIface, .int .u64 0, .pointer none, .pointer none, .bool false, .bool false, .bool false, .bool false, .bool false], .bool true, .int .u64 0, .bool false, .bool false, .bool false] w fun e w' => e = .returned (Value.bool true) ∧ (w.alloc (Obj.cells #[Value.nilIface, Value.int IntKind.u64 0, Value.pointer none, Value.pointer none, Value.bool false, Value.bool false, Value.bool false, Value.bool false, Value.bool false] 43)) = w' := by
  go_enter Tryz.func23, Tryz.ntmps23
  go_wp2
  exact bodyPost_ret (v := (Value.bool true)) (by simp [results, Tryz.results23, go_sem]) rfl ⟨rfl, rfl⟩

theorem sh_Int  (w : World)  : Calls Tryz.prog 23 #[.agg #[.iface 122 (.pointer (some ⟨0, 3, none⟩)), .int .u64 2, .pointer none, .pointer none, .bool false, .bool false, .bool false, .bool true, .bool false], .bool true, .int .u64 2, .bool true, .bool false, .bool false] w fun e w' => e = .returned (Value.bool true) ∧ (w.alloc (Obj.cells #[Value.iface 122 (Value.pointer (some { block := 0, off := 3 })), Value.int IntKind.u64 2, Value.pointer none, Value.pointer none, Value.bool false, Value.bool false, Value.bool false, Value.bool true, Value.bool false] 43)) = w' := by
  go_enter Tryz.func23, Tryz.ntmps23
  go_wp2
  exact bodyPost_ret (v := (Value.bool true)) (by simp [results, Tryz.results23, go_sem]) rfl ⟨rfl, rfl⟩

theorem sh_Int8  (w : World)  : Calls Tryz.prog 23 #[.agg #[.iface 122 (.pointer (some ⟨0, 29, none⟩)), .int .u64 3, .pointer none, .pointer none, .bool false, .bool false, .bool false, .bool true, .bool false], .bool true, .int .u64 3, .bool true, .bool false, .bool false] w fun e w' => e = .returned (Value.bool true) ∧ (w.alloc (Obj.cells #[Value.iface 122 (Value.pointer (some { block := 0, off := 29 })), Value.int IntKind.u64 3, Value.pointer none, Value.pointer none, Value.bool false, Value.bool false, Value.bool false, Value.bool true, Value.bool false] 43)) = w' := by
  go_enter Tryz.func23, Tryz.ntmps23
  go_wp2
  exact bodyPost_ret (v := (Value.bool true)) (by simp [results, Tryz.results23, go_sem]) rfl ⟨rfl, rfl⟩

theorem sh_Int64  (w : World)  : Calls Tryz.prog 23 #[.agg #[.iface 122 (.pointer (some ⟨0, 2, none⟩)), .int .u64 6, .pointer none, .pointer none, .bool false, .bool false, .bool false, .bool true, .bool false], .bool true, .int .u64 6, .bool true, .bool false, .bool false] w fun e w' => e = .returned (Value.bool true) ∧ (w.alloc (Obj.cells #[Value.iface 122 (Value.pointer (some { block := 0, off := 2 })), Value.int IntKind.u64 6, Value.pointer none, Value.pointer none, Value.bool false, Value.bool false, Value.bool false, Value.bool true, Value.bool false] 43)) = w' := by
  go_enter Tryz.func23, Tryz.ntmps23
  go_wp2
  exact bodyPost_ret (v := (Value.bool true)) (by simp [results, Tryz.results23, go_sem]) rfl ⟨rfl, rfl⟩

theorem sh_Uint8  (w : World)  : Calls Tryz.prog 23 #[.agg #[.iface 122 (.pointer (some ⟨0, 5, none⟩)), .int .u64 8, .pointer none, .pointer none, .bool false, .bool false, .bool false, .bool true, .bool false], .bool true, .int .u64 8, .bool true, .bool false, .bool false] w fun e w' => e = .returned (Value.bool true) ∧ (w.alloc (Obj.cells #[Value.iface 122 (Value.pointer (some { block := 0, off := 5 })), Value.int IntKind.u64 8, Value.pointer none, Value.pointer none, Value.bool false, Value.bool false, Value.bool false, Value.bool true, Value.bool false] 43)) = w' := by
  go_enter Tryz.func23, Tryz.ntmps23
  go_wp2
  exact bodyPost_ret (v := (Value.bool true)) (by simp [results, Tryz.results23, go_sem]) rfl ⟨rfl, rfl⟩

theorem sh_Uint64  (w : World)  : Calls Tryz.prog 23 #[.agg #[.iface 122 (.pointer (some ⟨0, 33, none⟩)), .int .u64 11, .pointer none, .pointer none, .bool false, .bool false, .bool false, .bool true, .bool false], .bool true, .int .u64 11, .bool true, .bool false, .bool false] w fun e w' => e = .returned (Value.bool true) ∧ (w.alloc (Obj.cells #[Value.iface 122 (Value.pointer (some { block := 0, off := 33 })), Value.int IntKind.u64 11, Value.pointer none, Value.pointer none, Value.bool false, Value.bool false, Value.bool false, Value.bool true, Value.bool false] 43)) = w' := by
  go_enter Tryz.func23, Tryz.ntmps23
  go_wp2
  exact bodyPost_ret (v := (Value.bool true)) (by simp [results, Tryz.results23, go_sem]) rfl ⟨rfl, rfl⟩

theorem sh_Uintptr  (w : World)  : Calls Tryz.prog 23 #[.agg #[.iface 122 (.pointer (some ⟨0, 12, none⟩)), .int .u64 12, .pointer none, .pointer none, .bool false, .bool false, .bool false, .bool true, .bool false], .bool true, .int .u64 12, .bool true, .bool false, .bool false] w fun e w' => e = .returned (Value.bool true) ∧ (w.alloc (Obj.cells #[Value.iface 122 (Value.pointer (some { block := 0, off := 12 })), Value.int IntKind.u64 12, Value.pointer none, Value.pointer none, Value.bool false, Value.bool false, Value.bool false, Value.bool true, Value.bool false] 43)) = w' := by
  go_enter Tryz.func23, Tryz.ntmps23
  go_wp2
  exact bodyPost_ret (v := (Value.bool true)) (by simp [results, Tryz.results23, go_sem]) rfl ⟨rfl, rfl⟩

theorem sh_Float32  (w : World)  : Calls Tryz.prog 23 #[.agg #[.iface 122 (.pointer (some ⟨0, 26, none⟩)), .int .u64 13, .pointer none, .pointer none, .bool false, .bool false, .bool false, .bool false, .bool true], .bool true, .int .u64 13, .bool false, .bool true, .bool false] w fun e w' => e = .returned (Value.bool true) ∧ (w.alloc (Obj.cells #[Value.iface 122 (Value.pointer (some { block := 0, off := 26 })), Value.int IntKind.u64 13, Value.pointer none, Value.pointer none, Value.bool false, Value.bool false, Value.bool false, Value.bool false, Value.bool true] 43)) = w' := by
  go_enter Tryz.func23, Tryz.ntmps23
  go_wp2
  exact bodyPost_ret (v := (Value.bool true)) (by simp [results, Tryz.results23, go_sem]) rfl ⟨rfl, rfl⟩

theorem sh_Float64  (w : World)  : Calls Tryz.prog 23 #[.agg #[.iface 122 (.pointer (some ⟨0, 27, none⟩)), .int .u64 14, .pointer none, .pointer none, .bool false, .bool false, .bool false, .bool false, .bool true], .bool true, .int .u64 14, .bool false, .bool true, .bool false] w fun e w' => e = .returned (Value.bool true) ∧ (w.alloc (Obj.cells #[Value.iface 122 (Value.pointer (some { block := 0, off := 27 })), Value.int IntKind.u64 14, Value.pointer none, Value.pointer none, Value.bool false, Value.bool false, Value.bool false, Value.bool false, Value.bool true] 43)) = w' := by
  go_enter Tryz.func23, Tryz.ntmps23
  go_wp2
  exact bodyPost_ret (v := (Value.bool true)) (by simp [results, Tryz.results23, go_sem]) rfl ⟨rfl, rfl⟩

theorem sh_MyInt  (w : World)  : Calls Tryz.prog 23 #[.agg #[.iface 122 (.pointer (some ⟨0, 104, none⟩)), .int .u64 2, .pointer none, .pointer none, .bool false, .bool false, .bool false, .bool false, .bool false], .bool true, .int .u64 2, .bool false, .bool false, .bool false] w fun e w' => e = .returned (Value.bool true) ∧ (w.alloc (Obj.cells #[Value.iface 122 (Value.pointer (some { block := 0, off := 104 })), Value.int IntKind.u64 2, Value.pointer none, Value.pointer none, Value.bool false, Value.bool false, Value.bool false, Value.bool false, Value.bool false] 43)) = w' := by
  go_enter Tryz.func23, Tryz.ntmps23
  go_wp2
  exact bodyPost_ret (v := (Value.bool true)) (by simp [results, Tryz.results23, go_sem]) rfl ⟨rfl, rfl⟩

theorem sh_MyFloat  (w : World)  : Calls Tryz.prog 23 #[.agg #[.iface 122 (.pointer (some ⟨0, 105, none⟩)), .int .u64 14, .pointer none, .pointer none, .bool false, .bool false, .bool false, .bool false, .bool false], .bool true, .int .u64 14, .bool false, .bool false, .bool false] w fun e w' => e = .returned (Value.bool true) ∧ (w.alloc (Obj.cells #[Value.iface 122 (Value.pointer (some { block := 0, off := 105 })), Value.int IntKind.u64 14, Value.pointer none, Value.pointer none, Value.bool false, Value.bool false, Value.bool false, Value.bool false, Value.bool false] 43)) = w' := by
  go_enter Tryz.func23, Tryz.ntmps23
  go_wp2
  exact bodyPost_ret (v := (Value.bool true)) (by simp [results, Tryz.results23, go_sem]) rfl ⟨rfl, rfl⟩

theorem sh_String  (w : World)  : Calls Tryz.prog 23 #[.agg #[.iface 122 (.pointer (some ⟨0, 9, none⟩)), .int .u64 24, .pointer none, .pointer none, .bool false, .bool false, .bool false, .bool false, .bool false], .bool true, .int .u64 24, .bool false, .bool false, .bool false] w fun e w' => e = .returned (Value.bool true) ∧ (w.alloc (Obj.cells #[Value.iface 122 (Value.pointer (some { block := 0, off := 9 })), Value.int IntKind.u64 24, Value.pointer none, Value.pointer none, Value.bool false, Value.bool false, Value.bool false, Value.bool false, Value.bool false] 43)) = w' := by
  go_enter Tryz.func23, Tryz.ntmps23
  go_wp2
  exact bodyPost_ret (v := (Value.bool true)) (by simp [results, Tryz.results23, go_sem]) rfl ⟨rfl, rfl⟩

theorem sh_Bool  (w : World)  : Calls Tryz.prog 23 #[.agg #[.iface 122 (.pointer (some ⟨0, 4, none⟩)), .int .u64 1, .pointer none, .pointer none, .bool false, .bool false, .bool false, .bool false, .bool false], .bool true, .int .u64 1, .bool false, .bool false, .bool false] w fun e w' => e = .returned (Value.bool true) ∧ (w.alloc (Obj.cells #[Value.iface 122 (Value.pointer (some { block := 0, off := 4 })), Value.int IntKind.u64 1, Value.pointer none, Value.pointer none, Value.bool false, Value.bool false, Value.bool false, Value.bool false, Value.bool false] 43)) = w' := by
  go_enter Tryz.func23, Tryz.ntmps23
  go_wp2
  exact bodyPost_ret (v := (Value.bool true)) (by simp [results, Tryz.results23, go_sem]) rfl ⟨rfl, rfl⟩

theorem sh_SliceInt  (w : World)  : Calls Tryz.prog 23 #[.agg #[.iface 122 (.pointer (some ⟨0, 50, none⟩)), .int .u64 23, .pointer none, .pointer none, .bool false, .bool false, .bool false, .bool false, .bool false], .bool true, .int .u64 23, .bool false, .bool false, .bool false] w fun e w' => e = .returned (Value.bool true) ∧ (w.alloc (Obj.cells #[Value.iface 122 (Value.pointer (some { block := 0, off := 50 })), Value.int IntKind.u64 23, Value.pointer none, Value.pointer none, Value.bool false, Value.bool false, Value.bool false, Value.bool false, Value.bool false] 43)) = w' := by
  go_enter Tryz.func23, Tryz.ntmps23
  go_wp2
  exact bodyPost_ret (v := (Value.bool true)) (by simp [results, Tryz.results23, go_sem]) rfl ⟨rfl, rfl⟩

theorem sh_MapStringInt  (w : World)  : Calls Tryz.prog 23 #[.agg #[.iface 122 (.pointer (some ⟨0, 53, none⟩)), .int .u64 21, .pointer none, .pointer none, .bool false, .bool false, .bool false, .bool false, .bool false], .bool true, .int .u64 21, .bool false, .bool false, .bool false] w fun e w' => e = .returned (Value.bool true) ∧ (w.alloc (Obj.cells #[Value.iface 122 (Value.pointer (some { block := 0, off := 53 })), Value.int IntKind.u64 21, Value.pointer none, Value.pointer none, Value.bool false, Value.bool false, Value.bool false, Value.bool false, Value.bool false] 43)) = w' := by
  go_enter Tryz.func23, Tryz.ntmps23
  go_wp2
  exact bodyPost_ret (v := (Value.bool true)) (by simp [results, Tryz.results23, go_sem]) rfl ⟨rfl, rfl⟩

theorem sh_PtrInt  (w : World)  : Calls Tryz.prog 23 #[.agg #[.iface 122 (.pointer (some ⟨0, 51, none⟩)), .int .u64 22, .pointer none, .pointer none, .bool false, .bool false, .bool false, .bool false, .bool false], .bool true, .int .u64 22, .bool false, .bool false, .bool false] w fun e w' => e = .returned (Value.bool true) ∧ (w.alloc (Obj.cells #[Value.iface 122 (Value.pointer (some { block := 0, off := 51 })), Value.int IntKind.u64 22, Value.pointer none, Value.pointer none, Value.bool false, Value.bool false, Value.bool false, Value.bool false, Value.bool false] 43)) = w' := by
  go_enter Tryz.func23, Tryz.ntmps23
  go_wp2
  exact bodyPost_ret (v := (Value.bool true)) (by simp [results, Tryz.results23, go_sem]) rfl ⟨rfl, rfl⟩

theorem sh_Complex128  (w : World)  : Calls Tryz.prog 23 #[.agg #[.iface 122 (.pointer (some ⟨0, 22, none⟩)), .int .u64 16, .pointer none, .pointer none, .bool false, .bool false, .bool false, .bool false, .bool false], .bool true, .int .u64 16, .bool false, .bool false, .bool false] w fun e w' => e = .returned (Value.bool true) ∧ (w.alloc (Obj.cells #[Value.iface 122 (Value.pointer (some { block := 0, off := 22 })), Value.int IntKind.u64 16, Value.pointer none, Value.pointer none, Value.bool false, Value.bool false, Value.bool false, Value.bool false, Value.bool false] 43)) = w' := by
  go_enter Tryz.func23, Tryz.ntmps23
  go_wp2
  exact bodyPost_ret (v := (Value.bool true)) (by simp [results, Tryz.results23, go_sem]) rfl ⟨rfl, rfl⟩

theorem sh_Any  (w : World)  : Calls Tryz.prog 23 #[.agg #[.iface 122 (.pointer (some ⟨0, 20, none⟩)), .int .u64 20, .pointer none, .pointer none, .bool false, .bool false, .bool false, .bool false, .bool false], .bool true, .int .u64 20, .bool false, .bool false, .bool false] w fun e w' => e = .returned (Value.bool true) ∧ (w.alloc (Obj.cells #[Value.iface 122 (Value.pointer (some { block := 0, off := 20 })), Value.int IntKind.u64 20, Value.pointer none, Value.pointer none, Value.bool false, Value.bool false, Value.bool false, Value.bool false, Value.bool false] 43)) = w' := by
  go_enter Tryz.func23, Tryz.ntmps23
  go_wp2
  exact bodyPost_ret (v := (Value.bool true)) (by simp [results, Tryz.results23, go_sem]) rfl ⟨rfl, rfl⟩

theorem sh_EmptyIface  (w : World)  : Calls Tryz.prog 23 #[.agg #[.iface 122 (.pointer (some ⟨0, 221, none⟩)), .int .u64 20, .pointer none, .pointer none, .bool false, .bool false, .bool false, .bool false, .bool false], .bool true, .int .u64 20, .bool false, .bool false, .bool false] w fun e w' => e = .returned (Value.bool true) ∧ (w.alloc (Obj.cells #[Value.iface 122 (Value.pointer (some { block := 0, off := 221 })), Value.int IntKind.u64 20, Value.pointer none, Value.pointer none, Value.bool false, Value.bool false, Value.bool false, Value.bool false, Value.bool false] 43)) = w' := by
  go_enter Tryz.func23, Tryz.ntmps23
  go_wp2
  exact bodyPost_ret (v := (Value.bool true)) (by simp [results, Tryz.results23, go_sem]) rfl ⟨rfl, rfl⟩

theorem sh_OneMethod  (w : World)  : Calls Tryz.prog 23 #[.agg #[.iface 122 (.pointer (some ⟨0, 223, none⟩)), .int .u64 20, .pointer none, .pointer none, .bool false, .bool false, .bool false, .bool false, .bool false], .bool true, .int .u64 20, .bool false, .bool false, .bool false] w fun e w' => e = .returned (Value.bool true) ∧ (w.alloc (Obj.cells #[Value.iface 122 (Value.pointer (some { block := 0, off := 223 })), Value.int IntKind.u64 20, Value.pointer none, Value.pointer none, Value.bool false, Value.bool false, Value.bool false, Value.bool false, Value.bool false] 43)) = w' := by
  go_enter Tryz.func23, Tryz.ntmps23
  go_wp2
  exact bodyPost_ret (v := (Value.bool true)) (by simp [results, Tryz.results23, go_sem]) rfl ⟨rfl, rfl⟩

@[go_sem] theorem mneq0 (w : World) : (binOp .neq 80 (.map none) (.map none)).run Tryz.prog w = .ok (.bool false) w := by kernel_rfl
/-- a TypeData that is zero in every field -/
def TDZ : Array Value := #[.pointer none, .pointer none, .map none, .pointer none, .pointer none, .int .i64 0, .pointer none, .pointer none, .int .i64 0, .int .i64 0, .bool false, .bool false, .bool false, .bool false]
def objAt (w : World) (n : Nat) : Option Obj := w.heap[n]?
theorem hid_past {w : World} {n : Nat} {o x : Obj} (hlt : n < w.heap.size) (h : Hid (objAt w n = some x)) : Hid (objAt (w.alloc o) n = some x) := (Below.heap_alloc w o n hlt).trans h.out
@[go_sem] theorem objAt_drew (w : World) (n : Nat) : objAt w.drew n = objAt w n := rfl
@[go_sem] theorem objAt_at (w : World) (o : Obj) (n : Nat) (hn : n = w.heap.size) : objAt (w.alloc o) n = some o := by
  subst hn
  exact (show (w.heap.push o)[w.heap.size]? = some o by simp)
@[go_sem] theorem objAt_past (w : World) (o : Obj) (n : Nat) (hn : n < w.heap.size) : objAt (w.alloc o) n = objAt w n := Below.heap_alloc w o n hn
theorem hid0 (tb : Nat) (w : World) (hb : Hid (objAt w tb = some (.cells TDZ 83 (0, 0)))) : Calls Tryz.prog 141 #[.pointer (some ⟨tb, 0, none⟩)] w fun e w' => e = .returned (.tuple #[.bool false, .bool false, .bool false, .bool false, .int .i64 0, .int .i64 0, .bool false, .bool false, .bool false, .bool false]) ∧ ∃ n, w.drewN n = w' := by
  have c0 : w.cell? ⟨tb, 0, none⟩ = some (.pointer none) := by simp [World.cell?, (show w.heap[tb]? = _ from hb.out), TDZ]
  have c1 : w.cell? ⟨tb, 1, none⟩ = some (.pointer none) := by simp [World.cell?, (show w.heap[tb]? = _ from hb.out), TDZ]
  have c2 : w.cell? ⟨tb, 2, none⟩ = some (.map none) := by simp [World.cell?, (show w.heap[tb]? = _ from hb.out), TDZ]
  have c3 : w.cell? ⟨tb, 3, none⟩ = some (.pointer none) := by simp [World.cell?, (show w.heap[tb]? = _ from hb.out), TDZ]
  have c4 : w.cell? ⟨tb, 4, none⟩ = some (.pointer none) := by simp [World.cell?, (show w.heap[tb]? = _ from hb.out), TDZ]
  have c5 : w.cell? ⟨tb, 5, none⟩ = some (.int .i64 0) := by simp [World.cell?, (show w.heap[tb]? = _ from hb.out), TDZ]
  have c6 : w.cell? ⟨tb, 6, none⟩ = some (.pointer none) := by simp [World.cell?, (show w.heap[tb]? = _ from hb.out), TDZ]
  have c7 : w.cell? ⟨tb, 7, none⟩ = some (.pointer none) := by simp [World.cell?, (show w.heap[tb]? = _ from hb.out), TDZ]
  have c8 : w.cell? ⟨tb, 8, none⟩ = some (.int .i64 0) := by simp [World.cell?, (show w.heap[tb]? = _ from hb.out), TDZ]
  have c9 : w.cell? ⟨tb, 9, none⟩ = some (.int .i64 0) := by simp [World.cell?, (show w.heap[tb]? = _ from hb.out), TDZ]
  have c10 : w.cell? ⟨tb, 10, none⟩ = some (.bool false) := by simp [World.cell?, (show w.heap[tb]? = _ from hb.out), TDZ]
  have c11 : w.cell? ⟨tb, 11, none⟩ = some (.bool false) := by simp [World.cell?, (show w.heap[tb]? = _ from hb.out), TDZ]
  have c12 : w.cell? ⟨tb, 12, none⟩ = some (.bool false) := by simp [World.cell?, (show w.heap[tb]? = _ from hb.out), TDZ]
  have c13 : w.cell? ⟨tb, 13, none⟩ = some (.bool false) := by simp [World.cell?, (show w.heap[tb]? = _ from hb.out), TDZ]
  go_enter Tryz.func141, Tryz.ntmps141
  go_wp2
  go_quiet (fail)
  go_wp2
  refine bodyPost_ret (v := .tuple #[.bool false, .bool false, .bool false, .bool false, .int .i64 0, .int .i64 0, .bool false, .bool false, .bool false, .bool false]) (by simp [results, Tryz.results141, go_sem]) rfl ?_
  exact ⟨rfl, _, rfl⟩
theorem tz0 (tb : Nat) (w : World) (hb : Hid (objAt w tb = some (.cells TDZ 83 (0, 0)))) : Calls Tryz.prog 116 #[.pointer (some ⟨tb, 0, none⟩)] w fun e w' => e = .returned (.bool true) ∧ ∃ n, w.drewN n = w' := by
  have c0 : w.cell? ⟨tb, 0, none⟩ = some (.pointer none) := by simp [World.cell?, (show w.heap[tb]? = _ from hb.out), TDZ]
  have c1 : w.cell? ⟨tb, 1, none⟩ = some (.pointer none) := by simp [World.cell?, (show w.heap[tb]? = _ from hb.out), TDZ]
  have c2 : w.cell? ⟨tb, 2, none⟩ = some (.map none) := by simp [World.cell?, (show w.heap[tb]? = _ from hb.out), TDZ]
  have c3 : w.cell? ⟨tb, 3, none⟩ = some (.pointer none) := by simp [World.cell?, (show w.heap[tb]? = _ from hb.out), TDZ]
  have c4 : w.cell? ⟨tb, 4, none⟩ = some (.pointer none) := by simp [World.cell?, (show w.heap[tb]? = _ from hb.out), TDZ]
  have c5 : w.cell? ⟨tb, 5, none⟩ = some (.int .i64 0) := by simp [World.cell?, (show w.heap[tb]? = _ from hb.out), TDZ]
  have c6 : w.cell? ⟨tb, 6, none⟩ = some (.pointer none) := by simp [World.cell?, (show w.heap[tb]? = _ from hb.out), TDZ]
  have c7 : w.cell? ⟨tb, 7, none⟩ = some (.pointer none) := by simp [World.cell?, (show w.heap[tb]? = _ from hb.out), TDZ]
  have c8 : w.cell? ⟨tb, 8, none⟩ = some (.int .i64 0) := by simp [World.cell?, (show w.heap[tb]? = _ from hb.out), TDZ]
  have c9 : w.cell? ⟨tb, 9, none⟩ = some (.int .i64 0) := by simp [World.cell?, (show w.heap[tb]? = _ from hb.out), TDZ]
  have c10 : w.cell? ⟨tb, 10, none⟩ = some (.bool false) := by simp [World.cell?, (show w.heap[tb]? = _ from hb.out), TDZ]
  have c11 : w.cell? ⟨tb, 11, none⟩ = some (.bool false) := by simp [World.cell?, (show w.heap[tb]? = _ from hb.out), TDZ]
  have c12 : w.cell? ⟨tb, 12, none⟩ = some (.bool false) := by simp [World.cell?, (show w.heap[tb]? = _ from hb.out), TDZ]
  have c13 : w.cell? ⟨tb, 13, none⟩ = some (.bool false) := by simp [World.cell?, (show w.heap[tb]? = _ from hb.out), TDZ]
  go_enter Tryz.func116, Tryz.ntmps116
  go_wp2_with (go_at_call 141; refine (hid0 _ _ hb).mono ?_; rintro e w' ⟨rfl, nn, rfl⟩)
  go_ret
  exact ⟨rfl, _, rfl⟩
theorem sh_Func (tb : Nat) (w : World) (hlt : tb < w.heap.size) (hb : Hid (objAt w tb = some (.cells TDZ 83 (0, 0)))) : Calls Tryz.prog 23 #[.agg #[.iface 122 (.pointer (some ⟨0, 36, none⟩)), .int .u64 19, .pointer (some ⟨tb, 0, none⟩), .pointer none, .bool false, .bool false, .bool false, .bool false, .bool false], .bool true, .int .u64 19, .bool false, .bool false, .bool true] w fun e w' => e = .returned (.bool true) ∧ ∃ n, (w.alloc (.cells #[.iface 122 (.pointer (some ⟨0, 36, none⟩)), .int .u64 19, .pointer (some ⟨tb, 0, none⟩), .pointer none, .bool false, .bool false, .bool false, .bool false, .bool false] 43)).drewN n = w' := by
  go_enter Tryz.func23, Tryz.ntmps23
  go_wp2_with (go_at_call 116; refine (tz0 _ _ ?_).mono ?_; (next => exact hid_past hlt hb); rintro e w' ⟨rfl, nn, rfl⟩)
  go_ret
  exact ⟨rfl, _, rfl⟩
theorem sh_Struct (tb : Nat) (w : World) (hlt : tb < w.heap.size) (hb : Hid (objAt w tb = some (.cells TDZ 83 (0, 0)))) : Calls Tryz.prog 23 #[.agg #[.iface 122 (.pointer (some ⟨0, 107, none⟩)), .int .u64 25, .pointer (some ⟨tb, 0, none⟩), .pointer none, .bool false, .bool false, .bool false, .bool false, .bool false], .bool true, .int .u64 25, .bool false, .bool false, .bool true] w fun e w' => e = .returned (.bool true) ∧ ∃ n, (w.alloc (.cells #[.iface 122 (.pointer (some ⟨0, 107, none⟩)), .int .u64 25, .pointer (some ⟨tb, 0, none⟩), .pointer none, .bool false, .bool false, .bool false, .bool false, .bool false] 43)).drewN n = w' := by
  go_enter Tryz.func23, Tryz.ntmps23
  go_wp2_with (go_at_call 116; refine (tz0 _ _ ?_).mono ?_; (next => exact hid_past hlt hb); rintro e w' ⟨rfl, nn, rfl⟩)
  go_ret
  exact ⟨rfl, _, rfl⟩
end Go.Proofs.YtjdnoaojjmejmaaGreat.fnFromTypeKindTable
