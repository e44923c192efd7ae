/-
  The contracts of FnArrayFromTypeSharesCachedStruct: Over any number of calls on one cache ArrayFromType gives the []any nature whose element shares the one TypeData, each call with a cell of its own; without a cache the TypeData are distinct.
-/
import Derived.Test.YtfmefomafdgfmaaGreatBase
import Derived.OpenShut
import Derived.Deep.RegionWith
import Derived.RegionTactic
import Derived.ChangeAlike
import Derived.Deep.QuietTactic
import Derived.BigQuiet
import Derived.WalkSmall
import Derived.Outline
import Derived.Lib.Hide
import Derived.Deep.LoopGhost
import Derived.Deep.Cut
import Derived.Deep.CutRange
import Derived.Test.YtfmefomafdgfmaaGreatKit2
import Derived.Test.YtfmefomafdgfmaaGreatFnArrayFromTypeSharesCachedStructC
namespace Go.Proofs.YtfmefomafdgfmaaGreat.fnArrayFromTypeSharesCachedStruct
open Go.RowKit
set_option maxRecDepth 100000
set_option maxHeartbeats 1000000
set_option linter.unusedVariables false
theorem it_Int  (w : World)  : Calls Tryz.prog 17 #[.agg #[.iface 124 (.pointer (some ⟨0, 3, none⟩)), .int .u64 2, .pointer none, .pointer none, .bool false, .bool false, .bool false, .bool true, .bool false]] w fun e w' => e = .returned (Value.bool true) ∧ ((w.alloc (Obj.cells #[Value.iface 124 (Value.pointer (some { block := 0, off := 3 })), Value.int IntKind.u64 2, Value.pointer none, Value.pointer none, Value.bool false, Value.bool false, Value.bool false, Value.bool true, Value.bool false] 47)).drew) = w' := by
  go_enter Tryz.func17, Tryz.ntmps17
  go_wp2
  go_region
  all_goals go_wp2
  all_goals exact bodyPost_ret (v := (Value.bool true)) (by simp [results, Tryz.results17, go_sem]) rfl ⟨rfl, rfl⟩

theorem it_Float64  (w : World)  : Calls Tryz.prog 18 #[.agg #[.iface 124 (.pointer (some ⟨0, 27, none⟩)), .int .u64 14, .pointer none, .pointer none, .bool false, .bool false, .bool false, .bool false, .bool true]] w fun e w' => e = .returned (Value.bool true) ∧ ((w.alloc (Obj.cells #[Value.iface 124 (Value.pointer (some { block := 0, off := 27 })), Value.int IntKind.u64 14, Value.pointer none, Value.pointer none, Value.bool false, Value.bool false, Value.bool false, Value.bool false, Value.bool true] 47)).drew) = w' := by
  go_enter Tryz.func18, Tryz.ntmps18
  go_wp2
  go_region
  all_goals go_wp2
  all_goals exact bodyPost_ret (v := (Value.bool true)) (by simp [results, Tryz.results18, go_sem]) rfl ⟨rfl, rfl⟩

theorem it_MyInt  (w : World)  : Calls Tryz.prog 19 #[.agg #[.iface 124 (.pointer (some ⟨0, 90, none⟩)), .int .u64 2, .pointer none, .pointer none, .bool false, .bool false, .bool false, .bool false, .bool false]] w fun e w' => e = .returned (Value.bool true) ∧ ((w.alloc (Obj.cells #[Value.iface 124 (Value.pointer (some { block := 0, off := 90 })), Value.int IntKind.u64 2, Value.pointer none, Value.pointer none, Value.bool false, Value.bool false, Value.bool false, Value.bool false, Value.bool false] 47)).drew) = w' := by
  go_enter Tryz.func19, Tryz.ntmps19
  go_wp2
  go_region
  all_goals go_wp2
  all_goals exact bodyPost_ret (v := (Value.bool true)) (by simp [results, Tryz.results19, go_sem]) rfl ⟨rfl, rfl⟩

theorem it_String  (w : World)  : Calls Tryz.prog 20 #[.agg #[.iface 124 (.pointer (some ⟨0, 9, none⟩)), .int .u64 24, .pointer none, .pointer none, .bool false, .bool false, .bool false, .bool false, .bool false]] w fun e w' => e = .returned (Value.bool true) ∧ ((w.alloc (Obj.cells #[Value.iface 124 (Value.pointer (some { block := 0, off := 9 })), Value.int IntKind.u64 24, Value.pointer none, Value.pointer none, Value.bool false, Value.bool false, Value.bool false, Value.bool false, Value.bool false] 47)).drew) = w' := by
  go_enter Tryz.func20, Tryz.ntmps20
  go_wp2
  go_region
  all_goals go_wp2
  all_goals exact bodyPost_ret (v := (Value.bool true)) (by simp [results, Tryz.results20, go_sem]) rfl ⟨rfl, rfl⟩

theorem it_Func (td : Option Addr) (w : World)  : Calls Tryz.prog 21 #[.agg #[.iface 124 (.pointer (some ⟨0, 86, none⟩)), .int .u64 19, .pointer td, .pointer none, .bool false, .bool false, .bool false, .bool false, .bool false]] w fun e w' => e = .returned (Value.bool true) ∧ ((w.alloc (Obj.cells #[Value.iface 124 (Value.pointer (some { block := 0, off := 86 })), Value.int IntKind.u64 19, Value.pointer td, Value.pointer none, Value.bool false, Value.bool false, Value.bool false, Value.bool false, Value.bool false] 47)).drew) = w' := by
  go_enter Tryz.func21, Tryz.ntmps21
  go_wp2
  go_region
  all_goals go_wp2
  all_goals exact bodyPost_ret (v := (Value.bool true)) (by simp [results, Tryz.results21, go_sem]) rfl ⟨rfl, rfl⟩

theorem it_Struct (td : Option Addr) (w : World)  : Calls Tryz.prog 22 #[.agg #[.iface 124 (.pointer (some ⟨0, 92, none⟩)), .int .u64 25, .pointer td, .pointer none, .bool false, .bool false, .bool false, .bool false, .bool false]] w fun e w' => e = .returned (Value.bool true) ∧ ((w.alloc (Obj.cells #[Value.iface 124 (Value.pointer (some { block := 0, off := 92 })), Value.int IntKind.u64 25, Value.pointer td, Value.pointer none, Value.bool false, Value.bool false, Value.bool false, Value.bool false, Value.bool false] 47)).drew) = w' := by
  go_enter Tryz.func22, Tryz.ntmps22
  go_wp2
  go_region
  all_goals go_wp2
  all_goals exact bodyPost_ret (v := (Value.bool true)) (by simp [results, Tryz.results22, go_sem]) rfl ⟨rfl, rfl⟩

theorem it_SliceInt  (w : World)  : Calls Tryz.prog 25 #[.agg #[.iface 124 (.pointer (some ⟨0, 94, none⟩)), .int .u64 23, .pointer none, .pointer none, .bool false, .bool false, .bool false, .bool false, .bool false]] w fun e w' => e = .returned (Value.bool true) ∧ ((w.alloc (Obj.cells #[Value.iface 124 (Value.pointer (some { block := 0, off := 94 })), Value.int IntKind.u64 23, Value.pointer none, Value.pointer none, Value.bool false, Value.bool false, Value.bool false, Value.bool false, Value.bool false] 47)).drew) = w' := by
  go_enter Tryz.func25, Tryz.ntmps25
  go_wp2
  go_region
  all_goals go_wp2
  all_goals exact bodyPost_ret (v := (Value.bool true)) (by simp [results, Tryz.results25, go_sem]) rfl ⟨rfl, rfl⟩

theorem sh_Nil  (w : World)  : Calls Tryz.prog 16 #[.agg #[.nilIface, .int .u64 0, .pointer none, .pointer none, .bool false, .bool false, .bool false, .bool false, .bool false], .bool true, .int .u64 0, .bool false, .bool false, .bool false] w fun e w' => e = .returned (Value.bool true) ∧ (w.alloc (Obj.cells #[Value.nilIface, Value.int IntKind.u64 0, Value.pointer none, Value.pointer none, Value.bool false, Value.bool false, Value.bool false, Value.bool false, Value.bool false] 47)) = w' := by
  go_enter Tryz.func16, Tryz.ntmps16
  go_wp2
  exact bodyPost_ret (v := (Value.bool true)) (by simp [results, Tryz.results16, go_sem]) rfl ⟨rfl, rfl⟩

theorem sh_Int  (w : World)  : Calls Tryz.prog 16 #[.agg #[.iface 124 (.pointer (some ⟨0, 3, none⟩)), .int .u64 2, .pointer none, .pointer none, .bool false, .bool false, .bool false, .bool true, .bool false], .bool true, .int .u64 2, .bool true, .bool false, .bool false] w fun e w' => e = .returned (Value.bool true) ∧ (w.alloc (Obj.cells #[Value.iface 124 (Value.pointer (some { block := 0, off := 3 })), Value.int IntKind.u64 2, Value.pointer none, Value.pointer none, Value.bool false, Value.bool false, Value.bool false, Value.bool true, Value.bool false] 47)) = w' := by
  go_enter Tryz.func16, Tryz.ntmps16
  go_wp2
  exact bodyPost_ret (v := (Value.bool true)) (by simp [results, Tryz.results16, go_sem]) rfl ⟨rfl, rfl⟩

theorem sh_Float64  (w : World)  : Calls Tryz.prog 16 #[.agg #[.iface 124 (.pointer (some ⟨0, 27, none⟩)), .int .u64 14, .pointer none, .pointer none, .bool false, .bool false, .bool false, .bool false, .bool true], .bool true, .int .u64 14, .bool false, .bool true, .bool false] w fun e w' => e = .returned (Value.bool true) ∧ (w.alloc (Obj.cells #[Value.iface 124 (Value.pointer (some { block := 0, off := 27 })), Value.int IntKind.u64 14, Value.pointer none, Value.pointer none, Value.bool false, Value.bool false, Value.bool false, Value.bool false, Value.bool true] 47)) = w' := by
  go_enter Tryz.func16, Tryz.ntmps16
  go_wp2
  exact bodyPost_ret (v := (Value.bool true)) (by simp [results, Tryz.results16, go_sem]) rfl ⟨rfl, rfl⟩

theorem sh_MyInt  (w : World)  : Calls Tryz.prog 16 #[.agg #[.iface 124 (.pointer (some ⟨0, 90, none⟩)), .int .u64 2, .pointer none, .pointer none, .bool false, .bool false, .bool false, .bool false, .bool false], .bool true, .int .u64 2, .bool false, .bool false, .bool false] w fun e w' => e = .returned (Value.bool true) ∧ (w.alloc (Obj.cells #[Value.iface 124 (Value.pointer (some { block := 0, off := 90 })), Value.int IntKind.u64 2, Value.pointer none, Value.pointer none, Value.bool false, Value.bool false, Value.bool false, Value.bool false, Value.bool false] 47)) = w' := by
  go_enter Tryz.func16, Tryz.ntmps16
  go_wp2
  exact bodyPost_ret (v := (Value.bool true)) (by simp [results, Tryz.results16, go_sem]) rfl ⟨rfl, rfl⟩

theorem sh_String  (w : World)  : Calls Tryz.prog 16 #[.agg #[.iface 124 (.pointer (some ⟨0, 9, none⟩)), .int .u64 24, .pointer none, .pointer none, .bool false, .bool false, .bool false, .bool false, .bool false], .bool true, .int .u64 24, .bool false, .bool false, .bool false] w fun e w' => e = .returned (Value.bool true) ∧ (w.alloc (Obj.cells #[Value.iface 124 (Value.pointer (some { block := 0, off := 9 })), Value.int IntKind.u64 24, Value.pointer none, Value.pointer none, Value.bool false, Value.bool false, Value.bool false, Value.bool false, Value.bool false] 47)) = w' := by
  go_enter Tryz.func16, Tryz.ntmps16
  go_wp2
  exact bodyPost_ret (v := (Value.bool true)) (by simp [results, Tryz.results16, go_sem]) rfl ⟨rfl, rfl⟩

theorem sh_SliceInt  (w : World)  : Calls Tryz.prog 16 #[.agg #[.iface 124 (.pointer (some ⟨0, 94, none⟩)), .int .u64 23, .pointer none, .pointer none, .bool false, .bool false, .bool false, .bool false, .bool false], .bool true, .int .u64 23, .bool false, .bool false, .bool false] w fun e w' => e = .returned (Value.bool true) ∧ (w.alloc (Obj.cells #[Value.iface 124 (Value.pointer (some { block := 0, off := 94 })), Value.int IntKind.u64 23, Value.pointer none, Value.pointer none, Value.bool false, Value.bool false, Value.bool false, Value.bool false, Value.bool false] 47)) = w' := by
  go_enter Tryz.func16, Tryz.ntmps16
  go_wp2
  exact bodyPost_ret (v := (Value.bool true)) (by simp [results, Tryz.results16, go_sem]) rfl ⟨rfl, rfl⟩

@[go_sem] theorem mneq0 (w : World) : (binOp .neq 53 (.map none) (.map none)).run Tryz.prog w = .ok (.bool false) w := by kernel_rfl
/-- a TypeData that is zero in every field -/
def TDZ : Array Value := #[.pointer none, .pointer none, .map none, .pointer none, .pointer none, .int .i64 0, .pointer none, .pointer none, .int .i64 0, .int .i64 0, .bool false, .bool false, .bool false, .bool false]
def objAt (w : World) (n : Nat) : Option Obj := w.heap[n]?
theorem hid_past {w : World} {n : Nat} {o x : Obj} (hlt : n < w.heap.size) (h : Hid (objAt w n = some x)) : Hid (objAt (w.alloc o) n = some x) := (Below.heap_alloc w o n hlt).trans h.out
@[go_sem] theorem objAt_drew (w : World) (n : Nat) : objAt w.drew n = objAt w n := rfl
@[go_sem] theorem objAt_at (w : World) (o : Obj) (n : Nat) (hn : n = w.heap.size) : objAt (w.alloc o) n = some o := by
  subst hn
  exact (show (w.heap.push o)[w.heap.size]? = some o by simp)
@[go_sem] theorem objAt_past (w : World) (o : Obj) (n : Nat) (hn : n < w.heap.size) : objAt (w.alloc o) n = objAt w n := Below.heap_alloc w o n hn
theorem hid0 (tb : Nat) (w : World) (hb : Hid (objAt w tb = some (.cells TDZ 56 (0, 0)))) : Calls Tryz.prog 23 #[.pointer (some ⟨tb, 0, none⟩)] w fun e w' => e = .returned (.tuple #[.bool false, .bool false, .bool false, .bool false, .int .i64 0, .int .i64 0, .bool false, .bool false, .bool false, .bool false]) ∧ ∃ n, w.drewN n = w' := by
  have c0 : w.cell? ⟨tb, 0, none⟩ = some (.pointer none) := by simp [World.cell?, (show w.heap[tb]? = _ from hb.out), TDZ]
  have c1 : w.cell? ⟨tb, 1, none⟩ = some (.pointer none) := by simp [World.cell?, (show w.heap[tb]? = _ from hb.out), TDZ]
  have c2 : w.cell? ⟨tb, 2, none⟩ = some (.map none) := by simp [World.cell?, (show w.heap[tb]? = _ from hb.out), TDZ]
  have c3 : w.cell? ⟨tb, 3, none⟩ = some (.pointer none) := by simp [World.cell?, (show w.heap[tb]? = _ from hb.out), TDZ]
  have c4 : w.cell? ⟨tb, 4, none⟩ = some (.pointer none) := by simp [World.cell?, (show w.heap[tb]? = _ from hb.out), TDZ]
  have c5 : w.cell? ⟨tb, 5, none⟩ = some (.int .i64 0) := by simp [World.cell?, (show w.heap[tb]? = _ from hb.out), TDZ]
  have c6 : w.cell? ⟨tb, 6, none⟩ = some (.pointer none) := by simp [World.cell?, (show w.heap[tb]? = _ from hb.out), TDZ]
  have c7 : w.cell? ⟨tb, 7, none⟩ = some (.pointer none) := by simp [World.cell?, (show w.heap[tb]? = _ from hb.out), TDZ]
  have c8 : w.cell? ⟨tb, 8, none⟩ = some (.int .i64 0) := by simp [World.cell?, (show w.heap[tb]? = _ from hb.out), TDZ]
  have c9 : w.cell? ⟨tb, 9, none⟩ = some (.int .i64 0) := by simp [World.cell?, (show w.heap[tb]? = _ from hb.out), TDZ]
  have c10 : w.cell? ⟨tb, 10, none⟩ = some (.bool false) := by simp [World.cell?, (show w.heap[tb]? = _ from hb.out), TDZ]
  have c11 : w.cell? ⟨tb, 11, none⟩ = some (.bool false) := by simp [World.cell?, (show w.heap[tb]? = _ from hb.out), TDZ]
  have c12 : w.cell? ⟨tb, 12, none⟩ = some (.bool false) := by simp [World.cell?, (show w.heap[tb]? = _ from hb.out), TDZ]
  have c13 : w.cell? ⟨tb, 13, none⟩ = some (.bool false) := by simp [World.cell?, (show w.heap[tb]? = _ from hb.out), TDZ]
  go_enter Tryz.func23, Tryz.ntmps23
  go_wp2
  go_quiet (fail)
  go_wp2
  refine bodyPost_ret (v := .tuple #[.bool false, .bool false, .bool false, .bool false, .int .i64 0, .int .i64 0, .bool false, .bool false, .bool false, .bool false]) (by simp [results, Tryz.results23, go_sem]) rfl ?_
  exact ⟨rfl, _, rfl⟩
theorem tz0 (tb : Nat) (w : World) (hb : Hid (objAt w tb = some (.cells TDZ 56 (0, 0)))) : Calls Tryz.prog 62 #[.pointer (some ⟨tb, 0, none⟩)] w fun e w' => e = .returned (.bool true) ∧ ∃ n, w.drewN n = w' := by
  have c0 : w.cell? ⟨tb, 0, none⟩ = some (.pointer none) := by simp [World.cell?, (show w.heap[tb]? = _ from hb.out), TDZ]
  have c1 : w.cell? ⟨tb, 1, none⟩ = some (.pointer none) := by simp [World.cell?, (show w.heap[tb]? = _ from hb.out), TDZ]
  have c2 : w.cell? ⟨tb, 2, none⟩ = some (.map none) := by simp [World.cell?, (show w.heap[tb]? = _ from hb.out), TDZ]
  have c3 : w.cell? ⟨tb, 3, none⟩ = some (.pointer none) := by simp [World.cell?, (show w.heap[tb]? = _ from hb.out), TDZ]
  have c4 : w.cell? ⟨tb, 4, none⟩ = some (.pointer none) := by simp [World.cell?, (show w.heap[tb]? = _ from hb.out), TDZ]
  have c5 : w.cell? ⟨tb, 5, none⟩ = some (.int .i64 0) := by simp [World.cell?, (show w.heap[tb]? = _ from hb.out), TDZ]
  have c6 : w.cell? ⟨tb, 6, none⟩ = some (.pointer none) := by simp [World.cell?, (show w.heap[tb]? = _ from hb.out), TDZ]
  have c7 : w.cell? ⟨tb, 7, none⟩ = some (.pointer none) := by simp [World.cell?, (show w.heap[tb]? = _ from hb.out), TDZ]
  have c8 : w.cell? ⟨tb, 8, none⟩ = some (.int .i64 0) := by simp [World.cell?, (show w.heap[tb]? = _ from hb.out), TDZ]
  have c9 : w.cell? ⟨tb, 9, none⟩ = some (.int .i64 0) := by simp [World.cell?, (show w.heap[tb]? = _ from hb.out), TDZ]
  have c10 : w.cell? ⟨tb, 10, none⟩ = some (.bool false) := by simp [World.cell?, (show w.heap[tb]? = _ from hb.out), TDZ]
  have c11 : w.cell? ⟨tb, 11, none⟩ = some (.bool false) := by simp [World.cell?, (show w.heap[tb]? = _ from hb.out), TDZ]
  have c12 : w.cell? ⟨tb, 12, none⟩ = some (.bool false) := by simp [World.cell?, (show w.heap[tb]? = _ from hb.out), TDZ]
  have c13 : w.cell? ⟨tb, 13, none⟩ = some (.bool false) := by simp [World.cell?, (show w.heap[tb]? = _ from hb.out), TDZ]
  go_enter Tryz.func62, Tryz.ntmps62
  go_wp2_with (go_at_call 23; refine (hid0 _ _ hb).mono ?_; rintro e w' ⟨rfl, nn, rfl⟩)
  go_ret
  exact ⟨rfl, _, rfl⟩
theorem sh_Func (tb : Nat) (w : World) (hlt : tb < w.heap.size) (hb : Hid (objAt w tb = some (.cells TDZ 56 (0, 0)))) : Calls Tryz.prog 16 #[.agg #[.iface 124 (.pointer (some ⟨0, 86, none⟩)), .int .u64 19, .pointer (some ⟨tb, 0, none⟩), .pointer none, .bool false, .bool false, .bool false, .bool false, .bool false], .bool true, .int .u64 19, .bool false, .bool false, .bool true] w fun e w' => e = .returned (.bool true) ∧ ∃ n, (w.alloc (.cells #[.iface 124 (.pointer (some ⟨0, 86, none⟩)), .int .u64 19, .pointer (some ⟨tb, 0, none⟩), .pointer none, .bool false, .bool false, .bool false, .bool false, .bool false] 47)).drewN n = w' := by
  go_enter Tryz.func16, Tryz.ntmps16
  go_wp2_with (go_at_call 62; refine (tz0 _ _ ?_).mono ?_; (next => exact hid_past hlt hb); rintro e w' ⟨rfl, nn, rfl⟩)
  go_ret
  exact ⟨rfl, _, rfl⟩
theorem sh_Struct (tb : Nat) (w : World) (hlt : tb < w.heap.size) (hb : Hid (objAt w tb = some (.cells TDZ 56 (0, 0)))) : Calls Tryz.prog 16 #[.agg #[.iface 124 (.pointer (some ⟨0, 92, none⟩)), .int .u64 25, .pointer (some ⟨tb, 0, none⟩), .pointer none, .bool false, .bool false, .bool false, .bool false, .bool false], .bool true, .int .u64 25, .bool false, .bool false, .bool true] w fun e w' => e = .returned (.bool true) ∧ ∃ n, (w.alloc (.cells #[.iface 124 (.pointer (some ⟨0, 92, none⟩)), .int .u64 25, .pointer (some ⟨tb, 0, none⟩), .pointer none, .bool false, .bool false, .bool false, .bool false, .bool false] 47)).drewN n = w' := by
  go_enter Tryz.func16, Tryz.ntmps16
  go_wp2_with (go_at_call 62; refine (tz0 _ _ ?_).mono ?_; (next => exact hid_past hlt hb); rintro e w' ⟨rfl, nn, rfl⟩)
  go_ret
  exact ⟨rfl, _, rfl⟩

@[go_sem] theorem nf_92 (w : World) : (callFunc 196 #[.pointer (some ⟨0, 92, none⟩)]).run Tryz.prog w = .ok (.value (.int .i64 2)) w := by kernel_rfl

theorem af_first (cb : Nat) (w : World) (hC : At w cb (cac none)) : Calls Tryz.prog 83 #[.pointer (some ⟨cb, 0, none⟩), .iface 124 (.pointer (some ⟨0, 92, none⟩))] w fun e w' => ∃ td sd mc eb, e = .returned (.agg #[.iface 124 (.pointer (some ⟨0, 88, none⟩)), .int .u64 23, .pointer none, .pointer (some ⟨eb, 0, none⟩), .bool false, .bool false, .bool false, .bool false, .bool false]) ∧ Sole cb w w' ∧ At w' cb (cac (some mc)) ∧ Ty w' mc (fun a => if a = 92 then some td else none) ∧ At w' td (tdc sd) ∧ At w' sd (sd0 92 2) ∧ At w' eb (natc 92 25 (some ⟨td, 0, none⟩) false false) ∧ w.heap.size ≤ td ∧ w.heap.size ≤ sd ∧ w.heap.size ≤ mc ∧ w.heap.size ≤ eb := by
  have hCl := hC.lt
  have hne : w.heap.size ≠ cb := by omega
  have hCH := Lib.hid hC
  clear hC
  go_enter Tryz.func83, Tryz.ntmps83
  go_wp2_with (first | (go_at_call 45; ((with_reducible refine (ft_first 92 kind_92 2 nf_92 cb _ (hCH.out.alloc _)).mono ?_); rintro e w1 ⟨td, sd, mc, rfl, hb, f0, f1, f2, f3, l0, l1, l2⟩; have hR := (At.new w #[.nilIface, .int .u64 0, .pointer none, .pointer none, .bool false, .bool false, .bool false, .bool false, .bool false] 47 w.heap.size rfl).sole hb hne; have hrl := hR.lt; obtain ⟨hr1, hr2, hr3, hr4⟩ := szs hrl; have hrp := hR.plain; have hrc := hR.cells; have hrz : (cellsAt w1 w.heap.size).size = 9 := (by rw [hrc]; rfl); have HR := Lib.hid hR; have HB := Lib.hid hb; have f0H := Lib.hid f0; have f0l := f0.lt; have f1H := Lib.hid f1; have f1l := f1.lt; have f2H := Lib.hid f2; have f2l := f2.lt; have f3H := Lib.hid f3; have f3l := f3.lt; clear hR hb f0 f1 f2 f3)) | (go_at_call 77; ((with_reducible refine (aty _).mono ?_); rintro e w' ⟨rfl, rfl⟩)) | (go_at_call 45; ((with_reducible refine (from_88 _ _).mono ?_); rintro e w' ⟨rfl, rfl⟩)))
  refine bodyPost_ret (v := .agg #[.iface 124 (.pointer (some ⟨0, 88, none⟩)), .int .u64 23, .pointer none, .pointer (some ⟨w1.heap.size, 0, none⟩), .bool false, .bool false, .bool false, .bool false, .bool false]) (by simp [results, Tryz.results83, go_sem, hrp, hrc, hrl, hr1, hr2, hr3]) rfl ?_
  have hsz := HB.out.bel.size
  simp at hsz
  simp at l0 l1 l2
  refine ⟨td, sd, mc, w1.heap.size, rfl, ?_, ?_, ?_, ?_, ?_, ?_, by omega, by omega, by omega, by omega⟩
  · have hF : Sole cb w w1 := Sole.next (bal (Below.refl _ _) _) HB.out
    repeat (first | with_reducible exact hF | with_reducible refine Sole.new ?_ (Nat.le_refl _) _ _ | with_reducible refine Sole.rowNew ?_ (Nat.le_refl _) _ | with_reducible refine Sole.alloc ?_ _ | with_reducible refine Sole.drew ?_)
  · repeat (first | with_reducible exact f0H.out | ((with_reducible refine At.rowOther ?_ _ _ ?ne); (case ne => omega)) | ((with_reducible refine At.other ?_ _ _ _ ?ne); (case ne => omega)) | with_reducible refine At.alloc ?_ _ | with_reducible refine At.drew ?_)
  · repeat (first | with_reducible exact f1H.out | ((with_reducible refine Ty.rowOther ?_ _ _ ?ne); (case ne => omega)) | ((with_reducible refine Ty.other ?_ _ _ _ ?ne); (case ne => omega)) | with_reducible refine Ty.alloc ?_ _ | with_reducible refine Ty.drew ?_)
  · repeat (first | with_reducible exact f2H.out | ((with_reducible refine At.rowOther ?_ _ _ ?ne); (case ne => omega)) | ((with_reducible refine At.other ?_ _ _ _ ?ne); (case ne => omega)) | with_reducible refine At.alloc ?_ _ | with_reducible refine At.drew ?_)
  · repeat (first | with_reducible exact f3H.out | ((with_reducible refine At.rowOther ?_ _ _ ?ne); (case ne => omega)) | ((with_reducible refine At.other ?_ _ _ _ ?ne); (case ne => omega)) | with_reducible refine At.alloc ?_ _ | with_reducible refine At.drew ?_)
  · repeat (first | ((with_reducible refine At.new _ _ _ _ ?sz); (case sz => (simp [go_sem]; done))) | with_reducible exact (At.new _ _ _ _ rfl) | ((with_reducible refine At.rowOther ?_ _ _ ?ne); (case ne => omega)) | ((with_reducible refine At.other ?_ _ _ _ ?ne); (case ne => omega)) | with_reducible refine At.alloc ?_ _ | with_reducible refine At.drew ?_)

theorem af_hit (td mc : Nat) (G : Nat → Option Nat) (cb : Nat) (w : World) (hC : At w cb (cac (some mc))) (hT : Ty w mc G) (hG : G 92 = some td) : Calls Tryz.prog 83 #[.pointer (some ⟨cb, 0, none⟩), .iface 124 (.pointer (some ⟨0, 92, none⟩))] w fun e w' => ∃ eb, e = .returned (.agg #[.iface 124 (.pointer (some ⟨0, 88, none⟩)), .int .u64 23, .pointer none, .pointer (some ⟨eb, 0, none⟩), .bool false, .bool false, .bool false, .bool false, .bool false]) ∧ Below w.heap.size w w' ∧ At w' eb (natc 92 25 (some ⟨td, 0, none⟩) false false) ∧ w.heap.size ≤ eb := by
  have hCl := hC.lt
  have hCH := Lib.hid hC
  have hTl := hT.lt
  have hTH := Lib.hid hT
  have hGH := Lib.hid hG
  clear hC hT hG
  go_enter Tryz.func83, Tryz.ntmps83
  go_wp2_with (first | (go_at_call 45; ((with_reducible refine (ft_hit 92 kind_92 td mc G cb _ (hCH.out.alloc _) (hTH.out.alloc _) hGH.out).mono ?_); rintro e w1 ⟨rfl, hb⟩; have hR := (At.new w #[.nilIface, .int .u64 0, .pointer none, .pointer none, .bool false, .bool false, .bool false, .bool false, .bool false] 47 w.heap.size rfl).bel hb; have hrl := hR.lt; obtain ⟨hr1, hr2, hr3, hr4⟩ := szs hrl; have hrp := hR.plain; have hrc := hR.cells; have hrz : (cellsAt w1 w.heap.size).size = 9 := (by rw [hrc]; rfl); have HR := Lib.hid hR; have HB := Lib.hid hb; clear hR hb )) | (go_at_call 77; ((with_reducible refine (aty _).mono ?_); rintro e w' ⟨rfl, rfl⟩)) | (go_at_call 45; ((with_reducible refine (from_88 _ _).mono ?_); rintro e w' ⟨rfl, rfl⟩)))
  refine bodyPost_ret (v := .agg #[.iface 124 (.pointer (some ⟨0, 88, none⟩)), .int .u64 23, .pointer none, .pointer (some ⟨w1.heap.size, 0, none⟩), .bool false, .bool false, .bool false, .bool false, .bool false]) (by simp [results, Tryz.results83, go_sem, hrp, hrc, hrl, hr1, hr2, hr3]) rfl ?_
  have hsz := HB.out.size
  simp at hsz
  refine ⟨w1.heap.size, rfl, ?_, ?_, by omega⟩
  · have hF : Below w.heap.size w w1 := bnext (bal (Below.refl _ _) _) HB.out
    repeat (first | with_reducible exact hF | with_reducible refine bsetNew ?_ (Nat.le_refl _) _ _ | with_reducible refine browNew ?_ (Nat.le_refl _) _ | with_reducible refine bal ?_ _ | with_reducible refine Below.drew ?_)
  · repeat (first | ((with_reducible refine At.new _ _ _ _ ?sz); (case sz => (simp [go_sem]; done))) | with_reducible exact (At.new _ _ _ _ rfl) | ((with_reducible refine At.rowOther ?_ _ _ ?ne); (case ne => omega)) | ((with_reducible refine At.other ?_ _ _ _ ?ne); (case ne => omega)) | with_reducible refine At.alloc ?_ _ | with_reducible refine At.drew ?_)

theorem afz_first (cb : Nat) (w : World) (hC : At w cb (cac none)) : Calls Tryz.prog 49 #[.pointer (some ⟨cb, 0, none⟩)] w fun e w' => ∃ td sd mc eb, e = .returned (.agg #[.iface 124 (.pointer (some ⟨0, 88, none⟩)), .int .u64 23, .pointer none, .pointer (some ⟨eb, 0, none⟩), .bool false, .bool false, .bool false, .bool false, .bool false]) ∧ Sole cb w w' ∧ At w' cb (cac (some mc)) ∧ Ty w' mc (fun a => if a = 92 then some td else none) ∧ At w' td (tdc sd) ∧ At w' sd (sd0 92 2) ∧ At w' eb (natc 92 25 (some ⟨td, 0, none⟩) false false) ∧ w.heap.size ≤ td ∧ w.heap.size ≤ sd ∧ w.heap.size ≤ mc ∧ w.heap.size ≤ eb := by
  have hCl := hC.lt
  have hne : w.heap.size ≠ cb := by omega
  have hCH := Lib.hid hC
  clear hC
  go_enter Tryz.func49, Tryz.ntmps49
  go_wp2_with (first | (go_at_call 83; ((with_reducible refine (af_first cb _ (hCH.out.alloc _)).mono ?_); rintro e w1 ⟨td, sd, mc, eb, rfl, hb, f0, f1, f2, f3, f4, l0, l1, l2, l3⟩; have hR := (At.new w #[.nilIface, .int .u64 0, .pointer none, .pointer none, .bool false, .bool false, .bool false, .bool false, .bool false] 47 w.heap.size rfl).sole hb hne; have hrl := hR.lt; obtain ⟨hr1, hr2, hr3, hr4⟩ := szs hrl; have hrp := hR.plain; have hrc := hR.cells; have hrz : (cellsAt w1 w.heap.size).size = 9 := (by rw [hrc]; rfl); have HR := Lib.hid hR; have HB := Lib.hid hb; have f0H := Lib.hid f0; have f0l := f0.lt; have f1H := Lib.hid f1; have f1l := f1.lt; have f2H := Lib.hid f2; have f2l := f2.lt; have f3H := Lib.hid f3; have f3l := f3.lt; have f4H := Lib.hid f4; have f4l := f4.lt; clear hR hb f0 f1 f2 f3 f4)))
  refine bodyPost_ret (v := .agg #[.iface 124 (.pointer (some ⟨0, 88, none⟩)), .int .u64 23, .pointer none, .pointer (some ⟨eb, 0, none⟩), .bool false, .bool false, .bool false, .bool false, .bool false]) (by simp [results, Tryz.results49, go_sem, hrp, hrc]) rfl ?_
  simp at l0 l1 l2 l3
  refine ⟨td, sd, mc, eb, rfl, ?_, ?_, ?_, ?_, ?_, ?_, by omega, by omega, by omega, by omega⟩
  · have hF : Sole cb w w1 := Sole.next (bal (Below.refl _ _) _) HB.out
    repeat (first | with_reducible exact hF | with_reducible refine Sole.new ?_ (Nat.le_refl _) _ _ | with_reducible refine Sole.rowNew ?_ (Nat.le_refl _) _ | with_reducible refine Sole.alloc ?_ _ | with_reducible refine Sole.drew ?_)
  · repeat (first | with_reducible exact f0H.out | ((with_reducible refine At.rowOther ?_ _ _ ?ne); (case ne => omega)) | ((with_reducible refine At.other ?_ _ _ _ ?ne); (case ne => omega)) | with_reducible refine At.alloc ?_ _ | with_reducible refine At.drew ?_)
  · repeat (first | with_reducible exact f1H.out | ((with_reducible refine Ty.rowOther ?_ _ _ ?ne); (case ne => omega)) | ((with_reducible refine Ty.other ?_ _ _ _ ?ne); (case ne => omega)) | with_reducible refine Ty.alloc ?_ _ | with_reducible refine Ty.drew ?_)
  · repeat (first | with_reducible exact f2H.out | ((with_reducible refine At.rowOther ?_ _ _ ?ne); (case ne => omega)) | ((with_reducible refine At.other ?_ _ _ _ ?ne); (case ne => omega)) | with_reducible refine At.alloc ?_ _ | with_reducible refine At.drew ?_)
  · repeat (first | with_reducible exact f3H.out | ((with_reducible refine At.rowOther ?_ _ _ ?ne); (case ne => omega)) | ((with_reducible refine At.other ?_ _ _ _ ?ne); (case ne => omega)) | with_reducible refine At.alloc ?_ _ | with_reducible refine At.drew ?_)
  · repeat (first | with_reducible exact f4H.out | ((with_reducible refine At.rowOther ?_ _ _ ?ne); (case ne => omega)) | ((with_reducible refine At.other ?_ _ _ _ ?ne); (case ne => omega)) | with_reducible refine At.alloc ?_ _ | with_reducible refine At.drew ?_)

theorem afz_hit (td mc : Nat) (G : Nat → Option Nat) (cb : Nat) (w : World) (hC : At w cb (cac (some mc))) (hT : Ty w mc G) (hG : G 92 = some td) : Calls Tryz.prog 49 #[.pointer (some ⟨cb, 0, none⟩)] w fun e w' => ∃ eb, e = .returned (.agg #[.iface 124 (.pointer (some ⟨0, 88, none⟩)), .int .u64 23, .pointer none, .pointer (some ⟨eb, 0, none⟩), .bool false, .bool false, .bool false, .bool false, .bool false]) ∧ Below w.heap.size w w' ∧ At w' eb (natc 92 25 (some ⟨td, 0, none⟩) false false) ∧ w.heap.size ≤ eb := by
  have hCl := hC.lt
  have hCH := Lib.hid hC
  have hTl := hT.lt
  have hTH := Lib.hid hT
  have hGH := Lib.hid hG
  clear hC hT hG
  go_enter Tryz.func49, Tryz.ntmps49
  go_wp2_with (first | (go_at_call 83; ((with_reducible refine (af_hit td mc G cb _ (hCH.out.alloc _) (hTH.out.alloc _) hGH.out).mono ?_); rintro e w1 ⟨eb, rfl, hb, f0, l0⟩; have hR := (At.new w #[.nilIface, .int .u64 0, .pointer none, .pointer none, .bool false, .bool false, .bool false, .bool false, .bool false] 47 w.heap.size rfl).bel hb; have hrl := hR.lt; obtain ⟨hr1, hr2, hr3, hr4⟩ := szs hrl; have hrp := hR.plain; have hrc := hR.cells; have hrz : (cellsAt w1 w.heap.size).size = 9 := (by rw [hrc]; rfl); have HR := Lib.hid hR; have HB := Lib.hid hb; have f0H := Lib.hid f0; have f0l := f0.lt; clear hR hb f0)))
  refine bodyPost_ret (v := .agg #[.iface 124 (.pointer (some ⟨0, 88, none⟩)), .int .u64 23, .pointer none, .pointer (some ⟨eb, 0, none⟩), .bool false, .bool false, .bool false, .bool false, .bool false]) (by simp [results, Tryz.results49, go_sem, hrp, hrc]) rfl ?_
  simp at l0
  refine ⟨eb, rfl, ?_, ?_, by omega⟩
  · have hF : Below w.heap.size w w1 := bnext (bal (Below.refl _ _) _) HB.out
    repeat (first | with_reducible exact hF | with_reducible refine bsetNew ?_ (Nat.le_refl _) _ _ | with_reducible refine browNew ?_ (Nat.le_refl _) _ | with_reducible refine bal ?_ _ | with_reducible refine Below.drew ?_)
  · repeat (first | with_reducible exact f0H.out | ((with_reducible refine At.rowOther ?_ _ _ ?ne); (case ne => omega)) | ((with_reducible refine At.other ?_ _ _ _ ?ne); (case ne => omega)) | with_reducible refine At.alloc ?_ _ | with_reducible refine At.drew ?_)

theorem ao_first (cb : Nat) (w : World) (hC : At w cb (cac none)) : Calls Tryz.prog 14 #[.int .i64 6, .pointer (some ⟨cb, 0, none⟩)] w fun e w' => ∃ td sd mc eb, e = .returned (.agg #[.iface 124 (.pointer (some ⟨0, 88, none⟩)), .int .u64 23, .pointer none, .pointer (some ⟨eb, 0, none⟩), .bool false, .bool false, .bool false, .bool false, .bool false]) ∧ Sole cb w w' ∧ At w' cb (cac (some mc)) ∧ Ty w' mc (fun a => if a = 92 then some td else none) ∧ At w' td (tdc sd) ∧ At w' sd (sd0 92 2) ∧ At w' eb (natc 92 25 (some ⟨td, 0, none⟩) false false) ∧ w.heap.size ≤ td ∧ w.heap.size ≤ sd ∧ w.heap.size ≤ mc ∧ w.heap.size ≤ eb := by
  have hCl := hC.lt
  have hne : w.heap.size ≠ cb := by omega
  have hCH := Lib.hid hC
  clear hC
  go_enter Tryz.func14, Tryz.ntmps14
  go_wp2_with (first | (go_at_call 49; ((with_reducible refine (afz_first cb _ (hCH.out.alloc _)).mono ?_); rintro e w1 ⟨td, sd, mc, eb, rfl, hb, f0, f1, f2, f3, f4, l0, l1, l2, l3⟩; have hR := (At.new w #[.nilIface, .int .u64 0, .pointer none, .pointer none, .bool false, .bool false, .bool false, .bool false, .bool false] 47 w.heap.size rfl).sole hb hne; have hrl := hR.lt; obtain ⟨hr1, hr2, hr3, hr4⟩ := szs hrl; have hrp := hR.plain; have hrc := hR.cells; have hrz : (cellsAt w1 w.heap.size).size = 9 := (by rw [hrc]; rfl); have HR := Lib.hid hR; have HB := Lib.hid hb; have f0H := Lib.hid f0; have f0l := f0.lt; have f1H := Lib.hid f1; have f1l := f1.lt; have f2H := Lib.hid f2; have f2l := f2.lt; have f3H := Lib.hid f3; have f3l := f3.lt; have f4H := Lib.hid f4; have f4l := f4.lt; clear hR hb f0 f1 f2 f3 f4)))
  refine bodyPost_ret (v := .agg #[.iface 124 (.pointer (some ⟨0, 88, none⟩)), .int .u64 23, .pointer none, .pointer (some ⟨eb, 0, none⟩), .bool false, .bool false, .bool false, .bool false, .bool false]) (by simp [results, Tryz.results14, go_sem, hrp, hrc]) rfl ?_
  simp at l0 l1 l2 l3
  refine ⟨td, sd, mc, eb, rfl, ?_, ?_, ?_, ?_, ?_, ?_, by omega, by omega, by omega, by omega⟩
  · have hF : Sole cb w w1 := Sole.next (bal (Below.refl _ _) _) HB.out
    repeat (first | with_reducible exact hF | with_reducible refine Sole.new ?_ (Nat.le_refl _) _ _ | with_reducible refine Sole.rowNew ?_ (Nat.le_refl _) _ | with_reducible refine Sole.alloc ?_ _ | with_reducible refine Sole.drew ?_)
  · repeat (first | with_reducible exact f0H.out | ((with_reducible refine At.rowOther ?_ _ _ ?ne); (case ne => omega)) | ((with_reducible refine At.other ?_ _ _ _ ?ne); (case ne => omega)) | with_reducible refine At.alloc ?_ _ | with_reducible refine At.drew ?_)
  · repeat (first | with_reducible exact f1H.out | ((with_reducible refine Ty.rowOther ?_ _ _ ?ne); (case ne => omega)) | ((with_reducible refine Ty.other ?_ _ _ _ ?ne); (case ne => omega)) | with_reducible refine Ty.alloc ?_ _ | with_reducible refine Ty.drew ?_)
  · repeat (first | with_reducible exact f2H.out | ((with_reducible refine At.rowOther ?_ _ _ ?ne); (case ne => omega)) | ((with_reducible refine At.other ?_ _ _ _ ?ne); (case ne => omega)) | with_reducible refine At.alloc ?_ _ | with_reducible refine At.drew ?_)
  · repeat (first | with_reducible exact f3H.out | ((with_reducible refine At.rowOther ?_ _ _ ?ne); (case ne => omega)) | ((with_reducible refine At.other ?_ _ _ _ ?ne); (case ne => omega)) | with_reducible refine At.alloc ?_ _ | with_reducible refine At.drew ?_)
  · repeat (first | with_reducible exact f4H.out | ((with_reducible refine At.rowOther ?_ _ _ ?ne); (case ne => omega)) | ((with_reducible refine At.other ?_ _ _ _ ?ne); (case ne => omega)) | with_reducible refine At.alloc ?_ _ | with_reducible refine At.drew ?_)

theorem cz_first (cb : Nat) (w : World) (hC : At w cb (cac none)) : Calls Tryz.prog 48 #[.pointer (some ⟨cb, 0, none⟩)] w fun e w' => ∃ td sd mc, e = .returned (.agg (natc 92 25 (some ⟨td, 0, none⟩) false false)) ∧ Sole cb w w' ∧ At w' cb (cac (some mc)) ∧ Ty w' mc (fun a => if a = 92 then some td else none) ∧ At w' td (tdc sd) ∧ At w' sd (sd0 92 2) ∧ w.heap.size ≤ td ∧ w.heap.size ≤ sd ∧ w.heap.size ≤ mc := by
  have hCl := hC.lt
  have hne : w.heap.size ≠ cb := by omega
  have hCH := Lib.hid hC
  clear hC
  go_enter Tryz.func48, Tryz.ntmps48
  go_wp2_with (first | (go_at_call 45; ((with_reducible refine (ft_first 92 kind_92 2 nf_92 cb _ (hCH.out.alloc _)).mono ?_); rintro e w1 ⟨td, sd, mc, rfl, hb, f0, f1, f2, f3, l0, l1, l2⟩; have hR := (At.new w #[.nilIface, .int .u64 0, .pointer none, .pointer none, .bool false, .bool false, .bool false, .bool false, .bool false] 47 w.heap.size rfl).sole hb hne; have hrl := hR.lt; obtain ⟨hr1, hr2, hr3, hr4⟩ := szs hrl; have hrp := hR.plain; have hrc := hR.cells; have hrz : (cellsAt w1 w.heap.size).size = 9 := (by rw [hrc]; rfl); have HR := Lib.hid hR; have HB := Lib.hid hb; have f0H := Lib.hid f0; have f0l := f0.lt; have f1H := Lib.hid f1; have f1l := f1.lt; have f2H := Lib.hid f2; have f2l := f2.lt; have f3H := Lib.hid f3; have f3l := f3.lt; clear hR hb f0 f1 f2 f3)))
  refine bodyPost_ret (v := .agg (natc 92 25 (some ⟨td, 0, none⟩) false false)) (by simp [results, Tryz.results48, go_sem, hrp, hrc]) rfl ?_
  simp at l0 l1 l2
  refine ⟨td, sd, mc, rfl, ?_, ?_, ?_, ?_, ?_, by omega, by omega, by omega⟩
  · have hF : Sole cb w w1 := Sole.next (bal (Below.refl _ _) _) HB.out
    repeat (first | with_reducible exact hF | with_reducible refine Sole.new ?_ (Nat.le_refl _) _ _ | with_reducible refine Sole.rowNew ?_ (Nat.le_refl _) _ | with_reducible refine Sole.alloc ?_ _ | with_reducible refine Sole.drew ?_)
  · repeat (first | with_reducible exact f0H.out | ((with_reducible refine At.rowOther ?_ _ _ ?ne); (case ne => omega)) | ((with_reducible refine At.other ?_ _ _ _ ?ne); (case ne => omega)) | with_reducible refine At.alloc ?_ _ | with_reducible refine At.drew ?_)
  · repeat (first | with_reducible exact f1H.out | ((with_reducible refine Ty.rowOther ?_ _ _ ?ne); (case ne => omega)) | ((with_reducible refine Ty.other ?_ _ _ _ ?ne); (case ne => omega)) | with_reducible refine Ty.alloc ?_ _ | with_reducible refine Ty.drew ?_)
  · repeat (first | with_reducible exact f2H.out | ((with_reducible refine At.rowOther ?_ _ _ ?ne); (case ne => omega)) | ((with_reducible refine At.other ?_ _ _ _ ?ne); (case ne => omega)) | with_reducible refine At.alloc ?_ _ | with_reducible refine At.drew ?_)
  · repeat (first | with_reducible exact f3H.out | ((with_reducible refine At.rowOther ?_ _ _ ?ne); (case ne => omega)) | ((with_reducible refine At.other ?_ _ _ _ ?ne); (case ne => omega)) | with_reducible refine At.alloc ?_ _ | with_reducible refine At.drew ?_)

@[go_sem] theorem meq0_93 (w : World) : (binOp .eql 93 (.map none) (.map none)).run Tryz.prog w = .ok (.bool true) w := by kernel_rfl

theorem hidS (tb sb : Nat) (w : World) (hT : At w tb (tdc sb)) : Calls Tryz.prog 23 #[.pointer (some ⟨tb, 0, none⟩)] w fun e w' => e = .returned (.tuple #[.bool false, .bool true, .bool false, .bool false, .int .i64 0, .int .i64 0, .bool false, .bool false, .bool false, .bool false]) ∧ ∃ n, w.drewN n = w' := by
  have hp := hT.plain
  have hs := hT.cells
  clear hT
  go_enter Tryz.func23, Tryz.ntmps23
  go_wp2
  go_quiet (fail)
  go_wp2
  refine bodyPost_ret (v := .tuple #[.bool false, .bool true, .bool false, .bool false, .int .i64 0, .int .i64 0, .bool false, .bool false, .bool false, .bool false]) (by simp [results, Tryz.results23, go_sem]) rfl ?_
  exact ⟨rfl, _, rfl⟩

theorem tds (tb sb : Nat) (w : World) (hT : At w tb (tdc sb)) (hS : At w sb (sd0 92 2)) : Calls Tryz.prog 24 #[.pointer (some ⟨tb, 0, none⟩)] w fun e w' => e = .returned (.tuple #[.int .i64 2, .int .i64 0, .int .i64 (-1), .bool true, .bool true, .bool true]) ∧ Below w.heap.size w w' := by
  have hp := hT.plain
  have hs := hT.cells
  have hq := hS.plain
  have hr := hS.cells
  clear hT hS
  go_enter Tryz.func24, Tryz.ntmps24
  go_wp2
  go_region
  all_goals
    go_wp2
    refine bodyPost_ret (v := .tuple #[.int .i64 2, .int .i64 0, .int .i64 (-1), .bool true, .bool true, .bool true]) (by simp [results, Tryz.results24, go_sem]) rfl ?_
    refine ⟨rfl, ?_⟩
    repeat (first | with_reducible exact Below.refl _ _ | with_reducible refine Below.drew ?_ | with_reducible refine bdn ?_ _ | with_reducible refine bal ?_ _)

theorem bfz (w : World) : Calls Tryz.prog 49 #[.pointer none] w fun e w' => ∃ td eb, e = .returned (.agg #[.iface 124 (.pointer (some ⟨0, 88, none⟩)), .int .u64 23, .pointer none, .pointer (some ⟨eb, 0, none⟩), .bool false, .bool false, .bool false, .bool false, .bool false]) ∧ Below w.heap.size w w' ∧ At w' eb (natc 92 25 (some ⟨td, 0, none⟩) false false) ∧ At w' td #[.pointer none, .pointer none, .map none, .pointer none, .pointer none, .int .i64 0, .pointer none, .pointer none, .int .i64 0, .int .i64 0, .bool false, .bool false, .bool false, .bool false] ∧ w.heap.size ≤ eb ∧ w.heap.size ≤ td := by
  refine (c_49 w).mono ?_
  rintro e w' ⟨rfl, rfl⟩
  refine ⟨w.heap.size + 1 + 1 + 1, _, rfl, ?_, ?_, ?_, ?_, ?_⟩
  · repeat (first | with_reducible exact Below.refl _ _ | with_reducible refine bal ?_ _ | with_reducible refine Below.drew ?_)
  · repeat (first | with_reducible exact At.new _ _ _ _ rfl | ((with_reducible refine At.new _ _ _ _ ?sz); (case sz => simp; done)) | with_reducible refine At.alloc ?_ _)
  · repeat (first | with_reducible exact At.new _ _ _ _ rfl | ((with_reducible refine At.new _ _ _ _ ?sz); (case sz => simp; done)) | with_reducible refine At.alloc ?_ _)
  · omega
  · omega

theorem ty_dn {w : World} {mc : Nat} {F : Nat → Option Nat} (h : Ty w mc F) (n : Nat) : Ty (w.drewN n) mc F := h
end Go.Proofs.YtfmefomafdgfmaaGreat.fnArrayFromTypeSharesCachedStruct
