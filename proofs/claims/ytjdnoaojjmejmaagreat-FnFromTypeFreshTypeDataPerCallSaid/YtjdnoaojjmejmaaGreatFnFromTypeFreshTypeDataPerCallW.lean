/-
  The walk of FnFromTypeFreshTypeDataPerCall: Without a cache every FromType call on a func or struct type gives a TypeData of its own: a write into one is not seen through another; an int type gets none.
-/
import Derived.Test.YtjdnoaojjmejmaaGreatBase
import Derived.OpenShut
import Derived.Deep.RegionWith
import Derived.RegionTactic
import Derived.ChangeAlike
import Derived.Deep.QuietTactic
import Derived.BigQuiet
import Derived.WalkSmall
import Derived.LaidEqlPtr
import Derived.Lib.Builder
namespace Go.Proofs.YtjdnoaojjmejmaaGreat.fnFromTypeFreshTypeDataPerCall
open Go.RowKit
set_option maxRecDepth 100000
set_option maxHeartbeats 1000000
set_option linter.unusedVariables false
theorem bal {w v : World} (h : Below w.heap.size w v) (o : Obj) : Below w.heap.size w (v.alloc o) := h.alloc h.size o
theorem bdn {B : Nat} {a w : World} (h : Below B a w) (n : Nat) : Below B a (w.drewN n) := ⟨h.os, h.tape, h.output, h.size, h.block⟩
@[go_sem] theorem kind_3 (w : World) : (callFunc 246 #[.pointer (some ⟨0, 3, none⟩)]).run Tryz.prog w = .ok (.value (.int .u64 2)) w := by kernel_rfl

@[go_sem] theorem kind_36 (w : World) : (callFunc 246 #[.pointer (some ⟨0, 36, none⟩)]).run Tryz.prog w = .ok (.value (.int .u64 19)) w := by kernel_rfl

@[go_sem] theorem kind_107 (w : World) : (callFunc 246 #[.pointer (some ⟨0, 107, none⟩)]).run Tryz.prog w = .ok (.value (.int .u64 25)) w := by kernel_rfl

theorem bi_3  (w : World)  : Calls Tryz.prog 146 #[.iface 122 (.pointer (some ⟨0, 3, none⟩))] w fun e w' => e = .returned (Value.bool true) ∧ (w) = w' := by
  go_enter Tryz.func146, Tryz.ntmps146
  go_wp2
  exact bodyPost_ret (v := (Value.bool true)) (by simp [results, Tryz.results146, go_sem]) rfl ⟨rfl, rfl⟩

theorem from_3 (c : Option Addr) (w : World)  : Calls Tryz.prog 137 #[.pointer c, .iface 122 (.pointer (some ⟨0, 3, none⟩))] w fun e w' => e = .returned (Value.agg #[Value.iface 122 (Value.pointer (some { block := 0, off := 3 })), Value.int IntKind.u64 2, Value.pointer none, Value.pointer none, Value.bool false, Value.bool false, Value.bool false, Value.bool true, Value.bool false]) ∧ (w.alloc (Obj.cells #[Value.iface 122 (Value.pointer (some { block := 0, off := 3 })), Value.int IntKind.u64 2, Value.pointer none, Value.pointer none, Value.bool false, Value.bool false, Value.bool false, Value.bool true, Value.bool false] 43)) = w' := by
  go_enter Tryz.func137, Tryz.ntmps137
  go_wp2_with (first | (go_at_call 146; ((with_reducible refine (bi_3 _).mono ?_); rintro e w' ⟨rfl, rfl⟩)))
  exact bodyPost_ret (v := (Value.agg #[Value.iface 122 (Value.pointer (some { block := 0, off := 3 })), Value.int IntKind.u64 2, Value.pointer none, Value.pointer none, Value.bool false, Value.bool false, Value.bool false, Value.bool true, Value.bool false])) (by simp [results, Tryz.results137, go_sem]) rfl ⟨rfl, rfl⟩

theorem from_36 (c : Option Addr) (w : World)  : Calls Tryz.prog 137 #[.pointer c, .iface 122 (.pointer (some ⟨0, 36, none⟩))] w fun e w' => e = .returned (Value.agg #[Value.iface 122 (Value.pointer (some { block := 0, off := 36 })), Value.int IntKind.u64 19, Value.pointer (some { block := w.heap.size + 1, off := 0 }), Value.pointer none, Value.bool false, Value.bool false, Value.bool false, Value.bool false, Value.bool false]) ∧ ((w.alloc (Obj.cells #[Value.iface 122 (Value.pointer (some { block := 0, off := 36 })), Value.int IntKind.u64 19, Value.pointer (some { block := w.heap.size + 1, off := 0 }), Value.pointer none, Value.bool false, Value.bool false, Value.bool false, Value.bool false, Value.bool false] 43)).alloc (Obj.cells #[Value.pointer none, Value.pointer none, Value.map none, Value.pointer none, Value.pointer none, Value.int IntKind.i64 0, Value.pointer none, Value.pointer none, Value.int IntKind.i64 0, Value.int IntKind.i64 0, Value.bool false, Value.bool false, Value.bool false, Value.bool false] 83)) = w' := by
  go_enter Tryz.func137, Tryz.ntmps137
  go_wp2
  exact bodyPost_ret (v := (Value.agg #[Value.iface 122 (Value.pointer (some { block := 0, off := 36 })), Value.int IntKind.u64 19, Value.pointer (some { block := w.heap.size + 1, off := 0 }), Value.pointer none, Value.bool false, Value.bool false, Value.bool false, Value.bool false, Value.bool false])) (by simp [results, Tryz.results137, go_sem]) rfl ⟨rfl, rfl⟩

theorem from_107  (w : World)  : Calls Tryz.prog 137 #[.pointer none, .iface 122 (.pointer (some ⟨0, 107, none⟩))] w fun e w' => e = .returned (Value.agg #[Value.iface 122 (Value.pointer (some { block := 0, off := 107 })), Value.int IntKind.u64 25, Value.pointer (some { block := w.heap.size + 1, off := 0 }), Value.pointer none, Value.bool false, Value.bool false, Value.bool false, Value.bool false, Value.bool false]) ∧ ((w.alloc (Obj.cells #[Value.iface 122 (Value.pointer (some { block := 0, off := 107 })), Value.int IntKind.u64 25, Value.pointer (some { block := w.heap.size + 1, off := 0 }), Value.pointer none, Value.bool false, Value.bool false, Value.bool false, Value.bool false, Value.bool false] 43)).alloc (Obj.cells #[Value.pointer none, Value.pointer none, Value.map none, Value.pointer none, Value.pointer none, Value.int IntKind.i64 0, Value.pointer none, Value.pointer none, Value.int IntKind.i64 0, Value.int IntKind.i64 0, Value.bool false, Value.bool false, Value.bool false, Value.bool false] 83)) = w' := by
  go_enter Tryz.func137, Tryz.ntmps137
  go_wp2
  exact bodyPost_ret (v := (Value.agg #[Value.iface 122 (Value.pointer (some { block := 0, off := 107 })), Value.int IntKind.u64 25, Value.pointer (some { block := w.heap.size + 1, off := 0 }), Value.pointer none, Value.bool false, Value.bool false, Value.bool false, Value.bool false, Value.bool false])) (by simp [results, Tryz.results137, go_sem]) rfl ⟨rfl, rfl⟩

theorem ft_3  (w : World)  : Calls Tryz.prog 118 #[.iface 122 (.pointer (some ⟨0, 3, none⟩))] w fun e w' => e = .returned (Value.agg #[Value.iface 122 (Value.pointer (some { block := 0, off := 3 })), Value.int IntKind.u64 2, Value.pointer none, Value.pointer none, Value.bool false, Value.bool false, Value.bool false, Value.bool true, Value.bool false]) ∧ ((w.alloc (Obj.cells #[Value.iface 122 (Value.pointer (some { block := 0, off := 3 })), Value.int IntKind.u64 2, Value.pointer none, Value.pointer none, Value.bool false, Value.bool false, Value.bool false, Value.bool true, Value.bool false] 43)).alloc (Obj.cells #[Value.iface 122 (Value.pointer (some { block := 0, off := 3 })), Value.int IntKind.u64 2, Value.pointer none, Value.pointer none, Value.bool false, Value.bool false, Value.bool false, Value.bool true, Value.bool false] 43)) = w' := by
  go_enter Tryz.func118, Tryz.ntmps118
  go_wp2_with (first | (go_at_call 137; ((with_reducible refine (from_3 _ _).mono ?_); rintro e w' ⟨rfl, rfl⟩)))
  exact bodyPost_ret (v := (Value.agg #[Value.iface 122 (Value.pointer (some { block := 0, off := 3 })), Value.int IntKind.u64 2, Value.pointer none, Value.pointer none, Value.bool false, Value.bool false, Value.bool false, Value.bool true, Value.bool false])) (by simp [results, Tryz.results118, go_sem]) rfl ⟨rfl, rfl⟩

theorem ft_36  (w : World)  : Calls Tryz.prog 118 #[.iface 122 (.pointer (some ⟨0, 36, none⟩))] w fun e w' => e = .returned (Value.agg #[Value.iface 122 (Value.pointer (some { block := 0, off := 36 })), Value.int IntKind.u64 19, Value.pointer (some { block := w.heap.size + 1 + 1, off := 0 }), Value.pointer none, Value.bool false, Value.bool false, Value.bool false, Value.bool false, Value.bool false]) ∧ (((w.alloc (Obj.cells #[Value.iface 122 (Value.pointer (some { block := 0, off := 36 })), Value.int IntKind.u64 19, Value.pointer (some { block := w.heap.size + 1 + 1, off := 0 }), Value.pointer none, Value.bool false, Value.bool false, Value.bool false, Value.bool false, Value.bool false] 43)).alloc (Obj.cells #[Value.iface 122 (Value.pointer (some { block := 0, off := 36 })), Value.int IntKind.u64 19, Value.pointer (some { block := w.heap.size + 1 + 1, off := 0 }), Value.pointer none, Value.bool false, Value.bool false, Value.bool false, Value.bool false, Value.bool false] 43)).alloc (Obj.cells #[Value.pointer none, Value.pointer none, Value.map none, Value.pointer none, Value.pointer none, Value.int IntKind.i64 0, Value.pointer none, Value.pointer none, Value.int IntKind.i64 0, Value.int IntKind.i64 0, Value.bool false, Value.bool false, Value.bool false, Value.bool false] 83)) = w' := by
  go_enter Tryz.func118, Tryz.ntmps118
  go_wp2_with (first | (go_at_call 137; ((with_reducible refine (from_36 _ _).mono ?_); rintro e w' ⟨rfl, rfl⟩)))
  exact bodyPost_ret (v := (Value.agg #[Value.iface 122 (Value.pointer (some { block := 0, off := 36 })), Value.int IntKind.u64 19, Value.pointer (some { block := w.heap.size + 1 + 1, off := 0 }), Value.pointer none, Value.bool false, Value.bool false, Value.bool false, Value.bool false, Value.bool false])) (by simp [results, Tryz.results118, go_sem]) rfl ⟨rfl, rfl⟩

theorem ft_107  (w : World)  : Calls Tryz.prog 118 #[.iface 122 (.pointer (some ⟨0, 107, none⟩))] w fun e w' => e = .returned (Value.agg #[Value.iface 122 (Value.pointer (some { block := 0, off := 107 })), Value.int IntKind.u64 25, Value.pointer (some { block := w.heap.size + 1 + 1, off := 0 }), Value.pointer none, Value.bool false, Value.bool false, Value.bool false, Value.bool false, Value.bool false]) ∧ (((w.alloc (Obj.cells #[Value.iface 122 (Value.pointer (some { block := 0, off := 107 })), Value.int IntKind.u64 25, Value.pointer (some { block := w.heap.size + 1 + 1, off := 0 }), Value.pointer none, Value.bool false, Value.bool false, Value.bool false, Value.bool false, Value.bool false] 43)).alloc (Obj.cells #[Value.iface 122 (Value.pointer (some { block := 0, off := 107 })), Value.int IntKind.u64 25, Value.pointer (some { block := w.heap.size + 1 + 1, off := 0 }), Value.pointer none, Value.bool false, Value.bool false, Value.bool false, Value.bool false, Value.bool false] 43)).alloc (Obj.cells #[Value.pointer none, Value.pointer none, Value.map none, Value.pointer none, Value.pointer none, Value.int IntKind.i64 0, Value.pointer none, Value.pointer none, Value.int IntKind.i64 0, Value.int IntKind.i64 0, Value.bool false, Value.bool false, Value.bool false, Value.bool false] 83)) = w' := by
  go_enter Tryz.func118, Tryz.ntmps118
  go_wp2_with (first | (go_at_call 137; ((with_reducible refine (from_107 _).mono ?_); rintro e w' ⟨rfl, rfl⟩)))
  exact bodyPost_ret (v := (Value.agg #[Value.iface 122 (Value.pointer (some { block := 0, off := 107 })), Value.int IntKind.u64 25, Value.pointer (some { block := w.heap.size + 1 + 1, off := 0 }), Value.pointer none, Value.bool false, Value.bool false, Value.bool false, Value.bool false, Value.bool false])) (by simp [results, Tryz.results118, go_sem]) rfl ⟨rfl, rfl⟩

theorem c_53  (w : World)  : Calls Tryz.prog 53 #[] w fun e w' => e = .returned (Value.agg #[Value.iface 122 (Value.pointer (some { block := 0, off := 3 })), Value.int IntKind.u64 2, Value.pointer none, Value.pointer none, Value.bool false, Value.bool false, Value.bool false, Value.bool true, Value.bool false]) ∧ (((w.alloc (Obj.cells #[Value.iface 122 (Value.pointer (some { block := 0, off := 3 })), Value.int IntKind.u64 2, Value.pointer none, Value.pointer none, Value.bool false, Value.bool false, Value.bool false, Value.bool true, Value.bool false] 43)).alloc (Obj.cells #[Value.iface 122 (Value.pointer (some { block := 0, off := 3 })), Value.int IntKind.u64 2, Value.pointer none, Value.pointer none, Value.bool false, Value.bool false, Value.bool false, Value.bool true, Value.bool false] 43)).alloc (Obj.cells #[Value.iface 122 (Value.pointer (some { block := 0, off := 3 })), Value.int IntKind.u64 2, Value.pointer none, Value.pointer none, Value.bool false, Value.bool false, Value.bool false, Value.bool true, Value.bool false] 43)) = w' := by
  go_enter Tryz.func53, Tryz.ntmps53
  go_wp2_with (first | (go_at_call 118; ((with_reducible refine (ft_3 _).mono ?_); rintro e w' ⟨rfl, rfl⟩)))
  exact bodyPost_ret (v := (Value.agg #[Value.iface 122 (Value.pointer (some { block := 0, off := 3 })), Value.int IntKind.u64 2, Value.pointer none, Value.pointer none, Value.bool false, Value.bool false, Value.bool false, Value.bool true, Value.bool false])) (by simp [results, Tryz.results53, go_sem]) rfl ⟨rfl, rfl⟩

theorem c_72  (w : World)  : Calls Tryz.prog 72 #[] w fun e w' => e = .returned (Value.agg #[Value.iface 122 (Value.pointer (some { block := 0, off := 36 })), Value.int IntKind.u64 19, Value.pointer (some { block := w.heap.size + 1 + 1 + 1, off := 0 }), Value.pointer none, Value.bool false, Value.bool false, Value.bool false, Value.bool false, Value.bool false]) ∧ ((((w.alloc (Obj.cells #[Value.iface 122 (Value.pointer (some { block := 0, off := 36 })), Value.int IntKind.u64 19, Value.pointer (some { block := w.heap.size + 1 + 1 + 1, off := 0 }), Value.pointer none, Value.bool false, Value.bool false, Value.bool false, Value.bool false, Value.bool false] 43)).alloc (Obj.cells #[Value.iface 122 (Value.pointer (some { block := 0, off := 36 })), Value.int IntKind.u64 19, Value.pointer (some { block := w.heap.size + 1 + 1 + 1, off := 0 }), Value.pointer none, Value.bool false, Value.bool false, Value.bool false, Value.bool false, Value.bool false] 43)).alloc (Obj.cells #[Value.iface 122 (Value.pointer (some { block := 0, off := 36 })), Value.int IntKind.u64 19, Value.pointer (some { block := w.heap.size + 1 + 1 + 1, off := 0 }), Value.pointer none, Value.bool false, Value.bool false, Value.bool false, Value.bool false, Value.bool false] 43)).alloc (Obj.cells #[Value.pointer none, Value.pointer none, Value.map none, Value.pointer none, Value.pointer none, Value.int IntKind.i64 0, Value.pointer none, Value.pointer none, Value.int IntKind.i64 0, Value.int IntKind.i64 0, Value.bool false, Value.bool false, Value.bool false, Value.bool false] 83)) = w' := by
  go_enter Tryz.func72, Tryz.ntmps72
  go_wp2_with (first | (go_at_call 118; ((with_reducible refine (ft_36 _).mono ?_); rintro e w' ⟨rfl, rfl⟩)))
  exact bodyPost_ret (v := (Value.agg #[Value.iface 122 (Value.pointer (some { block := 0, off := 36 })), Value.int IntKind.u64 19, Value.pointer (some { block := w.heap.size + 1 + 1 + 1, off := 0 }), Value.pointer none, Value.bool false, Value.bool false, Value.bool false, Value.bool false, Value.bool false])) (by simp [results, Tryz.results72, go_sem]) rfl ⟨rfl, rfl⟩

theorem c_74  (w : World)  : Calls Tryz.prog 74 #[] w fun e w' => e = .returned (Value.agg #[Value.iface 122 (Value.pointer (some { block := 0, off := 107 })), Value.int IntKind.u64 25, Value.pointer (some { block := w.heap.size + 1 + 1 + 1, off := 0 }), Value.pointer none, Value.bool false, Value.bool false, Value.bool false, Value.bool false, Value.bool false]) ∧ ((((w.alloc (Obj.cells #[Value.iface 122 (Value.pointer (some { block := 0, off := 107 })), Value.int IntKind.u64 25, Value.pointer (some { block := w.heap.size + 1 + 1 + 1, off := 0 }), Value.pointer none, Value.bool false, Value.bool false, Value.bool false, Value.bool false, Value.bool false] 43)).alloc (Obj.cells #[Value.iface 122 (Value.pointer (some { block := 0, off := 107 })), Value.int IntKind.u64 25, Value.pointer (some { block := w.heap.size + 1 + 1 + 1, off := 0 }), Value.pointer none, Value.bool false, Value.bool false, Value.bool false, Value.bool false, Value.bool false] 43)).alloc (Obj.cells #[Value.iface 122 (Value.pointer (some { block := 0, off := 107 })), Value.int IntKind.u64 25, Value.pointer (some { block := w.heap.size + 1 + 1 + 1, off := 0 }), Value.pointer none, Value.bool false, Value.bool false, Value.bool false, Value.bool false, Value.bool false] 43)).alloc (Obj.cells #[Value.pointer none, Value.pointer none, Value.map none, Value.pointer none, Value.pointer none, Value.int IntKind.i64 0, Value.pointer none, Value.pointer none, Value.int IntKind.i64 0, Value.int IntKind.i64 0, Value.bool false, Value.bool false, Value.bool false, Value.bool false] 83)) = w' := by
  go_enter Tryz.func74, Tryz.ntmps74
  go_wp2_with (first | (go_at_call 118; ((with_reducible refine (ft_107 _).mono ?_); rintro e w' ⟨rfl, rfl⟩)))
  exact bodyPost_ret (v := (Value.agg #[Value.iface 122 (Value.pointer (some { block := 0, off := 107 })), Value.int IntKind.u64 25, Value.pointer (some { block := w.heap.size + 1 + 1 + 1, off := 0 }), Value.pointer none, Value.bool false, Value.bool false, Value.bool false, Value.bool false, Value.bool false])) (by simp [results, Tryz.results74, go_sem]) rfl ⟨rfl, rfl⟩

/-- block n of w is a row of cells of which nothing is frozen -/
def Plain (w : World) (n : Nat) : Prop := ∃ c t, w.heap[n]? = some (.cells c t (0, 0))
theorem Plain.lt {w : World} {n : Nat} (h : Plain w n) : n < w.heap.size := by
  obtain ⟨c, t, h⟩ := h
  exact (Array.getElem?_eq_some_iff.1 h).1
@[go_sem] theorem plain_at (w : World) (c : Array Value) (t : TypeId) (n : Nat) (hn : n = w.heap.size) : Plain (w.alloc (.cells c t)) n = True := by
  subst hn
  exact eq_true ⟨c, t, (show (w.heap.push (.cells c t))[w.heap.size]? = some (.cells c t) by simp)⟩
@[go_sem] theorem plain_past (w : World) (o : Obj) (n : Nat) (hn : n < w.heap.size) : Plain (w.alloc o) n = Plain w n := by
  unfold Plain
  rw [Below.heap_alloc w o n hn]
@[go_sem] theorem plain_drew (w : World) (n : Nat) : Plain w.drew n = Plain w n := rfl
@[go_sem] theorem plain_drewN (w : World) (m n : Nat) : Plain (w.drewN m) n = Plain w n := rfl
@[go_sem] theorem plain_set (w : World) (a : Addr) (v : Value) (n : Nat) : Plain (w.setCell a v) n = Plain w n := by
  unfold Plain
  by_cases h : n = a.block
  · subst h
    simp only [World.setCell, Array.getElem?_modify]
    apply propext
    constructor
    · rintro ⟨c, t, h⟩
      cases ho : w.heap[a.block]? with
      | none => simp [ho] at h
      | some o =>
        simp [ho] at h
        cases o <;> simp at h
        obtain ⟨_, rfl, rfl⟩ := h
        exact ⟨_, _, rfl⟩
    · rintro ⟨c, t, h⟩
      rw [h]
      simp only [if_true, Option.map_some]
      exact ⟨_, t, rfl⟩
  · rw [Below.heap_setCell w a v n h]

@[go_sem] theorem pneq_40 (a : Addr) (w : World) : (binOp .neq 40 (.pointer (some a)) (.pointer (some a))).run Tryz.prog w = .ok (.bool false) w := by
  obtain ⟨j, hj⟩ := Option.isSome_iff_exists.mp (by kernel_rfl : (Tryz.prog.info? 83).isSome = true)
  exact Lib.run_neq_ptr_same w a Tryz.underlying40 hj
@[go_sem] theorem peql_40 (a : Addr) (w : World) : (binOp .eql 40 (.pointer (some a)) (.pointer (some a))).run Tryz.prog w = .ok (.bool true) w := by
  obtain ⟨j, hj⟩ := Option.isSome_iff_exists.mp (by kernel_rfl : (Tryz.prog.info? 83).isSome = true)
  exact run_eql_ptr_same w a Tryz.underlying40 hj
theorem psize_40 : ((Tryz.prog.info? 83).map (fun j => j.size != 0)) = some true := by kernel_rfl
@[go_sem] theorem peqlo_40 (a b : Addr) (w : World) (hne : a ≠ b) (ha : Plain w a.block) (hb : Plain w b.block) : (binOp .eql 40 (.pointer (some a)) (.pointer (some b))).run Tryz.prog w = .ok (.bool false) w := by
  obtain ⟨j, hj, hz⟩ := Option.map_eq_some_iff.mp psize_40
  obtain ⟨_, _, ha⟩ := ha
  obtain ⟨_, _, hb⟩ := hb
  exact run_eql_ptr_other w Tryz.underlying40 hj (by simpa using hz) hne ha hb
@[go_sem] theorem pneqo_40 (a b : Addr) (w : World) (hne : a ≠ b) (ha : Plain w a.block) (hb : Plain w b.block) : (binOp .neq 40 (.pointer (some a)) (.pointer (some b))).run Tryz.prog w = .ok (.bool true) w := by
  obtain ⟨j, hj, hz⟩ := Option.map_eq_some_iff.mp psize_40
  obtain ⟨_, _, ha⟩ := ha
  obtain ⟨_, _, hb⟩ := hb
  have h : ∀ d : Nat, (Op.equalIn (d + 1) 40 (.pointer (some a)) (.pointer (some b))).run Tryz.prog w = .ok false w := fun d => by
    simp [Op.equalIn, run_underlying Tryz.underlying40, sizeOf, typeInfo, hj, (by simpa using hz : j.size ≠ 0), run_sameAddr_other w hne ha hb]
  simp only [binOp]
  simp [Op.equal, Op.maxDepth, h 9999]
theorem case_0 (m : Int) (w : World) : Calls Tryz.prog 13 #[.int .i64 0, .int .i64 m] w fun e w' => e = .returned (.bool true) ∧ Below w.heap.size w w' := by
  go_enter Tryz.func13, Tryz.ntmps13
  go_wp2_with (first | (go_at_call 72; ((with_reducible refine (c_72 _).mono ?_); rintro e w' ⟨rfl, rfl⟩)))
  go_ret
  refine ⟨rfl, ?_⟩
  repeat (first | with_reducible refine bal ?_ _ | with_reducible refine Below.drew ?_ | with_reducible refine bdn ?_ _)
  exact Below.refl _ _
theorem case_1 (m : Int) (w : World) : Calls Tryz.prog 13 #[.int .i64 1, .int .i64 m] w fun e w' => e = .returned (.bool true) ∧ Below w.heap.size w w' := by
  go_enter Tryz.func13, Tryz.ntmps13
  go_wp2_with (first | (go_at_call 74; ((with_reducible refine (c_74 _).mono ?_); rintro e w' ⟨rfl, rfl⟩)))
  go_ret
  refine ⟨rfl, ?_⟩
  repeat (first | with_reducible refine bal ?_ _ | with_reducible refine Below.drew ?_ | with_reducible refine bdn ?_ _)
  exact Below.refl _ _
theorem case_2 (m : Int) (w : World) : Calls Tryz.prog 13 #[.int .i64 2, .int .i64 m] w fun e w' => e = .returned (.bool true) ∧ Below w.heap.size w w' := by
  go_enter Tryz.func13, Tryz.ntmps13
  go_wp2_with (first | (go_at_call 53; ((with_reducible refine (c_53 _).mono ?_); rintro e w' ⟨rfl, rfl⟩)))
  go_ret
  refine ⟨rfl, ?_⟩
  repeat (first | with_reducible refine bal ?_ _ | with_reducible refine Below.drew ?_ | with_reducible refine bdn ?_ _)
  exact Below.refl _ _
theorem case_low (a m : Int) (h : a < 0) (w : World) : Calls Tryz.prog 13 #[.int .i64 a, .int .i64 m] w fun e w' => e = .returned (.bool true) ∧ Below w.heap.size w w' := by
  go_enter Tryz.func13, Tryz.ntmps13
  go_wp2
  go_ret
  refine ⟨rfl, ?_⟩
  repeat (first | with_reducible refine bal ?_ _ | with_reducible refine Below.drew ?_ | with_reducible refine bdn ?_ _)
  exact Below.refl _ _
theorem case_high (a m : Int) (h : 2 < a) (w : World) : Calls Tryz.prog 13 #[.int .i64 a, .int .i64 m] w fun e w' => e = .returned (.bool true) ∧ Below w.heap.size w w' := by
  go_enter Tryz.func13, Tryz.ntmps13
  go_wp2
  go_ret
  refine ⟨rfl, ?_⟩
  repeat (first | with_reducible refine bal ?_ _ | with_reducible refine Below.drew ?_ | with_reducible refine bdn ?_ _)
  exact Below.refl _ _
theorem walk (a m : Int) (w : World) (w0 : (Lit.int .i64 a).wf = true) (w1 : (Lit.int .i64 m).wf = true) : Calls Tryz.prog 13 #[.int .i64 a, .int .i64 m] w fun e w' => e = .returned (.bool true) ∧ Below w.heap.size w w' := by
  by_cases c1 : a < 0
  · exact case_low a m c1 w
  by_cases c2 : 2 < a
  · exact case_high a m c2 w
  have hs : a = 0 ∨ a = 1 ∨ a = 2 := by omega
  rcases hs with rfl | rfl | rfl
  · exact case_0 m w
  · exact case_1 m w
  · exact case_2 m w
end Go.Proofs.YtjdnoaojjmejmaaGreat.fnFromTypeFreshTypeDataPerCall
