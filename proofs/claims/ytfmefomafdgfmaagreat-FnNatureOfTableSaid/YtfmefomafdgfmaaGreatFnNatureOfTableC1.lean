/-
  The contracts of FnNatureOfTable: The nature of a value of each of thirteen types is fixed by a complete table, with a cache, without one, and on a second call to the same cache.
-/
import Derived.Test.YtfmefomafdgfmaaGreatBase
import Derived.IntWalk
import Derived.OpenShut
import Derived.Deep.RegionWith
import Derived.RegionTactic
import Derived.ChangeAlike
import Derived.Deep.QuietTactic
import Derived.BigQuiet
import Derived.WalkSmall
import Derived.Outline
import Derived.Lib.Hide
import Derived.Test.YtfmefomafdgfmaaGreatKit2
import Derived.Test.YtfmefomafdgfmaaGreatFnNatureOfTableC
namespace Go.Proofs.YtfmefomafdgfmaaGreat.fnNatureOfTable
open Go.RowKit
set_option maxRecDepth 100000
set_option maxHeartbeats 1000000
set_option linter.unusedVariables false
theorem bpk_0 (c : Option Addr) (i u : Int) (f : Nat) (s : ByteArray) (b : Bool) (w : World) : Calls Tryz.prog 42 #[.pointer c, .int .i64 0, .int .i64 i, .int .u8 u, .float .f32 f, .string s, .bool b] w fun e w' => e = .returned (.agg #[.iface 124 (.pointer (some ⟨0, 2, none⟩)), .int .u64 6, .pointer none, .pointer none, .bool false, .bool false, .bool false, .bool true, .bool false]) ∧ Below w.heap.size w w' := by
  refine (pk_0 c i u f s b w).mono ?_
  rintro e w' ⟨rfl, rfl⟩
  refine ⟨rfl, ?_⟩
  have hF := Below.refl w.heap.size w
  repeat (first | with_reducible exact hF | with_reducible refine Below.drew ?_ | with_reducible refine bdn ?_ _ | with_reducible refine bal ?_ _)

theorem bpk_1 (c : Option Addr) (i u : Int) (f : Nat) (s : ByteArray) (b : Bool) (w : World) : Calls Tryz.prog 42 #[.pointer c, .int .i64 1, .int .i64 i, .int .u8 u, .float .f32 f, .string s, .bool b] w fun e w' => e = .returned (.agg #[.iface 124 (.pointer (some ⟨0, 5, none⟩)), .int .u64 8, .pointer none, .pointer none, .bool false, .bool false, .bool false, .bool true, .bool false]) ∧ Below w.heap.size w w' := by
  refine (pk_1 c i u f s b w).mono ?_
  rintro e w' ⟨rfl, rfl⟩
  refine ⟨rfl, ?_⟩
  have hF := Below.refl w.heap.size w
  repeat (first | with_reducible exact hF | with_reducible refine Below.drew ?_ | with_reducible refine bdn ?_ _ | with_reducible refine bal ?_ _)

theorem bpk_2 (c : Option Addr) (i u : Int) (f : Nat) (s : ByteArray) (b : Bool) (w : World) : Calls Tryz.prog 42 #[.pointer c, .int .i64 2, .int .i64 i, .int .u8 u, .float .f32 f, .string s, .bool b] w fun e w' => e = .returned (.agg #[.iface 124 (.pointer (some ⟨0, 26, none⟩)), .int .u64 13, .pointer none, .pointer none, .bool false, .bool false, .bool false, .bool false, .bool true]) ∧ Below w.heap.size w w' := by
  refine (pk_2 c i u f s b w).mono ?_
  rintro e w' ⟨rfl, rfl⟩
  refine ⟨rfl, ?_⟩
  have hF := Below.refl w.heap.size w
  repeat (first | with_reducible exact hF | with_reducible refine Below.drew ?_ | with_reducible refine bdn ?_ _ | with_reducible refine bal ?_ _)

theorem bpk_3 (c : Option Addr) (i u : Int) (f : Nat) (s : ByteArray) (b : Bool) (w : World) : Calls Tryz.prog 42 #[.pointer c, .int .i64 3, .int .i64 i, .int .u8 u, .float .f32 f, .string s, .bool b] w fun e w' => e = .returned (.agg #[.iface 124 (.pointer (some ⟨0, 9, none⟩)), .int .u64 24, .pointer none, .pointer none, .bool false, .bool false, .bool false, .bool false, .bool false]) ∧ Below w.heap.size w w' := by
  refine (pk_3 c i u f s b w).mono ?_
  rintro e w' ⟨rfl, rfl⟩
  refine ⟨rfl, ?_⟩
  have hF := Below.refl w.heap.size w
  repeat (first | with_reducible exact hF | with_reducible refine Below.drew ?_ | with_reducible refine bdn ?_ _ | with_reducible refine bal ?_ _)

theorem bpk_4 (c : Option Addr) (i u : Int) (f : Nat) (s : ByteArray) (b : Bool) (w : World) : Calls Tryz.prog 42 #[.pointer c, .int .i64 4, .int .i64 i, .int .u8 u, .float .f32 f, .string s, .bool b] w fun e w' => e = .returned (.agg #[.iface 124 (.pointer (some ⟨0, 4, none⟩)), .int .u64 1, .pointer none, .pointer none, .bool false, .bool false, .bool false, .bool false, .bool false]) ∧ Below w.heap.size w w' := by
  refine (pk_4 c i u f s b w).mono ?_
  rintro e w' ⟨rfl, rfl⟩
  refine ⟨rfl, ?_⟩
  have hF := Below.refl w.heap.size w
  repeat (first | with_reducible exact hF | with_reducible refine Below.drew ?_ | with_reducible refine bdn ?_ _ | with_reducible refine bal ?_ _)

theorem bpk_5 (c : Option Addr) (i u : Int) (f : Nat) (s : ByteArray) (b : Bool) (w : World) : Calls Tryz.prog 42 #[.pointer c, .int .i64 5, .int .i64 i, .int .u8 u, .float .f32 f, .string s, .bool b] w fun e w' => e = .returned (.agg #[.iface 124 (.pointer (some ⟨0, 107, none⟩)), .int .u64 2, .pointer none, .pointer none, .bool false, .bool false, .bool false, .bool false, .bool false]) ∧ Below w.heap.size w w' := by
  refine (pk_5 c i u f s b w).mono ?_
  rintro e w' ⟨rfl, rfl⟩
  refine ⟨rfl, ?_⟩
  have hF := Below.refl w.heap.size w
  repeat (first | with_reducible exact hF | with_reducible refine Below.drew ?_ | with_reducible refine bdn ?_ _ | with_reducible refine bal ?_ _)

theorem bpk_6 (c : Option Addr) (i u : Int) (f : Nat) (s : ByteArray) (b : Bool) (w : World) : Calls Tryz.prog 42 #[.pointer c, .int .i64 6, .int .i64 i, .int .u8 u, .float .f32 f, .string s, .bool b] w fun e w' => e = .returned (.agg #[.iface 124 (.pointer (some ⟨0, 3, none⟩)), .int .u64 2, .pointer none, .pointer none, .bool false, .bool false, .bool false, .bool true, .bool false]) ∧ Below w.heap.size w w' := by
  refine (pk_6 c i u f s b w).mono ?_
  rintro e w' ⟨rfl, rfl⟩
  refine ⟨rfl, ?_⟩
  have hF := Below.refl w.heap.size w
  repeat (first | with_reducible exact hF | with_reducible refine Below.drew ?_ | with_reducible refine bdn ?_ _ | with_reducible refine bal ?_ _)

theorem bpk_7 (c : Option Addr) (i u : Int) (f : Nat) (s : ByteArray) (b : Bool) (w : World) : Calls Tryz.prog 42 #[.pointer c, .int .i64 7, .int .i64 i, .int .u8 u, .float .f32 f, .string s, .bool b] w fun e w' => e = .returned (.agg #[.iface 124 (.pointer (some ⟨0, 94, none⟩)), .int .u64 23, .pointer none, .pointer none, .bool false, .bool false, .bool false, .bool false, .bool false]) ∧ Below w.heap.size w w' := by
  refine (pk_7 c i u f s b w).mono ?_
  rintro e w' ⟨rfl, rfl⟩
  refine ⟨rfl, ?_⟩
  have hF := Below.refl w.heap.size w
  repeat (first | with_reducible exact hF | with_reducible refine Below.drew ?_ | with_reducible refine bdn ?_ _ | with_reducible refine bal ?_ _)

theorem bpk_8 (c : Option Addr) (i u : Int) (f : Nat) (s : ByteArray) (b : Bool) (w : World) : Calls Tryz.prog 42 #[.pointer c, .int .i64 8, .int .i64 i, .int .u8 u, .float .f32 f, .string s, .bool b] w fun e w' => e = .returned (.agg #[.iface 124 (.pointer (some ⟨0, 108, none⟩)), .int .u64 21, .pointer none, .pointer none, .bool false, .bool false, .bool false, .bool false, .bool false]) ∧ Below w.heap.size w w' := by
  refine (pk_8 c i u f s b w).mono ?_
  rintro e w' ⟨rfl, rfl⟩
  refine ⟨rfl, ?_⟩
  have hF := Below.refl w.heap.size w
  repeat (first | with_reducible exact hF | with_reducible refine Below.drew ?_ | with_reducible refine bdn ?_ _ | with_reducible refine bal ?_ _)

theorem bpk_9 (c : Option Addr) (i u : Int) (f : Nat) (s : ByteArray) (b : Bool) (w : World) : Calls Tryz.prog 42 #[.pointer c, .int .i64 9, .int .i64 i, .int .u8 u, .float .f32 f, .string s, .bool b] w fun e w' => e = .returned (.agg #[.iface 124 (.pointer (some ⟨0, 109, none⟩)), .int .u64 22, .pointer none, .pointer none, .bool false, .bool false, .bool false, .bool false, .bool false]) ∧ Below w.heap.size w w' := by
  refine (pk_9 c i u f s b w).mono ?_
  rintro e w' ⟨rfl, rfl⟩
  refine ⟨rfl, ?_⟩
  have hF := Below.refl w.heap.size w
  repeat (first | with_reducible exact hF | with_reducible refine Below.drew ?_ | with_reducible refine bdn ?_ _ | with_reducible refine bal ?_ _)

theorem bpk_10 (c : Option Addr) (i u : Int) (f : Nat) (s : ByteArray) (b : Bool) (w : World) : Calls Tryz.prog 42 #[.pointer c, .int .i64 10, .int .i64 i, .int .u8 u, .float .f32 f, .string s, .bool b] w fun e w' => e = .returned (.agg #[.iface 124 (.pointer (some ⟨0, 12, none⟩)), .int .u64 12, .pointer none, .pointer none, .bool false, .bool false, .bool false, .bool true, .bool false]) ∧ Below w.heap.size w w' := by
  refine (pk_10 c i u f s b w).mono ?_
  rintro e w' ⟨rfl, rfl⟩
  refine ⟨rfl, ?_⟩
  have hF := Below.refl w.heap.size w
  repeat (first | with_reducible exact hF | with_reducible refine Below.drew ?_ | with_reducible refine bdn ?_ _ | with_reducible refine bal ?_ _)

theorem bpk_11 (c : Option Addr) (i u : Int) (f : Nat) (s : ByteArray) (b : Bool) (w : World) : Calls Tryz.prog 42 #[.pointer c, .int .i64 11, .int .i64 i, .int .u8 u, .float .f32 f, .string s, .bool b] w fun e w' => e = .returned (.agg #[.iface 124 (.pointer (some ⟨0, 27, none⟩)), .int .u64 14, .pointer none, .pointer none, .bool false, .bool false, .bool false, .bool false, .bool true]) ∧ Below w.heap.size w w' := by
  go_enter Tryz.func42, Tryz.ntmps42
  go_wp2
  obtain ⟨y, v, h, hv⟩ := conv_run f (w.alloc (.cells #[.nilIface, .int .u64 0, .pointer none, .pointer none, .bool false, .bool false, .bool false, .bool false, .bool false] 47))
  rw [h]
  have hF := Below.refl w.heap.size w
  rcases hv with rfl | rfl
  all_goals
    clear h
    go_simp
    go_wp2_with (go_at_call 79; ((with_reducible refine (ncc_27 _ _ _).mono ?_); rintro e w' ⟨rfl, rfl⟩))
    refine bodyPost_ret (v := .agg #[.iface 124 (.pointer (some ⟨0, 27, none⟩)), .int .u64 14, .pointer none, .pointer none, .bool false, .bool false, .bool false, .bool false, .bool true]) (by simp [results, Tryz.results42, go_sem]) rfl ?_
    refine ⟨rfl, ?_⟩
    repeat (first | with_reducible exact hF | with_reducible refine Below.drew ?_ | with_reducible refine bdn ?_ _ | with_reducible refine bal ?_ _)

theorem bpk_12 (i u : Int) (f : Nat) (s : ByteArray) (b : Bool) (w : World) : Calls Tryz.prog 42 #[.pointer none, .int .i64 12, .int .i64 i, .int .u8 u, .float .f32 f, .string s, .bool b] w fun e w' => ∃ td, e = .returned (.agg #[.iface 124 (.pointer (some ⟨0, 111, none⟩)), .int .u64 25, .pointer (some ⟨td, 0, none⟩), .pointer none, .bool false, .bool false, .bool false, .bool false, .bool false]) ∧ Below w.heap.size w w' := by
  refine (pk_12 i u f s b w).mono ?_
  rintro e w' ⟨rfl, rfl⟩
  refine ⟨_, rfl, ?_⟩
  have hF := Below.refl w.heap.size w
  repeat (first | with_reducible exact hF | with_reducible refine Below.drew ?_ | with_reducible refine bdn ?_ _ | with_reducible refine bal ?_ _)

@[go_sem] theorem nf_111 (w : World) : (callFunc 196 #[.pointer (some ⟨0, 111, none⟩)]).run Tryz.prog w = .ok (.value (.int .i64 2)) w := by kernel_rfl

theorem nc_first (x : Value) (cb : Nat) (w : World) (hC : At w cb (cac none)) : Calls Tryz.prog 79 #[.pointer (some ⟨cb, 0, none⟩), .iface 111 x] w fun e w' => ∃ td sd mc, e = .returned (.agg (natc 111 25 (some ⟨td, 0, none⟩) false false)) ∧ Sole cb w w' ∧ At w' cb (cac (some mc)) ∧ Ty w' mc (fun a => if a = 111 then some td else none) ∧ At w' td (tdc sd) ∧ At w' sd (sd0 111 2) ∧ w.heap.size ≤ td ∧ w.heap.size ≤ sd ∧ w.heap.size ≤ mc := by
  have hCl := hC.lt
  have hne : w.heap.size ≠ cb := by omega
  have hCH := Lib.hid hC
  clear hC
  go_enter Tryz.func79, Tryz.ntmps79
  go_wp2_with (first | (go_at_call 45; ((with_reducible refine (ft_first 111 kind_111 2 nf_111 cb _ (hCH.out.alloc _)).mono ?_); rintro e w1 ⟨td, sd, mc, rfl, hb, f0, f1, f2, f3, l0, l1, l2⟩; have hR := (At.new w #[.nilIface, .int .u64 0, .pointer none, .pointer none, .bool false, .bool false, .bool false, .bool false, .bool false] 47 w.heap.size rfl).sole hb hne; have hrl := hR.lt; obtain ⟨hr1, hr2, hr3, hr4⟩ := szs hrl; have hrp := hR.plain; have hrc := hR.cells; have hrz : (cellsAt w1 w.heap.size).size = 9 := (by rw [hrc]; rfl); have HR := Lib.hid hR; have HB := Lib.hid hb; have f0H := Lib.hid f0; have f0l := f0.lt; have f1H := Lib.hid f1; have f1l := f1.lt; have f2H := Lib.hid f2; have f2l := f2.lt; have f3H := Lib.hid f3; have f3l := f3.lt; clear hR hb f0 f1 f2 f3)))
  refine bodyPost_ret (v := .agg (natc 111 25 (some ⟨td, 0, none⟩) false false)) (by simp [results, Tryz.results79, go_sem, hrp, hrc]) rfl ?_
  simp at l0 l1 l2
  refine ⟨td, sd, mc, rfl, ?_, ?_, ?_, ?_, ?_, by omega, by omega, by omega⟩
  · have hF : Sole cb w w1 := Sole.next (bal (Below.refl _ _) _) HB.out
    repeat (first | with_reducible exact hF | with_reducible refine Sole.new ?_ (Nat.le_refl _) _ _ | with_reducible refine Sole.rowNew ?_ (Nat.le_refl _) _ | with_reducible refine Sole.alloc ?_ _ | with_reducible refine Sole.drew ?_)
  · repeat (first | with_reducible exact f0H.out | ((with_reducible refine At.rowOther ?_ _ _ ?ne); (case ne => omega)) | ((with_reducible refine At.other ?_ _ _ _ ?ne); (case ne => omega)) | with_reducible refine At.alloc ?_ _ | with_reducible refine At.drew ?_)
  · repeat (first | with_reducible exact f1H.out | ((with_reducible refine Ty.rowOther ?_ _ _ ?ne); (case ne => omega)) | ((with_reducible refine Ty.other ?_ _ _ _ ?ne); (case ne => omega)) | with_reducible refine Ty.alloc ?_ _ | with_reducible refine Ty.drew ?_)
  · repeat (first | with_reducible exact f2H.out | ((with_reducible refine At.rowOther ?_ _ _ ?ne); (case ne => omega)) | ((with_reducible refine At.other ?_ _ _ _ ?ne); (case ne => omega)) | with_reducible refine At.alloc ?_ _ | with_reducible refine At.drew ?_)
  · repeat (first | with_reducible exact f3H.out | ((with_reducible refine At.rowOther ?_ _ _ ?ne); (case ne => omega)) | ((with_reducible refine At.other ?_ _ _ _ ?ne); (case ne => omega)) | with_reducible refine At.alloc ?_ _ | with_reducible refine At.drew ?_)

theorem nc_hit (x : Value) (td mc : Nat) (G : Nat → Option Nat) (cb : Nat) (w : World) (hC : At w cb (cac (some mc))) (hT : Ty w mc G) (hG : G 111 = some td) : Calls Tryz.prog 79 #[.pointer (some ⟨cb, 0, none⟩), .iface 111 x] w fun e w' => e = .returned (.agg (natc 111 25 (some ⟨td, 0, none⟩) false false)) ∧ Below w.heap.size w w' := by
  have hCl := hC.lt
  have hCH := Lib.hid hC
  have hTl := hT.lt
  have hTH := Lib.hid hT
  have hGH := Lib.hid hG
  clear hC hT hG
  go_enter Tryz.func79, Tryz.ntmps79
  go_wp2_with (first | (go_at_call 45; ((with_reducible refine (ft_hit 111 kind_111 td mc G cb _ (hCH.out.alloc _) (hTH.out.alloc _) hGH.out).mono ?_); rintro e w1 ⟨rfl, hb⟩; have hR := (At.new w #[.nilIface, .int .u64 0, .pointer none, .pointer none, .bool false, .bool false, .bool false, .bool false, .bool false] 47 w.heap.size rfl).bel hb; have hrl := hR.lt; obtain ⟨hr1, hr2, hr3, hr4⟩ := szs hrl; have hrp := hR.plain; have hrc := hR.cells; have hrz : (cellsAt w1 w.heap.size).size = 9 := (by rw [hrc]; rfl); have HR := Lib.hid hR; have HB := Lib.hid hb; clear hR hb )))
  refine bodyPost_ret (v := .agg (natc 111 25 (some ⟨td, 0, none⟩) false false)) (by simp [results, Tryz.results79, go_sem, hrp, hrc]) rfl ?_
  refine ⟨rfl, ?_⟩
  · have hF : Below w.heap.size w w1 := bnext (bal (Below.refl _ _) _) HB.out
    repeat (first | with_reducible exact hF | with_reducible refine bsetNew ?_ (Nat.le_refl _) _ _ | with_reducible refine browNew ?_ (Nat.le_refl _) _ | with_reducible refine bal ?_ _ | with_reducible refine Below.drew ?_)

theorem pk12_first (i u : Int) (f : Nat) (s : ByteArray) (b : Bool) (cb : Nat) (w : World) (hC : At w cb (cac none)) : Calls Tryz.prog 42 #[.pointer (some ⟨cb, 0, none⟩), .int .i64 12, .int .i64 i, .int .u8 u, .float .f32 f, .string s, .bool b] w fun e w' => ∃ td sd mc, e = .returned (.agg (natc 111 25 (some ⟨td, 0, none⟩) false false)) ∧ Sole cb w w' ∧ At w' cb (cac (some mc)) ∧ Ty w' mc (fun a => if a = 111 then some td else none) ∧ At w' td (tdc sd) ∧ At w' sd (sd0 111 2) ∧ w.heap.size ≤ td ∧ w.heap.size ≤ sd ∧ w.heap.size ≤ mc := by
  have hCl := hC.lt
  have hne : w.heap.size ≠ cb := by omega
  have hCH := Lib.hid hC
  clear hC
  go_enter Tryz.func42, Tryz.ntmps42
  go_wp2_with (first | (go_at_call 79; ((with_reducible refine (nc_first _ cb _ (hCH.out.alloc _)).mono ?_); rintro e w1 ⟨td, sd, mc, rfl, hb, f0, f1, f2, f3, l0, l1, l2⟩; have hR := (At.new w #[.nilIface, .int .u64 0, .pointer none, .pointer none, .bool false, .bool false, .bool false, .bool false, .bool false] 47 w.heap.size rfl).sole hb hne; have hrl := hR.lt; obtain ⟨hr1, hr2, hr3, hr4⟩ := szs hrl; have hrp := hR.plain; have hrc := hR.cells; have hrz : (cellsAt w1 w.heap.size).size = 9 := (by rw [hrc]; rfl); have HR := Lib.hid hR; have HB := Lib.hid hb; have f0H := Lib.hid f0; have f0l := f0.lt; have f1H := Lib.hid f1; have f1l := f1.lt; have f2H := Lib.hid f2; have f2l := f2.lt; have f3H := Lib.hid f3; have f3l := f3.lt; clear hR hb f0 f1 f2 f3)))
  refine bodyPost_ret (v := .agg (natc 111 25 (some ⟨td, 0, none⟩) false false)) (by simp [results, Tryz.results42, go_sem, hrp, hrc]) rfl ?_
  simp at l0 l1 l2
  refine ⟨td, sd, mc, rfl, ?_, ?_, ?_, ?_, ?_, by omega, by omega, by omega⟩
  · have hF : Sole cb w w1 := Sole.next (bal (Below.refl _ _) _) HB.out
    repeat (first | with_reducible exact hF | with_reducible refine Sole.new ?_ (Nat.le_refl _) _ _ | with_reducible refine Sole.rowNew ?_ (Nat.le_refl _) _ | with_reducible refine Sole.alloc ?_ _ | with_reducible refine Sole.drew ?_)
  · repeat (first | with_reducible exact f0H.out | ((with_reducible refine At.rowOther ?_ _ _ ?ne); (case ne => omega)) | ((with_reducible refine At.other ?_ _ _ _ ?ne); (case ne => omega)) | with_reducible refine At.alloc ?_ _ | with_reducible refine At.drew ?_)
  · repeat (first | with_reducible exact f1H.out | ((with_reducible refine Ty.rowOther ?_ _ _ ?ne); (case ne => omega)) | ((with_reducible refine Ty.other ?_ _ _ _ ?ne); (case ne => omega)) | with_reducible refine Ty.alloc ?_ _ | with_reducible refine Ty.drew ?_)
  · repeat (first | with_reducible exact f2H.out | ((with_reducible refine At.rowOther ?_ _ _ ?ne); (case ne => omega)) | ((with_reducible refine At.other ?_ _ _ _ ?ne); (case ne => omega)) | with_reducible refine At.alloc ?_ _ | with_reducible refine At.drew ?_)
  · repeat (first | with_reducible exact f3H.out | ((with_reducible refine At.rowOther ?_ _ _ ?ne); (case ne => omega)) | ((with_reducible refine At.other ?_ _ _ _ ?ne); (case ne => omega)) | with_reducible refine At.alloc ?_ _ | with_reducible refine At.drew ?_)

theorem pk12_hit (i u : Int) (f : Nat) (s : ByteArray) (b : Bool) (td mc : Nat) (G : Nat → Option Nat) (cb : Nat) (w : World) (hC : At w cb (cac (some mc))) (hT : Ty w mc G) (hG : G 111 = some td) : Calls Tryz.prog 42 #[.pointer (some ⟨cb, 0, none⟩), .int .i64 12, .int .i64 i, .int .u8 u, .float .f32 f, .string s, .bool b] w fun e w' => e = .returned (.agg (natc 111 25 (some ⟨td, 0, none⟩) false false)) ∧ Below w.heap.size w w' := by
  have hCl := hC.lt
  have hCH := Lib.hid hC
  have hTl := hT.lt
  have hTH := Lib.hid hT
  have hGH := Lib.hid hG
  clear hC hT hG
  go_enter Tryz.func42, Tryz.ntmps42
  go_wp2_with (first | (go_at_call 79; ((with_reducible refine (nc_hit _ td mc G cb _ (hCH.out.alloc _) (hTH.out.alloc _) hGH.out).mono ?_); rintro e w1 ⟨rfl, hb⟩; have hR := (At.new w #[.nilIface, .int .u64 0, .pointer none, .pointer none, .bool false, .bool false, .bool false, .bool false, .bool false] 47 w.heap.size rfl).bel hb; have hrl := hR.lt; obtain ⟨hr1, hr2, hr3, hr4⟩ := szs hrl; have hrp := hR.plain; have hrc := hR.cells; have hrz : (cellsAt w1 w.heap.size).size = 9 := (by rw [hrc]; rfl); have HR := Lib.hid hR; have HB := Lib.hid hb; clear hR hb )))
  refine bodyPost_ret (v := .agg (natc 111 25 (some ⟨td, 0, none⟩) false false)) (by simp [results, Tryz.results42, go_sem, hrp, hrc]) rfl ?_
  refine ⟨rfl, ?_⟩
  · have hF : Below w.heap.size w w1 := bnext (bal (Below.refl _ _) _) HB.out
    repeat (first | with_reducible exact hF | with_reducible refine bsetNew ?_ (Nat.le_refl _) _ _ | with_reducible refine browNew ?_ (Nat.le_refl _) _ | with_reducible refine bal ?_ _ | with_reducible refine Below.drew ?_)

theorem pk12_h (i u : Int) (f : Nat) (s : ByteArray) (b : Bool) (td mc cb : Nat) (w : World) (hC : At w cb (cac (some mc))) (hT : Ty w mc (fun a => if a = 111 then some td else none)) : Calls Tryz.prog 42 #[.pointer (some ⟨cb, 0, none⟩), .int .i64 12, .int .i64 i, .int .u8 u, .float .f32 f, .string s, .bool b] w fun e w' => e = .returned (.agg (natc 111 25 (some ⟨td, 0, none⟩) false false)) ∧ Below w.heap.size w w' :=
  pk12_hit i u f s b td mc _ cb w hC hT (by simp)

theorem w64 (n : Int) (h : -9223372036854775808 ≤ n ∧ n ≤ 9223372036854775807) : wrap64 n = n := by unfold wrap64; omega
theorem tm (a n : Int) (hn : 0 < n) : -n < a.tmod n ∧ a.tmod n < n := by
  refine ⟨?_, Int.tmod_lt_of_pos a hn⟩
  have h := Int.tmod_lt_of_pos (-a) hn
  rw [Int.neg_tmod] at h
  omega
theorem tm_neg (a n : Int) (hn : 0 < n) (h : a.tmod n < 0) : a % n = a.tmod n + n := by
  have h1 := Int.mul_tdiv_add_tmod a n
  have h2 := (tm a n hn).1
  have h3 : a % n = (a.tmod n + n) % n := by
    conv => lhs; rw [← h1]
    rw [Int.add_comm, Int.add_mul_emod_self_left, Int.add_emod_right]
  rw [h3, Int.emod_eq_of_lt (by omega) (by omega)]
theorem tm_pos (a n : Int) (hn : 0 < n) (h : 0 ≤ a.tmod n) : a % n = a.tmod n := by
  have h1 := Int.mul_tdiv_add_tmod a n
  have h2 := (tm a n hn).2
  have h3 : a % n = (a.tmod n) % n := by
    conv => lhs; rw [← h1]
    rw [Int.add_comm, Int.add_mul_emod_self_left]
  rw [h3, Int.emod_eq_of_lt (by omega) (by omega)]
theorem zmod (a n : Int) (hn : 0 < n) (hn2 : n < 100) (w0 : (Lit.int .i64 a).wf = true) (w : World) : Calls Tryz.prog 40 #[.int .i64 a, .int .i64 n] w fun e w' => e = .returned (.int .i64 (a % n)) ∧ w = w' := by
  have ht := tm a n hn
  have H := Lib.hid ht
  clear ht
  go_enter Tryz.func40, Tryz.ntmps40
  go_wp2
  · rename_i h
    go_ret
    exact ⟨by rw [tm_neg a n hn h]; exact congrArg (fun x : Int => Ending.returned (.int .i64 x)) (w64 _ (by have := H.out; omega)), rfl⟩
  · rename_i h
    go_ret
    exact ⟨by rw [tm_pos a n hn h]; rfl, rfl⟩

theorem zb (a i u : Int) (f : Nat) (s : ByteArray) (b : Bool) (w : World) : Calls Tryz.prog 39 #[.int .i64 a, .int .i64 i, .int .u8 u, .float .f32 f, .string s, .bool b] w fun e w' => ∃ b, e = .returned (.bool b) ∧ w = w' := by
  go_enter Tryz.func39, Tryz.ntmps39
  go_wp2
  all_goals
    go_ret
    exact ⟨_, rfl, rfl⟩
end Go.Proofs.YtfmefomafdgfmaaGreat.fnNatureOfTable
