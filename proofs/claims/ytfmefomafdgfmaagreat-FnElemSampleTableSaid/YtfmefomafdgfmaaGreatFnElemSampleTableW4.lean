/-
  A part of the walk of FnElemSampleTable: Elem of each of the twelve samples, with or without a cache, is the nature of its element type, or the empty unknown nature where there is none.
-/
import Derived.Test.YtfmefomafdgfmaaGreatFnElemSampleTableC
import Derived.Test.YtfmefomafdgfmaaGreatFnElemSampleTableC1
namespace Go.Proofs.YtfmefomafdgfmaaGreat.fnElemSampleTable
open Go.RowKit
set_option maxRecDepth 100000
set_option maxHeartbeats 1000000
set_option linter.unusedVariables false
theorem case_1_true (w : World) : Calls Tryz.prog 6 #[.int .i64 1, .bool true] w fun e w' => e = .returned (.bool true) ∧ Below w.heap.size w w' := by
  go_enter Tryz.func6, Tryz.ntmps6
  go_wp2_with (first | (go_at_call 34; ((with_reducible refine (sample_1 _).mono ?_); rintro e w' ⟨rfl, rfl⟩)) | (go_at_call 35; refine (el_1 _ _ _ (by simp <;> omega) (by simp [go_sem] <;> omega) (by simp [go_sem] <;> omega)).mono ?_; rintro e w' ⟨rfl, rfl⟩) | (go_at_call 36; refine (sc_3 _ _ (by simp [go_sem] <;> omega) (by simp [go_sem] <;> omega)).mono ?_; rintro e w' ⟨rfl, rfl⟩))
  go_ret
  refine ⟨rfl, ?_⟩
  repeat (first | with_reducible refine bal ?_ _ | with_reducible refine Below.drew ?_ | with_reducible refine bdn ?_ _)
  exact Below.refl _ _
theorem case_3_true (w : World) : Calls Tryz.prog 6 #[.int .i64 3, .bool true] w fun e w' => e = .returned (.bool true) ∧ Below w.heap.size w w' := by
  go_enter Tryz.func6, Tryz.ntmps6
  go_wp2_with (first | (go_at_call 34; ((with_reducible refine (sample_3 _).mono ?_); rintro e w' ⟨rfl, rfl⟩)) | (go_at_call 35; refine (el_3 _ _ _ (by simp <;> omega) (by simp [go_sem] <;> omega) (by simp [go_sem] <;> omega)).mono ?_; rintro e w' ⟨rfl, rfl⟩) | (go_at_call 36; refine (sc_3 _ _ (by simp [go_sem] <;> omega) (by simp [go_sem] <;> omega)).mono ?_; rintro e w' ⟨rfl, rfl⟩))
  go_ret
  refine ⟨rfl, ?_⟩
  repeat (first | with_reducible refine bal ?_ _ | with_reducible refine Below.drew ?_ | with_reducible refine bdn ?_ _)
  exact Below.refl _ _
theorem case_5_true (w : World) : Calls Tryz.prog 6 #[.int .i64 5, .bool true] w fun e w' => e = .returned (.bool true) ∧ Below w.heap.size w w' := by
  go_enter Tryz.func6, Tryz.ntmps6
  go_wp2_with (first | (go_at_call 34; ((with_reducible refine (sample_5 _).mono ?_); rintro e w' ⟨rfl, rfl⟩)) | (go_at_call 35; refine (el_5 _ _ _ (by simp <;> omega) (by simp [go_sem] <;> omega) (by simp [go_sem] <;> omega)).mono ?_; rintro e w' ⟨rfl, rfl⟩) | (go_at_call 36; refine (sc_3 _ _ (by simp [go_sem] <;> omega) (by simp [go_sem] <;> omega)).mono ?_; rintro e w' ⟨rfl, rfl⟩))
  go_ret
  refine ⟨rfl, ?_⟩
  repeat (first | with_reducible refine bal ?_ _ | with_reducible refine Below.drew ?_ | with_reducible refine bdn ?_ _)
  exact Below.refl _ _
theorem case_7_true (w : World) : Calls Tryz.prog 6 #[.int .i64 7, .bool true] w fun e w' => e = .returned (.bool true) ∧ Below w.heap.size w w' := by
  go_enter Tryz.func6, Tryz.ntmps6
  go_wp2_with (first | (go_at_call 34; ((with_reducible refine (sample_7 _).mono ?_); rintro e w' ⟨rfl, rfl⟩)) | (go_at_call 35; refine (el_7 _ _ _ (by simp <;> omega) (by simp [go_sem] <;> omega) (by simp [go_sem] <;> omega)).mono ?_; rintro e w' ⟨rfl, rfl⟩) | (go_at_call 36; refine (sc_3 _ _ (by simp [go_sem] <;> omega) (by simp [go_sem] <;> omega)).mono ?_; rintro e w' ⟨rfl, rfl⟩))
  go_ret
  refine ⟨rfl, ?_⟩
  repeat (first | with_reducible refine bal ?_ _ | with_reducible refine Below.drew ?_ | with_reducible refine bdn ?_ _)
  exact Below.refl _ _
@[go_sem] theorem nf_40 (w : World) : (callFunc 196 #[.pointer (some ⟨0, 40, none⟩)]).run Tryz.prog w = .ok (.value (.int .i64 2)) w := by kernel_rfl
theorem el9_first (b cb : Nat) (w : World) (hC : At w cb (cac none)) (hN : At w b (#[.iface 124 (.pointer (some ⟨0, 36, none⟩)), .int .u64 22, .pointer none, .pointer none, .bool false, .bool false, .bool false, .bool false, .bool false])) : Calls Tryz.prog 35 #[.pointer (some ⟨b, 0, none⟩), .pointer (some ⟨cb, 0, none⟩)] w fun e w' => ∃ td sd mc, e = .returned (.agg (natc 40 25 (some ⟨td, 0, none⟩) false false)) ∧ Sole cb w w' ∧ At w' cb (cac (some mc)) ∧ At w' td (tdc sd) ∧ w.heap.size ≤ td := by
  have hCl := hC.lt
  have hne : w.heap.size ≠ cb := by omega
  have hCH := Lib.hid hC
  have hNl := hN.lt
  have hNH := Lib.hid hN
  clear hC hN
  have hp := hNH.out.plain
  have hs := hNH.out.cells
  obtain ⟨s1, s2, s3, s4⟩ := szs hNl
  go_enter Tryz.func35, Tryz.ntmps35
  go_wp2_with (first | (go_at_call 45; ((with_reducible refine (ft_first 40 kind_40 2 nf_40 cb _ (hCH.out.alloc _)).mono ?_); rintro e w1 ⟨td, sd, mc, rfl, hb, f0, fT, f1, fS, l0, lS, lM⟩; have hR := (At.new w #[.nilIface, .int .u64 0, .pointer none, .pointer none, .bool false, .bool false, .bool false, .bool false, .bool false] 47 w.heap.size rfl).sole hb hne; have hrp := hR.plain; have hrc := hR.cells; have hrz : (cellsAt w1 w.heap.size).size = 9 := (by rw [hrc]; rfl); have HR := Lib.hid hR; have HB := Lib.hid hb; have f0H := Lib.hid f0; have f0l := f0.lt; have f1H := Lib.hid f1; have f1l := f1.lt; clear hR hb f0 f1 fT fS lS lM)))
  refine bodyPost_ret (v := .agg (natc 40 25 (some ⟨td, 0, none⟩) false false)) (by simp [results, Tryz.results35, go_sem, hrp, hrc]) rfl ?_
  simp at l0
  refine ⟨td, sd, mc, rfl, ?_, ?_, ?_, by omega⟩
  · have hF : Sole cb w w1 := Sole.next (bal (Below.refl _ _) _) HB.out
    repeat (first | with_reducible exact hF | with_reducible refine Sole.new ?_ (Nat.le_refl _) _ _ | with_reducible refine Sole.rowNew ?_ (Nat.le_refl _) _ | with_reducible refine Sole.alloc ?_ _ | with_reducible refine Sole.drew ?_)
  · repeat (first | with_reducible exact f0H.out | ((with_reducible refine At.rowOther ?_ _ _ ?ne); (case ne => omega)) | ((with_reducible refine At.other ?_ _ _ _ ?ne); (case ne => omega)) | with_reducible refine At.alloc ?_ _ | with_reducible refine At.drew ?_)
  · repeat (first | with_reducible exact f1H.out | ((with_reducible refine At.rowOther ?_ _ _ ?ne); (case ne => omega)) | ((with_reducible refine At.other ?_ _ _ _ ?ne); (case ne => omega)) | with_reducible refine At.alloc ?_ _ | with_reducible refine At.drew ?_)
theorem case_9_true (w : World) : Calls Tryz.prog 6 #[.int .i64 9, .bool true] w fun e w' => e = .returned (.bool true) ∧ Below w.heap.size w w' := by
  go_enter Tryz.func6, Tryz.ntmps6
  go_wp2_with (first | (go_at_call 34; ((with_reducible refine (sample_9 _).mono ?_); rintro e w' ⟨rfl, rfl⟩)))
  refine (el9_first _ w.heap.size _ (by repeat (first | with_reducible exact At.new _ _ _ _ rfl | with_reducible refine At.alloc ?_ _)) (At.new _ _ _ _ (by simp))).mono ?_
  rintro e w1 ⟨td, sd, mc, rfl, hb, f0, f1, l0⟩
  have hF : Below w.heap.size w w1 := bsole (by repeat (first | with_reducible exact Below.refl _ _ | with_reducible refine bal ?_ _)) hb (Nat.le_refl _)
  clear hb f0 f1 l0
  go_wp2_with (go_at_call 36; refine (sc_40 _ _ (by simp [go_sem] <;> omega) (by simp [go_sem] <;> omega)).mono ?_; rintro e w' ⟨rfl, rfl⟩)
  go_ret
  refine ⟨rfl, ?_⟩
  repeat (first | with_reducible exact hF | with_reducible refine bal ?_ _ | with_reducible refine Below.drew ?_)
theorem case_11_true (w : World) : Calls Tryz.prog 6 #[.int .i64 11, .bool true] w fun e w' => e = .returned (.bool true) ∧ Below w.heap.size w w' := by
  go_enter Tryz.func6, Tryz.ntmps6
  go_wp2_with (first | (go_at_call 34; ((with_reducible refine (sample_11 _).mono ?_); rintro e w' ⟨rfl, rfl⟩)) | (go_at_call 35; refine (el_11 _ _ _ (by simp <;> omega) (by simp [go_sem] <;> omega) (by simp [go_sem] <;> omega)).mono ?_; rintro e w' ⟨rfl, rfl⟩) | (go_at_call 36; refine (sc_3 _ _ (by simp [go_sem] <;> omega) (by simp [go_sem] <;> omega)).mono ?_; rintro e w' ⟨rfl, rfl⟩))
  go_ret
  refine ⟨rfl, ?_⟩
  repeat (first | with_reducible refine bal ?_ _ | with_reducible refine Below.drew ?_ | with_reducible refine bdn ?_ _)
  exact Below.refl _ _
end Go.Proofs.YtfmefomafdgfmaaGreat.fnElemSampleTable
