/-
  The walk of FnInClassifiesEachParameter: In is the nature of int for the first a parameters, of []string for the others.
-/
import Derived.Test.YtfmefomafdgfmaaGreatBase
import Derived.Test.YtfmefomafdgfmaaGreatNf2
namespace Go.Proofs.YtfmefomafdgfmaaGreat.fnInClassifiesEachParameter
open Go.RowKit
set_option maxRecDepth 100000
set_option maxHeartbeats 1000000
set_option linter.unusedVariables false
theorem bal {w v : World} (h : Below w.heap.size w v) (o : Obj) : Below w.heap.size w (v.alloc o) := h.alloc h.size o
theorem outside (a b o : Int) (u : Bool) (h : ¬ (0 ≤ a ∧ 0 ≤ b ∧ 0 ≤ o ∧ a + b + o ≤ 128)) (w : World) : Calls Tryz.prog 9 #[.int .i64 a, .int .i64 b, .int .i64 o, .bool u] w fun e w' => e = .returned (.bool true) ∧ Below w.heap.size w w' := by
  have H := Lib.hid h
  clear h
  go_enter Tryz.func9, Tryz.ntmps9
  go_wp2_with (go_at_call 26; ((with_reducible refine (zao_out _ _ _ H.out _).mono ?_); rintro e w' ⟨rfl, rfl⟩))
  go_ret
  exact ⟨rfl, Below.refl _ _⟩
theorem inside (a b o : Nat) (hl : a + b + o ≤ 128) (u : Bool) (w : World) : Calls Tryz.prog 9 #[.int .i64 a, .int .i64 b, .int .i64 o, .bool u] w fun e w' => e = .returned (.bool true) ∧ Below w.heap.size w w' := by
  have HL := Lib.hid hl
  have hab : wrap64 ((a : Int) + (b : Int)) = (a : Int) + (b : Int) := w64 _ (by omega)
  clear hl
  go_enter Tryz.func9, Tryz.ntmps9
  go_wp2_with (go_at_call 26; ((with_reducible refine (zao_in a b o HL.out _).mono ?_); rintro e w' ⟨rfl, rfl⟩))
  refine (zc u _).mono ?_
  rintro e u1 ⟨c, rfl, hb⟩
  have F1 : Below w.heap.size w u1 := bnext (by repeat (first | with_reducible exact (Below.refl _ _) | with_reducible refine Below.drew ?_ | with_reducible refine bdn ?_ _ | with_reducible refine bal ?_ _)) hb
  clear hb
  go_wp2_with fail
  refine (zfn c a b o HL.out _).mono ?_
  rintro e u2 ⟨t, td, hft, rfl, hb, f0, l0⟩
  have F2 : Below w.heap.size w u2 := bnext (by repeat (first | with_reducible exact F1 | with_reducible refine Below.drew ?_ | with_reducible refine bdn ?_ _ | with_reducible refine bal ?_ _)) hb
  clear hb
  clear f0 l0
  go_wp2_with fail
  go_loopg [11] (a + b) (fun k i wr => ∃ j : Nat, k = a + b - j ∧ j ≤ a + b ∧ i = .int .i64 j ∧ At wr u2.heap.size (natc t 19 (some ⟨td, 0, none⟩) false false) ∧ Below w.heap.size w wr)
  case atStart => exact ⟨0, by simp, Nat.zero_le _, rfl, (by (repeat (first | with_reducible exact (At.new _ _ _ _ rfl) | with_reducible exact At.new _ _ _ _ rfl | ((with_reducible refine At.new _ _ _ _ ?sz); (case sz => simp; done)) | with_reducible refine At.drewN ?_ _ | with_reducible refine At.drew ?_ | with_reducible refine At.alloc ?_ _)); done), (by repeat (first | with_reducible exact F2 | with_reducible refine Below.drew ?_ | with_reducible refine bdn ?_ _ | with_reducible refine bal ?_ _))⟩
  case round =>
    obtain ⟨j, hg, hj, rfl, q1, FR⟩ := hrel
    have np := q1.plain
    have nc := q1.cells
    have n0 := q1.lt
    obtain ⟨n1, n2, n3, n4⟩ := szs q1.lt
    have H_n := Lib.hid q1
    have HG := Lib.hid hg
    have hw : wrap64 ((j : Int) + 1) = (j : Int) + 1 := w64 _ (by have := HL.out; omega)
    clear q1 hg
    by_cases c1 : (j : Int) < (a : Int) + (b : Int)
    · by_cases c2 : (j : Int) < (a : Int)
      · skip
        have c3 := Lib.hid c1
        have c4 := Lib.hid c2
        have hj1 : j + 1 ≤ a + b := (by omega)
        go_wp2_with fail
        refine (in_lo t a b o hft _ td c j (by omega) c4.out _ (by (repeat (first | with_reducible exact H_n.out | with_reducible exact At.new _ _ _ _ rfl | ((with_reducible refine At.new _ _ _ _ ?sz); (case sz => simp; done)) | with_reducible refine At.drewN ?_ _ | with_reducible refine At.drew ?_ | with_reducible refine At.alloc ?_ _)); done)).mono ?_
        rintro e u11 ⟨rfl, hb⟩
        have N_n : At u11 u2.heap.size (natc t 19 (some ⟨td, 0, none⟩) false false) := At.bel (n := u2.heap.size) (c := (natc t 19 (some ⟨td, 0, none⟩) false false)) (by (repeat (first | with_reducible exact H_n.out | with_reducible exact At.new _ _ _ _ rfl | ((with_reducible refine At.new _ _ _ _ ?sz); (case sz => simp; done)) | with_reducible refine At.drewN ?_ _ | with_reducible refine At.drew ?_ | with_reducible refine At.alloc ?_ _)); done) hb
        have F11 : Below w.heap.size w u11 := bnext (by repeat (first | with_reducible exact FR | with_reducible refine Below.drew ?_ | with_reducible refine bdn ?_ _ | with_reducible refine bal ?_ _)) hb
        clear H_n n0 n1 n2 n3 n4 np nc
        have np := N_n.plain
        have nc := N_n.cells
        have n0 := N_n.lt
        obtain ⟨n1, n2, n3, n4⟩ := szs N_n.lt
        have H_n := Lib.hid N_n
        clear N_n
        clear hb
        go_wp2_with (go_at_call 36; ((with_reducible refine (str_ty _ 3 _ _ str_3 (by simp [go_sem] <;> omega) (by simp [go_sem] <;> omega)).mono ?_); rintro e w' ⟨rfl, rfl⟩))
        go_roundg (a + b - (j + 1))
        case measure => (have := HG.out; have := c3.out; omega)
        case rel => exact ⟨j + 1, rfl, hj1, by simp [hw], (by (repeat (first | with_reducible exact H_n.out | with_reducible exact At.new _ _ _ _ rfl | ((with_reducible refine At.new _ _ _ _ ?sz); (case sz => simp; done)) | with_reducible refine At.drewN ?_ _ | with_reducible refine At.drew ?_ | with_reducible refine At.alloc ?_ _)); done), (by repeat (first | with_reducible exact F11 | with_reducible refine Below.drew ?_ | with_reducible refine bdn ?_ _ | with_reducible refine bal ?_ _))⟩
      · skip
        have c3 := Lib.hid c1
        have c4 := Lib.hid c2
        have hj1 : j + 1 ≤ a + b := (by omega)
        go_wp2_with fail
        refine (in_hi t a b o hft _ td c j (by have := c4.out; omega) c3.out _ (by (repeat (first | with_reducible exact H_n.out | with_reducible exact At.new _ _ _ _ rfl | ((with_reducible refine At.new _ _ _ _ ?sz); (case sz => simp; done)) | with_reducible refine At.drewN ?_ _ | with_reducible refine At.drew ?_ | with_reducible refine At.alloc ?_ _)); done)).mono ?_
        rintro e u11 ⟨rfl, hb⟩
        have N_n : At u11 u2.heap.size (natc t 19 (some ⟨td, 0, none⟩) false false) := At.bel (n := u2.heap.size) (c := (natc t 19 (some ⟨td, 0, none⟩) false false)) (by (repeat (first | with_reducible exact H_n.out | with_reducible exact At.new _ _ _ _ rfl | ((with_reducible refine At.new _ _ _ _ ?sz); (case sz => simp; done)) | with_reducible refine At.drewN ?_ _ | with_reducible refine At.drew ?_ | with_reducible refine At.alloc ?_ _)); done) hb
        have F11 : Below w.heap.size w u11 := bnext (by repeat (first | with_reducible exact FR | with_reducible refine Below.drew ?_ | with_reducible refine bdn ?_ _ | with_reducible refine bal ?_ _)) hb
        clear H_n n0 n1 n2 n3 n4 np nc
        have np := N_n.plain
        have nc := N_n.cells
        have n0 := N_n.lt
        obtain ⟨n1, n2, n3, n4⟩ := szs N_n.lt
        have H_n := Lib.hid N_n
        clear N_n
        clear hb
        go_wp2_with (go_at_call 36; ((with_reducible refine (str_ty _ 99 _ _ str_99 (by simp [go_sem] <;> omega) (by simp [go_sem] <;> omega)).mono ?_); rintro e w' ⟨rfl, rfl⟩))
        refine (el_sl _ c _ (by (repeat (first | with_reducible exact (At.new _ _ _ _ rfl) | with_reducible exact At.new _ _ _ _ rfl | ((with_reducible refine At.new _ _ _ _ ?sz); (case sz => simp; done)) | with_reducible refine At.drewN ?_ _ | with_reducible refine At.drew ?_ | with_reducible refine At.alloc ?_ _)); done)).mono ?_
        rintro e u12 ⟨rfl, hb⟩
        have N_n : At u12 u2.heap.size (natc t 19 (some ⟨td, 0, none⟩) false false) := At.bel (n := u2.heap.size) (c := (natc t 19 (some ⟨td, 0, none⟩) false false)) (by (repeat (first | with_reducible exact H_n.out | with_reducible exact At.new _ _ _ _ rfl | ((with_reducible refine At.new _ _ _ _ ?sz); (case sz => simp; done)) | with_reducible refine At.drewN ?_ _ | with_reducible refine At.drew ?_ | with_reducible refine At.alloc ?_ _)); done) hb
        have N_r : At u12 u11.heap.size (natc 99 23 none false false) := At.bel (n := u11.heap.size) (c := (natc 99 23 none false false)) (by (repeat (first | with_reducible exact (At.new _ _ _ _ rfl) | with_reducible exact At.new _ _ _ _ rfl | ((with_reducible refine At.new _ _ _ _ ?sz); (case sz => simp; done)) | with_reducible refine At.drewN ?_ _ | with_reducible refine At.drew ?_ | with_reducible refine At.alloc ?_ _)); done) hb
        have F12 : Below w.heap.size w u12 := bnext (by repeat (first | with_reducible exact F11 | with_reducible refine Below.drew ?_ | with_reducible refine bdn ?_ _ | with_reducible refine bal ?_ _)) hb
        clear H_n n0 n1 n2 n3 n4 np nc
        have np := N_n.plain
        have nc := N_n.cells
        have n0 := N_n.lt
        obtain ⟨n1, n2, n3, n4⟩ := szs N_n.lt
        have H_n := Lib.hid N_n
        clear N_n
        have rp := N_r.plain
        have rc := N_r.cells
        have r0 := N_r.lt
        obtain ⟨r1, r2, r3, r4⟩ := szs N_r.lt
        have H_r := Lib.hid N_r
        clear N_r
        clear hb
        go_wp2_with (go_at_call 36; ((with_reducible refine (str_ty _ 9 _ _ str_9 (by simp [go_sem] <;> omega) (by simp [go_sem] <;> omega)).mono ?_); rintro e w' ⟨rfl, rfl⟩))
        go_roundg (a + b - (j + 1))
        case measure => (have := HG.out; have := c3.out; omega)
        case rel => exact ⟨j + 1, rfl, hj1, by simp [hw], (by (repeat (first | with_reducible exact H_n.out | with_reducible exact At.new _ _ _ _ rfl | ((with_reducible refine At.new _ _ _ _ ?sz); (case sz => simp; done)) | with_reducible refine At.drewN ?_ _ | with_reducible refine At.drew ?_ | with_reducible refine At.alloc ?_ _)); done), (by repeat (first | with_reducible exact F12 | with_reducible refine Below.drew ?_ | with_reducible refine bdn ?_ _ | with_reducible refine bal ?_ _))⟩
    · go_wp2
      go_ret
      exact ⟨rfl, FR⟩
theorem walk (a b o : Int) (u : Bool) (w : World) (w0 : (Lit.int .i64 a).wf = true) (w1 : (Lit.int .i64 b).wf = true) (w2 : (Lit.int .i64 o).wf = true) : Calls Tryz.prog 9 #[.int .i64 a, .int .i64 b, .int .i64 o, .bool u] w fun e w' => e = .returned (.bool true) ∧ Below w.heap.size w w' := by
  by_cases h : 0 ≤ a ∧ 0 ≤ b ∧ 0 ≤ o ∧ a + b + o ≤ 128
  · obtain ⟨ha, hb, ho, hl⟩ := h
    obtain ⟨a, rfl⟩ := Int.eq_ofNat_of_zero_le ha
    obtain ⟨b, rfl⟩ := Int.eq_ofNat_of_zero_le hb
    obtain ⟨o, rfl⟩ := Int.eq_ofNat_of_zero_le ho
    exact inside a b o (by omega) u w
  · exact outside a b o u h w
end Go.Proofs.YtfmefomafdgfmaaGreat.fnInClassifiesEachParameter
