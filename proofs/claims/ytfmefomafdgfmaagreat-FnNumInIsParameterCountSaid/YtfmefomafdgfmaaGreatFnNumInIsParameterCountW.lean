/-
  The walk of FnNumInIsParameterCount: NumIn of func(a ints, b slices) (o ints) is a + b and NumOut is o.
-/
import Derived.Test.YtfmefomafdgfmaaGreatBase
import Derived.Test.YtfmefomafdgfmaaGreatNf2
namespace Go.Proofs.YtfmefomafdgfmaaGreat.fnNumInIsParameterCount
open Go.RowKit
set_option maxRecDepth 100000
set_option maxHeartbeats 1000000
set_option linter.unusedVariables false
theorem bal {w v : World} (h : Below w.heap.size w v) (o : Obj) : Below w.heap.size w (v.alloc o) := h.alloc h.size o
theorem outside (a b o : Int) (u : Bool) (h : ¬ (0 ≤ a ∧ 0 ≤ b ∧ 0 ≤ o ∧ a + b + o ≤ 128)) (w : World) : Calls Tryz.prog 4 #[.int .i64 a, .int .i64 b, .int .i64 o, .bool u] w fun e w' => e = .returned (.bool true) ∧ Below w.heap.size w w' := by
  have H := Lib.hid h
  clear h
  go_enter Tryz.func4, Tryz.ntmps4
  go_wp2_with (go_at_call 26; ((with_reducible refine (zao_out _ _ _ H.out _).mono ?_); rintro e w' ⟨rfl, rfl⟩))
  go_ret
  exact ⟨rfl, Below.refl _ _⟩
theorem inside (a b o : Nat) (hl : a + b + o ≤ 128) (u : Bool) (w : World) : Calls Tryz.prog 4 #[.int .i64 a, .int .i64 b, .int .i64 o, .bool u] w fun e w' => e = .returned (.bool true) ∧ Below w.heap.size w w' := by
  have HL := Lib.hid hl
  have hab : wrap64 ((a : Int) + (b : Int)) = (a : Int) + (b : Int) := w64 _ (by omega)
  clear hl
  go_enter Tryz.func4, Tryz.ntmps4
  go_wp2_with (go_at_call 26; ((with_reducible refine (zao_in a b o HL.out _).mono ?_); rintro e w' ⟨rfl, rfl⟩))
  refine (zc u _).mono ?_
  rintro e u1 ⟨c, rfl, hb⟩
  have F1 : Below w.heap.size w u1 := bnext (by repeat (first | with_reducible exact (Below.refl _ _) | with_reducible refine Below.drew ?_ | with_reducible refine bdn ?_ _ | with_reducible refine bal ?_ _)) hb
  clear hb
  go_wp2_with fail
  refine (zfn c a b o HL.out _).mono ?_
  rintro e u2 ⟨t, td, hft, rfl, hb, f0, l0⟩
  have htd : w.heap.size ≤ td := (by have h1 := F1.size; have h2 := l0; (try simp at h2); omega)
  have N_t : Fs u2 td a b o none := Fs.fresh f0
  have F2 : Below w.heap.size w u2 := bnext (by repeat (first | with_reducible exact F1 | with_reducible refine Below.drew ?_ | with_reducible refine bdn ?_ _ | with_reducible refine bal ?_ _)) hb
  have t0 := N_t.lt
  obtain ⟨t1, t2, t3, t4⟩ := szs N_t.lt
  have H_t := Lib.hid N_t
  clear N_t
  clear hb
  clear f0 l0
  go_wp2_with fail
  go_wp2_with (go_at_call 29; ((with_reducible refine (isf t _ td _ (by (repeat (first | with_reducible exact (At.new _ _ _ _ rfl) | with_reducible exact At.new _ _ _ _ rfl | ((with_reducible refine At.new _ _ _ _ ?sz); (case sz => simp; done)) | with_reducible refine At.drewN ?_ _ | with_reducible refine At.drew ?_ | with_reducible refine At.alloc ?_ _)); done)).mono ?_); rintro e w' ⟨rfl, rfl⟩))
  refine (numIn t a b o hft _ td none _ (by (repeat (first | with_reducible exact (At.new _ _ _ _ rfl) | with_reducible exact At.new _ _ _ _ rfl | ((with_reducible refine At.new _ _ _ _ ?sz); (case sz => simp; done)) | with_reducible refine At.drewN ?_ _ | with_reducible refine At.drew ?_ | with_reducible refine At.alloc ?_ _)); done) (by repeat (first | with_reducible exact H_t.out | with_reducible refine Fs.drew ?_ | with_reducible refine Fs.drewN ?_ _ | with_reducible refine Fs.alloc ?_ _))).mono ?_
  rintro e u3 ⟨rfl, hb, f0⟩
  have ne_n : u2.heap.size ≠ td := (by omega)
  have N_n : At u3 u2.heap.size (natc t 19 (some ⟨td, 0, none⟩) false false) := At.sole (n := u2.heap.size) (c := (natc t 19 (some ⟨td, 0, none⟩) false false)) (by (repeat (first | with_reducible exact (At.new _ _ _ _ rfl) | with_reducible exact At.new _ _ _ _ rfl | ((with_reducible refine At.new _ _ _ _ ?sz); (case sz => simp; done)) | with_reducible refine At.drewN ?_ _ | with_reducible refine At.drew ?_ | with_reducible refine At.alloc ?_ _)); done) hb ne_n
  have N_t : Fs u3 td a b o none := f0
  have F3 : Below w.heap.size w u3 := bsole (by repeat (first | with_reducible exact F2 | with_reducible refine Below.drew ?_ | with_reducible refine bdn ?_ _ | with_reducible refine bal ?_ _)) hb htd
  clear H_t t0 t1 t2 t3 t4
  have np := N_n.plain
  have nc := N_n.cells
  have n0 := N_n.lt
  obtain ⟨n1, n2, n3, n4⟩ := szs N_n.lt
  have H_n := Lib.hid N_n
  clear N_n
  have t0 := N_t.lt
  obtain ⟨t1, t2, t3, t4⟩ := szs N_t.lt
  have H_t := Lib.hid N_t
  clear N_t
  clear hb
  clear f0
  go_wp2_with fail
  refine (numOut t a b o hft _ td none _ (by (repeat (first | with_reducible exact H_n.out | with_reducible exact At.new _ _ _ _ rfl | ((with_reducible refine At.new _ _ _ _ ?sz); (case sz => simp; done)) | with_reducible refine At.drewN ?_ _ | with_reducible refine At.drew ?_ | with_reducible refine At.alloc ?_ _)); done) (by repeat (first | with_reducible exact H_t.out | with_reducible refine Fs.drew ?_ | with_reducible refine Fs.drewN ?_ _ | with_reducible refine Fs.alloc ?_ _))).mono ?_
  rintro e u4 ⟨rfl, hb, f0⟩
  have N_n : At u4 u2.heap.size (natc t 19 (some ⟨td, 0, none⟩) false false) := At.sole (n := u2.heap.size) (c := (natc t 19 (some ⟨td, 0, none⟩) false false)) (by (repeat (first | with_reducible exact H_n.out | with_reducible exact At.new _ _ _ _ rfl | ((with_reducible refine At.new _ _ _ _ ?sz); (case sz => simp; done)) | with_reducible refine At.drewN ?_ _ | with_reducible refine At.drew ?_ | with_reducible refine At.alloc ?_ _)); done) hb ne_n
  have N_t : Fs u4 td a b o none := f0
  have F4 : Below w.heap.size w u4 := bsole (by repeat (first | with_reducible exact F3 | with_reducible refine Below.drew ?_ | with_reducible refine bdn ?_ _ | with_reducible refine bal ?_ _)) hb htd
  clear H_n n0 n1 n2 n3 n4 np nc
  clear H_t t0 t1 t2 t3 t4
  have np := N_n.plain
  have nc := N_n.cells
  have n0 := N_n.lt
  obtain ⟨n1, n2, n3, n4⟩ := szs N_n.lt
  have H_n := Lib.hid N_n
  clear N_n
  have t0 := N_t.lt
  obtain ⟨t1, t2, t3, t4⟩ := szs N_t.lt
  have H_t := Lib.hid N_t
  clear N_t
  clear hb
  clear f0
  go_wp2_with fail
  go_ret
  exact ⟨rfl, (by repeat (first | with_reducible exact F4 | with_reducible refine Below.drew ?_ | with_reducible refine bdn ?_ _ | with_reducible refine bal ?_ _))⟩
theorem walk (a b o : Int) (u : Bool) (w : World) (w0 : (Lit.int .i64 a).wf = true) (w1 : (Lit.int .i64 b).wf = true) (w2 : (Lit.int .i64 o).wf = true) : Calls Tryz.prog 4 #[.int .i64 a, .int .i64 b, .int .i64 o, .bool u] w fun e w' => e = .returned (.bool true) ∧ Below w.heap.size w w' := by
  by_cases h : 0 ≤ a ∧ 0 ≤ b ∧ 0 ≤ o ∧ a + b + o ≤ 128
  · obtain ⟨ha, hb, ho, hl⟩ := h
    obtain ⟨a, rfl⟩ := Int.eq_ofNat_of_zero_le ha
    obtain ⟨b, rfl⟩ := Int.eq_ofNat_of_zero_le hb
    obtain ⟨o, rfl⟩ := Int.eq_ofNat_of_zero_le ho
    exact inside a b o (by omega) u w
  · exact outside a b o u h w
end Go.Proofs.YtfmefomafdgfmaaGreat.fnNumInIsParameterCount
