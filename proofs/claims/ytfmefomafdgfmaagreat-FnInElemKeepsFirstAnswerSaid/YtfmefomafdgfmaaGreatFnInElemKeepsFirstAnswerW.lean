/-
  The walk of FnInElemKeepsFirstAnswer: InElem answers at every later index and through copies what its first call answered.
-/
import Derived.Test.YtfmefomafdgfmaaGreatBase
import Derived.Test.YtfmefomafdgfmaaGreatNf2
namespace Go.Proofs.YtfmefomafdgfmaaGreat.fnInElemKeepsFirstAnswer
open Go.RowKit
set_option maxRecDepth 100000
set_option maxHeartbeats 1000000
set_option linter.unusedVariables false
theorem bal {w v : World} (h : Below w.heap.size w v) (o : Obj) : Below w.heap.size w (v.alloc o) := h.alloc h.size o
theorem outside (a b o : Int) (i j : Int) (h : ¬ (0 ≤ a ∧ 0 ≤ b ∧ 0 ≤ o ∧ a + b + o ≤ 128)) (w : World) : Calls Tryz.prog 5 #[.int .i64 a, .int .i64 b, .int .i64 o, .int .i64 i, .int .i64 j] w fun e w' => e = .returned (.bool true) ∧ Below w.heap.size w w' := by
  have H := Lib.hid h
  clear h
  go_enter Tryz.func5, Tryz.ntmps5
  go_wp2_with (go_at_call 26; ((with_reducible refine (zao_out _ _ _ H.out _).mono ?_); rintro e w' ⟨rfl, rfl⟩))
  go_ret
  exact ⟨rfl, Below.refl _ _⟩
theorem in_lo2 (a b o : Nat) (i j : Int) (hl : a + b + o ≤ 128) (h0 : 0 ≤ i) (h1 : i < a) (w : World) : Calls Tryz.prog 5 #[.int .i64 a, .int .i64 b, .int .i64 o, .int .i64 i, .int .i64 j] w fun e w' => e = .returned (.bool true) ∧ Below w.heap.size w w' := by
  have HL := Lib.hid hl
  have hab : wrap64 ((a : Int) + (b : Int)) = (a : Int) + (b : Int) := w64 _ (by omega)
  have k1 : ¬ i < 0 := by omega
  have k2 : ¬ (a : Int) + (b : Int) ≤ i := by omega
  have k3 : ¬ (a : Int) ≤ i := by omega
  have E0 := Lib.hid h0
  have E1 := Lib.hid h1
  clear hl h1 h0
  go_enter Tryz.func5, Tryz.ntmps5
  go_wp2_with (go_at_call 26; ((with_reducible refine (zao_in a b o HL.out _).mono ?_); rintro e w' ⟨rfl, rfl⟩))
  refine (zfn (some ⟨w.heap.size, 0, none⟩) a b o HL.out _).mono ?_
  rintro e u1 ⟨t, td, hft, rfl, hb, f0, l0⟩
  have htd : w.heap.size ≤ td := (by have h2 := l0; (try simp at h2); omega)
  have N_t : Fs u1 td a b o none := Fs.fresh f0
  have F1 : Below w.heap.size w u1 := bnext (by repeat (first | with_reducible exact (Below.refl _ _) | with_reducible refine Below.drew ?_ | with_reducible refine bdn ?_ _ | with_reducible refine bal ?_ _)) hb
  have t0 := N_t.lt
  obtain ⟨t1, t2, t3, t4⟩ := szs N_t.lt
  have H_t := Lib.hid N_t
  clear N_t
  clear hb
  clear f0 l0
  go_wp2_with fail
  refine (ie_lo t a b o hft _ td (some ⟨w.heap.size, 0, none⟩) i E0.out E1.out _ (by (repeat (first | with_reducible exact (At.new _ _ _ _ rfl) | with_reducible exact At.new _ _ _ _ rfl | ((with_reducible refine At.new _ _ _ _ ?sz); (case sz => simp; done)) | with_reducible refine At.drewN ?_ _ | with_reducible refine At.drew ?_ | with_reducible refine At.alloc ?_ _)); done) (by repeat (first | with_reducible exact H_t.out | with_reducible refine Fs.drew ?_ | with_reducible refine Fs.drewN ?_ _ | with_reducible refine Fs.alloc ?_ _))).mono ?_
  rintro e u2 ⟨q, rfl, hb, f0, f1, l0⟩
  have ne_q : q ≠ td := (by have h := t0; have h2 := l0; (try simp at h2); omega)
  have ne_n : u1.heap.size ≠ td := (by omega)
  have N_n : At u2 u1.heap.size (natc t 19 (some ⟨td, 0, none⟩) false false) := At.sole (n := u1.heap.size) (c := (natc t 19 (some ⟨td, 0, none⟩) false false)) (by (repeat (first | with_reducible exact (At.new _ _ _ _ rfl) | with_reducible exact At.new _ _ _ _ rfl | ((with_reducible refine At.new _ _ _ _ ?sz); (case sz => simp; done)) | with_reducible refine At.drewN ?_ _ | with_reducible refine At.drew ?_ | with_reducible refine At.alloc ?_ _)); done) hb ne_n
  have N_t : Fs u2 td a b o (some ⟨q, 0, none⟩) := f0
  have N_q : At u2 q #[.nilIface, .int .u64 0, .pointer none, .pointer none, .bool false, .bool false, .bool false, .bool false, .bool false] := f1
  have F2 : Below w.heap.size w u2 := bsole (by repeat (first | with_reducible exact F1 | with_reducible refine Below.drew ?_ | with_reducible refine bdn ?_ _ | with_reducible refine bal ?_ _)) hb htd
  clear H_t t0 t1 t2 t3 t4
  have np := N_n.plain
  have nc := N_n.cells
  have n0 := N_n.lt
  obtain ⟨n1, n2, n3, n4⟩ := szs N_n.lt
  have H_n := Lib.hid N_n
  clear N_n
  have t0 := N_t.lt
  obtain ⟨t1, t2, t3, t4⟩ := szs N_t.lt
  have H_t := Lib.hid N_t
  clear N_t
  have qp := N_q.plain
  have qc := N_q.cells
  have q0 := N_q.lt
  obtain ⟨q1, q2, q3, q4⟩ := szs N_q.lt
  have H_q := Lib.hid N_q
  clear N_q
  clear hb
  clear f0 f1 l0
  go_wp2_with fail
  refine (ie2_lo t a b o _ td q (some ⟨w.heap.size, 0, none⟩) j _ (by (repeat (first | with_reducible exact H_n.out | with_reducible exact At.new _ _ _ _ rfl | ((with_reducible refine At.new _ _ _ _ ?sz); (case sz => simp; done)) | with_reducible refine At.drewN ?_ _ | with_reducible refine At.drew ?_ | with_reducible refine At.alloc ?_ _)); done) (by repeat (first | with_reducible exact H_t.out | with_reducible refine Fs.drew ?_ | with_reducible refine Fs.drewN ?_ _ | with_reducible refine Fs.alloc ?_ _)) (by (repeat (first | with_reducible exact H_q.out | with_reducible exact At.new _ _ _ _ rfl | ((with_reducible refine At.new _ _ _ _ ?sz); (case sz => simp; done)) | with_reducible refine At.drewN ?_ _ | with_reducible refine At.drew ?_ | with_reducible refine At.alloc ?_ _)); done)).mono ?_
  rintro e u3 ⟨rfl, hb⟩
  have ne_x : u2.heap.size ≠ td := (by omega)
  have N_n : At u3 u1.heap.size (natc t 19 (some ⟨td, 0, none⟩) false false) := At.bel (n := u1.heap.size) (c := (natc t 19 (some ⟨td, 0, none⟩) false false)) (by (repeat (first | with_reducible exact H_n.out | with_reducible exact At.new _ _ _ _ rfl | ((with_reducible refine At.new _ _ _ _ ?sz); (case sz => simp; done)) | with_reducible refine At.drewN ?_ _ | with_reducible refine At.drew ?_ | with_reducible refine At.alloc ?_ _)); done) hb
  have N_t : Fs u3 td a b o (some ⟨q, 0, none⟩) := Fs.bel (td := td) (by repeat (first | with_reducible exact H_t.out | with_reducible refine Fs.drew ?_ | with_reducible refine Fs.drewN ?_ _ | with_reducible refine Fs.alloc ?_ _)) hb
  have N_q : At u3 q #[.nilIface, .int .u64 0, .pointer none, .pointer none, .bool false, .bool false, .bool false, .bool false, .bool false] := At.bel (n := q) (c := #[.nilIface, .int .u64 0, .pointer none, .pointer none, .bool false, .bool false, .bool false, .bool false, .bool false]) (by (repeat (first | with_reducible exact H_q.out | with_reducible exact At.new _ _ _ _ rfl | ((with_reducible refine At.new _ _ _ _ ?sz); (case sz => simp; done)) | with_reducible refine At.drewN ?_ _ | with_reducible refine At.drew ?_ | with_reducible refine At.alloc ?_ _)); done) hb
  have N_x : At u3 u2.heap.size #[.nilIface, .int .u64 0, .pointer none, .pointer none, .bool false, .bool false, .bool false, .bool false, .bool false] := At.bel (n := u2.heap.size) (c := #[.nilIface, .int .u64 0, .pointer none, .pointer none, .bool false, .bool false, .bool false, .bool false, .bool false]) (by (repeat (first | with_reducible exact (At.new _ _ _ _ rfl) | with_reducible exact At.new _ _ _ _ rfl | ((with_reducible refine At.new _ _ _ _ ?sz); (case sz => simp; done)) | with_reducible refine At.drewN ?_ _ | with_reducible refine At.drew ?_ | with_reducible refine At.alloc ?_ _)); done) hb
  have F3 : Below w.heap.size w u3 := bnext (by repeat (first | with_reducible exact F2 | with_reducible refine Below.drew ?_ | with_reducible refine bdn ?_ _ | with_reducible refine bal ?_ _)) hb
  clear H_n n0 n1 n2 n3 n4 np nc
  clear H_t t0 t1 t2 t3 t4
  clear H_q q0 q1 q2 q3 q4 qp qc
  have np := N_n.plain
  have nc := N_n.cells
  have n0 := N_n.lt
  obtain ⟨n1, n2, n3, n4⟩ := szs N_n.lt
  have H_n := Lib.hid N_n
  clear N_n
  have t0 := N_t.lt
  obtain ⟨t1, t2, t3, t4⟩ := szs N_t.lt
  have H_t := Lib.hid N_t
  clear N_t
  have qp := N_q.plain
  have qc := N_q.cells
  have q0 := N_q.lt
  obtain ⟨q1, q2, q3, q4⟩ := szs N_q.lt
  have H_q := Lib.hid N_q
  clear N_q
  have xp := N_x.plain
  have xc := N_x.cells
  have x0 := N_x.lt
  obtain ⟨x1, x2, x3, x4⟩ := szs N_x.lt
  have H_x := Lib.hid N_x
  clear N_x
  clear hb
  go_wp2_with fail
  refine (ie2_lo t a b o _ td q (some ⟨w.heap.size, 0, none⟩) j _ (by (repeat (first | with_reducible exact (At.new _ _ _ _ rfl) | with_reducible exact At.new _ _ _ _ rfl | ((with_reducible refine At.new _ _ _ _ ?sz); (case sz => simp; done)) | with_reducible refine At.drewN ?_ _ | with_reducible refine At.drew ?_ | with_reducible refine At.alloc ?_ _)); done) (by repeat (first | with_reducible exact H_t.out | with_reducible refine Fs.drew ?_ | with_reducible refine Fs.drewN ?_ _ | with_reducible refine Fs.alloc ?_ _)) (by (repeat (first | with_reducible exact H_q.out | with_reducible exact At.new _ _ _ _ rfl | ((with_reducible refine At.new _ _ _ _ ?sz); (case sz => simp; done)) | with_reducible refine At.drewN ?_ _ | with_reducible refine At.drew ?_ | with_reducible refine At.alloc ?_ _)); done)).mono ?_
  rintro e u4 ⟨rfl, hb⟩
  have ne_y : u3.heap.size ≠ td := (by omega)
  have ne_m : (u3.heap.size + 1) ≠ td := (by omega)
  have N_n : At u4 u1.heap.size (natc t 19 (some ⟨td, 0, none⟩) false false) := At.bel (n := u1.heap.size) (c := (natc t 19 (some ⟨td, 0, none⟩) false false)) (by (repeat (first | with_reducible exact H_n.out | with_reducible exact At.new _ _ _ _ rfl | ((with_reducible refine At.new _ _ _ _ ?sz); (case sz => simp; done)) | with_reducible refine At.drewN ?_ _ | with_reducible refine At.drew ?_ | with_reducible refine At.alloc ?_ _)); done) hb
  have N_t : Fs u4 td a b o (some ⟨q, 0, none⟩) := Fs.bel (td := td) (by repeat (first | with_reducible exact H_t.out | with_reducible refine Fs.drew ?_ | with_reducible refine Fs.drewN ?_ _ | with_reducible refine Fs.alloc ?_ _)) hb
  have N_q : At u4 q #[.nilIface, .int .u64 0, .pointer none, .pointer none, .bool false, .bool false, .bool false, .bool false, .bool false] := At.bel (n := q) (c := #[.nilIface, .int .u64 0, .pointer none, .pointer none, .bool false, .bool false, .bool false, .bool false, .bool false]) (by (repeat (first | with_reducible exact H_q.out | with_reducible exact At.new _ _ _ _ rfl | ((with_reducible refine At.new _ _ _ _ ?sz); (case sz => simp; done)) | with_reducible refine At.drewN ?_ _ | with_reducible refine At.drew ?_ | with_reducible refine At.alloc ?_ _)); done) hb
  have N_x : At u4 u2.heap.size #[.nilIface, .int .u64 0, .pointer none, .pointer none, .bool false, .bool false, .bool false, .bool false, .bool false] := At.bel (n := u2.heap.size) (c := #[.nilIface, .int .u64 0, .pointer none, .pointer none, .bool false, .bool false, .bool false, .bool false, .bool false]) (by (repeat (first | with_reducible exact H_x.out | with_reducible exact At.new _ _ _ _ rfl | ((with_reducible refine At.new _ _ _ _ ?sz); (case sz => simp; done)) | with_reducible refine At.drewN ?_ _ | with_reducible refine At.drew ?_ | with_reducible refine At.alloc ?_ _)); done) hb
  have N_y : At u4 u3.heap.size #[.nilIface, .int .u64 0, .pointer none, .pointer none, .bool false, .bool false, .bool false, .bool false, .bool false] := At.bel (n := u3.heap.size) (c := #[.nilIface, .int .u64 0, .pointer none, .pointer none, .bool false, .bool false, .bool false, .bool false, .bool false]) (by (repeat (first | with_reducible exact (At.new _ _ _ _ rfl) | with_reducible exact At.new _ _ _ _ rfl | ((with_reducible refine At.new _ _ _ _ ?sz); (case sz => simp; done)) | with_reducible refine At.drewN ?_ _ | with_reducible refine At.drew ?_ | with_reducible refine At.alloc ?_ _)); done) hb
  have N_m : At u4 (u3.heap.size + 1) (natc t 19 (some ⟨td, 0, none⟩) false false) := At.bel (n := (u3.heap.size + 1)) (c := (natc t 19 (some ⟨td, 0, none⟩) false false)) (by (repeat (first | with_reducible exact (At.new _ _ _ _ rfl) | with_reducible exact At.new _ _ _ _ rfl | ((with_reducible refine At.new _ _ _ _ ?sz); (case sz => simp; done)) | with_reducible refine At.drewN ?_ _ | with_reducible refine At.drew ?_ | with_reducible refine At.alloc ?_ _)); done) hb
  have F4 : Below w.heap.size w u4 := bnext (by repeat (first | with_reducible exact F3 | with_reducible refine Below.drew ?_ | with_reducible refine bdn ?_ _ | with_reducible refine bal ?_ _)) hb
  clear H_n n0 n1 n2 n3 n4 np nc
  clear H_t t0 t1 t2 t3 t4
  clear H_q q0 q1 q2 q3 q4 qp qc
  clear H_x x0 x1 x2 x3 x4 xp xc
  have np := N_n.plain
  have nc := N_n.cells
  have n0 := N_n.lt
  obtain ⟨n1, n2, n3, n4⟩ := szs N_n.lt
  have H_n := Lib.hid N_n
  clear N_n
  have t0 := N_t.lt
  obtain ⟨t1, t2, t3, t4⟩ := szs N_t.lt
  have H_t := Lib.hid N_t
  clear N_t
  have qp := N_q.plain
  have qc := N_q.cells
  have q0 := N_q.lt
  obtain ⟨q1, q2, q3, q4⟩ := szs N_q.lt
  have H_q := Lib.hid N_q
  clear N_q
  have xp := N_x.plain
  have xc := N_x.cells
  have x0 := N_x.lt
  obtain ⟨x1, x2, x3, x4⟩ := szs N_x.lt
  have H_x := Lib.hid N_x
  clear N_x
  have yp := N_y.plain
  have yc := N_y.cells
  have y0 := N_y.lt
  obtain ⟨y1, y2, y3, y4⟩ := szs N_y.lt
  have H_y := Lib.hid N_y
  clear N_y
  have mp := N_m.plain
  have mc := N_m.cells
  have m0 := N_m.lt
  obtain ⟨m1, m2, m3, m4⟩ := szs N_m.lt
  have H_m := Lib.hid N_m
  clear N_m
  clear hb
  go_wp2_with fail
  refine (ss_lo _).mono ?_
  rintro e u5 ⟨rfl, hb⟩
  have ne_z : u4.heap.size ≠ td := (by omega)
  have N_n : At u5 u1.heap.size (natc t 19 (some ⟨td, 0, none⟩) false false) := At.bel (n := u1.heap.size) (c := (natc t 19 (some ⟨td, 0, none⟩) false false)) (by (repeat (first | with_reducible exact H_n.out | with_reducible exact At.new _ _ _ _ rfl | ((with_reducible refine At.new _ _ _ _ ?sz); (case sz => simp; done)) | with_reducible refine At.drewN ?_ _ | with_reducible refine At.drew ?_ | with_reducible refine At.alloc ?_ _)); done) hb
  have N_t : Fs u5 td a b o (some ⟨q, 0, none⟩) := Fs.bel (td := td) (by repeat (first | with_reducible exact H_t.out | with_reducible refine Fs.drew ?_ | with_reducible refine Fs.drewN ?_ _ | with_reducible refine Fs.alloc ?_ _)) hb
  have N_q : At u5 q #[.nilIface, .int .u64 0, .pointer none, .pointer none, .bool false, .bool false, .bool false, .bool false, .bool false] := At.bel (n := q) (c := #[.nilIface, .int .u64 0, .pointer none, .pointer none, .bool false, .bool false, .bool false, .bool false, .bool false]) (by (repeat (first | with_reducible exact H_q.out | with_reducible exact At.new _ _ _ _ rfl | ((with_reducible refine At.new _ _ _ _ ?sz); (case sz => simp; done)) | with_reducible refine At.drewN ?_ _ | with_reducible refine At.drew ?_ | with_reducible refine At.alloc ?_ _)); done) hb
  have N_x : At u5 u2.heap.size #[.nilIface, .int .u64 0, .pointer none, .pointer none, .bool false, .bool false, .bool false, .bool false, .bool false] := At.bel (n := u2.heap.size) (c := #[.nilIface, .int .u64 0, .pointer none, .pointer none, .bool false, .bool false, .bool false, .bool false, .bool false]) (by (repeat (first | with_reducible exact H_x.out | with_reducible exact At.new _ _ _ _ rfl | ((with_reducible refine At.new _ _ _ _ ?sz); (case sz => simp; done)) | with_reducible refine At.drewN ?_ _ | with_reducible refine At.drew ?_ | with_reducible refine At.alloc ?_ _)); done) hb
  have N_y : At u5 u3.heap.size #[.nilIface, .int .u64 0, .pointer none, .pointer none, .bool false, .bool false, .bool false, .bool false, .bool false] := At.bel (n := u3.heap.size) (c := #[.nilIface, .int .u64 0, .pointer none, .pointer none, .bool false, .bool false, .bool false, .bool false, .bool false]) (by (repeat (first | with_reducible exact H_y.out | with_reducible exact At.new _ _ _ _ rfl | ((with_reducible refine At.new _ _ _ _ ?sz); (case sz => simp; done)) | with_reducible refine At.drewN ?_ _ | with_reducible refine At.drew ?_ | with_reducible refine At.alloc ?_ _)); done) hb
  have N_m : At u5 (u3.heap.size + 1) (natc t 19 (some ⟨td, 0, none⟩) false false) := At.bel (n := (u3.heap.size + 1)) (c := (natc t 19 (some ⟨td, 0, none⟩) false false)) (by (repeat (first | with_reducible exact H_m.out | with_reducible exact At.new _ _ _ _ rfl | ((with_reducible refine At.new _ _ _ _ ?sz); (case sz => simp; done)) | with_reducible refine At.drewN ?_ _ | with_reducible refine At.drew ?_ | with_reducible refine At.alloc ?_ _)); done) hb
  have N_z : At u5 u4.heap.size #[.nilIface, .int .u64 0, .pointer none, .pointer none, .bool false, .bool false, .bool false, .bool false, .bool false] := At.bel (n := u4.heap.size) (c := #[.nilIface, .int .u64 0, .pointer none, .pointer none, .bool false, .bool false, .bool false, .bool false, .bool false]) (by (repeat (first | with_reducible exact (At.new _ _ _ _ rfl) | with_reducible exact At.new _ _ _ _ rfl | ((with_reducible refine At.new _ _ _ _ ?sz); (case sz => simp; done)) | with_reducible refine At.drewN ?_ _ | with_reducible refine At.drew ?_ | with_reducible refine At.alloc ?_ _)); done) hb
  have F5 : Below w.heap.size w u5 := bnext (by repeat (first | with_reducible exact F4 | with_reducible refine Below.drew ?_ | with_reducible refine bdn ?_ _ | with_reducible refine bal ?_ _)) hb
  clear H_n n0 n1 n2 n3 n4 np nc
  clear H_t t0 t1 t2 t3 t4
  clear H_q q0 q1 q2 q3 q4 qp qc
  clear H_x x0 x1 x2 x3 x4 xp xc
  clear H_y y0 y1 y2 y3 y4 yp yc
  clear H_m m0 m1 m2 m3 m4 mp mc
  have np := N_n.plain
  have nc := N_n.cells
  have n0 := N_n.lt
  obtain ⟨n1, n2, n3, n4⟩ := szs N_n.lt
  have H_n := Lib.hid N_n
  clear N_n
  have t0 := N_t.lt
  obtain ⟨t1, t2, t3, t4⟩ := szs N_t.lt
  have H_t := Lib.hid N_t
  clear N_t
  have qp := N_q.plain
  have qc := N_q.cells
  have q0 := N_q.lt
  obtain ⟨q1, q2, q3, q4⟩ := szs N_q.lt
  have H_q := Lib.hid N_q
  clear N_q
  have xp := N_x.plain
  have xc := N_x.cells
  have x0 := N_x.lt
  obtain ⟨x1, x2, x3, x4⟩ := szs N_x.lt
  have H_x := Lib.hid N_x
  clear N_x
  have yp := N_y.plain
  have yc := N_y.cells
  have y0 := N_y.lt
  obtain ⟨y1, y2, y3, y4⟩ := szs N_y.lt
  have H_y := Lib.hid N_y
  clear N_y
  have mp := N_m.plain
  have mc := N_m.cells
  have m0 := N_m.lt
  obtain ⟨m1, m2, m3, m4⟩ := szs N_m.lt
  have H_m := Lib.hid N_m
  clear N_m
  have zp := N_z.plain
  have zc := N_z.cells
  have z0 := N_z.lt
  obtain ⟨z1, z2, z3, z4⟩ := szs N_z.lt
  have H_z := Lib.hid N_z
  clear N_z
  clear hb
  go_wp2_with fail
  refine (ss_lo _).mono ?_
  rintro e u6 ⟨rfl, hb⟩
  have N_n : At u6 u1.heap.size (natc t 19 (some ⟨td, 0, none⟩) false false) := At.bel (n := u1.heap.size) (c := (natc t 19 (some ⟨td, 0, none⟩) false false)) (by (repeat (first | with_reducible exact H_n.out | with_reducible exact At.new _ _ _ _ rfl | ((with_reducible refine At.new _ _ _ _ ?sz); (case sz => simp; done)) | with_reducible refine At.drewN ?_ _ | with_reducible refine At.drew ?_ | with_reducible refine At.alloc ?_ _)); done) hb
  have N_t : Fs u6 td a b o (some ⟨q, 0, none⟩) := Fs.bel (td := td) (by repeat (first | with_reducible exact H_t.out | with_reducible refine Fs.drew ?_ | with_reducible refine Fs.drewN ?_ _ | with_reducible refine Fs.alloc ?_ _)) hb
  have N_q : At u6 q #[.nilIface, .int .u64 0, .pointer none, .pointer none, .bool false, .bool false, .bool false, .bool false, .bool false] := At.bel (n := q) (c := #[.nilIface, .int .u64 0, .pointer none, .pointer none, .bool false, .bool false, .bool false, .bool false, .bool false]) (by (repeat (first | with_reducible exact H_q.out | with_reducible exact At.new _ _ _ _ rfl | ((with_reducible refine At.new _ _ _ _ ?sz); (case sz => simp; done)) | with_reducible refine At.drewN ?_ _ | with_reducible refine At.drew ?_ | with_reducible refine At.alloc ?_ _)); done) hb
  have N_x : At u6 u2.heap.size #[.nilIface, .int .u64 0, .pointer none, .pointer none, .bool false, .bool false, .bool false, .bool false, .bool false] := At.bel (n := u2.heap.size) (c := #[.nilIface, .int .u64 0, .pointer none, .pointer none, .bool false, .bool false, .bool false, .bool false, .bool false]) (by (repeat (first | with_reducible exact H_x.out | with_reducible exact At.new _ _ _ _ rfl | ((with_reducible refine At.new _ _ _ _ ?sz); (case sz => simp; done)) | with_reducible refine At.drewN ?_ _ | with_reducible refine At.drew ?_ | with_reducible refine At.alloc ?_ _)); done) hb
  have N_y : At u6 u3.heap.size #[.nilIface, .int .u64 0, .pointer none, .pointer none, .bool false, .bool false, .bool false, .bool false, .bool false] := At.bel (n := u3.heap.size) (c := #[.nilIface, .int .u64 0, .pointer none, .pointer none, .bool false, .bool false, .bool false, .bool false, .bool false]) (by (repeat (first | with_reducible exact H_y.out | with_reducible exact At.new _ _ _ _ rfl | ((with_reducible refine At.new _ _ _ _ ?sz); (case sz => simp; done)) | with_reducible refine At.drewN ?_ _ | with_reducible refine At.drew ?_ | with_reducible refine At.alloc ?_ _)); done) hb
  have N_m : At u6 (u3.heap.size + 1) (natc t 19 (some ⟨td, 0, none⟩) false false) := At.bel (n := (u3.heap.size + 1)) (c := (natc t 19 (some ⟨td, 0, none⟩) false false)) (by (repeat (first | with_reducible exact H_m.out | with_reducible exact At.new _ _ _ _ rfl | ((with_reducible refine At.new _ _ _ _ ?sz); (case sz => simp; done)) | with_reducible refine At.drewN ?_ _ | with_reducible refine At.drew ?_ | with_reducible refine At.alloc ?_ _)); done) hb
  have N_z : At u6 u4.heap.size #[.nilIface, .int .u64 0, .pointer none, .pointer none, .bool false, .bool false, .bool false, .bool false, .bool false] := At.bel (n := u4.heap.size) (c := #[.nilIface, .int .u64 0, .pointer none, .pointer none, .bool false, .bool false, .bool false, .bool false, .bool false]) (by (repeat (first | with_reducible exact H_z.out | with_reducible exact At.new _ _ _ _ rfl | ((with_reducible refine At.new _ _ _ _ ?sz); (case sz => simp; done)) | with_reducible refine At.drewN ?_ _ | with_reducible refine At.drew ?_ | with_reducible refine At.alloc ?_ _)); done) hb
  have F6 : Below w.heap.size w u6 := bnext (by repeat (first | with_reducible exact F5 | with_reducible refine Below.drew ?_ | with_reducible refine bdn ?_ _ | with_reducible refine bal ?_ _)) hb
  clear H_n n0 n1 n2 n3 n4 np nc
  clear H_t t0 t1 t2 t3 t4
  clear H_q q0 q1 q2 q3 q4 qp qc
  clear H_x x0 x1 x2 x3 x4 xp xc
  clear H_y y0 y1 y2 y3 y4 yp yc
  clear H_m m0 m1 m2 m3 m4 mp mc
  clear H_z z0 z1 z2 z3 z4 zp zc
  have np := N_n.plain
  have nc := N_n.cells
  have n0 := N_n.lt
  obtain ⟨n1, n2, n3, n4⟩ := szs N_n.lt
  have H_n := Lib.hid N_n
  clear N_n
  have t0 := N_t.lt
  obtain ⟨t1, t2, t3, t4⟩ := szs N_t.lt
  have H_t := Lib.hid N_t
  clear N_t
  have qp := N_q.plain
  have qc := N_q.cells
  have q0 := N_q.lt
  obtain ⟨q1, q2, q3, q4⟩ := szs N_q.lt
  have H_q := Lib.hid N_q
  clear N_q
  have xp := N_x.plain
  have xc := N_x.cells
  have x0 := N_x.lt
  obtain ⟨x1, x2, x3, x4⟩ := szs N_x.lt
  have H_x := Lib.hid N_x
  clear N_x
  have yp := N_y.plain
  have yc := N_y.cells
  have y0 := N_y.lt
  obtain ⟨y1, y2, y3, y4⟩ := szs N_y.lt
  have H_y := Lib.hid N_y
  clear N_y
  have mp := N_m.plain
  have mc := N_m.cells
  have m0 := N_m.lt
  obtain ⟨m1, m2, m3, m4⟩ := szs N_m.lt
  have H_m := Lib.hid N_m
  clear N_m
  have zp := N_z.plain
  have zc := N_z.cells
  have z0 := N_z.lt
  obtain ⟨z1, z2, z3, z4⟩ := szs N_z.lt
  have H_z := Lib.hid N_z
  clear N_z
  clear hb
  go_wp2_with fail
  have K3 := E1.out
  go_ret
  refine ⟨?_, (by repeat (first | with_reducible exact F6 | with_reducible refine Below.drew ?_ | with_reducible refine bdn ?_ _ | with_reducible refine bal ?_ _))⟩
  first
  | rfl
  | (simp; omega)
theorem in_hi2 (a b o : Nat) (i j : Int) (hl : a + b + o ≤ 128) (h2 : (a : Int) ≤ i) (h1 : i < a + b) (w : World) : Calls Tryz.prog 5 #[.int .i64 a, .int .i64 b, .int .i64 o, .int .i64 i, .int .i64 j] w fun e w' => e = .returned (.bool true) ∧ Below w.heap.size w w' := by
  have HL := Lib.hid hl
  have hab : wrap64 ((a : Int) + (b : Int)) = (a : Int) + (b : Int) := w64 _ (by omega)
  have k1 : ¬ i < 0 := by omega
  have k2 : ¬ (a : Int) + (b : Int) ≤ i := by omega
  have k3 : (a : Int) ≤ i := h2
  have E2 := Lib.hid h2
  have E1 := Lib.hid h1
  clear hl h1 h2
  go_enter Tryz.func5, Tryz.ntmps5
  go_wp2_with (go_at_call 26; ((with_reducible refine (zao_in a b o HL.out _).mono ?_); rintro e w' ⟨rfl, rfl⟩))
  refine (zfn (some ⟨w.heap.size, 0, none⟩) a b o HL.out _).mono ?_
  rintro e u1 ⟨t, td, hft, rfl, hb, f0, l0⟩
  have htd : w.heap.size ≤ td := (by have h2 := l0; (try simp at h2); omega)
  have N_t : Fs u1 td a b o none := Fs.fresh f0
  have F1 : Below w.heap.size w u1 := bnext (by repeat (first | with_reducible exact (Below.refl _ _) | with_reducible refine Below.drew ?_ | with_reducible refine bdn ?_ _ | with_reducible refine bal ?_ _)) hb
  have t0 := N_t.lt
  obtain ⟨t1, t2, t3, t4⟩ := szs N_t.lt
  have H_t := Lib.hid N_t
  clear N_t
  clear hb
  clear f0 l0
  go_wp2_with fail
  refine (ie_hi t a b o hft _ td (some ⟨w.heap.size, 0, none⟩) i E2.out E1.out _ (by (repeat (first | with_reducible exact (At.new _ _ _ _ rfl) | with_reducible exact At.new _ _ _ _ rfl | ((with_reducible refine At.new _ _ _ _ ?sz); (case sz => simp; done)) | with_reducible refine At.drewN ?_ _ | with_reducible refine At.drew ?_ | with_reducible refine At.alloc ?_ _)); done) (by repeat (first | with_reducible exact H_t.out | with_reducible refine Fs.drew ?_ | with_reducible refine Fs.drewN ?_ _ | with_reducible refine Fs.alloc ?_ _))).mono ?_
  rintro e u2 ⟨q, rfl, hb, f0, f1, l0⟩
  have ne_q : q ≠ td := (by have h := t0; have h2 := l0; (try simp at h2); omega)
  have ne_n : u1.heap.size ≠ td := (by omega)
  have N_n : At u2 u1.heap.size (natc t 19 (some ⟨td, 0, none⟩) false false) := At.sole (n := u1.heap.size) (c := (natc t 19 (some ⟨td, 0, none⟩) false false)) (by (repeat (first | with_reducible exact (At.new _ _ _ _ rfl) | with_reducible exact At.new _ _ _ _ rfl | ((with_reducible refine At.new _ _ _ _ ?sz); (case sz => simp; done)) | with_reducible refine At.drewN ?_ _ | with_reducible refine At.drew ?_ | with_reducible refine At.alloc ?_ _)); done) hb ne_n
  have N_t : Fs u2 td a b o (some ⟨q, 0, none⟩) := f0
  have N_q : At u2 q (natc 9 24 none false false) := f1
  have F2 : Below w.heap.size w u2 := bsole (by repeat (first | with_reducible exact F1 | with_reducible refine Below.drew ?_ | with_reducible refine bdn ?_ _ | with_reducible refine bal ?_ _)) hb htd
  clear H_t t0 t1 t2 t3 t4
  have np := N_n.plain
  have nc := N_n.cells
  have n0 := N_n.lt
  obtain ⟨n1, n2, n3, n4⟩ := szs N_n.lt
  have H_n := Lib.hid N_n
  clear N_n
  have t0 := N_t.lt
  obtain ⟨t1, t2, t3, t4⟩ := szs N_t.lt
  have H_t := Lib.hid N_t
  clear N_t
  have qp := N_q.plain
  have qc := N_q.cells
  have q0 := N_q.lt
  obtain ⟨q1, q2, q3, q4⟩ := szs N_q.lt
  have H_q := Lib.hid N_q
  clear N_q
  clear hb
  clear f0 f1 l0
  go_wp2_with fail
  refine (ie2_hi t a b o _ td q (some ⟨w.heap.size, 0, none⟩) j _ (by (repeat (first | with_reducible exact H_n.out | with_reducible exact At.new _ _ _ _ rfl | ((with_reducible refine At.new _ _ _ _ ?sz); (case sz => simp; done)) | with_reducible refine At.drewN ?_ _ | with_reducible refine At.drew ?_ | with_reducible refine At.alloc ?_ _)); done) (by repeat (first | with_reducible exact H_t.out | with_reducible refine Fs.drew ?_ | with_reducible refine Fs.drewN ?_ _ | with_reducible refine Fs.alloc ?_ _)) (by (repeat (first | with_reducible exact H_q.out | with_reducible exact At.new _ _ _ _ rfl | ((with_reducible refine At.new _ _ _ _ ?sz); (case sz => simp; done)) | with_reducible refine At.drewN ?_ _ | with_reducible refine At.drew ?_ | with_reducible refine At.alloc ?_ _)); done)).mono ?_
  rintro e u3 ⟨rfl, hb⟩
  have ne_x : u2.heap.size ≠ td := (by omega)
  have N_n : At u3 u1.heap.size (natc t 19 (some ⟨td, 0, none⟩) false false) := At.bel (n := u1.heap.size) (c := (natc t 19 (some ⟨td, 0, none⟩) false false)) (by (repeat (first | with_reducible exact H_n.out | with_reducible exact At.new _ _ _ _ rfl | ((with_reducible refine At.new _ _ _ _ ?sz); (case sz => simp; done)) | with_reducible refine At.drewN ?_ _ | with_reducible refine At.drew ?_ | with_reducible refine At.alloc ?_ _)); done) hb
  have N_t : Fs u3 td a b o (some ⟨q, 0, none⟩) := Fs.bel (td := td) (by repeat (first | with_reducible exact H_t.out | with_reducible refine Fs.drew ?_ | with_reducible refine Fs.drewN ?_ _ | with_reducible refine Fs.alloc ?_ _)) hb
  have N_q : At u3 q (natc 9 24 none false false) := At.bel (n := q) (c := (natc 9 24 none false false)) (by (repeat (first | with_reducible exact H_q.out | with_reducible exact At.new _ _ _ _ rfl | ((with_reducible refine At.new _ _ _ _ ?sz); (case sz => simp; done)) | with_reducible refine At.drewN ?_ _ | with_reducible refine At.drew ?_ | with_reducible refine At.alloc ?_ _)); done) hb
  have N_x : At u3 u2.heap.size (natc 9 24 none false false) := At.bel (n := u2.heap.size) (c := (natc 9 24 none false false)) (by (repeat (first | with_reducible exact (At.new _ _ _ _ rfl) | with_reducible exact At.new _ _ _ _ rfl | ((with_reducible refine At.new _ _ _ _ ?sz); (case sz => simp; done)) | with_reducible refine At.drewN ?_ _ | with_reducible refine At.drew ?_ | with_reducible refine At.alloc ?_ _)); done) hb
  have F3 : Below w.heap.size w u3 := bnext (by repeat (first | with_reducible exact F2 | with_reducible refine Below.drew ?_ | with_reducible refine bdn ?_ _ | with_reducible refine bal ?_ _)) hb
  clear H_n n0 n1 n2 n3 n4 np nc
  clear H_t t0 t1 t2 t3 t4
  clear H_q q0 q1 q2 q3 q4 qp qc
  have np := N_n.plain
  have nc := N_n.cells
  have n0 := N_n.lt
  obtain ⟨n1, n2, n3, n4⟩ := szs N_n.lt
  have H_n := Lib.hid N_n
  clear N_n
  have t0 := N_t.lt
  obtain ⟨t1, t2, t3, t4⟩ := szs N_t.lt
  have H_t := Lib.hid N_t
  clear N_t
  have qp := N_q.plain
  have qc := N_q.cells
  have q0 := N_q.lt
  obtain ⟨q1, q2, q3, q4⟩ := szs N_q.lt
  have H_q := Lib.hid N_q
  clear N_q
  have xp := N_x.plain
  have xc := N_x.cells
  have x0 := N_x.lt
  obtain ⟨x1, x2, x3, x4⟩ := szs N_x.lt
  have H_x := Lib.hid N_x
  clear N_x
  clear hb
  go_wp2_with fail
  refine (ie2_hi t a b o _ td q (some ⟨w.heap.size, 0, none⟩) j _ (by (repeat (first | with_reducible exact (At.new _ _ _ _ rfl) | with_reducible exact At.new _ _ _ _ rfl | ((with_reducible refine At.new _ _ _ _ ?sz); (case sz => simp; done)) | with_reducible refine At.drewN ?_ _ | with_reducible refine At.drew ?_ | with_reducible refine At.alloc ?_ _)); done) (by repeat (first | with_reducible exact H_t.out | with_reducible refine Fs.drew ?_ | with_reducible refine Fs.drewN ?_ _ | with_reducible refine Fs.alloc ?_ _)) (by (repeat (first | with_reducible exact H_q.out | with_reducible exact At.new _ _ _ _ rfl | ((with_reducible refine At.new _ _ _ _ ?sz); (case sz => simp; done)) | with_reducible refine At.drewN ?_ _ | with_reducible refine At.drew ?_ | with_reducible refine At.alloc ?_ _)); done)).mono ?_
  rintro e u4 ⟨rfl, hb⟩
  have ne_y : u3.heap.size ≠ td := (by omega)
  have ne_m : (u3.heap.size + 1) ≠ td := (by omega)
  have N_n : At u4 u1.heap.size (natc t 19 (some ⟨td, 0, none⟩) false false) := At.bel (n := u1.heap.size) (c := (natc t 19 (some ⟨td, 0, none⟩) false false)) (by (repeat (first | with_reducible exact H_n.out | with_reducible exact At.new _ _ _ _ rfl | ((with_reducible refine At.new _ _ _ _ ?sz); (case sz => simp; done)) | with_reducible refine At.drewN ?_ _ | with_reducible refine At.drew ?_ | with_reducible refine At.alloc ?_ _)); done) hb
  have N_t : Fs u4 td a b o (some ⟨q, 0, none⟩) := Fs.bel (td := td) (by repeat (first | with_reducible exact H_t.out | with_reducible refine Fs.drew ?_ | with_reducible refine Fs.drewN ?_ _ | with_reducible refine Fs.alloc ?_ _)) hb
  have N_q : At u4 q (natc 9 24 none false false) := At.bel (n := q) (c := (natc 9 24 none false false)) (by (repeat (first | with_reducible exact H_q.out | with_reducible exact At.new _ _ _ _ rfl | ((with_reducible refine At.new _ _ _ _ ?sz); (case sz => simp; done)) | with_reducible refine At.drewN ?_ _ | with_reducible refine At.drew ?_ | with_reducible refine At.alloc ?_ _)); done) hb
  have N_x : At u4 u2.heap.size (natc 9 24 none false false) := At.bel (n := u2.heap.size) (c := (natc 9 24 none false false)) (by (repeat (first | with_reducible exact H_x.out | with_reducible exact At.new _ _ _ _ rfl | ((with_reducible refine At.new _ _ _ _ ?sz); (case sz => simp; done)) | with_reducible refine At.drewN ?_ _ | with_reducible refine At.drew ?_ | with_reducible refine At.alloc ?_ _)); done) hb
  have N_y : At u4 u3.heap.size (natc 9 24 none false false) := At.bel (n := u3.heap.size) (c := (natc 9 24 none false false)) (by (repeat (first | with_reducible exact (At.new _ _ _ _ rfl) | with_reducible exact At.new _ _ _ _ rfl | ((with_reducible refine At.new _ _ _ _ ?sz); (case sz => simp; done)) | with_reducible refine At.drewN ?_ _ | with_reducible refine At.drew ?_ | with_reducible refine At.alloc ?_ _)); done) hb
  have N_m : At u4 (u3.heap.size + 1) (natc t 19 (some ⟨td, 0, none⟩) false false) := At.bel (n := (u3.heap.size + 1)) (c := (natc t 19 (some ⟨td, 0, none⟩) false false)) (by (repeat (first | with_reducible exact (At.new _ _ _ _ rfl) | with_reducible exact At.new _ _ _ _ rfl | ((with_reducible refine At.new _ _ _ _ ?sz); (case sz => simp; done)) | with_reducible refine At.drewN ?_ _ | with_reducible refine At.drew ?_ | with_reducible refine At.alloc ?_ _)); done) hb
  have F4 : Below w.heap.size w u4 := bnext (by repeat (first | with_reducible exact F3 | with_reducible refine Below.drew ?_ | with_reducible refine bdn ?_ _ | with_reducible refine bal ?_ _)) hb
  clear H_n n0 n1 n2 n3 n4 np nc
  clear H_t t0 t1 t2 t3 t4
  clear H_q q0 q1 q2 q3 q4 qp qc
  clear H_x x0 x1 x2 x3 x4 xp xc
  have np := N_n.plain
  have nc := N_n.cells
  have n0 := N_n.lt
  obtain ⟨n1, n2, n3, n4⟩ := szs N_n.lt
  have H_n := Lib.hid N_n
  clear N_n
  have t0 := N_t.lt
  obtain ⟨t1, t2, t3, t4⟩ := szs N_t.lt
  have H_t := Lib.hid N_t
  clear N_t
  have qp := N_q.plain
  have qc := N_q.cells
  have q0 := N_q.lt
  obtain ⟨q1, q2, q3, q4⟩ := szs N_q.lt
  have H_q := Lib.hid N_q
  clear N_q
  have xp := N_x.plain
  have xc := N_x.cells
  have x0 := N_x.lt
  obtain ⟨x1, x2, x3, x4⟩ := szs N_x.lt
  have H_x := Lib.hid N_x
  clear N_x
  have yp := N_y.plain
  have yc := N_y.cells
  have y0 := N_y.lt
  obtain ⟨y1, y2, y3, y4⟩ := szs N_y.lt
  have H_y := Lib.hid N_y
  clear N_y
  have mp := N_m.plain
  have mc := N_m.cells
  have m0 := N_m.lt
  obtain ⟨m1, m2, m3, m4⟩ := szs N_m.lt
  have H_m := Lib.hid N_m
  clear N_m
  clear hb
  go_wp2_with fail
  refine (ss_hi _).mono ?_
  rintro e u5 ⟨rfl, hb⟩
  have ne_z : u4.heap.size ≠ td := (by omega)
  have N_n : At u5 u1.heap.size (natc t 19 (some ⟨td, 0, none⟩) false false) := At.bel (n := u1.heap.size) (c := (natc t 19 (some ⟨td, 0, none⟩) false false)) (by (repeat (first | with_reducible exact H_n.out | with_reducible exact At.new _ _ _ _ rfl | ((with_reducible refine At.new _ _ _ _ ?sz); (case sz => simp; done)) | with_reducible refine At.drewN ?_ _ | with_reducible refine At.drew ?_ | with_reducible refine At.alloc ?_ _)); done) hb
  have N_t : Fs u5 td a b o (some ⟨q, 0, none⟩) := Fs.bel (td := td) (by repeat (first | with_reducible exact H_t.out | with_reducible refine Fs.drew ?_ | with_reducible refine Fs.drewN ?_ _ | with_reducible refine Fs.alloc ?_ _)) hb
  have N_q : At u5 q (natc 9 24 none false false) := At.bel (n := q) (c := (natc 9 24 none false false)) (by (repeat (first | with_reducible exact H_q.out | with_reducible exact At.new _ _ _ _ rfl | ((with_reducible refine At.new _ _ _ _ ?sz); (case sz => simp; done)) | with_reducible refine At.drewN ?_ _ | with_reducible refine At.drew ?_ | with_reducible refine At.alloc ?_ _)); done) hb
  have N_x : At u5 u2.heap.size (natc 9 24 none false false) := At.bel (n := u2.heap.size) (c := (natc 9 24 none false false)) (by (repeat (first | with_reducible exact H_x.out | with_reducible exact At.new _ _ _ _ rfl | ((with_reducible refine At.new _ _ _ _ ?sz); (case sz => simp; done)) | with_reducible refine At.drewN ?_ _ | with_reducible refine At.drew ?_ | with_reducible refine At.alloc ?_ _)); done) hb
  have N_y : At u5 u3.heap.size (natc 9 24 none false false) := At.bel (n := u3.heap.size) (c := (natc 9 24 none false false)) (by (repeat (first | with_reducible exact H_y.out | with_reducible exact At.new _ _ _ _ rfl | ((with_reducible refine At.new _ _ _ _ ?sz); (case sz => simp; done)) | with_reducible refine At.drewN ?_ _ | with_reducible refine At.drew ?_ | with_reducible refine At.alloc ?_ _)); done) hb
  have N_m : At u5 (u3.heap.size + 1) (natc t 19 (some ⟨td, 0, none⟩) false false) := At.bel (n := (u3.heap.size + 1)) (c := (natc t 19 (some ⟨td, 0, none⟩) false false)) (by (repeat (first | with_reducible exact H_m.out | with_reducible exact At.new _ _ _ _ rfl | ((with_reducible refine At.new _ _ _ _ ?sz); (case sz => simp; done)) | with_reducible refine At.drewN ?_ _ | with_reducible refine At.drew ?_ | with_reducible refine At.alloc ?_ _)); done) hb
  have N_z : At u5 u4.heap.size (natc 9 24 none false false) := At.bel (n := u4.heap.size) (c := (natc 9 24 none false false)) (by (repeat (first | with_reducible exact (At.new _ _ _ _ rfl) | with_reducible exact At.new _ _ _ _ rfl | ((with_reducible refine At.new _ _ _ _ ?sz); (case sz => simp; done)) | with_reducible refine At.drewN ?_ _ | with_reducible refine At.drew ?_ | with_reducible refine At.alloc ?_ _)); done) hb
  have F5 : Below w.heap.size w u5 := bnext (by repeat (first | with_reducible exact F4 | with_reducible refine Below.drew ?_ | with_reducible refine bdn ?_ _ | with_reducible refine bal ?_ _)) hb
  clear H_n n0 n1 n2 n3 n4 np nc
  clear H_t t0 t1 t2 t3 t4
  clear H_q q0 q1 q2 q3 q4 qp qc
  clear H_x x0 x1 x2 x3 x4 xp xc
  clear H_y y0 y1 y2 y3 y4 yp yc
  clear H_m m0 m1 m2 m3 m4 mp mc
  have np := N_n.plain
  have nc := N_n.cells
  have n0 := N_n.lt
  obtain ⟨n1, n2, n3, n4⟩ := szs N_n.lt
  have H_n := Lib.hid N_n
  clear N_n
  have t0 := N_t.lt
  obtain ⟨t1, t2, t3, t4⟩ := szs N_t.lt
  have H_t := Lib.hid N_t
  clear N_t
  have qp := N_q.plain
  have qc := N_q.cells
  have q0 := N_q.lt
  obtain ⟨q1, q2, q3, q4⟩ := szs N_q.lt
  have H_q := Lib.hid N_q
  clear N_q
  have xp := N_x.plain
  have xc := N_x.cells
  have x0 := N_x.lt
  obtain ⟨x1, x2, x3, x4⟩ := szs N_x.lt
  have H_x := Lib.hid N_x
  clear N_x
  have yp := N_y.plain
  have yc := N_y.cells
  have y0 := N_y.lt
  obtain ⟨y1, y2, y3, y4⟩ := szs N_y.lt
  have H_y := Lib.hid N_y
  clear N_y
  have mp := N_m.plain
  have mc := N_m.cells
  have m0 := N_m.lt
  obtain ⟨m1, m2, m3, m4⟩ := szs N_m.lt
  have H_m := Lib.hid N_m
  clear N_m
  have zp := N_z.plain
  have zc := N_z.cells
  have z0 := N_z.lt
  obtain ⟨z1, z2, z3, z4⟩ := szs N_z.lt
  have H_z := Lib.hid N_z
  clear N_z
  clear hb
  go_wp2_with fail
  refine (ss_hi _).mono ?_
  rintro e u6 ⟨rfl, hb⟩
  have N_n : At u6 u1.heap.size (natc t 19 (some ⟨td, 0, none⟩) false false) := At.bel (n := u1.heap.size) (c := (natc t 19 (some ⟨td, 0, none⟩) false false)) (by (repeat (first | with_reducible exact H_n.out | with_reducible exact At.new _ _ _ _ rfl | ((with_reducible refine At.new _ _ _ _ ?sz); (case sz => simp; done)) | with_reducible refine At.drewN ?_ _ | with_reducible refine At.drew ?_ | with_reducible refine At.alloc ?_ _)); done) hb
  have N_t : Fs u6 td a b o (some ⟨q, 0, none⟩) := Fs.bel (td := td) (by repeat (first | with_reducible exact H_t.out | with_reducible refine Fs.drew ?_ | with_reducible refine Fs.drewN ?_ _ | with_reducible refine Fs.alloc ?_ _)) hb
  have N_q : At u6 q (natc 9 24 none false false) := At.bel (n := q) (c := (natc 9 24 none false false)) (by (repeat (first | with_reducible exact H_q.out | with_reducible exact At.new _ _ _ _ rfl | ((with_reducible refine At.new _ _ _ _ ?sz); (case sz => simp; done)) | with_reducible refine At.drewN ?_ _ | with_reducible refine At.drew ?_ | with_reducible refine At.alloc ?_ _)); done) hb
  have N_x : At u6 u2.heap.size (natc 9 24 none false false) := At.bel (n := u2.heap.size) (c := (natc 9 24 none false false)) (by (repeat (first | with_reducible exact H_x.out | with_reducible exact At.new _ _ _ _ rfl | ((with_reducible refine At.new _ _ _ _ ?sz); (case sz => simp; done)) | with_reducible refine At.drewN ?_ _ | with_reducible refine At.drew ?_ | with_reducible refine At.alloc ?_ _)); done) hb
  have N_y : At u6 u3.heap.size (natc 9 24 none false false) := At.bel (n := u3.heap.size) (c := (natc 9 24 none false false)) (by (repeat (first | with_reducible exact H_y.out | with_reducible exact At.new _ _ _ _ rfl | ((with_reducible refine At.new _ _ _ _ ?sz); (case sz => simp; done)) | with_reducible refine At.drewN ?_ _ | with_reducible refine At.drew ?_ | with_reducible refine At.alloc ?_ _)); done) hb
  have N_m : At u6 (u3.heap.size + 1) (natc t 19 (some ⟨td, 0, none⟩) false false) := At.bel (n := (u3.heap.size + 1)) (c := (natc t 19 (some ⟨td, 0, none⟩) false false)) (by (repeat (first | with_reducible exact H_m.out | with_reducible exact At.new _ _ _ _ rfl | ((with_reducible refine At.new _ _ _ _ ?sz); (case sz => simp; done)) | with_reducible refine At.drewN ?_ _ | with_reducible refine At.drew ?_ | with_reducible refine At.alloc ?_ _)); done) hb
  have N_z : At u6 u4.heap.size (natc 9 24 none false false) := At.bel (n := u4.heap.size) (c := (natc 9 24 none false false)) (by (repeat (first | with_reducible exact H_z.out | with_reducible exact At.new _ _ _ _ rfl | ((with_reducible refine At.new _ _ _ _ ?sz); (case sz => simp; done)) | with_reducible refine At.drewN ?_ _ | with_reducible refine At.drew ?_ | with_reducible refine At.alloc ?_ _)); done) hb
  have F6 : Below w.heap.size w u6 := bnext (by repeat (first | with_reducible exact F5 | with_reducible refine Below.drew ?_ | with_reducible refine bdn ?_ _ | with_reducible refine bal ?_ _)) hb
  clear H_n n0 n1 n2 n3 n4 np nc
  clear H_t t0 t1 t2 t3 t4
  clear H_q q0 q1 q2 q3 q4 qp qc
  clear H_x x0 x1 x2 x3 x4 xp xc
  clear H_y y0 y1 y2 y3 y4 yp yc
  clear H_m m0 m1 m2 m3 m4 mp mc
  clear H_z z0 z1 z2 z3 z4 zp zc
  have np := N_n.plain
  have nc := N_n.cells
  have n0 := N_n.lt
  obtain ⟨n1, n2, n3, n4⟩ := szs N_n.lt
  have H_n := Lib.hid N_n
  clear N_n
  have t0 := N_t.lt
  obtain ⟨t1, t2, t3, t4⟩ := szs N_t.lt
  have H_t := Lib.hid N_t
  clear N_t
  have qp := N_q.plain
  have qc := N_q.cells
  have q0 := N_q.lt
  obtain ⟨q1, q2, q3, q4⟩ := szs N_q.lt
  have H_q := Lib.hid N_q
  clear N_q
  have xp := N_x.plain
  have xc := N_x.cells
  have x0 := N_x.lt
  obtain ⟨x1, x2, x3, x4⟩ := szs N_x.lt
  have H_x := Lib.hid N_x
  clear N_x
  have yp := N_y.plain
  have yc := N_y.cells
  have y0 := N_y.lt
  obtain ⟨y1, y2, y3, y4⟩ := szs N_y.lt
  have H_y := Lib.hid N_y
  clear N_y
  have mp := N_m.plain
  have mc := N_m.cells
  have m0 := N_m.lt
  obtain ⟨m1, m2, m3, m4⟩ := szs N_m.lt
  have H_m := Lib.hid N_m
  clear N_m
  have zp := N_z.plain
  have zc := N_z.cells
  have z0 := N_z.lt
  obtain ⟨z1, z2, z3, z4⟩ := szs N_z.lt
  have H_z := Lib.hid N_z
  clear N_z
  clear hb
  go_wp2_with fail
  have K3 := E1.out
  go_ret
  refine ⟨?_, (by repeat (first | with_reducible exact F6 | with_reducible refine Below.drew ?_ | with_reducible refine bdn ?_ _ | with_reducible refine bal ?_ _))⟩
  first
  | rfl
  | (simp; omega)
theorem below (a b o : Nat) (i j : Int) (hl : a + b + o ≤ 128) (h : i < 0) (w : World) : Calls Tryz.prog 5 #[.int .i64 a, .int .i64 b, .int .i64 o, .int .i64 i, .int .i64 j] w fun e w' => e = .returned (.bool true) ∧ Below w.heap.size w w' := by
  have HL := Lib.hid hl
  have hab : wrap64 ((a : Int) + (b : Int)) = (a : Int) + (b : Int) := w64 _ (by omega)
  clear hl
  go_enter Tryz.func5, Tryz.ntmps5
  go_wp2_with (go_at_call 26; ((with_reducible refine (zao_in a b o HL.out _).mono ?_); rintro e w' ⟨rfl, rfl⟩))
  go_ret
  exact ⟨rfl, Below.refl _ _⟩
theorem above (a b o : Nat) (i j : Int) (hl : a + b + o ≤ 128) (h : (a : Int) + b ≤ i) (w : World) : Calls Tryz.prog 5 #[.int .i64 a, .int .i64 b, .int .i64 o, .int .i64 i, .int .i64 j] w fun e w' => e = .returned (.bool true) ∧ Below w.heap.size w w' := by
  have HL := Lib.hid hl
  have hab : wrap64 ((a : Int) + (b : Int)) = (a : Int) + (b : Int) := w64 _ (by omega)
  have n1 : ¬ i < 0 := by omega
  clear hl
  go_enter Tryz.func5, Tryz.ntmps5
  go_wp2_with (go_at_call 26; ((with_reducible refine (zao_in a b o HL.out _).mono ?_); rintro e w' ⟨rfl, rfl⟩))
  go_ret
  exact ⟨rfl, Below.refl _ _⟩
theorem walk (a b o i j : Int) (w : World) (w0 : (Lit.int .i64 a).wf = true) (w1 : (Lit.int .i64 b).wf = true) (w2 : (Lit.int .i64 o).wf = true) (w3 : (Lit.int .i64 i).wf = true) (w4 : (Lit.int .i64 j).wf = true) : Calls Tryz.prog 5 #[.int .i64 a, .int .i64 b, .int .i64 o, .int .i64 i, .int .i64 j] w fun e w' => e = .returned (.bool true) ∧ Below w.heap.size w w' := by
  by_cases h : 0 ≤ a ∧ 0 ≤ b ∧ 0 ≤ o ∧ a + b + o ≤ 128
  · obtain ⟨ha, hb, ho, hl⟩ := h
    obtain ⟨a, rfl⟩ := Int.eq_ofNat_of_zero_le ha
    obtain ⟨b, rfl⟩ := Int.eq_ofNat_of_zero_le hb
    obtain ⟨o, rfl⟩ := Int.eq_ofNat_of_zero_le ho
    by_cases c1 : i < 0
    · exact below a b o i j (by omega) c1 w
    by_cases c2 : (a : Int) + b ≤ i
    · exact above a b o i j (by omega) c2 w
    by_cases c3 : i < a
    · exact in_lo2 a b o i j (by omega) (by omega) c3 w
    · exact in_hi2 a b o i j (by omega) (by omega) (by omega) w
  · exact outside a b o i j h w
end Go.Proofs.YtfmefomafdgfmaaGreat.fnInElemKeepsFirstAnswer
