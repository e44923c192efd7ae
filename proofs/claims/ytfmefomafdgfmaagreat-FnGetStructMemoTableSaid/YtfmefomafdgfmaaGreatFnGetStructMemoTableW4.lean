/-
  A part of the walk of FnGetStructMemoTable: getStruct answers a fixed table, and the same data on every later call for that type on that cache; another type and another cache get other data.
-/
import Derived.Test.YtfmefomafdgfmaaGreatFnGetStructMemoTableC
namespace Go.Proofs.YtfmefomafdgfmaaGreat.fnGetStructMemoTable
open Go.RowKit
set_option maxRecDepth 100000
set_option maxHeartbeats 1000000
set_option linter.unusedVariables false
theorem memo_3 (a : Int) (w0 : (Lit.int .i64 a).wf = true) (hz : a % 4 = 3) (w : World) : Calls Tryz.prog 13 #[.int .i64 a] w fun e w' => e = .returned (.bool true) ∧ Below w.heap.size w w' := by
  go_enter Tryz.func13, Tryz.ntmps13
  go_wp2_with (go_at_call 40; ((with_reducible refine (zmod _ _ (by decide) (by decide) (by first | exact w0 | decide) _).mono ?_); rintro e w' ⟨rfl, rfl⟩; try rw [hz]))
  refine (bzs_3 _).mono ?_
  rintro e u1 ⟨td0, rfl, hb⟩
  have F1 : Below w.heap.size w u1 := bnext (by repeat (first | with_reducible exact (Below.refl _ _) | with_reducible refine Below.drew ?_ | with_reducible refine bal ?_ _ | with_reducible refine bdn ?_ _)) hb
  clear hb
  go_wp2_with fail
  refine (zg1_117 _ _ (by (repeat (first | with_reducible exact (At.new _ _ _ _ rfl) | with_reducible exact At.new _ _ _ _ rfl | ((with_reducible refine At.new _ _ _ _ ?sz); (case sz => simp; done)) | with_reducible refine At.drewN ?_ _ | with_reducible refine At.drew ?_ | with_reducible refine At.alloc ?_ _)); done)).mono ?_
  rintro e u2 ⟨td, sd, mc, rfl, hb, f0, f1, f2, f3, l0, l1, l2⟩
  have hmc : w.heap.size ≤ mc := (by have h1 := F1.size; have h2 := l2; (try simp at h2); omega)
  have N_c : At u2 u1.heap.size (cac (some mc)) := f0
  have N_m : Ty u2 mc (fun a => if a = 117 then some td else none) := f1
  have N_t : At u2 td (tdc sd) := f2
  have N_s : At u2 sd (sd0 117 0) := f3
  have F2 : Below w.heap.size w u2 := bsole (by repeat (first | with_reducible exact F1 | with_reducible refine Below.drew ?_ | with_reducible refine bal ?_ _ | with_reducible refine bdn ?_ _)) hb F1.size
  have H_c := Lib.hid N_c
  have cp := N_c.plain
  have cc := N_c.cells
  have c0 := N_c.lt
  obtain ⟨c1, c2, c3, c4⟩ := szs N_c.lt
  clear N_c
  have H_m := Lib.hid N_m
  have mo := N_m.1
  have m0 := N_m.lt
  obtain ⟨m1, m2, m3, m4⟩ := szs N_m.lt
  clear N_m
  have H_t := Lib.hid N_t
  have tp := N_t.plain
  have tc := N_t.cells
  have t0 := N_t.lt
  obtain ⟨t1, t2, t3, t4⟩ := szs N_t.lt
  clear N_t
  have H_s := Lib.hid N_s
  have sp := N_s.plain
  have sc := N_s.cells
  have s0 := N_s.lt
  obtain ⟨s1, s2, s3, s4⟩ := szs N_s.lt
  clear N_s
  clear hb
  clear f0 f1 f2 f3 l0 l1 l2
  go_wp2_with (first | (go_at_call 36; refine (sc_117 _ _ (by simp [go_sem] <;> omega) (by simp [go_sem] <;> omega)).mono ?_; rintro e w' ⟨rfl, rfl⟩) | (go_at_call 46; ((with_reducible refine (zn_3 _).mono ?_); rintro e w' ⟨rfl, rfl⟩)) | (go_at_call 52; ((with_reducible refine (zf_3 _).mono ?_); rintro e w' ⟨rfl, rfl⟩)) | (go_at_call 51; ((with_reducible refine (nfh_117 td sd 0 _ (by (repeat (first | with_reducible exact H_t.out | with_reducible exact At.new _ _ _ _ rfl | ((with_reducible refine At.new _ _ _ _ ?sz); (case sz => simp; done)) | with_reducible refine At.drewN ?_ _ | with_reducible refine At.drew ?_ | with_reducible refine At.alloc ?_ _)); done) (by (repeat (first | with_reducible exact H_s.out | with_reducible exact At.new _ _ _ _ rfl | ((with_reducible refine At.new _ _ _ _ ?sz); (case sz => simp; done)) | with_reducible refine At.drewN ?_ _ | with_reducible refine At.drew ?_ | with_reducible refine At.alloc ?_ _)); done)).mono ?_); rintro e w' ⟨rfl, rfl⟩)) | (go_at_call 53; ((with_reducible refine (anh_117 td sd 0 _ (by (repeat (first | with_reducible exact H_t.out | with_reducible exact At.new _ _ _ _ rfl | ((with_reducible refine At.new _ _ _ _ ?sz); (case sz => simp; done)) | with_reducible refine At.drewN ?_ _ | with_reducible refine At.drew ?_ | with_reducible refine At.alloc ?_ _)); done) (by (repeat (first | with_reducible exact H_s.out | with_reducible exact At.new _ _ _ _ rfl | ((with_reducible refine At.new _ _ _ _ ?sz); (case sz => simp; done)) | with_reducible refine At.drewN ?_ _ | with_reducible refine At.drew ?_ | with_reducible refine At.alloc ?_ _)); done)).mono ?_); rintro e w' ⟨rfl, rfl⟩)))
  refine (zg2_117 td mc (fun a => if a = 117 then some td else none) _ _ (by (repeat (first | with_reducible exact H_c.out | with_reducible exact At.new _ _ _ _ rfl | ((with_reducible refine At.new _ _ _ _ ?sz); (case sz => simp; done)) | with_reducible refine At.drewN ?_ _ | with_reducible refine At.drew ?_ | with_reducible refine At.alloc ?_ _)); done) (by (repeat (first | with_reducible exact H_m.out | with_reducible refine Ty.drew ?_ | with_reducible refine Ty.alloc ?_ _)); done) (by simp)).mono ?_
  rintro e u3 ⟨rfl, hb⟩
  have N_c : At u3 u1.heap.size (cac (some mc)) := At.bel (n := u1.heap.size) (c := (cac (some mc))) (by repeat (first | with_reducible exact H_c.out | with_reducible refine At.drew ?_ | with_reducible refine At.alloc ?_ _ | with_reducible refine At.drewN ?_ _)) hb
  have N_m : Ty u3 mc (fun a => if a = 117 then some td else none) := Ty.bel (mc := mc) (G := (fun a => if a = 117 then some td else none)) (by repeat (first | with_reducible exact H_m.out | with_reducible refine Ty.drew ?_ | with_reducible refine Ty.alloc ?_ _)) hb
  have N_t : At u3 td (tdc sd) := At.bel (n := td) (c := (tdc sd)) (by repeat (first | with_reducible exact H_t.out | with_reducible refine At.drew ?_ | with_reducible refine At.alloc ?_ _ | with_reducible refine At.drewN ?_ _)) hb
  have N_s : At u3 sd (sd0 117 0) := At.bel (n := sd) (c := (sd0 117 0)) (by repeat (first | with_reducible exact H_s.out | with_reducible refine At.drew ?_ | with_reducible refine At.alloc ?_ _ | with_reducible refine At.drewN ?_ _)) hb
  have N_a : At u3 u2.heap.size (#[.iface 124 (.pointer (some ⟨0, 117, none⟩)), .int .u64 25, .pointer (some ⟨td, 0, none⟩), .pointer none, .bool false, .bool false, .bool false, .bool false, .bool false]) := At.bel (n := u2.heap.size) (c := (#[.iface 124 (.pointer (some ⟨0, 117, none⟩)), .int .u64 25, .pointer (some ⟨td, 0, none⟩), .pointer none, .bool false, .bool false, .bool false, .bool false, .bool false])) (by repeat (first | with_reducible exact (At.new _ _ _ _ rfl) | with_reducible refine At.drew ?_ | with_reducible refine At.alloc ?_ _ | with_reducible refine At.drewN ?_ _)) hb
  have F3 : Below w.heap.size w u3 := bnext (by repeat (first | with_reducible exact F2 | with_reducible refine Below.drew ?_ | with_reducible refine bal ?_ _ | with_reducible refine bdn ?_ _)) hb
  clear H_c cp cc c0 c1 c2 c3 c4 H_m mo m0 m1 m2 m3 m4 H_t tp tc t0 t1 t2 t3 t4 H_s sp sc s0 s1 s2 s3 s4
  have H_c := Lib.hid N_c
  have cp := N_c.plain
  have cc := N_c.cells
  have c0 := N_c.lt
  obtain ⟨c1, c2, c3, c4⟩ := szs N_c.lt
  clear N_c
  have H_m := Lib.hid N_m
  have mo := N_m.1
  have m0 := N_m.lt
  obtain ⟨m1, m2, m3, m4⟩ := szs N_m.lt
  clear N_m
  have H_t := Lib.hid N_t
  have tp := N_t.plain
  have tc := N_t.cells
  have t0 := N_t.lt
  obtain ⟨t1, t2, t3, t4⟩ := szs N_t.lt
  clear N_t
  have H_s := Lib.hid N_s
  have sp := N_s.plain
  have sc := N_s.cells
  have s0 := N_s.lt
  obtain ⟨s1, s2, s3, s4⟩ := szs N_s.lt
  clear N_s
  have H_a := Lib.hid N_a
  have ap := N_a.plain
  have ac := N_a.cells
  have a0 := N_a.lt
  obtain ⟨a1, a2, a3, a4⟩ := szs N_a.lt
  clear N_a
  clear hb
  go_wp2_with fail
  refine (ft_hit 117 kind_117 td mc (fun a => if a = 117 then some td else none) _ _ (by (repeat (first | with_reducible exact H_c.out | with_reducible exact At.new _ _ _ _ rfl | ((with_reducible refine At.new _ _ _ _ ?sz); (case sz => simp; done)) | with_reducible refine At.drewN ?_ _ | with_reducible refine At.drew ?_ | with_reducible refine At.alloc ?_ _)); done) (by (repeat (first | with_reducible exact H_m.out | with_reducible refine Ty.drew ?_ | with_reducible refine Ty.alloc ?_ _)); done) (by simp)).mono ?_
  rintro e u4 ⟨rfl, hb⟩
  have N_c : At u4 u1.heap.size (cac (some mc)) := At.bel (n := u1.heap.size) (c := (cac (some mc))) (by repeat (first | with_reducible exact H_c.out | with_reducible refine At.drew ?_ | with_reducible refine At.alloc ?_ _ | with_reducible refine At.drewN ?_ _)) hb
  have N_m : Ty u4 mc (fun a => if a = 117 then some td else none) := Ty.bel (mc := mc) (G := (fun a => if a = 117 then some td else none)) (by repeat (first | with_reducible exact H_m.out | with_reducible refine Ty.drew ?_ | with_reducible refine Ty.alloc ?_ _)) hb
  have N_t : At u4 td (tdc sd) := At.bel (n := td) (c := (tdc sd)) (by repeat (first | with_reducible exact H_t.out | with_reducible refine At.drew ?_ | with_reducible refine At.alloc ?_ _ | with_reducible refine At.drewN ?_ _)) hb
  have N_s : At u4 sd (sd0 117 0) := At.bel (n := sd) (c := (sd0 117 0)) (by repeat (first | with_reducible exact H_s.out | with_reducible refine At.drew ?_ | with_reducible refine At.alloc ?_ _ | with_reducible refine At.drewN ?_ _)) hb
  have N_a : At u4 u2.heap.size (#[.iface 124 (.pointer (some ⟨0, 117, none⟩)), .int .u64 25, .pointer (some ⟨td, 0, none⟩), .pointer none, .bool false, .bool false, .bool false, .bool false, .bool false]) := At.bel (n := u2.heap.size) (c := (#[.iface 124 (.pointer (some ⟨0, 117, none⟩)), .int .u64 25, .pointer (some ⟨td, 0, none⟩), .pointer none, .bool false, .bool false, .bool false, .bool false, .bool false])) (by repeat (first | with_reducible exact H_a.out | with_reducible refine At.drew ?_ | with_reducible refine At.alloc ?_ _ | with_reducible refine At.drewN ?_ _)) hb
  have F4 : Below w.heap.size w u4 := bnext (by repeat (first | with_reducible exact F3 | with_reducible refine Below.drew ?_ | with_reducible refine bal ?_ _ | with_reducible refine bdn ?_ _)) hb
  clear H_c cp cc c0 c1 c2 c3 c4 H_m mo m0 m1 m2 m3 m4 H_t tp tc t0 t1 t2 t3 t4 H_s sp sc s0 s1 s2 s3 s4 H_a ap ac a0 a1 a2 a3 a4
  have H_c := Lib.hid N_c
  have cp := N_c.plain
  have cc := N_c.cells
  have c0 := N_c.lt
  obtain ⟨c1, c2, c3, c4⟩ := szs N_c.lt
  clear N_c
  have H_m := Lib.hid N_m
  have mo := N_m.1
  have m0 := N_m.lt
  obtain ⟨m1, m2, m3, m4⟩ := szs N_m.lt
  clear N_m
  have H_t := Lib.hid N_t
  have tp := N_t.plain
  have tc := N_t.cells
  have t0 := N_t.lt
  obtain ⟨t1, t2, t3, t4⟩ := szs N_t.lt
  clear N_t
  have H_s := Lib.hid N_s
  have sp := N_s.plain
  have sc := N_s.cells
  have s0 := N_s.lt
  obtain ⟨s1, s2, s3, s4⟩ := szs N_s.lt
  clear N_s
  have H_a := Lib.hid N_a
  have ap := N_a.plain
  have ac := N_a.cells
  have a0 := N_a.lt
  obtain ⟨a1, a2, a3, a4⟩ := szs N_a.lt
  clear N_a
  clear hb
  go_wp2_with (go_at_call 40; ((with_reducible refine (zmk_3 _).mono ?_); rintro e w' ⟨rfl, rfl⟩))
  refine (bzs_0 _).mono ?_
  rintro e u5 ⟨td9, rfl, hb⟩
  have N_c : At u5 u1.heap.size (cac (some mc)) := At.bel (n := u1.heap.size) (c := (cac (some mc))) (by repeat (first | with_reducible exact H_c.out | with_reducible refine At.drew ?_ | with_reducible refine At.alloc ?_ _ | with_reducible refine At.drewN ?_ _)) hb
  have N_m : Ty u5 mc (fun a => if a = 117 then some td else none) := Ty.bel (mc := mc) (G := (fun a => if a = 117 then some td else none)) (by repeat (first | with_reducible exact H_m.out | with_reducible refine Ty.drew ?_ | with_reducible refine Ty.alloc ?_ _)) hb
  have N_t : At u5 td (tdc sd) := At.bel (n := td) (c := (tdc sd)) (by repeat (first | with_reducible exact H_t.out | with_reducible refine At.drew ?_ | with_reducible refine At.alloc ?_ _ | with_reducible refine At.drewN ?_ _)) hb
  have N_s : At u5 sd (sd0 117 0) := At.bel (n := sd) (c := (sd0 117 0)) (by repeat (first | with_reducible exact H_s.out | with_reducible refine At.drew ?_ | with_reducible refine At.alloc ?_ _ | with_reducible refine At.drewN ?_ _)) hb
  have N_a : At u5 u2.heap.size (#[.iface 124 (.pointer (some ⟨0, 117, none⟩)), .int .u64 25, .pointer (some ⟨td, 0, none⟩), .pointer none, .bool false, .bool false, .bool false, .bool false, .bool false]) := At.bel (n := u2.heap.size) (c := (#[.iface 124 (.pointer (some ⟨0, 117, none⟩)), .int .u64 25, .pointer (some ⟨td, 0, none⟩), .pointer none, .bool false, .bool false, .bool false, .bool false, .bool false])) (by repeat (first | with_reducible exact H_a.out | with_reducible refine At.drew ?_ | with_reducible refine At.alloc ?_ _ | with_reducible refine At.drewN ?_ _)) hb
  have F5 : Below w.heap.size w u5 := bnext (by repeat (first | with_reducible exact F4 | with_reducible refine Below.drew ?_ | with_reducible refine bal ?_ _ | with_reducible refine bdn ?_ _)) hb
  clear H_c cp cc c0 c1 c2 c3 c4 H_m mo m0 m1 m2 m3 m4 H_t tp tc t0 t1 t2 t3 t4 H_s sp sc s0 s1 s2 s3 s4 H_a ap ac a0 a1 a2 a3 a4
  have H_c := Lib.hid N_c
  have cp := N_c.plain
  have cc := N_c.cells
  have c0 := N_c.lt
  obtain ⟨c1, c2, c3, c4⟩ := szs N_c.lt
  clear N_c
  have H_m := Lib.hid N_m
  have mo := N_m.1
  have m0 := N_m.lt
  obtain ⟨m1, m2, m3, m4⟩ := szs N_m.lt
  clear N_m
  have H_t := Lib.hid N_t
  have tp := N_t.plain
  have tc := N_t.cells
  have t0 := N_t.lt
  obtain ⟨t1, t2, t3, t4⟩ := szs N_t.lt
  clear N_t
  have H_s := Lib.hid N_s
  have sp := N_s.plain
  have sc := N_s.cells
  have s0 := N_s.lt
  obtain ⟨s1, s2, s3, s4⟩ := szs N_s.lt
  clear N_s
  have H_a := Lib.hid N_a
  have ap := N_a.plain
  have ac := N_a.cells
  have a0 := N_a.lt
  obtain ⟨a1, a2, a3, a4⟩ := szs N_a.lt
  clear N_a
  clear hb
  go_wp2_with fail
  refine (zg3_111 mc (fun a => if a = 117 then some td else none) _ _ (by (repeat (first | with_reducible exact H_c.out | with_reducible exact At.new _ _ _ _ rfl | ((with_reducible refine At.new _ _ _ _ ?sz); (case sz => simp; done)) | with_reducible refine At.drewN ?_ _ | with_reducible refine At.drew ?_ | with_reducible refine At.alloc ?_ _)); done) (by (repeat (first | with_reducible exact H_m.out | with_reducible refine Ty.drew ?_ | with_reducible refine Ty.alloc ?_ _)); done) (by simp)).mono ?_
  rintro e u6 ⟨td2, sd2, rfl, hb, f0, f1, f2, l0, l1⟩
  have d2 : ¬ td2 = td := (by have h2 := l0; (try simp at h2); omega)
  have N_c : At u6 u1.heap.size (cac (some mc)) := At.sole (n := u1.heap.size) (c := (cac (some mc))) (by repeat (first | with_reducible exact H_c.out | with_reducible refine At.drew ?_ | with_reducible refine At.alloc ?_ _ | with_reducible refine At.drewN ?_ _)) hb (by first | omega | (have := (H_c.out).lt; omega) | exact Ne.symm (Ty.ne H_m.out H_c.out))
  have N_t : At u6 td (tdc sd) := At.sole (n := td) (c := (tdc sd)) (by repeat (first | with_reducible exact H_t.out | with_reducible refine At.drew ?_ | with_reducible refine At.alloc ?_ _ | with_reducible refine At.drewN ?_ _)) hb (by first | omega | (have := (H_t.out).lt; omega) | exact Ne.symm (Ty.ne H_m.out H_t.out))
  have N_s : At u6 sd (sd0 117 0) := At.sole (n := sd) (c := (sd0 117 0)) (by repeat (first | with_reducible exact H_s.out | with_reducible refine At.drew ?_ | with_reducible refine At.alloc ?_ _ | with_reducible refine At.drewN ?_ _)) hb (by first | omega | (have := (H_s.out).lt; omega) | exact Ne.symm (Ty.ne H_m.out H_s.out))
  have N_a : At u6 u2.heap.size (#[.iface 124 (.pointer (some ⟨0, 117, none⟩)), .int .u64 25, .pointer (some ⟨td, 0, none⟩), .pointer none, .bool false, .bool false, .bool false, .bool false, .bool false]) := At.sole (n := u2.heap.size) (c := (#[.iface 124 (.pointer (some ⟨0, 117, none⟩)), .int .u64 25, .pointer (some ⟨td, 0, none⟩), .pointer none, .bool false, .bool false, .bool false, .bool false, .bool false])) (by repeat (first | with_reducible exact H_a.out | with_reducible refine At.drew ?_ | with_reducible refine At.alloc ?_ _ | with_reducible refine At.drewN ?_ _)) hb (by first | omega | (have := (H_a.out).lt; omega) | exact Ne.symm (Ty.ne H_m.out H_a.out))
  have N_m : Ty u6 mc (fun a => if a = 111 then some td2 else (fun a => if a = 117 then some td else none) a) := f0
  have N_y : At u6 td2 (tdc sd2) := f1
  have N_z : At u6 sd2 (sd0 111 2) := f2
  have F6 : Below w.heap.size w u6 := bsole (by repeat (first | with_reducible exact F5 | with_reducible refine Below.drew ?_ | with_reducible refine bal ?_ _ | with_reducible refine bdn ?_ _)) hb hmc
  clear H_c cp cc c0 c1 c2 c3 c4 H_m mo m0 m1 m2 m3 m4 H_t tp tc t0 t1 t2 t3 t4 H_s sp sc s0 s1 s2 s3 s4 H_a ap ac a0 a1 a2 a3 a4
  have H_c := Lib.hid N_c
  have cp := N_c.plain
  have cc := N_c.cells
  have c0 := N_c.lt
  obtain ⟨c1, c2, c3, c4⟩ := szs N_c.lt
  clear N_c
  have H_t := Lib.hid N_t
  have tp := N_t.plain
  have tc := N_t.cells
  have t0 := N_t.lt
  obtain ⟨t1, t2, t3, t4⟩ := szs N_t.lt
  clear N_t
  have H_s := Lib.hid N_s
  have sp := N_s.plain
  have sc := N_s.cells
  have s0 := N_s.lt
  obtain ⟨s1, s2, s3, s4⟩ := szs N_s.lt
  clear N_s
  have H_a := Lib.hid N_a
  have ap := N_a.plain
  have ac := N_a.cells
  have a0 := N_a.lt
  obtain ⟨a1, a2, a3, a4⟩ := szs N_a.lt
  clear N_a
  have H_m := Lib.hid N_m
  have mo := N_m.1
  have m0 := N_m.lt
  obtain ⟨m1, m2, m3, m4⟩ := szs N_m.lt
  clear N_m
  have H_y := Lib.hid N_y
  have yp := N_y.plain
  have yc := N_y.cells
  have y0 := N_y.lt
  obtain ⟨y1, y2, y3, y4⟩ := szs N_y.lt
  clear N_y
  have H_z := Lib.hid N_z
  have zp := N_z.plain
  have zc := N_z.cells
  have z0 := N_z.lt
  obtain ⟨z1, z2, z3, z4⟩ := szs N_z.lt
  clear N_z
  clear hb
  clear f0 f1 f2 l0 l1
  go_wp2_with (first | (go_at_call 36; refine (sc_111 _ _ (by simp [go_sem] <;> omega) (by simp [go_sem] <;> omega)).mono ?_; rintro e w' ⟨rfl, rfl⟩) | (go_at_call 46; ((with_reducible refine (zn_0 _).mono ?_); rintro e w' ⟨rfl, rfl⟩)) | (go_at_call 52; ((with_reducible refine (zf_0 _).mono ?_); rintro e w' ⟨rfl, rfl⟩)) | (go_at_call 51; ((with_reducible refine (nfh_111 td2 sd2 2 _ (by (repeat (first | with_reducible exact H_y.out | with_reducible exact At.new _ _ _ _ rfl | ((with_reducible refine At.new _ _ _ _ ?sz); (case sz => simp; done)) | with_reducible refine At.drewN ?_ _ | with_reducible refine At.drew ?_ | with_reducible refine At.alloc ?_ _)); done) (by (repeat (first | with_reducible exact H_z.out | with_reducible exact At.new _ _ _ _ rfl | ((with_reducible refine At.new _ _ _ _ ?sz); (case sz => simp; done)) | with_reducible refine At.drewN ?_ _ | with_reducible refine At.drew ?_ | with_reducible refine At.alloc ?_ _)); done)).mono ?_); rintro e w' ⟨rfl, rfl⟩)) | (go_at_call 53; ((with_reducible refine (anh_111 td2 sd2 2 _ (by (repeat (first | with_reducible exact H_y.out | with_reducible exact At.new _ _ _ _ rfl | ((with_reducible refine At.new _ _ _ _ ?sz); (case sz => simp; done)) | with_reducible refine At.drewN ?_ _ | with_reducible refine At.drew ?_ | with_reducible refine At.alloc ?_ _)); done) (by (repeat (first | with_reducible exact H_z.out | with_reducible exact At.new _ _ _ _ rfl | ((with_reducible refine At.new _ _ _ _ ?sz); (case sz => simp; done)) | with_reducible refine At.drewN ?_ _ | with_reducible refine At.drew ?_ | with_reducible refine At.alloc ?_ _)); done)).mono ?_); rintro e w' ⟨rfl, rfl⟩)))
  refine (zg2_117 td mc (fun a => if a = 111 then some td2 else (fun a => if a = 117 then some td else none) a) _ _ (by (repeat (first | with_reducible exact H_c.out | with_reducible exact At.new _ _ _ _ rfl | ((with_reducible refine At.new _ _ _ _ ?sz); (case sz => simp; done)) | with_reducible refine At.drewN ?_ _ | with_reducible refine At.drew ?_ | with_reducible refine At.alloc ?_ _)); done) (by (repeat (first | with_reducible exact H_m.out | with_reducible refine Ty.drew ?_ | with_reducible refine Ty.alloc ?_ _)); done) (by simp)).mono ?_
  rintro e u7 ⟨rfl, hb⟩
  have N_c : At u7 u1.heap.size (cac (some mc)) := At.bel (n := u1.heap.size) (c := (cac (some mc))) (by repeat (first | with_reducible exact H_c.out | with_reducible refine At.drew ?_ | with_reducible refine At.alloc ?_ _ | with_reducible refine At.drewN ?_ _)) hb
  have N_t : At u7 td (tdc sd) := At.bel (n := td) (c := (tdc sd)) (by repeat (first | with_reducible exact H_t.out | with_reducible refine At.drew ?_ | with_reducible refine At.alloc ?_ _ | with_reducible refine At.drewN ?_ _)) hb
  have N_s : At u7 sd (sd0 117 0) := At.bel (n := sd) (c := (sd0 117 0)) (by repeat (first | with_reducible exact H_s.out | with_reducible refine At.drew ?_ | with_reducible refine At.alloc ?_ _ | with_reducible refine At.drewN ?_ _)) hb
  have N_a : At u7 u2.heap.size (#[.iface 124 (.pointer (some ⟨0, 117, none⟩)), .int .u64 25, .pointer (some ⟨td, 0, none⟩), .pointer none, .bool false, .bool false, .bool false, .bool false, .bool false]) := At.bel (n := u2.heap.size) (c := (#[.iface 124 (.pointer (some ⟨0, 117, none⟩)), .int .u64 25, .pointer (some ⟨td, 0, none⟩), .pointer none, .bool false, .bool false, .bool false, .bool false, .bool false])) (by repeat (first | with_reducible exact H_a.out | with_reducible refine At.drew ?_ | with_reducible refine At.alloc ?_ _ | with_reducible refine At.drewN ?_ _)) hb
  have N_m : Ty u7 mc (fun a => if a = 111 then some td2 else (fun a => if a = 117 then some td else none) a) := Ty.bel (mc := mc) (G := (fun a => if a = 111 then some td2 else (fun a => if a = 117 then some td else none) a)) (by repeat (first | with_reducible exact H_m.out | with_reducible refine Ty.drew ?_ | with_reducible refine Ty.alloc ?_ _)) hb
  have N_y : At u7 td2 (tdc sd2) := At.bel (n := td2) (c := (tdc sd2)) (by repeat (first | with_reducible exact H_y.out | with_reducible refine At.drew ?_ | with_reducible refine At.alloc ?_ _ | with_reducible refine At.drewN ?_ _)) hb
  have N_z : At u7 sd2 (sd0 111 2) := At.bel (n := sd2) (c := (sd0 111 2)) (by repeat (first | with_reducible exact H_z.out | with_reducible refine At.drew ?_ | with_reducible refine At.alloc ?_ _ | with_reducible refine At.drewN ?_ _)) hb
  have F7 : Below w.heap.size w u7 := bnext (by repeat (first | with_reducible exact F6 | with_reducible refine Below.drew ?_ | with_reducible refine bal ?_ _ | with_reducible refine bdn ?_ _)) hb
  clear H_c cp cc c0 c1 c2 c3 c4 H_t tp tc t0 t1 t2 t3 t4 H_s sp sc s0 s1 s2 s3 s4 H_a ap ac a0 a1 a2 a3 a4 H_m mo m0 m1 m2 m3 m4 H_y yp yc y0 y1 y2 y3 y4 H_z zp zc z0 z1 z2 z3 z4
  have H_c := Lib.hid N_c
  have cp := N_c.plain
  have cc := N_c.cells
  have c0 := N_c.lt
  obtain ⟨c1, c2, c3, c4⟩ := szs N_c.lt
  clear N_c
  have H_t := Lib.hid N_t
  have tp := N_t.plain
  have tc := N_t.cells
  have t0 := N_t.lt
  obtain ⟨t1, t2, t3, t4⟩ := szs N_t.lt
  clear N_t
  have H_s := Lib.hid N_s
  have sp := N_s.plain
  have sc := N_s.cells
  have s0 := N_s.lt
  obtain ⟨s1, s2, s3, s4⟩ := szs N_s.lt
  clear N_s
  have H_a := Lib.hid N_a
  have ap := N_a.plain
  have ac := N_a.cells
  have a0 := N_a.lt
  obtain ⟨a1, a2, a3, a4⟩ := szs N_a.lt
  clear N_a
  have H_m := Lib.hid N_m
  have mo := N_m.1
  have m0 := N_m.lt
  obtain ⟨m1, m2, m3, m4⟩ := szs N_m.lt
  clear N_m
  have H_y := Lib.hid N_y
  have yp := N_y.plain
  have yc := N_y.cells
  have y0 := N_y.lt
  obtain ⟨y1, y2, y3, y4⟩ := szs N_y.lt
  clear N_y
  have H_z := Lib.hid N_z
  have zp := N_z.plain
  have zc := N_z.cells
  have z0 := N_z.lt
  obtain ⟨z1, z2, z3, z4⟩ := szs N_z.lt
  clear N_z
  clear hb
  go_wp2_with fail
  refine (zg1_117 (u7.heap.size + 1) _ (by (repeat (first | with_reducible exact (At.new _ _ _ _ rfl) | with_reducible exact At.new _ _ _ _ rfl | ((with_reducible refine At.new _ _ _ _ ?sz); (case sz => simp; done)) | with_reducible refine At.drewN ?_ _ | with_reducible refine At.drew ?_ | with_reducible refine At.alloc ?_ _)); done)).mono ?_
  rintro e u8 ⟨td3, sd3, mc3, rfl, hb, f0, f1, f2, f3, l0, l1, l2⟩
  have d3 : ¬ td3 = td := (by have h2 := l0; (try simp at h2); omega)
  have N_c : At u8 u1.heap.size (cac (some mc)) := At.sole (n := u1.heap.size) (c := (cac (some mc))) (by repeat (first | with_reducible exact H_c.out | with_reducible refine At.drew ?_ | with_reducible refine At.alloc ?_ _ | with_reducible refine At.drewN ?_ _)) hb (by first | omega | (have := (H_c.out).lt; simp at *; omega))
  have N_t : At u8 td (tdc sd) := At.sole (n := td) (c := (tdc sd)) (by repeat (first | with_reducible exact H_t.out | with_reducible refine At.drew ?_ | with_reducible refine At.alloc ?_ _ | with_reducible refine At.drewN ?_ _)) hb (by first | omega | (have := (H_t.out).lt; simp at *; omega))
  have N_s : At u8 sd (sd0 117 0) := At.sole (n := sd) (c := (sd0 117 0)) (by repeat (first | with_reducible exact H_s.out | with_reducible refine At.drew ?_ | with_reducible refine At.alloc ?_ _ | with_reducible refine At.drewN ?_ _)) hb (by first | omega | (have := (H_s.out).lt; simp at *; omega))
  have N_a : At u8 u2.heap.size (#[.iface 124 (.pointer (some ⟨0, 117, none⟩)), .int .u64 25, .pointer (some ⟨td, 0, none⟩), .pointer none, .bool false, .bool false, .bool false, .bool false, .bool false]) := At.sole (n := u2.heap.size) (c := (#[.iface 124 (.pointer (some ⟨0, 117, none⟩)), .int .u64 25, .pointer (some ⟨td, 0, none⟩), .pointer none, .bool false, .bool false, .bool false, .bool false, .bool false])) (by repeat (first | with_reducible exact H_a.out | with_reducible refine At.drew ?_ | with_reducible refine At.alloc ?_ _ | with_reducible refine At.drewN ?_ _)) hb (by first | omega | (have := (H_a.out).lt; simp at *; omega))
  have N_m : Ty u8 mc (fun a => if a = 111 then some td2 else (fun a => if a = 117 then some td else none) a) := Ty.sole (mc := mc) (G := (fun a => if a = 111 then some td2 else (fun a => if a = 117 then some td else none) a)) (by repeat (first | with_reducible exact H_m.out | with_reducible refine Ty.drew ?_ | with_reducible refine Ty.alloc ?_ _)) hb (by first | omega | (have := (H_m.out).lt; simp at *; omega))
  have N_y : At u8 td2 (tdc sd2) := At.sole (n := td2) (c := (tdc sd2)) (by repeat (first | with_reducible exact H_y.out | with_reducible refine At.drew ?_ | with_reducible refine At.alloc ?_ _ | with_reducible refine At.drewN ?_ _)) hb (by first | omega | (have := (H_y.out).lt; simp at *; omega))
  have N_z : At u8 sd2 (sd0 111 2) := At.sole (n := sd2) (c := (sd0 111 2)) (by repeat (first | with_reducible exact H_z.out | with_reducible refine At.drew ?_ | with_reducible refine At.alloc ?_ _ | with_reducible refine At.drewN ?_ _)) hb (by first | omega | (have := (H_z.out).lt; simp at *; omega))
  have N_d : At u8 (u7.heap.size + 1) (cac (some mc3)) := f0
  have N_p : At u8 td3 (tdc sd3) := f2
  have N_q : At u8 sd3 (sd0 117 0) := f3
  have F8 : Below w.heap.size w u8 := bsole (by repeat (first | with_reducible exact F7 | with_reducible refine Below.drew ?_ | with_reducible refine bal ?_ _ | with_reducible refine bdn ?_ _)) hb (by have := F7.size; omega)
  clear H_c cp cc c0 c1 c2 c3 c4 H_t tp tc t0 t1 t2 t3 t4 H_s sp sc s0 s1 s2 s3 s4 H_a ap ac a0 a1 a2 a3 a4 H_m mo m0 m1 m2 m3 m4 H_y yp yc y0 y1 y2 y3 y4 H_z zp zc z0 z1 z2 z3 z4
  have H_c := Lib.hid N_c
  have cp := N_c.plain
  have cc := N_c.cells
  have c0 := N_c.lt
  obtain ⟨c1, c2, c3, c4⟩ := szs N_c.lt
  clear N_c
  have H_t := Lib.hid N_t
  have tp := N_t.plain
  have tc := N_t.cells
  have t0 := N_t.lt
  obtain ⟨t1, t2, t3, t4⟩ := szs N_t.lt
  clear N_t
  have H_s := Lib.hid N_s
  have sp := N_s.plain
  have sc := N_s.cells
  have s0 := N_s.lt
  obtain ⟨s1, s2, s3, s4⟩ := szs N_s.lt
  clear N_s
  have H_a := Lib.hid N_a
  have ap := N_a.plain
  have ac := N_a.cells
  have a0 := N_a.lt
  obtain ⟨a1, a2, a3, a4⟩ := szs N_a.lt
  clear N_a
  have H_m := Lib.hid N_m
  have mo := N_m.1
  have m0 := N_m.lt
  obtain ⟨m1, m2, m3, m4⟩ := szs N_m.lt
  clear N_m
  have H_y := Lib.hid N_y
  have yp := N_y.plain
  have yc := N_y.cells
  have y0 := N_y.lt
  obtain ⟨y1, y2, y3, y4⟩ := szs N_y.lt
  clear N_y
  have H_z := Lib.hid N_z
  have zp := N_z.plain
  have zc := N_z.cells
  have z0 := N_z.lt
  obtain ⟨z1, z2, z3, z4⟩ := szs N_z.lt
  clear N_z
  have H_d := Lib.hid N_d
  have dp := N_d.plain
  have dc := N_d.cells
  have d0 := N_d.lt
  obtain ⟨d1, d2, d3, d4⟩ := szs N_d.lt
  clear N_d
  have H_p := Lib.hid N_p
  have pp := N_p.plain
  have pc := N_p.cells
  have p0 := N_p.lt
  obtain ⟨p1, p2, p3, p4⟩ := szs N_p.lt
  clear N_p
  have H_q := Lib.hid N_q
  have qp := N_q.plain
  have qc := N_q.cells
  have q0 := N_q.lt
  obtain ⟨q1, q2, q3, q4⟩ := szs N_q.lt
  clear N_q
  clear hb
  clear f0 f1 f2 f3 l0 l1 l2
  go_wp2_with (first | (go_at_call 36; refine (sc_117 _ _ (by simp [go_sem] <;> omega) (by simp [go_sem] <;> omega)).mono ?_; rintro e w' ⟨rfl, rfl⟩) | (go_at_call 46; ((with_reducible refine (zn_3 _).mono ?_); rintro e w' ⟨rfl, rfl⟩)) | (go_at_call 52; ((with_reducible refine (zf_3 _).mono ?_); rintro e w' ⟨rfl, rfl⟩)) | (go_at_call 51; ((with_reducible refine (nfh_117 td3 sd3 0 _ (by (repeat (first | with_reducible exact H_p.out | with_reducible exact At.new _ _ _ _ rfl | ((with_reducible refine At.new _ _ _ _ ?sz); (case sz => simp; done)) | with_reducible refine At.drewN ?_ _ | with_reducible refine At.drew ?_ | with_reducible refine At.alloc ?_ _)); done) (by (repeat (first | with_reducible exact H_q.out | with_reducible exact At.new _ _ _ _ rfl | ((with_reducible refine At.new _ _ _ _ ?sz); (case sz => simp; done)) | with_reducible refine At.drewN ?_ _ | with_reducible refine At.drew ?_ | with_reducible refine At.alloc ?_ _)); done)).mono ?_); rintro e w' ⟨rfl, rfl⟩)) | (go_at_call 53; ((with_reducible refine (anh_117 td3 sd3 0 _ (by (repeat (first | with_reducible exact H_p.out | with_reducible exact At.new _ _ _ _ rfl | ((with_reducible refine At.new _ _ _ _ ?sz); (case sz => simp; done)) | with_reducible refine At.drewN ?_ _ | with_reducible refine At.drew ?_ | with_reducible refine At.alloc ?_ _)); done) (by (repeat (first | with_reducible exact H_q.out | with_reducible exact At.new _ _ _ _ rfl | ((with_reducible refine At.new _ _ _ _ ?sz); (case sz => simp; done)) | with_reducible refine At.drewN ?_ _ | with_reducible refine At.drew ?_ | with_reducible refine At.alloc ?_ _)); done)).mono ?_); rintro e w' ⟨rfl, rfl⟩)))
  go_ret
  exact ⟨rfl, (by repeat (first | with_reducible exact F8 | with_reducible refine Below.drew ?_ | with_reducible refine bal ?_ _ | with_reducible refine bdn ?_ _))⟩
end Go.Proofs.YtfmefomafdgfmaaGreat.fnGetStructMemoTable
