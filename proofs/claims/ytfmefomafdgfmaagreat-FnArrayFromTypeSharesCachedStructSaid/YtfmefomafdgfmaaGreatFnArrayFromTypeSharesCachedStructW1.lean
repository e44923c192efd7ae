/-
  A part of the walk of FnArrayFromTypeSharesCachedStruct: Over any number of calls on one cache ArrayFromType gives the []any nature whose element shares the one TypeData, each call with a cell of its own; without a cache the TypeData are distinct.
-/
import Derived.Test.YtfmefomafdgfmaaGreatFnArrayFromTypeSharesCachedStructC
import Derived.Test.YtfmefomafdgfmaaGreatFnArrayFromTypeSharesCachedStructC1
namespace Go.Proofs.YtfmefomafdgfmaaGreat.fnArrayFromTypeSharesCachedStruct
open Go.RowKit
set_option maxRecDepth 100000
set_option maxHeartbeats 1000000
set_option linter.unusedVariables false
theorem case_low (a : Int) (h : a < 1) (w : World) : Calls Tryz.prog 12 #[.int .i64 a] w fun e w' => e = .returned (.bool true) ∧ Below w.heap.size w w' := by
  go_enter Tryz.func12, Tryz.ntmps12
  go_wp2
  go_ret
  exact ⟨rfl, Below.refl _ _⟩
theorem case_high (a : Int) (h : 65536 < a) (w : World) : Calls Tryz.prog 12 #[.int .i64 a] w fun e w' => e = .returned (.bool true) ∧ Below w.heap.size w w' := by
  go_enter Tryz.func12, Tryz.ntmps12
  go_wp2
  go_ret
  exact ⟨rfl, Below.refl _ _⟩
theorem inside (a : Int) (h0 : 1 ≤ a) (h1 : a ≤ 65536) (w : World) : Calls Tryz.prog 12 #[.int .i64 a] w fun e w' => e = .returned (.bool true) ∧ Below w.heap.size w w' := by
  go_enter Tryz.func12, Tryz.ntmps12
  go_wp2_with fail
  refine (cz_first w.heap.size _ (by (repeat (first | with_reducible exact (At.new _ _ _ _ rfl) | with_reducible exact At.new _ _ _ _ rfl | ((with_reducible refine At.new _ _ _ _ ?sz); (case sz => simp; done)) | with_reducible refine At.drewN ?_ _ | with_reducible refine At.drew ?_ | with_reducible refine At.alloc ?_ _)); done)).mono ?_
  rintro e u1 ⟨td, sd, mc, rfl, hb, f0, f1, f2, f3, l0, l1, l2⟩
  have N_c : At u1 w.heap.size (cac (some mc)) := f0
  have N_m : Ty u1 mc (fun a => if a = 92 then some td else none) := f1
  have N_t : At u1 td (tdc sd) := f2
  have F1 : Below w.heap.size w u1 := bsole (by repeat (first | with_reducible exact (Below.refl _ _) | with_reducible refine Below.drew ?_ | with_reducible refine bal ?_ _ | with_reducible refine bdn ?_ _)) hb (Nat.le_refl _)
  have H_c := Lib.hid N_c
  have cp := N_c.plain
  have cc := N_c.cells
  have c0 := N_c.lt
  obtain ⟨c1, c2, c3, c4⟩ := szs N_c.lt
  clear N_c
  have H_m := Lib.hid N_m
  have mo := N_m.1
  have m0 := N_m.lt
  obtain ⟨m1, m2, m3, m4⟩ := szs N_m.lt
  clear N_m
  have H_t := Lib.hid N_t
  have tp := N_t.plain
  have tc := N_t.cells
  have t0 := N_t.lt
  obtain ⟨t1, t2, t3, t4⟩ := szs N_t.lt
  clear N_t
  clear hb
  clear f0 f1 f2 f3 l0 l1 l2
  go_wp2_with fail
  go_loopg [5, 6] a.toNat (fun g p i wr => ∃ j : Nat, g = a.toNat - j ∧ j ≤ a.toNat ∧ i = .int .i64 j ∧ (p = .pointer none ∨ ∃ pb, p = .pointer (some ⟨pb, 0, none⟩) ∧ At wr pb (natc 92 25 (some ⟨td, 0, none⟩) false false)) ∧ At wr w.heap.size (cac (some mc)) ∧ Ty wr mc (fun a => if a = 92 then some td else none) ∧ At wr td (tdc sd) ∧ At wr u1.heap.size (#[.iface 124 (.pointer (some ⟨0, 92, none⟩)), .int .u64 25, .pointer (some ⟨td, 0, none⟩), .pointer none, .bool false, .bool false, .bool false, .bool false, .bool false]) ∧ Below w.heap.size w wr)
  case atStart => exact ⟨0, by simp, Nat.zero_le _, rfl, Or.inl rfl, (by (repeat (first | with_reducible exact H_c.out | with_reducible exact At.new _ _ _ _ rfl | ((with_reducible refine At.new _ _ _ _ ?sz); (case sz => simp; done)) | with_reducible refine At.drewN ?_ _ | with_reducible refine At.drew ?_ | with_reducible refine At.alloc ?_ _)); done), (by (repeat (first | with_reducible refine ty_dn ?_ _ | with_reducible exact H_m.out | with_reducible refine Ty.drew ?_ | with_reducible refine Ty.alloc ?_ _)); done), (by (repeat (first | with_reducible exact H_t.out | with_reducible exact At.new _ _ _ _ rfl | ((with_reducible refine At.new _ _ _ _ ?sz); (case sz => simp; done)) | with_reducible refine At.drewN ?_ _ | with_reducible refine At.drew ?_ | with_reducible refine At.alloc ?_ _)); done), (by (repeat (first | with_reducible exact (At.new _ _ _ _ rfl) | with_reducible exact At.new _ _ _ _ rfl | ((with_reducible refine At.new _ _ _ _ ?sz); (case sz => simp; done)) | with_reducible refine At.drewN ?_ _ | with_reducible refine At.drew ?_ | with_reducible refine At.alloc ?_ _)); done), (by repeat (first | with_reducible exact F1 | with_reducible refine Below.drew ?_ | with_reducible refine bal ?_ _ | with_reducible refine bdn ?_ _))⟩
  case round =>
    obtain ⟨j, hg, hj, rfl, hp, q1, q2, q3, q4, q5⟩ := hrel
    clear H_c cp cc c0 c1 c2 c3 c4 H_m mo m0 m1 m2 m3 m4 H_t tp tc t0 t1 t2 t3 t4
    have H_c := Lib.hid q1
    have cp := q1.plain
    have cc := q1.cells
    have c0 := q1.lt
    obtain ⟨c1, c2, c3, c4⟩ := szs q1.lt
    have H_m := Lib.hid q2
    have mo := q2.1
    have m0 := q2.lt
    obtain ⟨m1, m2, m3, m4⟩ := szs q2.lt
    have H_t := Lib.hid q3
    have tp := q3.plain
    have tc := q3.cells
    have t0 := q3.lt
    obtain ⟨t1, t2, t3, t4⟩ := szs q3.lt
    have H_d := Lib.hid q4
    have dp := q4.plain
    have dc := q4.cells
    have d0 := q4.lt
    obtain ⟨d1, d2, d3, d4⟩ := szs q4.lt
    have FR := q5
    have HP := Lib.hid hp
    have HG := Lib.hid hg
    have HJ := Lib.hid hj
    clear q1 q2 q3 q4 q5 hp hg hj F1
    go_wp2_with fail
    next =>
      rcases HP.out with rfl | ⟨pb, rfl, hpl⟩
      · skip
        refine (afz_hit td mc (fun a => if a = 92 then some td else none) _ _ (by (repeat (first | with_reducible exact H_c.out | with_reducible exact At.new _ _ _ _ rfl | ((with_reducible refine At.new _ _ _ _ ?sz); (case sz => simp; done)) | with_reducible refine At.drewN ?_ _ | with_reducible refine At.drew ?_ | with_reducible refine At.alloc ?_ _)); done) (by (repeat (first | with_reducible refine ty_dn ?_ _ | with_reducible exact H_m.out | with_reducible refine Ty.drew ?_ | with_reducible refine Ty.alloc ?_ _)); done) (by simp)).mono ?_
        rintro e u11 ⟨eb, rfl, hb, f0, l0⟩
        clear HP
        have N_c : At u11 w.heap.size (cac (some mc)) := At.bel (n := w.heap.size) (c := (cac (some mc))) (by repeat (first | with_reducible exact H_c.out | with_reducible refine At.drew ?_ | with_reducible refine At.alloc ?_ _ | with_reducible refine At.drewN ?_ _)) hb
        have N_m : Ty u11 mc (fun a => if a = 92 then some td else none) := Ty.bel (mc := mc) (G := (fun a => if a = 92 then some td else none)) (by repeat (first | with_reducible exact H_m.out | with_reducible refine Ty.drew ?_ | with_reducible refine Ty.alloc ?_ _)) hb
        have N_t : At u11 td (tdc sd) := At.bel (n := td) (c := (tdc sd)) (by repeat (first | with_reducible exact H_t.out | with_reducible refine At.drew ?_ | with_reducible refine At.alloc ?_ _ | with_reducible refine At.drewN ?_ _)) hb
        have N_d : At u11 u1.heap.size (#[.iface 124 (.pointer (some ⟨0, 92, none⟩)), .int .u64 25, .pointer (some ⟨td, 0, none⟩), .pointer none, .bool false, .bool false, .bool false, .bool false, .bool false]) := At.bel (n := u1.heap.size) (c := (#[.iface 124 (.pointer (some ⟨0, 92, none⟩)), .int .u64 25, .pointer (some ⟨td, 0, none⟩), .pointer none, .bool false, .bool false, .bool false, .bool false, .bool false])) (by repeat (first | with_reducible exact H_d.out | with_reducible refine At.drew ?_ | with_reducible refine At.alloc ?_ _ | with_reducible refine At.drewN ?_ _)) hb
        have N_e : At u11 eb (natc 92 25 (some ⟨td, 0, none⟩) false false) := f0
        have F11 : Below w.heap.size w u11 := bnext (by repeat (first | with_reducible exact FR | with_reducible refine Below.drew ?_ | with_reducible refine bal ?_ _ | with_reducible refine bdn ?_ _)) hb
        clear H_c cp cc c0 c1 c2 c3 c4 H_m mo m0 m1 m2 m3 m4 H_t tp tc t0 t1 t2 t3 t4 H_d dp dc d0 d1 d2 d3 d4
        have H_c := Lib.hid N_c
        have cp := N_c.plain
        have cc := N_c.cells
        have c0 := N_c.lt
        obtain ⟨c1, c2, c3, c4⟩ := szs N_c.lt
        clear N_c
        have H_m := Lib.hid N_m
        have mo := N_m.1
        have m0 := N_m.lt
        obtain ⟨m1, m2, m3, m4⟩ := szs N_m.lt
        clear N_m
        have H_t := Lib.hid N_t
        have tp := N_t.plain
        have tc := N_t.cells
        have t0 := N_t.lt
        obtain ⟨t1, t2, t3, t4⟩ := szs N_t.lt
        clear N_t
        have H_d := Lib.hid N_d
        have dp := N_d.plain
        have dc := N_d.cells
        have d0 := N_d.lt
        obtain ⟨d1, d2, d3, d4⟩ := szs N_d.lt
        clear N_d
        have H_e := Lib.hid N_e
        have ep := N_e.plain
        have ec := N_e.cells
        have e0 := N_e.lt
        obtain ⟨e1, e2, e3, e4⟩ := szs N_e.lt
        clear N_e
        clear hb
        clear f0 l0
        go_wp2_with fail
        go_quiet (fail)
        generalize hv : ((u11.alloc (.cells (#[.iface 124 (.pointer (some ⟨0, 88, none⟩)), .int .u64 23, .pointer none, .pointer (some ⟨eb, 0, none⟩), .bool false, .bool false, .bool false, .bool false, .bool false]) 47)).drewN nq) = v12
        have hb : Below u11.heap.size u11 v12 := (by rw [← hv]; exact bdn (bal (Below.refl _ _) _) _)
        have N_c : At v12 w.heap.size (cac (some mc)) := At.bel H_c.out hb
        have N_m : Ty v12 mc (fun a => if a = 92 then some td else none) := Ty.bel H_m.out hb
        have N_t : At v12 td (tdc sd) := At.bel H_t.out hb
        have N_d : At v12 u1.heap.size (#[.iface 124 (.pointer (some ⟨0, 92, none⟩)), .int .u64 25, .pointer (some ⟨td, 0, none⟩), .pointer none, .bool false, .bool false, .bool false, .bool false, .bool false]) := At.bel H_d.out hb
        have N_e : At v12 eb (natc 92 25 (some ⟨td, 0, none⟩) false false) := At.bel H_e.out hb
        have N_a : At v12 u11.heap.size (#[.iface 124 (.pointer (some ⟨0, 88, none⟩)), .int .u64 23, .pointer none, .pointer (some ⟨eb, 0, none⟩), .bool false, .bool false, .bool false, .bool false, .bool false]) := (by rw [← hv]; exact (At.new _ _ _ _ rfl).drewN _)
        have F12 : Below w.heap.size w v12 := bnext F11 hb
        clear H_c c0 c1 c2 c3 c4 cp cc
        clear H_m m0 m1 m2 m3 m4 mo
        clear H_t t0 t1 t2 t3 t4 tp tc
        clear H_d d0 d1 d2 d3 d4 dp dc
        clear H_e e0 e1 e2 e3 e4 ep ec
        have H_c := Lib.hid N_c
        have cp := N_c.plain
        have cc := N_c.cells
        have c0 := N_c.lt
        obtain ⟨c1, c2, c3, c4⟩ := szs N_c.lt
        clear N_c
        have H_m := Lib.hid N_m
        have mo := N_m.1
        have m0 := N_m.lt
        obtain ⟨m1, m2, m3, m4⟩ := szs N_m.lt
        clear N_m
        have H_t := Lib.hid N_t
        have tp := N_t.plain
        have tc := N_t.cells
        have t0 := N_t.lt
        obtain ⟨t1, t2, t3, t4⟩ := szs N_t.lt
        clear N_t
        have H_d := Lib.hid N_d
        have dp := N_d.plain
        have dc := N_d.cells
        have d0 := N_d.lt
        obtain ⟨d1, d2, d3, d4⟩ := szs N_d.lt
        clear N_d
        have H_e := Lib.hid N_e
        have ep := N_e.plain
        have ec := N_e.cells
        have e0 := N_e.lt
        obtain ⟨e1, e2, e3, e4⟩ := szs N_e.lt
        clear N_e
        have H_a := Lib.hid N_a
        have ap := N_a.plain
        have ac := N_a.cells
        have a0 := N_a.lt
        obtain ⟨a1, a2, a3, a4⟩ := szs N_a.lt
        clear N_a
        clear hb hv
        go_wp2_with (first | (go_at_call 15; refine (ias _ _).mono ?_; rintro e w' ⟨rfl, rfl⟩) | (go_at_call 22; refine (it_Struct _ _).mono ?_; rintro e w' ⟨rfl, rfl⟩))
        have hja : j < a.toNat := by (have := HJ.out; omega)
        go_roundg (a.toNat - (j + 1))
        case measure => (have := HG.out; omega)
        case rel => exact ⟨j + 1, rfl, by omega, by simp, Or.inr ⟨eb, rfl, (by (repeat (first | with_reducible exact H_e.out | with_reducible exact At.new _ _ _ _ rfl | ((with_reducible refine At.new _ _ _ _ ?sz); (case sz => simp; done)) | with_reducible refine At.drewN ?_ _ | with_reducible refine At.drew ?_ | with_reducible refine At.alloc ?_ _)); done)⟩, (by (repeat (first | with_reducible exact H_c.out | with_reducible exact At.new _ _ _ _ rfl | ((with_reducible refine At.new _ _ _ _ ?sz); (case sz => simp; done)) | with_reducible refine At.drewN ?_ _ | with_reducible refine At.drew ?_ | with_reducible refine At.alloc ?_ _)); done), (by (repeat (first | with_reducible refine ty_dn ?_ _ | with_reducible exact H_m.out | with_reducible refine Ty.drew ?_ | with_reducible refine Ty.alloc ?_ _)); done), (by (repeat (first | with_reducible exact H_t.out | with_reducible exact At.new _ _ _ _ rfl | ((with_reducible refine At.new _ _ _ _ ?sz); (case sz => simp; done)) | with_reducible refine At.drewN ?_ _ | with_reducible refine At.drew ?_ | with_reducible refine At.alloc ?_ _)); done), (by (repeat (first | with_reducible exact H_d.out | with_reducible exact At.new _ _ _ _ rfl | ((with_reducible refine At.new _ _ _ _ ?sz); (case sz => simp; done)) | with_reducible refine At.drewN ?_ _ | with_reducible refine At.drew ?_ | with_reducible refine At.alloc ?_ _)); done), (by repeat (first | with_reducible exact F12 | with_reducible refine Below.drew ?_ | with_reducible refine bal ?_ _ | with_reducible refine bdn ?_ _))⟩
      · skip
        have H_p := Lib.hid hpl
        have pp := hpl.plain
        have pc := hpl.cells
        have p0 := hpl.lt
        obtain ⟨p1, p2, p3, p4⟩ := szs hpl.lt
        clear hpl
        refine (afz_hit td mc (fun a => if a = 92 then some td else none) _ _ (by (repeat (first | with_reducible exact H_c.out | with_reducible exact At.new _ _ _ _ rfl | ((with_reducible refine At.new _ _ _ _ ?sz); (case sz => simp; done)) | with_reducible refine At.drewN ?_ _ | with_reducible refine At.drew ?_ | with_reducible refine At.alloc ?_ _)); done) (by (repeat (first | with_reducible refine ty_dn ?_ _ | with_reducible exact H_m.out | with_reducible refine Ty.drew ?_ | with_reducible refine Ty.alloc ?_ _)); done) (by simp)).mono ?_
        rintro e u11 ⟨eb, rfl, hb, f0, l0⟩
        clear HP
        have ne_p : ¬ pb = eb := (by have h := l0; have h2 := H_p.out.lt; (try simp at h); omega)
        have N_c : At u11 w.heap.size (cac (some mc)) := At.bel (n := w.heap.size) (c := (cac (some mc))) (by repeat (first | with_reducible exact H_c.out | with_reducible refine At.drew ?_ | with_reducible refine At.alloc ?_ _ | with_reducible refine At.drewN ?_ _)) hb
        have N_m : Ty u11 mc (fun a => if a = 92 then some td else none) := Ty.bel (mc := mc) (G := (fun a => if a = 92 then some td else none)) (by repeat (first | with_reducible exact H_m.out | with_reducible refine Ty.drew ?_ | with_reducible refine Ty.alloc ?_ _)) hb
        have N_t : At u11 td (tdc sd) := At.bel (n := td) (c := (tdc sd)) (by repeat (first | with_reducible exact H_t.out | with_reducible refine At.drew ?_ | with_reducible refine At.alloc ?_ _ | with_reducible refine At.drewN ?_ _)) hb
        have N_d : At u11 u1.heap.size (#[.iface 124 (.pointer (some ⟨0, 92, none⟩)), .int .u64 25, .pointer (some ⟨td, 0, none⟩), .pointer none, .bool false, .bool false, .bool false, .bool false, .bool false]) := At.bel (n := u1.heap.size) (c := (#[.iface 124 (.pointer (some ⟨0, 92, none⟩)), .int .u64 25, .pointer (some ⟨td, 0, none⟩), .pointer none, .bool false, .bool false, .bool false, .bool false, .bool false])) (by repeat (first | with_reducible exact H_d.out | with_reducible refine At.drew ?_ | with_reducible refine At.alloc ?_ _ | with_reducible refine At.drewN ?_ _)) hb
        have N_p : At u11 pb (natc 92 25 (some ⟨td, 0, none⟩) false false) := At.bel (n := pb) (c := (natc 92 25 (some ⟨td, 0, none⟩) false false)) (by repeat (first | with_reducible exact H_p.out | with_reducible refine At.drew ?_ | with_reducible refine At.alloc ?_ _ | with_reducible refine At.drewN ?_ _)) hb
        have N_e : At u11 eb (natc 92 25 (some ⟨td, 0, none⟩) false false) := f0
        have F11 : Below w.heap.size w u11 := bnext (by repeat (first | with_reducible exact FR | with_reducible refine Below.drew ?_ | with_reducible refine bal ?_ _ | with_reducible refine bdn ?_ _)) hb
        clear H_c cp cc c0 c1 c2 c3 c4 H_m mo m0 m1 m2 m3 m4 H_t tp tc t0 t1 t2 t3 t4 H_d dp dc d0 d1 d2 d3 d4 H_p pp pc p0 p1 p2 p3 p4
        have H_c := Lib.hid N_c
        have cp := N_c.plain
        have cc := N_c.cells
        have c0 := N_c.lt
        obtain ⟨c1, c2, c3, c4⟩ := szs N_c.lt
        clear N_c
        have H_m := Lib.hid N_m
        have mo := N_m.1
        have m0 := N_m.lt
        obtain ⟨m1, m2, m3, m4⟩ := szs N_m.lt
        clear N_m
        have H_t := Lib.hid N_t
        have tp := N_t.plain
        have tc := N_t.cells
        have t0 := N_t.lt
        obtain ⟨t1, t2, t3, t4⟩ := szs N_t.lt
        clear N_t
        have H_d := Lib.hid N_d
        have dp := N_d.plain
        have dc := N_d.cells
        have d0 := N_d.lt
        obtain ⟨d1, d2, d3, d4⟩ := szs N_d.lt
        clear N_d
        have H_p := Lib.hid N_p
        have pp := N_p.plain
        have pc := N_p.cells
        have p0 := N_p.lt
        obtain ⟨p1, p2, p3, p4⟩ := szs N_p.lt
        clear N_p
        have H_e := Lib.hid N_e
        have ep := N_e.plain
        have ec := N_e.cells
        have e0 := N_e.lt
        obtain ⟨e1, e2, e3, e4⟩ := szs N_e.lt
        clear N_e
        clear hb
        clear f0 l0
        go_wp2_with fail
        go_quiet (fail)
        generalize hv : ((u11.alloc (.cells (#[.iface 124 (.pointer (some ⟨0, 88, none⟩)), .int .u64 23, .pointer none, .pointer (some ⟨eb, 0, none⟩), .bool false, .bool false, .bool false, .bool false, .bool false]) 47)).drewN nq) = v12
        have hb : Below u11.heap.size u11 v12 := (by rw [← hv]; exact bdn (bal (Below.refl _ _) _) _)
        have N_c : At v12 w.heap.size (cac (some mc)) := At.bel H_c.out hb
        have N_m : Ty v12 mc (fun a => if a = 92 then some td else none) := Ty.bel H_m.out hb
        have N_t : At v12 td (tdc sd) := At.bel H_t.out hb
        have N_d : At v12 u1.heap.size (#[.iface 124 (.pointer (some ⟨0, 92, none⟩)), .int .u64 25, .pointer (some ⟨td, 0, none⟩), .pointer none, .bool false, .bool false, .bool false, .bool false, .bool false]) := At.bel H_d.out hb
        have N_p : At v12 pb (natc 92 25 (some ⟨td, 0, none⟩) false false) := At.bel H_p.out hb
        have N_e : At v12 eb (natc 92 25 (some ⟨td, 0, none⟩) false false) := At.bel H_e.out hb
        have N_a : At v12 u11.heap.size (#[.iface 124 (.pointer (some ⟨0, 88, none⟩)), .int .u64 23, .pointer none, .pointer (some ⟨eb, 0, none⟩), .bool false, .bool false, .bool false, .bool false, .bool false]) := (by rw [← hv]; exact (At.new _ _ _ _ rfl).drewN _)
        have F12 : Below w.heap.size w v12 := bnext F11 hb
        clear H_c c0 c1 c2 c3 c4 cp cc
        clear H_m m0 m1 m2 m3 m4 mo
        clear H_t t0 t1 t2 t3 t4 tp tc
        clear H_d d0 d1 d2 d3 d4 dp dc
        clear H_p p0 p1 p2 p3 p4 pp pc
        clear H_e e0 e1 e2 e3 e4 ep ec
        have H_c := Lib.hid N_c
        have cp := N_c.plain
        have cc := N_c.cells
        have c0 := N_c.lt
        obtain ⟨c1, c2, c3, c4⟩ := szs N_c.lt
        clear N_c
        have H_m := Lib.hid N_m
        have mo := N_m.1
        have m0 := N_m.lt
        obtain ⟨m1, m2, m3, m4⟩ := szs N_m.lt
        clear N_m
        have H_t := Lib.hid N_t
        have tp := N_t.plain
        have tc := N_t.cells
        have t0 := N_t.lt
        obtain ⟨t1, t2, t3, t4⟩ := szs N_t.lt
        clear N_t
        have H_d := Lib.hid N_d
        have dp := N_d.plain
        have dc := N_d.cells
        have d0 := N_d.lt
        obtain ⟨d1, d2, d3, d4⟩ := szs N_d.lt
        clear N_d
        have H_p := Lib.hid N_p
        have pp := N_p.plain
        have pc := N_p.cells
        have p0 := N_p.lt
        obtain ⟨p1, p2, p3, p4⟩ := szs N_p.lt
        clear N_p
        have H_e := Lib.hid N_e
        have ep := N_e.plain
        have ec := N_e.cells
        have e0 := N_e.lt
        obtain ⟨e1, e2, e3, e4⟩ := szs N_e.lt
        clear N_e
        have H_a := Lib.hid N_a
        have ap := N_a.plain
        have ac := N_a.cells
        have a0 := N_a.lt
        obtain ⟨a1, a2, a3, a4⟩ := szs N_a.lt
        clear N_a
        clear hb hv
        go_wp2_with (first | (go_at_call 15; refine (ias _ _).mono ?_; rintro e w' ⟨rfl, rfl⟩) | (go_at_call 22; refine (it_Struct _ _).mono ?_; rintro e w' ⟨rfl, rfl⟩))
        rw [peqlo_45]
        case hne => (intro h; exact ne_p (by cases h; rfl))
        case ha => exact At.plain (c := (natc 92 25 (some ⟨td, 0, none⟩) false false)) (by (repeat (first | with_reducible exact H_p.out | with_reducible exact At.new _ _ _ _ rfl | ((with_reducible refine At.new _ _ _ _ ?sz); (case sz => simp; done)) | with_reducible refine At.drewN ?_ _ | with_reducible refine At.drew ?_ | with_reducible refine At.alloc ?_ _)); done)
        case hb => exact At.plain (c := (natc 92 25 (some ⟨td, 0, none⟩) false false)) (by (repeat (first | with_reducible exact H_e.out | with_reducible exact At.new _ _ _ _ rfl | ((with_reducible refine At.new _ _ _ _ ?sz); (case sz => simp; done)) | with_reducible refine At.drewN ?_ _ | with_reducible refine At.drew ?_ | with_reducible refine At.alloc ?_ _)); done)
        go_simp
        go_wp2_with (first | (go_at_call 15; refine (ias _ _).mono ?_; rintro e w' ⟨rfl, rfl⟩) | (go_at_call 22; refine (it_Struct _ _).mono ?_; rintro e w' ⟨rfl, rfl⟩))
        have hja : j < a.toNat := by (have := HJ.out; omega)
        go_roundg (a.toNat - (j + 1))
        case measure => (have := HG.out; omega)
        case rel => exact ⟨j + 1, rfl, by omega, by simp, Or.inr ⟨eb, rfl, (by (repeat (first | with_reducible exact H_e.out | with_reducible exact At.new _ _ _ _ rfl | ((with_reducible refine At.new _ _ _ _ ?sz); (case sz => simp; done)) | with_reducible refine At.drewN ?_ _ | with_reducible refine At.drew ?_ | with_reducible refine At.alloc ?_ _)); done)⟩, (by (repeat (first | with_reducible exact H_c.out | with_reducible exact At.new _ _ _ _ rfl | ((with_reducible refine At.new _ _ _ _ ?sz); (case sz => simp; done)) | with_reducible refine At.drewN ?_ _ | with_reducible refine At.drew ?_ | with_reducible refine At.alloc ?_ _)); done), (by (repeat (first | with_reducible refine ty_dn ?_ _ | with_reducible exact H_m.out | with_reducible refine Ty.drew ?_ | with_reducible refine Ty.alloc ?_ _)); done), (by (repeat (first | with_reducible exact H_t.out | with_reducible exact At.new _ _ _ _ rfl | ((with_reducible refine At.new _ _ _ _ ?sz); (case sz => simp; done)) | with_reducible refine At.drewN ?_ _ | with_reducible refine At.drew ?_ | with_reducible refine At.alloc ?_ _)); done), (by (repeat (first | with_reducible exact H_d.out | with_reducible exact At.new _ _ _ _ rfl | ((with_reducible refine At.new _ _ _ _ ?sz); (case sz => simp; done)) | with_reducible refine At.drewN ?_ _ | with_reducible refine At.drew ?_ | with_reducible refine At.alloc ?_ _)); done), (by repeat (first | with_reducible exact F12 | with_reducible refine Below.drew ?_ | with_reducible refine bal ?_ _ | with_reducible refine bdn ?_ _))⟩
    next =>
      go_wp2_with fail
      refine (bfz _).mono ?_
      rintro e u21 ⟨tx, ex, rfl, hb, f0, f1, l0, l1⟩
      have ne_x : ¬ tx = td := (by have h := H_t.out.lt; have h2 := l1; (try simp at h2); omega)
      have N_c : At u21 w.heap.size (cac (some mc)) := At.bel (n := w.heap.size) (c := (cac (some mc))) (by repeat (first | with_reducible exact H_c.out | with_reducible refine At.drew ?_ | with_reducible refine At.alloc ?_ _ | with_reducible refine At.drewN ?_ _)) hb
      have N_m : Ty u21 mc (fun a => if a = 92 then some td else none) := Ty.bel (mc := mc) (G := (fun a => if a = 92 then some td else none)) (by repeat (first | with_reducible exact H_m.out | with_reducible refine Ty.drew ?_ | with_reducible refine Ty.alloc ?_ _)) hb
      have N_t : At u21 td (tdc sd) := At.bel (n := td) (c := (tdc sd)) (by repeat (first | with_reducible exact H_t.out | with_reducible refine At.drew ?_ | with_reducible refine At.alloc ?_ _ | with_reducible refine At.drewN ?_ _)) hb
      have N_d : At u21 u1.heap.size (#[.iface 124 (.pointer (some ⟨0, 92, none⟩)), .int .u64 25, .pointer (some ⟨td, 0, none⟩), .pointer none, .bool false, .bool false, .bool false, .bool false, .bool false]) := At.bel (n := u1.heap.size) (c := (#[.iface 124 (.pointer (some ⟨0, 92, none⟩)), .int .u64 25, .pointer (some ⟨td, 0, none⟩), .pointer none, .bool false, .bool false, .bool false, .bool false, .bool false])) (by repeat (first | with_reducible exact H_d.out | with_reducible refine At.drew ?_ | with_reducible refine At.alloc ?_ _ | with_reducible refine At.drewN ?_ _)) hb
      have N_x : At u21 ex (natc 92 25 (some ⟨tx, 0, none⟩) false false) := f0
      have N_y : At u21 tx #[.pointer none, .pointer none, .map none, .pointer none, .pointer none, .int .i64 0, .pointer none, .pointer none, .int .i64 0, .int .i64 0, .bool false, .bool false, .bool false, .bool false] := f1
      have F21 : Below w.heap.size w u21 := bnext (by repeat (first | with_reducible exact FR | with_reducible refine Below.drew ?_ | with_reducible refine bal ?_ _ | with_reducible refine bdn ?_ _)) hb
      clear H_c cp cc c0 c1 c2 c3 c4 H_m mo m0 m1 m2 m3 m4 H_t tp tc t0 t1 t2 t3 t4 H_d dp dc d0 d1 d2 d3 d4
      have H_c := Lib.hid N_c
      have cp := N_c.plain
      have cc := N_c.cells
      have c0 := N_c.lt
      obtain ⟨c1, c2, c3, c4⟩ := szs N_c.lt
      clear N_c
      have H_m := Lib.hid N_m
      have mo := N_m.1
      have m0 := N_m.lt
      obtain ⟨m1, m2, m3, m4⟩ := szs N_m.lt
      clear N_m
      have H_t := Lib.hid N_t
      have tp := N_t.plain
      have tc := N_t.cells
      have t0 := N_t.lt
      obtain ⟨t1, t2, t3, t4⟩ := szs N_t.lt
      clear N_t
      have H_d := Lib.hid N_d
      have dp := N_d.plain
      have dc := N_d.cells
      have d0 := N_d.lt
      obtain ⟨d1, d2, d3, d4⟩ := szs N_d.lt
      clear N_d
      have H_x := Lib.hid N_x
      have xp := N_x.plain
      have xc := N_x.cells
      have x0 := N_x.lt
      obtain ⟨x1, x2, x3, x4⟩ := szs N_x.lt
      clear N_x
      have H_y := Lib.hid N_y
      have yp := N_y.plain
      have yc := N_y.cells
      have y0 := N_y.lt
      obtain ⟨y1, y2, y3, y4⟩ := szs N_y.lt
      clear N_y
      clear hb
      clear f0 f1 l0 l1
      go_wp2_with fail
      refine (bfz _).mono ?_
      rintro e u22 ⟨ty, ey, rfl, hb, f0, f1, l0, l1⟩
      have ne_y : ¬ ty = td := (by have h := H_t.out.lt; have h2 := l1; (try simp at h2); omega)
      have ne_z : ¬ tx = ty := (by have h := H_y.out.lt; have h2 := l1; (try simp at h2); omega)
      have N_c : At u22 w.heap.size (cac (some mc)) := At.bel (n := w.heap.size) (c := (cac (some mc))) (by repeat (first | with_reducible exact H_c.out | with_reducible refine At.drew ?_ | with_reducible refine At.alloc ?_ _ | with_reducible refine At.drewN ?_ _)) hb
      have N_m : Ty u22 mc (fun a => if a = 92 then some td else none) := Ty.bel (mc := mc) (G := (fun a => if a = 92 then some td else none)) (by repeat (first | with_reducible exact H_m.out | with_reducible refine Ty.drew ?_ | with_reducible refine Ty.alloc ?_ _)) hb
      have N_t : At u22 td (tdc sd) := At.bel (n := td) (c := (tdc sd)) (by repeat (first | with_reducible exact H_t.out | with_reducible refine At.drew ?_ | with_reducible refine At.alloc ?_ _ | with_reducible refine At.drewN ?_ _)) hb
      have N_d : At u22 u1.heap.size (#[.iface 124 (.pointer (some ⟨0, 92, none⟩)), .int .u64 25, .pointer (some ⟨td, 0, none⟩), .pointer none, .bool false, .bool false, .bool false, .bool false, .bool false]) := At.bel (n := u1.heap.size) (c := (#[.iface 124 (.pointer (some ⟨0, 92, none⟩)), .int .u64 25, .pointer (some ⟨td, 0, none⟩), .pointer none, .bool false, .bool false, .bool false, .bool false, .bool false])) (by repeat (first | with_reducible exact H_d.out | with_reducible refine At.drew ?_ | with_reducible refine At.alloc ?_ _ | with_reducible refine At.drewN ?_ _)) hb
      have N_x : At u22 ex (natc 92 25 (some ⟨tx, 0, none⟩) false false) := At.bel (n := ex) (c := (natc 92 25 (some ⟨tx, 0, none⟩) false false)) (by repeat (first | with_reducible exact H_x.out | with_reducible refine At.drew ?_ | with_reducible refine At.alloc ?_ _ | with_reducible refine At.drewN ?_ _)) hb
      have N_y : At u22 tx #[.pointer none, .pointer none, .map none, .pointer none, .pointer none, .int .i64 0, .pointer none, .pointer none, .int .i64 0, .int .i64 0, .bool false, .bool false, .bool false, .bool false] := At.bel (n := tx) (c := #[.pointer none, .pointer none, .map none, .pointer none, .pointer none, .int .i64 0, .pointer none, .pointer none, .int .i64 0, .int .i64 0, .bool false, .bool false, .bool false, .bool false]) (by repeat (first | with_reducible exact H_y.out | with_reducible refine At.drew ?_ | with_reducible refine At.alloc ?_ _ | with_reducible refine At.drewN ?_ _)) hb
      have N_a : At u22 u21.heap.size (#[.iface 124 (.pointer (some ⟨0, 88, none⟩)), .int .u64 23, .pointer none, .pointer (some ⟨ex, 0, none⟩), .bool false, .bool false, .bool false, .bool false, .bool false]) := At.bel (n := u21.heap.size) (c := (#[.iface 124 (.pointer (some ⟨0, 88, none⟩)), .int .u64 23, .pointer none, .pointer (some ⟨ex, 0, none⟩), .bool false, .bool false, .bool false, .bool false, .bool false])) (by repeat (first | with_reducible exact (At.new _ _ _ _ rfl) | ((with_reducible refine At.new _ _ _ _ ?sz); (case sz => simp; done)) | with_reducible refine At.drew ?_ | with_reducible refine At.alloc ?_ _ | with_reducible refine At.drewN ?_ _)) hb
      have N_z : At u22 ey (natc 92 25 (some ⟨ty, 0, none⟩) false false) := f0
      have N_v : At u22 ty #[.pointer none, .pointer none, .map none, .pointer none, .pointer none, .int .i64 0, .pointer none, .pointer none, .int .i64 0, .int .i64 0, .bool false, .bool false, .bool false, .bool false] := f1
      have F22 : Below w.heap.size w u22 := bnext (by repeat (first | with_reducible exact F21 | with_reducible refine Below.drew ?_ | with_reducible refine bal ?_ _ | with_reducible refine bdn ?_ _)) hb
      clear H_c cp cc c0 c1 c2 c3 c4 H_m mo m0 m1 m2 m3 m4 H_t tp tc t0 t1 t2 t3 t4 H_d dp dc d0 d1 d2 d3 d4 H_x xp xc x0 x1 x2 x3 x4 H_y yp yc y0 y1 y2 y3 y4
      have H_c := Lib.hid N_c
      have cp := N_c.plain
      have cc := N_c.cells
      have c0 := N_c.lt
      obtain ⟨c1, c2, c3, c4⟩ := szs N_c.lt
      clear N_c
      have H_m := Lib.hid N_m
      have mo := N_m.1
      have m0 := N_m.lt
      obtain ⟨m1, m2, m3, m4⟩ := szs N_m.lt
      clear N_m
      have H_t := Lib.hid N_t
      have tp := N_t.plain
      have tc := N_t.cells
      have t0 := N_t.lt
      obtain ⟨t1, t2, t3, t4⟩ := szs N_t.lt
      clear N_t
      have H_d := Lib.hid N_d
      have dp := N_d.plain
      have dc := N_d.cells
      have d0 := N_d.lt
      obtain ⟨d1, d2, d3, d4⟩ := szs N_d.lt
      clear N_d
      have H_x := Lib.hid N_x
      have xp := N_x.plain
      have xc := N_x.cells
      have x0 := N_x.lt
      obtain ⟨x1, x2, x3, x4⟩ := szs N_x.lt
      clear N_x
      have H_y := Lib.hid N_y
      have yp := N_y.plain
      have yc := N_y.cells
      have y0 := N_y.lt
      obtain ⟨y1, y2, y3, y4⟩ := szs N_y.lt
      clear N_y
      have H_a := Lib.hid N_a
      have ap := N_a.plain
      have ac := N_a.cells
      have a0 := N_a.lt
      obtain ⟨a1, a2, a3, a4⟩ := szs N_a.lt
      clear N_a
      have H_z := Lib.hid N_z
      have zp := N_z.plain
      have zc := N_z.cells
      have z0 := N_z.lt
      obtain ⟨z1, z2, z3, z4⟩ := szs N_z.lt
      clear N_z
      have H_v := Lib.hid N_v
      have vp := N_v.plain
      have vc := N_v.cells
      have v0 := N_v.lt
      obtain ⟨v1, v2, v3, v4⟩ := szs N_v.lt
      clear N_v
      clear hb
      clear f0 f1 l0 l1
      go_wp2_with fail
      generalize hv : (u22.alloc (.cells (#[.iface 124 (.pointer (some ⟨0, 88, none⟩)), .int .u64 23, .pointer none, .pointer (some ⟨ey, 0, none⟩), .bool false, .bool false, .bool false, .bool false, .bool false]) 47)) = v22
      have hb : Below u22.heap.size u22 v22 := (by rw [← hv]; exact bal (Below.refl _ _) _)
      have N_c : At v22 w.heap.size (cac (some mc)) := At.bel H_c.out hb
      have N_m : Ty v22 mc (fun a => if a = 92 then some td else none) := Ty.bel H_m.out hb
      have N_t : At v22 td (tdc sd) := At.bel H_t.out hb
      have N_d : At v22 u1.heap.size (#[.iface 124 (.pointer (some ⟨0, 92, none⟩)), .int .u64 25, .pointer (some ⟨td, 0, none⟩), .pointer none, .bool false, .bool false, .bool false, .bool false, .bool false]) := At.bel H_d.out hb
      have N_x : At v22 ex (natc 92 25 (some ⟨tx, 0, none⟩) false false) := At.bel H_x.out hb
      have N_y : At v22 tx #[.pointer none, .pointer none, .map none, .pointer none, .pointer none, .int .i64 0, .pointer none, .pointer none, .int .i64 0, .int .i64 0, .bool false, .bool false, .bool false, .bool false] := At.bel H_y.out hb
      have N_a : At v22 u21.heap.size (#[.iface 124 (.pointer (some ⟨0, 88, none⟩)), .int .u64 23, .pointer none, .pointer (some ⟨ex, 0, none⟩), .bool false, .bool false, .bool false, .bool false, .bool false]) := At.bel H_a.out hb
      have N_z : At v22 ey (natc 92 25 (some ⟨ty, 0, none⟩) false false) := At.bel H_z.out hb
      have N_v : At v22 ty #[.pointer none, .pointer none, .map none, .pointer none, .pointer none, .int .i64 0, .pointer none, .pointer none, .int .i64 0, .int .i64 0, .bool false, .bool false, .bool false, .bool false] := At.bel H_v.out hb
      have N_b : At v22 u22.heap.size (#[.iface 124 (.pointer (some ⟨0, 88, none⟩)), .int .u64 23, .pointer none, .pointer (some ⟨ey, 0, none⟩), .bool false, .bool false, .bool false, .bool false, .bool false]) := (by rw [← hv]; exact (At.new _ _ _ _ rfl))
      have F23 : Below w.heap.size w v22 := bnext F22 hb
      clear H_c c0 c1 c2 c3 c4 cp cc
      clear H_m m0 m1 m2 m3 m4 mo
      clear H_t t0 t1 t2 t3 t4 tp tc
      clear H_d d0 d1 d2 d3 d4 dp dc
      clear H_x x0 x1 x2 x3 x4 xp xc
      clear H_y y0 y1 y2 y3 y4 yp yc
      clear H_a a0 a1 a2 a3 a4 ap ac
      clear H_z z0 z1 z2 z3 z4 zp zc
      clear H_v v0 v1 v2 v3 v4 vp vc
      have H_c := Lib.hid N_c
      have cp := N_c.plain
      have cc := N_c.cells
      have c0 := N_c.lt
      obtain ⟨c1, c2, c3, c4⟩ := szs N_c.lt
      clear N_c
      have H_m := Lib.hid N_m
      have mo := N_m.1
      have m0 := N_m.lt
      obtain ⟨m1, m2, m3, m4⟩ := szs N_m.lt
      clear N_m
      have H_t := Lib.hid N_t
      have tp := N_t.plain
      have tc := N_t.cells
      have t0 := N_t.lt
      obtain ⟨t1, t2, t3, t4⟩ := szs N_t.lt
      clear N_t
      have H_d := Lib.hid N_d
      have dp := N_d.plain
      have dc := N_d.cells
      have d0 := N_d.lt
      obtain ⟨d1, d2, d3, d4⟩ := szs N_d.lt
      clear N_d
      have H_x := Lib.hid N_x
      have xp := N_x.plain
      have xc := N_x.cells
      have x0 := N_x.lt
      obtain ⟨x1, x2, x3, x4⟩ := szs N_x.lt
      clear N_x
      have H_y := Lib.hid N_y
      have yp := N_y.plain
      have yc := N_y.cells
      have y0 := N_y.lt
      obtain ⟨y1, y2, y3, y4⟩ := szs N_y.lt
      clear N_y
      have H_a := Lib.hid N_a
      have ap := N_a.plain
      have ac := N_a.cells
      have a0 := N_a.lt
      obtain ⟨a1, a2, a3, a4⟩ := szs N_a.lt
      clear N_a
      have H_z := Lib.hid N_z
      have zp := N_z.plain
      have zc := N_z.cells
      have z0 := N_z.lt
      obtain ⟨z1, z2, z3, z4⟩ := szs N_z.lt
      clear N_z
      have H_v := Lib.hid N_v
      have vp := N_v.plain
      have vc := N_v.cells
      have v0 := N_v.lt
      obtain ⟨v1, v2, v3, v4⟩ := szs N_v.lt
      clear N_v
      have H_b := Lib.hid N_b
      have bp := N_b.plain
      have bc := N_b.cells
      have b0 := N_b.lt
      obtain ⟨b1, b2, b3, b4⟩ := szs N_b.lt
      clear N_b
      clear hb hv
      have hq1 : ∀ n, (binOp .neq 44 (.pointer (some ⟨tx, 0, none⟩)) (.pointer (some ⟨ty, 0, none⟩))).run Tryz.prog (v22.drewN n) = .ok (.bool true) (v22.drewN n) := fun n => pneqo_44 _ _ _ (fun h => ne_z (by cases h; rfl)) yp vp
      have hq2 : ∀ n, (binOp .neq 44 (.pointer (some ⟨tx, 0, none⟩)) (.pointer (some ⟨td, 0, none⟩))).run Tryz.prog (v22.drewN n) = .ok (.bool true) (v22.drewN n) := fun n => pneqo_44 _ _ _ (fun h => ne_x (by cases h; rfl)) yp tp
      go_quiet (fail)
      go_wp2
      go_ret
      exact ⟨rfl, (by repeat (first | with_reducible exact F23 | with_reducible refine Below.drew ?_ | with_reducible refine bal ?_ _ | with_reducible refine bdn ?_ _))⟩
end Go.Proofs.YtfmefomafdgfmaaGreat.fnArrayFromTypeSharesCachedStruct
