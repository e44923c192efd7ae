/-
  getStruct and FromType with a cache. No condition.
-/
import Derived.Test.YtfmefomafdgfmaaGreatKit
namespace Go.Proofs.YtfmefomafdgfmaaGreat
open Go.RowKit
set_option maxRecDepth 100000
set_option maxHeartbeats 1000000
set_option linter.unusedVariables false
theorem gs_first (t : Nat) (nf : Int) (hnf : ∀ w, (callFunc 196 #[.pointer (some ⟨0, t, none⟩)]).run Tryz.prog w = .ok (.value (.int .i64 nf)) w) (cb : Nat) (w : World) (hC : At w cb (cac none)) : Calls Tryz.prog 80 #[.pointer (some ⟨cb, 0, none⟩), .iface 124 (.pointer (some ⟨0, t, none⟩))] w fun e w' =>
    ∃ td sd mc, e = .returned (.agg (natc t 25 (some ⟨td, 0, none⟩) false false)) ∧ Sole cb w w' ∧ At w' cb (cac (some mc)) ∧ Ty w' mc (fun a => if a = t then some td else none) ∧ At w' td (tdc sd) ∧ At w' sd (sd0 t nf) ∧ w.heap.size ≤ td ∧ w.heap.size ≤ sd ∧ w.heap.size ≤ mc := by
  have hp := hC.plain
  have hc := hC.cells
  have hlt := hC.lt
  obtain ⟨s1, s2, s3, s4⟩ := szs hlt
  have HC := Lib.hid hC
  have hcn : ¬ w.heap.size + 1 = cb := by omega
  clear hC
  go_enter Tryz.func80, Tryz.ntmps80
  go_wp2
  go_region
  go_wp2
  obtain ⟨c1, c2, c3, c4⟩ := chain5 (w.setCell ⟨cb, 1, none⟩ (.map (some (w.heap.size + 1)))) _ _ _ _ _ w.heap.size (size_set ..)
  refine bodyPost_ret (v := .agg (natc t 25 (some ⟨w.heap.size + 1 + 1 + 1, 0, none⟩) false false)) (by simp [results, Tryz.results80, go_sem]) rfl ?_
  exact ⟨_, w.heap.size + 1 + 1, w.heap.size + 1, rfl, (((((((Sole.refl cb w).set 1 _).alloc _).alloc _).alloc _).alloc _).alloc _).drew, (HC.out.set 1 (.map (some (w.heap.size + 1)))).heap (c4 cb hlt), ty_one t c1, ⟨_, c3⟩, ⟨_, c2⟩, by omega, by omega, by omega⟩
theorem gs_hit (t td : Nat) (mc : Nat) (G : Nat → Option Nat) (cb : Nat) (w : World) (hC : At w cb (cac (some mc))) (hT : Ty w mc G) (hG : G t = some td) : Calls Tryz.prog 80 #[.pointer (some ⟨cb, 0, none⟩), .iface 124 (.pointer (some ⟨0, t, none⟩))] w fun e w' =>
    e = .returned (.agg (natc t 25 (some ⟨td, 0, none⟩) false false)) ∧ Below w.heap.size w w' := by
  have hp := hC.plain
  have hc := hC.cells
  have hlt := hC.lt
  obtain ⟨s1, s2, s3, s4⟩ := szs hlt
  have hmlt := hT.lt
  obtain ⟨r1, r2, r3, r4⟩ := szs hmlt
  have hm := hT.1
  have hl : tyLook (mapAt w mc) t = some (.agg (natc t 25 (some ⟨td, 0, none⟩) false false)) := (hT.2 t).trans (by rw [hG]; rfl)
  clear hC hT hG
  go_enter Tryz.func80, Tryz.ntmps80
  go_wp2
  refine bodyPost_ret (v := .agg (natc t 25 (some ⟨td, 0, none⟩) false false)) (by simp [results, Tryz.results80, go_sem]) rfl ?_
  refine ⟨rfl, ?_⟩
  repeat (first | with_reducible exact Below.refl _ _ | with_reducible refine bal ?_ _ | with_reducible refine Below.drew ?_)
theorem gs_next (t : Nat) (nf : Int) (hnf : ∀ w, (callFunc 196 #[.pointer (some ⟨0, t, none⟩)]).run Tryz.prog w = .ok (.value (.int .i64 nf)) w) (mc : Nat) (G : Nat → Option Nat) (cb : Nat) (w : World) (hC : At w cb (cac (some mc))) (hT : Ty w mc G) (hG : G t = none) : Calls Tryz.prog 80 #[.pointer (some ⟨cb, 0, none⟩), .iface 124 (.pointer (some ⟨0, t, none⟩))] w fun e w' =>
    ∃ td sd, e = .returned (.agg (natc t 25 (some ⟨td, 0, none⟩) false false)) ∧ Sole mc w w' ∧ Ty w' mc (fun a => if a = t then some td else G a) ∧ At w' td (tdc sd) ∧ At w' sd (sd0 t nf) ∧ w.heap.size ≤ td ∧ w.heap.size ≤ sd := by
  have hp := hC.plain
  have hc := hC.cells
  have hlt := hC.lt
  obtain ⟨s1, s2, s3, s4⟩ := szs hlt
  have hmlt := hT.lt
  obtain ⟨r1, r2, r3, r4⟩ := szs hmlt
  have hm := hT.1
  have hl : tyLook (mapAt w mc) t = none := (hT.2 t).trans (by rw [hG]; rfl)
  have hmc : ¬ mc = cb := hT.ne hC
  have HT := Lib.hid hT
  have HG := Lib.hid hG
  clear hC hT hG
  go_enter Tryz.func80, Tryz.ntmps80
  go_wp2
  go_region
  go_wp2
  obtain ⟨c1, c2, c3, c4⟩ := chain5 (put w mc (mapPush (mapAt w mc) (.iface 124 (.pointer (some ⟨0, t, none⟩))) (.agg (natc t 25 (some ⟨w.heap.size + 1 + 1 + 1, 0, none⟩) false false)))) _ _ _ _ _ w.heap.size (put_size ..)
  refine bodyPost_ret (v := .agg (natc t 25 (some ⟨w.heap.size + 1 + 1 + 1, 0, none⟩) false false)) (by simp [results, Tryz.results80, go_sem]) rfl ?_
  exact ⟨_, w.heap.size + 1 + 1, rfl, (((((((Sole.refl mc w).put _).alloc _).alloc _).alloc _).alloc _).alloc _).drew, (HT.out.push t _ HG.out).heap (c4 mc hmlt), ⟨_, c3⟩, ⟨_, c2⟩, by omega, by omega⟩
theorem ft_first (t : Nat) (hk : ∀ w, (callFunc 190 #[.pointer (some ⟨0, t, none⟩)]).run Tryz.prog w = .ok (.value (.int .u64 25)) w) (nf : Int) (hnf : ∀ w, (callFunc 196 #[.pointer (some ⟨0, t, none⟩)]).run Tryz.prog w = .ok (.value (.int .i64 nf)) w) (cb : Nat) (w : World) (hC : At w cb (cac none)) : Calls Tryz.prog 45 #[.pointer (some ⟨cb, 0, none⟩), .iface 124 (.pointer (some ⟨0, t, none⟩))] w fun e w' => ∃ td sd mc, e = .returned (.agg (natc t 25 (some ⟨td, 0, none⟩) false false)) ∧ Sole cb w w' ∧ At w' cb (cac (some mc)) ∧ Ty w' mc (fun a => if a = t then some td else none) ∧ At w' td (tdc sd) ∧ At w' sd (sd0 t nf) ∧ w.heap.size ≤ td ∧ w.heap.size ≤ sd ∧ w.heap.size ≤ mc := by
  have hCl := hC.lt
  have hne : w.heap.size ≠ cb := by omega
  have hCH := Lib.hid hC
  clear hC
  go_enter Tryz.func45, Tryz.ntmps45
  go_wp2_with (first | (go_at_call 80; ((with_reducible refine (gs_first t nf hnf cb _ (hCH.out.alloc _)).mono ?_); rintro e w1 ⟨td, sd, mc, rfl, hb, f0, f1, f2, f3, l0, l1, l2⟩; have hR := (At.new w #[.nilIface, .int .u64 0, .pointer none, .pointer none, .bool false, .bool false, .bool false, .bool false, .bool false] 47 w.heap.size rfl).sole hb hne; have hrp := hR.plain; have hrc := hR.cells; have hrz : (cellsAt w1 w.heap.size).size = 9 := (by rw [hrc]; rfl); have HR := Lib.hid hR; have HB := Lib.hid hb; have f0H := Lib.hid f0; have f0l := f0.lt; have f1H := Lib.hid f1; have f1l := f1.lt; have f2H := Lib.hid f2; have f2l := f2.lt; have f3H := Lib.hid f3; have f3l := f3.lt; clear hR hb f0 f1 f2 f3)))
  refine bodyPost_ret (v := .agg (natc t 25 (some ⟨td, 0, none⟩) false false)) (by simp [results, Tryz.results45, go_sem, hrp, hrc]) rfl ?_
  simp at l0 l1 l2
  refine ⟨td, sd, mc, rfl, ?_, ?_, ?_, ?_, ?_, by omega, by omega, by omega⟩
  · have hF : Sole cb w w1 := Sole.next (bal (Below.refl _ _) _) HB.out
    repeat (first | with_reducible exact hF | with_reducible refine Sole.new ?_ (Nat.le_refl _) _ _ | with_reducible refine Sole.rowNew ?_ (Nat.le_refl _) _ | with_reducible refine Sole.alloc ?_ _ | with_reducible refine Sole.drew ?_)
  · repeat (first | with_reducible exact f0H.out | ((with_reducible refine At.rowOther ?_ _ _ ?ne); (case ne => omega)) | ((with_reducible refine At.other ?_ _ _ _ ?ne); (case ne => omega)) | with_reducible refine At.alloc ?_ _ | with_reducible refine At.drew ?_)
  · repeat (first | with_reducible exact f1H.out | ((with_reducible refine Ty.rowOther ?_ _ _ ?ne); (case ne => omega)) | ((with_reducible refine Ty.other ?_ _ _ _ ?ne); (case ne => omega)) | with_reducible refine Ty.alloc ?_ _ | with_reducible refine Ty.drew ?_)
  · repeat (first | with_reducible exact f2H.out | ((with_reducible refine At.rowOther ?_ _ _ ?ne); (case ne => omega)) | ((with_reducible refine At.other ?_ _ _ _ ?ne); (case ne => omega)) | with_reducible refine At.alloc ?_ _ | with_reducible refine At.drew ?_)
  · repeat (first | with_reducible exact f3H.out | ((with_reducible refine At.rowOther ?_ _ _ ?ne); (case ne => omega)) | ((with_reducible refine At.other ?_ _ _ _ ?ne); (case ne => omega)) | with_reducible refine At.alloc ?_ _ | with_reducible refine At.drew ?_)
theorem ft_hit (t : Nat) (hk : ∀ w, (callFunc 190 #[.pointer (some ⟨0, t, none⟩)]).run Tryz.prog w = .ok (.value (.int .u64 25)) w) (td mc : Nat) (G : Nat → Option Nat) (cb : Nat) (w : World) (hC : At w cb (cac (some mc))) (hT : Ty w mc G) (hG : G t = some td) : Calls Tryz.prog 45 #[.pointer (some ⟨cb, 0, none⟩), .iface 124 (.pointer (some ⟨0, t, none⟩))] w fun e w' => e = .returned (.agg (natc t 25 (some ⟨td, 0, none⟩) false false)) ∧ Below w.heap.size w w' := by
  have hCl := hC.lt
  have hCH := Lib.hid hC
  have hTl := hT.lt
  have hTH := Lib.hid hT
  have hGH := Lib.hid hG
  clear hC hT hG
  go_enter Tryz.func45, Tryz.ntmps45
  go_wp2_with (first | (go_at_call 80; ((with_reducible refine (gs_hit t td mc G cb _ (hCH.out.alloc _) (hTH.out.alloc _) hGH.out).mono ?_); rintro e w1 ⟨rfl, hb⟩; have hR := (At.new w #[.nilIface, .int .u64 0, .pointer none, .pointer none, .bool false, .bool false, .bool false, .bool false, .bool false] 47 w.heap.size rfl).bel hb; have hrp := hR.plain; have hrc := hR.cells; have hrz : (cellsAt w1 w.heap.size).size = 9 := (by rw [hrc]; rfl); have HR := Lib.hid hR; have HB := Lib.hid hb; clear hR hb )))
  refine bodyPost_ret (v := .agg (natc t 25 (some ⟨td, 0, none⟩) false false)) (by simp [results, Tryz.results45, go_sem, hrp, hrc]) rfl ?_
  refine ⟨rfl, ?_⟩
  · have hF : Below w.heap.size w w1 := bnext (bal (Below.refl _ _) _) HB.out
    repeat (first | with_reducible exact hF | with_reducible refine bsetNew ?_ (Nat.le_refl _) _ _ | with_reducible refine browNew ?_ (Nat.le_refl _) _ | with_reducible refine bal ?_ _ | with_reducible refine Below.drew ?_)
end Go.Proofs.YtfmefomafdgfmaaGreat
