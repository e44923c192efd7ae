/-
  The nature of a func type made by FuncOf. No condition.
-/
import Derived.Test.YtfmefomafdgfmaaGreatFo
namespace Go.Proofs.YtfmefomafdgfmaaGreat
open Go.RowKit
set_option maxRecDepth 100000
set_option maxHeartbeats 1000000
set_option linter.unusedVariables false
@[go_sem] theorem kind_3 (w : World) : (callFunc 190 #[.pointer (some ⟨0, 3, none⟩)]).run Tryz.prog w = .ok (.value (.int .u64 2)) w := by kernel_rfl
@[go_sem] theorem kind_99 (w : World) : (callFunc 190 #[.pointer (some ⟨0, 99, none⟩)]).run Tryz.prog w = .ok (.value (.int .u64 23)) w := by kernel_rfl
@[go_sem] theorem kind_9 (w : World) : (callFunc 190 #[.pointer (some ⟨0, 9, none⟩)]).run Tryz.prog w = .ok (.value (.int .u64 24)) w := by kernel_rfl
theorem bi_3  (w : World)  : Calls Tryz.prog 81 #[.iface 124 (.pointer (some ⟨0, 3, none⟩))] w fun e w' => e = .returned (Value.bool true) ∧ (w) = w' := by
  go_enter Tryz.func81, Tryz.ntmps81
  go_wp2
  exact bodyPost_ret (v := (Value.bool true)) (by simp [results, Tryz.results81, go_sem]) rfl ⟨rfl, rfl⟩
theorem from_99 (c : Option Addr) (w : World) : Calls Tryz.prog 45 #[.pointer c, .iface 124 (.pointer (some ⟨0, 99, none⟩))] w fun e w' => e = .returned (.agg #[.iface 124 (.pointer (some ⟨0, 99, none⟩)), .int .u64 23, .pointer none, .pointer none, .bool false, .bool false, .bool false, .bool false, .bool false]) ∧ w.alloc (.cells #[.iface 124 (.pointer (some ⟨0, 99, none⟩)), .int .u64 23, .pointer none, .pointer none, .bool false, .bool false, .bool false, .bool false, .bool false] 47) = w' :=
  from_plain c 99 23 kind_99 rfl rfl rfl rfl rfl rfl rfl rfl rfl rfl rfl rfl rfl rfl rfl w
theorem from_9 (c : Option Addr) (w : World) : Calls Tryz.prog 45 #[.pointer c, .iface 124 (.pointer (some ⟨0, 9, none⟩))] w fun e w' => e = .returned (.agg #[.iface 124 (.pointer (some ⟨0, 9, none⟩)), .int .u64 24, .pointer none, .pointer none, .bool false, .bool false, .bool false, .bool false, .bool false]) ∧ w.alloc (.cells #[.iface 124 (.pointer (some ⟨0, 9, none⟩)), .int .u64 24, .pointer none, .pointer none, .bool false, .bool false, .bool false, .bool false, .bool false] 47) = w' :=
  from_plain c 9 24 kind_9 rfl rfl rfl rfl rfl rfl rfl rfl rfl rfl rfl rfl rfl rfl rfl w
theorem from_3 (c : Option Addr) (w : World)  : Calls Tryz.prog 45 #[.pointer c, .iface 124 (.pointer (some ⟨0, 3, none⟩))] w fun e w' => e = .returned (Value.agg #[Value.iface 124 (Value.pointer (some { block := 0, off := 3 })), Value.int IntKind.u64 2, Value.pointer none, Value.pointer none, Value.bool false, Value.bool false, Value.bool false, Value.bool true, Value.bool false]) ∧ (w.alloc (Obj.cells #[Value.iface 124 (Value.pointer (some { block := 0, off := 3 })), Value.int IntKind.u64 2, Value.pointer none, Value.pointer none, Value.bool false, Value.bool false, Value.bool false, Value.bool true, Value.bool false] 47)) = w' := by
  go_enter Tryz.func45, Tryz.ntmps45
  go_wp2_with (first | (go_at_call 81; ((with_reducible refine (bi_3 _).mono ?_); rintro e w' ⟨rfl, rfl⟩)))
  exact bodyPost_ret (v := (Value.agg #[Value.iface 124 (Value.pointer (some { block := 0, off := 3 })), Value.int IntKind.u64 2, Value.pointer none, Value.pointer none, Value.bool false, Value.bool false, Value.bool false, Value.bool true, Value.bool false])) (by simp [results, Tryz.results45, go_sem]) rfl ⟨rfl, rfl⟩
@[go_sem] theorem str_3 (w : World) : (callFunc 208 #[.pointer (some ⟨0, 3, none⟩)]).run Tryz.prog w = .ok (.value (.string ⟨#[105, 110, 116]⟩)) w := by kernel_rfl
@[go_sem] theorem str_99 (w : World) : (callFunc 208 #[.pointer (some ⟨0, 99, none⟩)]).run Tryz.prog w = .ok (.value (.string ⟨#[91, 93, 115, 116, 114, 105, 110, 103]⟩)) w := by kernel_rfl
@[go_sem] theorem str_9 (w : World) : (callFunc 208 #[.pointer (some ⟨0, 9, none⟩)]).run Tryz.prog w = .ok (.value (.string ⟨#[115, 116, 114, 105, 110, 103]⟩)) w := by kernel_rfl
@[go_sem] theorem Elem_99 (w : World) : (callFunc 178 #[.pointer (some ⟨0, 99, none⟩)]).run Tryz.prog w = .ok (.value (.iface 124 (.pointer (some ⟨0, 9, none⟩)))) w := by kernel_rfl
theorem w64 (n : Int) (h : -9223372036854775808 ≤ n ∧ n ≤ 9223372036854775807) : wrap64 n = n := by unfold wrap64; omega
/-- the cells of a func nature's TypeData -/
abbrev tdf (p : Option Addr) (i o : Int) (si so : Bool) : Array Value := #[.pointer none, .pointer none, .map none, .pointer none, .pointer none, .int .i64 0, .pointer p, .pointer none, .int .i64 i, .int .i64 o, .bool false, .bool false, .bool si, .bool so]
theorem from_fn (t : Nat) (hk : ∀ w, (callFunc 190 #[.pointer (some ⟨0, t, none⟩)]).run Tryz.prog w = .ok (.value (.int .u64 19)) w) (c : Option Addr) (w : World) : Calls Tryz.prog 45 #[.pointer c, .iface 124 (.pointer (some ⟨0, t, none⟩))] w fun e w' => ∃ td, e = .returned (.agg (natc t 19 (some ⟨td, 0, none⟩) false false)) ∧ Below w.heap.size w w' ∧ At w' td (tdf none 0 0 false false) ∧ w.heap.size ≤ td := by
  go_enter Tryz.func45, Tryz.ntmps45
  go_wp2
  refine bodyPost_ret (v := .agg (natc t 19 (some ⟨w.heap.size + 1, 0, none⟩) false false)) (by simp [results, Tryz.results45, go_sem]) rfl ?_
  refine ⟨w.heap.size + 1, rfl, ?_, ?_, by omega⟩
  · repeat (first | with_reducible exact Below.refl _ _ | with_reducible refine bal ?_ _ | with_reducible refine Below.drew ?_)
  · repeat (first | with_reducible exact At.new _ _ _ _ rfl | ((with_reducible refine At.new _ _ _ _ ?sz); (case sz => simp; done)) | with_reducible refine At.alloc ?_ _)
theorem mk_run (x n : Nat) (h : n ≤ 128) (w : World) : (Instr.makeSlice 97 (.int .i64 n) (.int .i64 n)).run Tryz.prog w = .ok (.slice (some ⟨w.heap.size, 0, none⟩) n n) (w.alloc (.cells (fl x n 0) 42)) := by
  obtain ⟨i, hi, hz⟩ := Option.map_eq_some_iff.1 (by kernel_rfl : (Tryz.prog.info? 42).map (fun i => (i.zero, i.size, i.bytes)) = some (some .nilIface, 1, 16))
  simp only [Prod.mk.injEq] at hz
  obtain ⟨h1, h2, h3⟩ := hz
  rw [run_makeSlice w 97 42 i .nilIface Tryz.underlying97 hi h1 .i64 .i64 n n (by omega) (by omega) (by rw [h2]; omega) (by rw [h3]; omega) (by omega)]
  rw [h2]
  have e : madeCells (Value.nilIface).cells ((n : Int).toNat * 1) = fl x n 0 := by
    rw [← fl_zero]
    apply Array.ext_getElem?
    intro j
    by_cases hj : j < n
    · simp [madeCells, Value.cells, hj, Nat.mod_one]
    · simp [madeCells, Value.cells, hj, Nat.mod_one]
  rw [e]
  rfl
theorem load_at {x : Nat} {C : Array Value} {w : World} (h : At w x C) (n : Nat) (hn : n = C.size) : (loadCells ⟨x, 0, none⟩ n).run Tryz.prog w = .ok C w := by
  subst hn
  have e := run_loadCells_list (P := Tryz.prog) w ⟨x, 0, none⟩ C.toList fun j v hv => by
    rw [show (⟨x, 0, none⟩ : Addr).add j = ⟨x, j, none⟩ by (unfold Addr.add; split <;> simp_all), cell_plain w x j h.plain, h.cells, ← hv, Array.getElem?_toList]
  simpa using e
theorem fo_at (a b o : Nat) (hl : a + b + o ≤ 128) (x y : Nat) (w : World) (h1 : At w x (fl a (a + b) (a + b))) (h2 : At w y (fl o o o)) : (callFunc 64 #[.slice (some ⟨x, 0, none⟩) (a + b) (a + b), .slice (some ⟨y, 0, none⟩) o o, .bool false]).run Tryz.prog w = .ok (.value (.iface 124 (.pointer (some ⟨0, (Fo.ft Tryz.prog 3 99 a b o), none⟩)))) w := by
  rw [x_FuncOf, Fo.funcOf_run fok a b o hl _ _ _ _ _ _ w (by rw [fl_all]; exact load_at h1 _ (fl_size ..).symm) (by rw [fl_rep]; exact load_at h2 _ (fl_size ..).symm)]
  rfl
theorem fo_end (a b o i : Nat) (hl : a + b + o ≤ 128) (x y : Nat) (w : World) (h1 : Hid (At w x (fl a (a + b) (a + b)))) (h2 : Hid (At w y (fl o o i))) (hi : i ≤ o) : ¬ i < o → (callFunc 64 #[.slice (some ⟨x, 0, none⟩) (a + b) (a + b), .slice (some ⟨y, 0, none⟩) o o, .bool false]).run Tryz.prog w = .ok (.value (.iface 124 (.pointer (some ⟨0, (Fo.ft Tryz.prog 3 99 a b o), none⟩)))) w := by
  intro h
  have e : i = o := by omega
  subst e
  exact fo_at a b i hl x y w h1.out h2.out
theorem ar1 {o i gk : Nat} (n0 : gk = o - i) (h : i < o) : o - (i + 1) < gk := by omega
theorem ar2 {x y : Nat} (h : x + 1 < y) : x + 1 ≠ y ∧ x ≠ y ∧ x ≤ y := by omega
theorem fl_lo {w : World} {x a n j : Nat} (h : At w x (fl a n j)) (hn : j < n) (ha : j < a) : At (w.setCell ⟨x, j, none⟩ (.iface 124 (.pointer (some ⟨0, 3, none⟩)))) x (fl a n (j + 1)) := by
  have e := fl_set a n j hn
  rw [if_pos ha] at e
  rw [← e]
  exact h.set j _
theorem fl_hi {w : World} {x a n j : Nat} (h : At w x (fl a n j)) (hn : j < n) (ha : ¬ j < a) : At (w.setCell ⟨x, j, none⟩ (.iface 124 (.pointer (some ⟨0, 99, none⟩)))) x (fl a n (j + 1)) := by
  have e := fl_set a n j hn
  rw [if_neg ha] at e
  rw [← e]
  exact h.set j _
theorem zfn (c : Option Addr) (a b o : Nat) (hl : a + b + o ≤ 128) (w : World) : Calls Tryz.prog 28 #[.pointer c, .int .i64 a, .int .i64 b, .int .i64 o] w fun e w' => ∃ t td, FtOk t a b o ∧ e = .returned (.agg (natc t 19 (some ⟨td, 0, none⟩) false false)) ∧ Below w.heap.size w w' ∧ At w' td (tdf none 0 0 false false) ∧ w.heap.size ≤ td := by
  have HL := Lib.hid hl
  have hab : wrap64 ((a : Int) + (b : Int)) = (a : Int) + (b : Int) := w64 _ (by omega)
  have hm := mk_run a (a + b) (by omega)
  rw [show ((a + b : Nat) : Int) = (a : Int) + (b : Int) from Int.natCast_add a b] at hm
  have hm2 := mk_run o o (by omega)
  have hft := ftOk a b o hl
  clear hl
  go_enter Tryz.func28, Tryz.ntmps28
  go_wp2_with fail
  go_loopg [19] (a + b) (fun k i wr => ∃ j : Nat, k = (a + b) - j ∧ j ≤ (a + b) ∧ i = .int .i64 j ∧ At wr (w.heap.size + 1) (fl a (a + b) j) ∧ At wr w.heap.size #[.nilIface, .int .u64 0, .pointer none, .pointer none, .bool false, .bool false, .bool false, .bool false, .bool false] ∧ Below w.heap.size w wr)
  case atStart => exact ⟨0, by simp, Nat.zero_le _, rfl, (by (repeat (first | with_reducible exact (At.new _ _ _ _ rfl) | with_reducible exact At.new _ _ _ _ rfl | ((with_reducible refine At.new _ _ _ _ ?sz); (case sz => simp; done)) | with_reducible refine At.drewN ?_ _ | with_reducible refine At.drew ?_ | with_reducible refine At.alloc ?_ _)); done), (by (repeat (first | with_reducible exact (At.new _ _ _ _ rfl) | with_reducible exact At.new _ _ _ _ rfl | ((with_reducible refine At.new _ _ _ _ ?sz); (case sz => simp; done)) | with_reducible refine At.drewN ?_ _ | with_reducible refine At.drew ?_ | with_reducible refine At.alloc ?_ _)); done), by repeat (first | with_reducible exact Below.refl _ _ | with_reducible refine bal ?_ _)⟩
  case round =>
    obtain ⟨j, hg, hj, rfl, q1, q2, q3⟩ := hrel
    have p1 := q1.plain
    have p2 := q1.cells
    have p3 := q1.lt
    have HQ1 := Lib.hid q1
    have HQ2 := Lib.hid q2
    have F := q3
    have HG := Lib.hid hg
    have hx : (j : Int) < (a : Int) + (b : Int) → (fl a (a + b) j)[j]? = some .nilIface := fun h => by rw [fl_get _ _ _ _ (by omega)]; simp
    have hw : wrap64 ((j : Int) + 1) = (j : Int) + 1 := w64 _ (by have := HL.out; omega)
    clear q1 q2 q3 hg
    go_wp2_with (go_at_call 63; go_in)
    · rename_i h1 h2
      go_roundg (a + b - (j + 1))
      case measure => have := HG.out; omega
      case rel => exact ⟨j + 1, rfl, by omega, by simp [hw], fl_lo HQ1.out (by omega) h2, HQ2.out.other _ _ _ (by omega), bsetNew F (by omega) _ _⟩
    · rename_i h1 h2
      go_roundg (a + b - (j + 1))
      case measure => have := HG.out; omega
      case rel => exact ⟨j + 1, rfl, by omega, by simp [hw], fl_hi HQ1.out (by omega) h2, HQ2.out.other _ _ _ (by omega), bsetNew F (by omega) _ _⟩
    next hK =>
      have ej : j = a + b := by have := HG.out; omega
      obtain ⟨yb, hy⟩ : ∃ n, wr.heap.size = n := ⟨_, rfl⟩
      have ly : w.heap.size + 1 < yb := by omega
      rw [hy]
      go_loopg [39] o (fun k i wz => ∃ j : Nat, k = o - j ∧ j ≤ o ∧ i = .int .i64 j ∧ At wz yb (fl o o j) ∧ At wz (w.heap.size + 1) (fl a (a + b) (a + b)) ∧ At wz w.heap.size #[.nilIface, .int .u64 0, .pointer none, .pointer none, .bool false, .bool false, .bool false, .bool false, .bool false] ∧ Below w.heap.size w wz)
      case atStart => exact ⟨0, by simp, Nat.zero_le _, rfl, At.new _ _ _ _ hy.symm, by have h := HQ1.out.alloc (.cells (fl o o 0) 42); rw [ej] at h; exact h, HQ2.out.alloc _, bal F _⟩
      case round =>
        clear p1 p2 p3 HQ1 HQ2 F HG hx hw
        obtain ⟨i, hg, hi, rfl, q1, q2, q3, q4⟩ := hrel
        have p1 := q1.plain
        have p2 := q1.cells
        have p3 := q1.lt
        have r1 := q2.plain
        have r2 := q2.cells
        have r3 := q2.lt
        have z1 := q3.plain
        have z2 := q3.cells
        have z3 := q3.lt
        obtain ⟨s1, s2, s3, s4⟩ := szs q3.lt
        have HQ1 := Lib.hid q1
        have HQ2 := Lib.hid q2
        have HQ3 := Lib.hid q3
        have F := q4
        have HG := Lib.hid hg
        have hx : i < o → (fl o o i)[i]? = some .nilIface := fun h => by rw [fl_get _ _ _ _ h]; simp
        have hw : wrap64 ((i : Int) + 1) = (i : Int) + 1 := w64 _ (by have := HL.out; omega)
        have hfo : ¬ i < o → (callFunc 64 #[.slice (some ⟨w.heap.size + 1, 0, none⟩) (a + b) (a + b), .slice (some ⟨yb, 0, none⟩) o o, .bool false]).run Tryz.prog wr = .ok (.value (.iface 124 (.pointer (some ⟨0, (Fo.ft Tryz.prog 3 99 a b o), none⟩)))) wr := fo_end a b o i HL.out _ _ wr HQ2 HQ1 hi
        clear q1 q2 q3 q4 hg
        go_wp2_with (first | (go_at_call 63; go_in) | (go_at_call 45; ((with_reducible refine (from_fn _ hft.kind _ _).mono ?_); rintro e v ⟨td, rfl, hb, f0, l0⟩; have hR := HQ3.out.bel hb; have m1 := hR.plain; have m2 := hR.cells; have m3 := hR.lt; obtain ⟨n1, n2, n3, n4⟩ := szs hR.lt; have m4 : (cellsAt v w.heap.size).size = 9 := (by rw [m2]; rfl); have HB := Lib.hid hb; have H0 := Lib.hid f0; have HR := Lib.hid hR; clear hR hb f0)))
        · rename_i h1
          clear hfo hx
          have n0 := HG.out
          have n1 : o - (i + 1) < gk := ar1 n0 h1
          obtain ⟨n2, n3, n4⟩ := ar2 ly
          go_roundg (o - (i + 1))
          case measure => exact n1
          case rel => exact ⟨i + 1, rfl, h1, by simp [hw], fl_lo HQ1.out h1 h1, HQ2.out.other _ _ _ n2, HQ3.out.other _ _ _ n3, bsetNew F n4 _ _⟩
        refine bodyPost_ret (v := .agg (natc (Fo.ft Tryz.prog 3 99 a b o) 19 (some ⟨td, 0, none⟩) false false)) (by simp [results, Tryz.results28, go_sem, m1, m2]) rfl ?_
        refine ⟨_, td, hft, rfl, ?_, ?_, by have := F.size; omega⟩
        · have hF : Below w.heap.size w v := bnext F HB.out
          repeat (first | with_reducible exact hF | with_reducible refine bsetNew ?_ (Nat.le_refl _) _ _ | with_reducible refine browNew ?_ (Nat.le_refl _) _ | with_reducible refine bal ?_ _ | with_reducible refine Below.drew ?_)
        · repeat (first | with_reducible exact H0.out | ((with_reducible refine At.rowOther ?_ _ _ ?ne); (case ne => omega)) | ((with_reducible refine At.other ?_ _ _ _ ?ne); (case ne => omega)) | with_reducible refine At.alloc ?_ _ | with_reducible refine At.drew ?_)
end Go.Proofs.YtfmefomafdgfmaaGreat
