/-
  The walk of FnIsAnyOfUnionOrderFree: IsAnyOf of two lists of known checks laid end to end is the one or the other; reversing a list leaves it; the empty list answers false.
-/
import Derived.Test.YtnjjndnnpkejlaaGreatFmtBase
import Derived.Test.YtnjjndnnpkejlaaGreatFmtN51
import Derived.Laws.BitsAllLaws
import Derived.IntWalk
import Derived.OpenShut
import Derived.Deep.RegionWith
import Derived.RegionTactic
import Derived.ChangeAlike
import Derived.Deep.QuietTactic
import Derived.BigQuiet
import Derived.WalkSmall
import Derived.Outline
import Derived.Lib.Hide
import Derived.Deep.LoopGhost
import Derived.Deep.Cut
import Derived.Deep.CutRange
import Derived.Laws.Cells
import Derived.Laws.MakeOwn
import Derived.Test.YtnjjndnnpkejlaaGreatFmtKit
namespace Go.Proofs.YtnjjndnnpkejlaaGreatFmt.fnIsAnyOfUnionOrderFree
open Go.RowKit
set_option maxRecDepth 100000
set_option maxHeartbeats 1000000
set_option linter.unusedVariables false
theorem bal {w v : World} (h : Below w.heap.size w v) (o : Obj) : Below w.heap.size w (v.alloc o) := h.alloc h.size o
theorem bdn {B : Nat} {a w : World} (h : Below B a w) (n : Nat) : Below B a (w.drewN n) := ⟨h.os, h.tape, h.output, h.size, h.block⟩
/-- the slice of integers 'v' reads as 'zs' up to its capacity, or is nil -/
def IntsIn (w : World) (k : IntKind) (v : Value) : Prop := v = .slice none 0 0 ∨ ∃ (a : Addr) (len cap : Nat) (zs : List Int), v = .slice (some a) len cap ∧ len ≤ cap ∧ cap ≤ maxLen ∧ zs.length = cap ∧ (∀ i, i < zs.length → w.cell? (a.add i) = some (.int k (zs.getD i 0))) ∧ (∀ n ∈ zs, (Lit.int k n).wf = true)
/-- the slice of strings 'v' reads as 'ss' up to its capacity, or is nil -/
def StrsIn (w : World) (v : Value) : Prop := v = .slice none 0 0 ∨ ∃ (a : Addr) (len cap : Nat) (ss : List ByteArray), v = .slice (some a) len cap ∧ len ≤ cap ∧ cap ≤ maxLen ∧ ss.length = cap ∧ (∀ i, i < ss.length → w.cell? (a.add i) = some (.string (ss.getD i ByteArray.empty))) ∧ (∀ s ∈ ss, s.size ≤ maxLen)
/-- the pointer 'v' is nil or points at an integer -/
def PtrIn (w : World) (k : IntKind) (v : Value) : Prop := v = .pointer none ∨ ∃ b off n, v = .pointer (some ⟨b, off, none⟩) ∧ w.cell? ⟨b, off, none⟩ = some (.int k n) ∧ (Lit.int k n).wf = true
theorem rd_of {w : World} {v : Value} (h : IntsIn w .i64 v) : ∃ o n c zs, v = .slice o n c ∧ Rd w o n zs := by
  rcases h with rfl | ⟨a, len, cap, zs, rfl, h1, h2, h3, h4, h5⟩
  · exact ⟨none, 0, 0, [], rfl, rfl, fun i hi => absurd hi (Nat.not_lt_zero _)⟩
  · refine ⟨some a, len, cap, zs.take len, rfl, by rw [List.length_take]; omega, fun i hi => ⟨a, rfl, ?_⟩⟩
    rw [h4 i (by omega), List.getD_eq_getElem?_getD, List.getD_eq_getElem?_getD, List.getElem?_take, if_pos hi]

theorem any2 (k : Int) (ii ff : Bool) (nb : Nat) (o : Option Addr) (n c : Nat) (zs : List Int) (hn : n ≤ 10000000) (ho : okc zs) (w : World) (hN : At w nb (natk k ii ff)) (hS : Rd w o n zs) : Calls Tryz.prog 9 #[.pointer (some ⟨nb, 0, none⟩), .slice o n c] w fun e w' => e = .returned (.bool (zs.any (hold k ii ff))) ∧ Below w.heap.size w w' := by
  have HN := Lib.hid hn
  have HL := Lib.hid hS.1
  have HO := Lib.hid ho
  have HA := Lib.hid hN
  have HS := Lib.hid hS
  clear hn ho hN hS
  go_enter Tryz.func9, Tryz.ntmps9
  go_wp2
  go_loopg [5, 6] n (fun g r i wr => ∃ j : Nat, g = n - j ∧ j ≤ n ∧ i = .int .i64 j ∧ r = .bool ((zs.take j).any (hold k ii ff)) ∧ ((zs.take j).any (hold k ii ff) = true → 0 < j) ∧ Below w.heap.size w wr)
  case atStart => exact ⟨0, by simp, Nat.zero_le _, rfl, by simp, by simp, by repeat (first | with_reducible assumption | with_reducible exact Below.refl _ _ | with_reducible refine bal ?_ _ | with_reducible refine Below.drew ?_ | with_reducible refine bdn ?_ _)⟩
  case round =>
    obtain ⟨j, hg, hj, rfl, rfl, hz, q1⟩ := hrel
    have hA := HA.out.bel q1
    have ap := hA.plain
    have ac := hA.cells
    have a0 := hA.lt
    have HC := Lib.hid (show wr.cell? ⟨nb, 0, none⟩ = some .nilIface by rw [cell_plain _ _ _ ap, ac]; rfl)
    obtain ⟨a1, a2, a3, a4⟩ := szs a0
    have HF := Lib.hid q1
    have HG := Lib.hid hg
    clear hA hg hz q1
    cases hr : (zs.take j).any (hold k ii ff) with
    | true =>
      have ht := take_any zs _ j hr
      by_cases c1 : j < n
      all_goals
        go_wp2
        go_ret
        exact ⟨by rw [ht]; rfl, HF.out⟩
    | false =>
      by_cases c1 : j < n
      · obtain ⟨a, ha, hc0⟩ := HS.out.2 j c1
        have hcc := cell_bel HF.out hc0
        subst ha
        clear hc0
        obtain ⟨z1, z2⟩ := HO.out j (by have := HL.out; omega)
        have hs := take_succ_any zs (hold k ii ff) j (by have := HL.out; omega) hr
        have HS2 := Lib.hid hs
        have hc : zs.getD j 0 = 1 ∨ zs.getD j 0 = 2 ∨ zs.getD j 0 = 3 ∨ zs.getD j 0 = 4 ∨ zs.getD j 0 = 5 ∨ zs.getD j 0 = 6 ∨ zs.getD j 0 = 7 ∨ zs.getD j 0 = 8 := by omega
        generalize hzj : zs.getD j 0 = z at *
        clear hs z1 z2 hzj
        rcases hc with rfl | rfl | rfl | rfl | rfl | rfl | rfl | rfl
        all_goals
          go_wp2_with (first | (go_at_call 40; go_in) | (go_at_call 41; go_in) | (go_at_call 8; go_in) | (go_at_call 42; go_in) | (go_at_call 43; go_in) | (go_at_call 44; ((with_reducible refine (isT0 _ _ a0 HC.out).mono ?_); rintro e w' ⟨rfl, rfl⟩)) | (go_at_call 45; ((with_reducible refine (isD0 _ _ a0 HC.out).mono ?_); rintro e w' ⟨rfl, rfl⟩)))
        all_goals
          go_roundg (n - (j + 1))
        all_goals first
        | (show _ < _; have := HG.out; omega)
        | exact ⟨j + 1, rfl, c1, by simp; rw [w64 _ (by have := HN.out; omega)], by rw [HS2.out]; (first | rfl | (simp [hold, *]; done) | (simp_all [hold]; done)), fun _ => Nat.succ_pos _, by have h := HF.out; repeat (first | with_reducible assumption | with_reducible exact Below.refl _ _ | with_reducible refine bal ?_ _ | with_reducible refine Below.drew ?_ | with_reducible refine bdn ?_ _)⟩
      · have e : j = n := by omega
        subst e
        have ht : zs.any (hold k ii ff) = false := by rw [← hr, List.take_of_length_le (by have := HL.out; omega)]
        go_wp2
        go_ret
        exact ⟨by rw [ht]; rfl, HF.out⟩
theorem bytes2 (k : Int) (ii ff : Bool) (o : Option Addr) (n c : Nat) (o2 : Option Addr) (n2 c2 : Nat) (w : World) : Calls Tryz.prog 16 #[.int .u64 k, .bool ii, .bool ff, .slice o n c, .slice o2 n2 c2] w fun e w' => ∃ b, e = .returned (.bool b) ∧ w = w' := by
  go_enter Tryz.func16, Tryz.ntmps16
  go_wp2
  all_goals
    go_ret
    exact ⟨_, rfl, rfl⟩
theorem add0 (b i : Nat) : (⟨b, 0, none⟩ : Addr).add i = ⟨b, i, none⟩ := by by_cases h : i = 0 <;> simp [Addr.add, h]
theorem mk2 (N : Nat) (h : N ≤ 10000000) (w : World) : (Instr.makeSlice 54 (.int .i64 0) (.int .i64 (N : Int))).run Tryz.prog w = .ok (.slice (some ⟨w.heap.size, 0, none⟩) 0 N) (w.alloc (.cells (ch [] N 0) 48)) := by
  obtain ⟨i, hi, hz⟩ := Option.map_eq_some_iff.1 (by kernel_rfl : (Tryz.prog.info? 48).map (fun i => (i.zero, i.size, i.bytes)) = some (some (.int .i64 0), 1, 8))
  simp only [Prod.mk.injEq] at hz
  obtain ⟨h1, h2, h3⟩ := hz
  rw [run_makeSlice w 54 48 i (.int .i64 0) Tryz.underlying54 hi h1 .i64 .i64 0 N (by omega) (by omega) (by rw [h2]; omega) (by rw [h3]; omega) (by omega)]
  rw [h2]
  have e : madeCells (Value.int .i64 0).cells ((N : Int).toNat * 1) = ch [] N 0 := by
    apply Array.ext_getElem?
    intro j
    by_cases hj : j < N
    · rw [ch_get _ _ _ _ hj]
      simp [madeCells, Value.cells, hj, Nat.mod_one]
    · rw [Array.getElem?_eq_none (by simp [madeCells]; omega), Array.getElem?_eq_none (by rw [ch_size]; omega)]
  rw [e]
  rfl
theorem rd_at {w : World} {sb n : Nat} {zs : List Int} (h : At w sb (ch zs n n)) (hl : zs.length = n) : Rd w (some ⟨sb, 0, none⟩) n zs :=
  ⟨hl, fun i hi => ⟨_, rfl, by rw [add0, cell_plain _ _ _ h.plain, h.cells, ch_get _ _ _ _ hi, if_pos hi]⟩⟩
/-- the first j of the N cells of block g are zs -/
def Own (w : World) (base g j N : Nat) (zs : List Int) : Prop := w.ownsRow base 48 1 (.slice (some ⟨g, 0, none⟩) j N) j (zs.map (Value.int .i64))
theorem rd_own {w : World} {base g n N : Nat} {zs : List Int} (h : Own w base g n N zs) : Rd w (some ⟨g, 0, none⟩) n zs := by
  obtain ⟨h1, ⟨h2, _⟩ | ⟨g2, cap, cur, h2, _, h3, _, _, _, h4⟩⟩ := h
  · cases h2
  · cases h2
    have hl : zs.length = n := by rw [List.length_map] at h1; omega
    refine ⟨hl, fun i hi => ⟨_, rfl, ?_⟩⟩
    rw [add0, cell_of_row w _ i cur 48 _ h3]
    have h5 : (cur.toList.take (n * 1))[i]? = (zs.map (Value.int .i64))[i]? := by rw [h4]
    rw [List.getElem?_take, if_pos (by omega), List.getElem?_map, List.getElem?_eq_getElem (by omega : i < zs.length), Array.getElem?_toList] at h5
    rw [h5, List.getD_eq_getElem?_getD, List.getElem?_eq_getElem (by omega : i < zs.length)]
    rfl
theorem own_new (w : World) (base N : Nat) (hb : base ≤ w.heap.size) (hN : N ≤ 10000000) : Own (w.alloc (.cells (ch [] N 0) 48)) base w.heap.size 0 N [] :=
  ⟨rfl, Or.inr ⟨_, N, _, rfl, hb, blk_new w _, Nat.zero_le _, (by unfold maxLen; omega), (by rw [ch_size, Nat.mul_one]), rfl⟩⟩
theorem Own.take {w : World} {base g j N : Nat} {xs : List Int} (h : w.ownsRow base 48 1 (.slice (some ⟨g, 0, none⟩) (j + 1) N) (j + 1) ((xs.take j).map (Value.int .i64) ++ [.int .i64 (xs.getD j 0)])) (hj : j < xs.length) : Own w base g (j + 1) N (xs.take (j + 1)) := by
  have e : (xs.take (j + 1)).map (Value.int .i64) = (xs.take j).map (Value.int .i64) ++ [.int .i64 (xs.getD j 0)] := by
    rw [List.take_succ_eq_append_getElem hj, List.map_append]
    simp [List.getD, hj]
  unfold Own
  rw [e]
  exact h
theorem grown_below {a u v : World} {g : Nat} (h : Below a.heap.size a u) (k : u.grownBy v (some g)) (hg : a.heap.size ≤ g) : Below a.heap.size a v :=
  ⟨k.os.trans h.os, k.tape.trans h.tape, k.output.trans h.output, Nat.le_trans h.size k.size, fun i hi => (k.block i (Nat.lt_of_lt_of_le hi h.size) (fun e => by cases e; omega)).trans (h.block i hi)⟩
/-- the cells of the reversed copy behind j rounds -/
def rv (zs : List Int) (n j : Nat) : Array Value := Array.ofFn (n := n) fun q => .int .i64 (if n ≤ q.val + j then zs.reverse.getD q.val 0 else 0)
@[go_sem] theorem rv_size (zs : List Int) (n j : Nat) : (rv zs n j).size = n := by simp [rv]
theorem rv_get (zs : List Int) (n j q : Nat) (h : q < n) : (rv zs n j)[q]? = some (.int .i64 (if n ≤ q + j then zs.reverse.getD q 0 else 0)) := by simp [rv, h]
theorem rv_zero (zs : List Int) (n : Nat) : rv zs n 0 = ch [] n 0 := by
  apply Array.ext_getElem?
  intro q
  by_cases hq : q < n
  · rw [rv_get _ _ _ _ hq, ch_get _ _ _ _ hq, if_neg (by omega), if_neg (by omega)]
  · rw [Array.getElem?_eq_none (by rw [rv_size]; omega), Array.getElem?_eq_none (by rw [ch_size]; omega)]
theorem rv_all (zs : List Int) (n : Nat) : rv zs n n = ch zs.reverse n n := by
  apply Array.ext_getElem?
  intro q
  by_cases hq : q < n
  · rw [rv_get _ _ _ _ hq, ch_get _ _ _ _ hq, if_pos (by omega), if_pos hq]
  · rw [Array.getElem?_eq_none (by rw [rv_size]; omega), Array.getElem?_eq_none (by rw [ch_size]; omega)]
theorem rv_set (zs : List Int) (n j q : Nat) (hl : zs.length = n) (h : n = q + 1 + j) : (rv zs n j).setIfInBounds q (.int .i64 (zs.getD j 0)) = rv zs n (j + 1) := by
  apply Array.ext_getElem?
  intro p
  rw [Array.getElem?_setIfInBounds]
  by_cases hp : p < n
  · rw [rv_get _ _ _ _ hp, rv_get _ _ _ _ hp, rv_size]
    by_cases e : q = p
    · subst e
      have hr : zs.reverse.getD q 0 = zs.getD j 0 := by
        rw [List.getD_eq_getElem?_getD, List.getD_eq_getElem?_getD, List.getElem?_reverse (by omega), show zs.length - 1 - q = j by omega]
      rw [if_pos rfl, if_pos (by omega), if_pos (by omega), hr]
    · rw [if_neg e]
      by_cases h2 : n ≤ p + j
      · rw [if_pos h2, if_pos (by omega)]
      · rw [if_neg h2, if_neg (by omega)]
  · rw [if_neg (by omega), Array.getElem?_eq_none (by rw [rv_size]; omega), Array.getElem?_eq_none (by rw [rv_size]; omega)]
theorem any3 (k : Int) (ii ff : Bool) (nb : Nat) (o : Option Addr) (n c : Nat) (zs : List Int) (X : Bool) (hX : zs.any (hold k ii ff) = X) (hn : n ≤ 10000000) (ho : okc zs) (w : World) (hN : At w nb (natk k ii ff)) (hS : Rd w o n zs) : Calls Tryz.prog 9 #[.pointer (some ⟨nb, 0, none⟩), .slice o n c] w fun e w' => e = .returned (.bool X) ∧ Below w.heap.size w w' := by
  rw [← hX]
  exact any2 k ii ff nb o n c zs hn ho w hN hS
theorem okc_app {zs ys : List Int} (h : okc zs) (k : okc ys) : okc (zs ++ ys) := by
  intro i hi
  rw [List.getD_eq_getElem?_getD]
  by_cases h1 : i < zs.length
  · rw [List.getElem?_append_left h1, ← List.getD_eq_getElem?_getD]
    exact h i h1
  · rw [List.getElem?_append_right (by omega), ← List.getD_eq_getElem?_getD]
    rw [List.length_append] at hi
    exact k _ (by omega)
theorem okc_rev {zs : List Int} (h : okc zs) : okc zs.reverse := by
  intro i hi
  rw [List.length_reverse] at hi
  rw [List.getD_eq_getElem?_getD, List.getElem?_reverse hi, ← List.getD_eq_getElem?_getD]
  exact h _ (by omega)
theorem rd_nil (w : World) : Rd w none 0 [] := ⟨rfl, fun i hi => absurd hi (Nat.not_lt_zero _)⟩
theorem okc_nil : okc [] := fun i hi => absurd hi (Nat.not_lt_zero _)
theorem any_nil (k : Int) (ii ff : Bool) : ([] : List Int).any (hold k ii ff) = false := rfl
theorem app_l (zs ys : List Int) (j : Nat) (h : j < zs.length) : (zs ++ ys).getD j 0 = zs.getD j 0 := by
  rw [List.getD_eq_getElem?_getD, List.getElem?_append_left h, ← List.getD_eq_getElem?_getD]
theorem app_r (zs ys : List Int) (j : Nat) : (zs ++ ys).getD (zs.length + j) 0 = ys.getD j 0 := by
  rw [List.getD_eq_getElem?_getD, List.getElem?_append_right (by omega), Nat.add_sub_cancel_left, ← List.getD_eq_getElem?_getD]
set_option maxHeartbeats 16000000 in
theorem walk0 (k : Int) (ii ff : Bool) (o : Option Addr) (n c : Nat) (zs : List Int) (o2 : Option Addr) (n2 c2 : Nat) (ys : List Int) (w : World) (h : Rd w o n zs) (h2 : Rd w o2 n2 ys) : Calls Tryz.prog 5 #[.int .u64 k, .bool ii, .bool ff, .slice o n c, .slice o2 n2 c2] w fun e w' => e = .returned (.bool true) ∧ Below w.heap.size w w' := by
  have HR := Lib.hid h
  have HR2 := Lib.hid h2
  have hl1 : zs.length = n := h.1
  have hl2 : ys.length = n2 := h2.1
  clear h h2
  obtain ⟨i0, hi0, hz0⟩ := Option.map_eq_some_iff.1 (by kernel_rfl : (Tryz.prog.info? 48).map (fun i => i.size) = some 1)
  have hz1 : i0.size = 1 := hz0
  by_cases hN : n ≤ 65536 ∧ n2 ≤ 65536
  case neg =>
    go_enter Tryz.func5, Tryz.ntmps5
    go_wp2_with ((go_at_call 16; ((with_reducible refine (bytes2 _ _ _ _ _ _ _ _ _ _).mono ?_); rintro e w' ⟨b, rfl, rfl⟩)))
    all_goals try (go_ret; exact ⟨rfl, Below.refl _ _⟩)
    all_goals (exfalso; omega)
  obtain ⟨hn, hn2⟩ := hN
  have hmk := mk2 (n + n2) (by omega)
  rw [show ((n + n2 : Nat) : Int) = (n : Int) + (n2 : Int) from Int.natCast_add n n2] at hmk
  have hmr := mkc [] n (by omega)
  go_enter Tryz.func5, Tryz.ntmps5
  go_wp2_with (first | (go_at_call 16; ((with_reducible refine (bytes2 _ _ _ _ _ _ _ _ _ _).mono ?_); rintro e w' ⟨b, rfl, rfl⟩)) | (go_at_call 11; ((with_reducible refine (known _ _ _ zs (by omega) _ HR.out).mono ?_); rintro e w' ⟨rfl, ⟨rfl, ho⟩ | rfl⟩ <;> try (have HO := Lib.hid ho; clear ho))) | (go_at_call 11; ((with_reducible refine (known _ _ _ ys (by omega) _ HR2.out).mono ?_); rintro e w' ⟨rfl, ⟨rfl, ho⟩ | rfl⟩ <;> try (have HO2 := Lib.hid ho; clear ho))) | (go_at_call 12; ((with_reducible refine (reach _ _ _ _).mono ?_); rintro e w' ⟨rfl | rfl, rfl⟩)) | (go_at_call 14; ((with_reducible refine (nat0 _ _ _ _).mono ?_); rintro e w2 ⟨rfl, rfl⟩)) | (go_at_call 13; ((with_reducible refine (toChecks _ _ _ zs (by omega) _ (HR.out.bel (bal (bal (Below.refl _ _) _) _))).mono ?_); rintro e w3 ⟨sa, rfl, hB, hA, hle⟩; have hB3 : Below w.heap.size w w3 := bnext (bal (bal (Below.refl _ _) _) _) hB; have hN3 : At w3 (w.heap.size + 1) (natk k ii ff) := At.bel (At.new _ _ _ _ (by simp)) hB; have HA := Lib.hid (And.intro hB3 (And.intro hN3 hA)); clear hB hA hle hB3 hN3)) | (go_at_call 13; ((with_reducible refine (toChecks _ _ _ ys (by omega) _ (HR2.out.bel HA.out.1)).mono ?_); rintro e w4 ⟨sb, rfl, hB, hA, hle⟩; have HB := Lib.hid (And.intro (bnext HA.out.1 hB) (And.intro (HA.out.2.1.bel hB) (And.intro (HA.out.2.2.bel hB) hA))); clear hB hA hle)))
  all_goals try (go_ret; exact ⟨rfl, Below.refl _ _⟩)
  go_loopg [14, 15] n (fun g ab i wr => ∃ j : Nat, g = n - j ∧ j ≤ n ∧ i = .int .i64 j ∧ ab = .slice (some ⟨w4.heap.size, 0, none⟩) j (n + n2) ∧ Own wr w.heap.size w4.heap.size j (n + n2) ((zs ++ ys).take j) ∧ Below w4.heap.size w4 wr)
  case atStart => exact ⟨0, by simp, Nat.zero_le _, rfl, rfl, own_new w4 _ _ HB.out.1.size (by omega), bal (Below.refl _ _) _⟩
  case round =>
    clear hmk
    obtain ⟨j, hg, hj, rfl, rfl, q1, q2⟩ := hrel
    have HG := Lib.hid hg
    have HW := Lib.hid (And.intro q1 q2)
    have hAt := HB.out.2.2.1.bel q2
    have ap := hAt.plain
    have ac := hAt.cells
    have al := hAt.lt
    clear hg q1 q2
    by_cases c1 : j < n
    · have hx := ch_get zs n n j c1
      rw [if_pos c1] at hx
      obtain ⟨C, hC⟩ : ∃ C, ch zs n n = C := ⟨_, rfl⟩
      rw [hC] at ac hx
      obtain ⟨z, hz⟩ : ∃ z, zs.getD j 0 = z := ⟨_, rfl⟩
      rw [hz] at hx
      have HZ := Lib.hid hz
      clear hAt hC hz
      go_wp2_with (at_builtin; (refine wpList_append_fits _ rfl _ _ 54 rfl w.heap.size 48 i0 1 Tryz.underlying54 hi0 hz1 _ _ _ _ rfl (HW.out.1.alloc _) ⟨wr.heap.size, 0, none⟩ 1 1 [.int .i64 z] rfl rfl (by intro t u ht; match t, ht with | 0, ht => simp at ht; subst ht; simp [Addr.add]) (by intro u hu; simp at hu; subst hu; rfl) (by omega) ?_; intro wz hown hgrow))
      go_roundg (n - (j + 1))
      case measure => (have := HG.out; omega)
      case rel => exact ⟨j + 1, rfl, c1, by simp, by simp, Own.take (by rw [app_l zs ys j (by omega), HZ.out]; exact hown) (by rw [List.length_append]; omega), grown_below (bal HW.out.2 _) hgrow (Nat.le_refl _)⟩
    · have e : j = n := by omega
      subst e
      clear hAt ap ac al
      go_wp2
      go_loopg [14, 16] n2 (fun g ab i wx => ∃ q : Nat, g = n2 - q ∧ q ≤ n2 ∧ i = .int .i64 q ∧ ab = .slice (some ⟨w4.heap.size, 0, none⟩) (j + q) (j + n2) ∧ Own wx w.heap.size w4.heap.size (j + q) (j + n2) ((zs ++ ys).take (j + q)) ∧ Below w4.heap.size w4 wx)
      case atStart => exact ⟨0, by simp, Nat.zero_le _, rfl, rfl, HW.out.1, HW.out.2⟩
      case round =>
        obtain ⟨q, hg2, hq, rfl, rfl, r1, r2⟩ := hrel
        have HG2 := Lib.hid hg2
        have HX := Lib.hid (And.intro r1 r2)
        have hAt := HB.out.2.2.2.bel r2
        have ap := hAt.plain
        have ac := hAt.cells
        have al := hAt.lt
        clear hg2 r1 r2
        by_cases c2 : q < n2
        · have hx := ch_get ys n2 n2 q c2
          rw [if_pos c2] at hx
          obtain ⟨C, hC⟩ : ∃ C, ch ys n2 n2 = C := ⟨_, rfl⟩
          rw [hC] at ac hx
          obtain ⟨z, hz⟩ : ∃ z, ys.getD q 0 = z := ⟨_, rfl⟩
          rw [hz] at hx
          have HZ := Lib.hid hz
          clear hAt hmr hC hz
          go_wp2_with (at_builtin; (refine wpList_append_fits _ rfl _ _ 54 rfl w.heap.size 48 i0 1 Tryz.underlying54 hi0 hz1 _ _ _ _ rfl (HX.out.1.alloc _) ⟨wr.heap.size, 0, none⟩ 1 1 [.int .i64 z] rfl rfl (by intro t u ht; match t, ht with | 0, ht => simp at ht; subst ht; simp [Addr.add]) (by intro u hu; simp at hu; subst hu; rfl) (by omega) ?_; intro wz hown hgrow))
          go_roundg (n2 - (q + 1))
          case measure => (have := HG2.out; omega)
          case rel => exact ⟨q + 1, rfl, c2, by simp, rfl, Own.take (xs := zs ++ ys) (j := j + q) (by rw [show j + q = zs.length + q by omega, app_r zs ys q, ← show j + q = zs.length + q by omega, HZ.out]; exact hown) (by rw [List.length_append]; omega), grown_below (bal HX.out.2 _) hgrow (Nat.le_refl _)⟩
        · have e2 : q = n2 := by omega
          subst e2
          clear hAt ap ac al
          obtain ⟨W7, h7⟩ : ∃ W, W = wr := ⟨wr, rfl⟩
          subst h7
          have hAt := HB.out.2.2.1.bel HX.out.2
          have ap := hAt.plain
          go_wp2
          clear hmr
          go_loopg [18] j (fun g i wx => ∃ p : Nat, g = j - p ∧ p ≤ j ∧ i = .int .i64 p ∧ At wx W7.heap.size (rv zs j p) ∧ Below W7.heap.size W7 wx)
          case atStart => exact ⟨0, by simp, Nat.zero_le _, rfl, by rw [rv_zero]; exact At.new _ _ _ _ rfl, bal (Below.refl _ _) _⟩
          case round =>
            obtain ⟨p, hg3, hp, rfl, s1, s2⟩ := hrel
            have HG3 := Lib.hid hg3
            have HS := Lib.hid (And.intro s1 s2)
            have hA2 := HB.out.2.2.1.bel (bnext HX.out.2 s2)
            have ap := hA2.plain
            have ac := hA2.cells
            have al := hA2.lt
            have rp := s1.plain
            have rc := s1.cells
            have rl := s1.lt
            clear hg3 s1 s2
            by_cases c3 : p < j
            · obtain ⟨q3, hq3⟩ : ∃ q3, j = q3 + 1 + p := ⟨j - 1 - p, by omega⟩
              have hix : (j : Int) - 1 - (p : Int) = (q3 : Int) := by omega
              have hq4 : q3 < j := by omega
              have hx := ch_get zs j j p c3
              rw [if_pos c3] at hx
              obtain ⟨C, hC⟩ : ∃ C, ch zs j j = C := ⟨_, rfl⟩
              rw [hC] at ac hx
              obtain ⟨z, hz⟩ : ∃ z, zs.getD p 0 = z := ⟨_, rfl⟩
              rw [hz] at hx
              have HZ := Lib.hid hz
              have HQ3 := Lib.hid hq3
              clear hA2 hAt hC hz hq3
              go_wp2
              go_roundg (j - (p + 1))
              case measure => (have := HG3.out; omega)
              case rel => exact ⟨p + 1, rfl, c3, by simp, by have h := HS.out.1.set q3 (.int .i64 (zs.getD p 0)); rw [rv_set zs j p q3 hl1 HQ3.out, HZ.out] at h; exact h, bsetNew HS.out.2 (Nat.le_refl _) _ _⟩
            · have e3 : p = j := by omega
              subst e3
              have hb9 := bnext HX.out.2 HS.out.2
              have HF := Lib.hid (And.intro (bnext HB.out.1 hb9) (And.intro (HB.out.2.1.bel hb9) (And.intro (rd_at (HB.out.2.2.1.bel hb9) hl1) (And.intro (rd_at (HB.out.2.2.2.bel hb9) hl2) (And.intro ((rd_own (zs := zs ++ ys) (by have h := HX.out.1; rw [List.take_of_length_le (by rw [List.length_append]; omega)] at h; exact h)).bel HS.out.2) (rd_at (by have h := HS.out.1; rw [rv_all] at h; exact h) (by rw [List.length_reverse]; exact hl1)))))))
              clear hA2 hAt ap ac al rp rc rl hb9
              obtain ⟨X, hX⟩ : ∃ X, zs.any (hold k ii ff) = X := ⟨_, rfl⟩
              obtain ⟨Y, hY⟩ : ∃ Y, ys.any (hold k ii ff) = Y := ⟨_, rfl⟩
              have hXY : (zs ++ ys).any (hold k ii ff) = (X || Y) := by rw [List.any_append, hX, hY]
              have hXr : zs.reverse.any (hold k ii ff) = X := by rw [List.any_reverse, hX]
              cases X <;> cases Y
              all_goals
                go_wp2_with (first | (go_at_call 9; ((with_reducible refine (any3 k ii ff (w.heap.size + 1) _ p _ zs _ hX (by omega) HO.out _ HF.out.2.1 HF.out.2.2.1).mono ?_); rintro e w10 ⟨rfl, hB⟩; have H10 := Lib.hid hB; clear hB)) | (go_at_call 9; ((with_reducible refine (any3 k ii ff (w.heap.size + 1) _ q _ ys _ hY (by omega) HO2.out _ (HF.out.2.1.bel H10.out) (HF.out.2.2.2.1.bel H10.out)).mono ?_); rintro e w11 ⟨rfl, hB⟩; have H11 := Lib.hid (bnext H10.out hB); clear hB)) | (go_at_call 9; ((with_reducible refine (any3 k ii ff (w.heap.size + 1) _ (p + q) _ (zs ++ ys) _ hXY (by omega) (okc_app HO.out HO2.out) _ (HF.out.2.1.bel H11.out) (HF.out.2.2.2.2.1.bel H11.out)).mono ?_); rintro e w12 ⟨rfl, hB⟩; have H12 := Lib.hid (bnext H11.out hB); clear hB)) | (go_at_call 9; ((with_reducible refine (any3 k ii ff (w.heap.size + 1) _ p _ zs.reverse _ hXr (by omega) (okc_rev HO.out) _ (HF.out.2.1.bel H12.out) (HF.out.2.2.2.2.2.bel H12.out)).mono ?_); rintro e w13 ⟨rfl, hB⟩; have H13 := Lib.hid (bnext H12.out hB); clear hB)) | (go_at_call 9; ((with_reducible refine (any3 k ii ff (w.heap.size + 1) none 0 0 [] false (any_nil k ii ff) (by omega) okc_nil _ (HF.out.2.1.bel H13.out) (rd_nil _)).mono ?_); rintro e w14 ⟨rfl, hB⟩; have H14 := Lib.hid (bnext H13.out hB); clear hB)))
                go_ret
                exact ⟨rfl, bnext HF.out.1 H14.out⟩
theorem walk (k : Int) (ii ff : Bool) (v u : Value) (w : World) (_ : (Lit.int .u64 k).wf = true) (h : IntsIn w .i64 v) (h2 : IntsIn w .i64 u) : Calls Tryz.prog 5 #[.int .u64 k, .bool ii, .bool ff, v, u] w fun e w' => e = .returned (.bool true) ∧ Below w.heap.size w w' := by
  obtain ⟨o, n, c, zs, rfl, hr⟩ := rd_of h
  obtain ⟨o2, n2, c2, ys, rfl, hr2⟩ := rd_of h2
  exact walk0 k ii ff o n c zs o2 n2 c2 ys w hr hr2
end Go.Proofs.YtnjjndnnpkejlaaGreatFmt.fnIsAnyOfUnionOrderFree
