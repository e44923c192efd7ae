/-
  The copy of a slice of strings. No condition.
-/
import Derived.Test.YtpnifkpnapoeoaaGreatDoorBesreflN96
import Derived.WalkSpells
import Derived.StillTailTactics
import Derived.Deep.RegionHeld3
import Derived.Deep.RegionLaw
import Derived.Deep.RegionLawGrows
import Derived.Deep.AppendLies
import Derived.Deep.Cut
import Derived.Deep.CutRange
import Derived.Deep.RegionWith
import Derived.Lib.Hide
import Derived.Deep.LoopGhost
import Derived.Deep.DeepCutAuto
namespace Go.Proofs.YtpnifkpnapoeoaaGreatDoorBesrefl
open Go.RowKit
set_option maxRecDepth 100000
set_option maxHeartbeats 1000000
set_option linter.unusedVariables false
theorem add0 (b i : Nat) : (⟨b, 0, none⟩ : Addr).add i = ⟨b, i, none⟩ := by by_cases h : i = 0 <;> simp [Addr.add, h]
theorem add_block (a : Addr) (i : Nat) : (a.add i).block = a.block := by unfold Addr.add; split <;> rfl
/-- the n strings at o read as ss -/
def Rs (w : World) (o : Option Addr) (n : Nat) (ss : List ByteArray) : Prop := n ≤ ss.length ∧ ∀ i, i < n → ∃ a, o = some a ∧ a.block < w.heap.size ∧ w.cell? (a.add i) = some (.string (ss.getD i ByteArray.empty))
theorem Rs.fr {B : Nat} {w u : World} {o : Option Addr} {n : Nat} {ss : List ByteArray} (h : Rs w o n ss) (hf : Below w.heap.size w u) : Rs u o n ss :=
  ⟨h.1, fun i hi => by
    obtain ⟨a, ha, hb, hc⟩ := h.2 i hi
    exact ⟨a, ha, Nat.lt_of_lt_of_le hb hf.size, (hf.cell (p := a.add i) (by rw [add_block]; exact hb)).trans hc⟩⟩
/-- the cells of the copy behind j rounds -/
def ch (zs : List ByteArray) (n j : Nat) : Array Value := Array.ofFn (n := n) fun q => .string (if q.val < j then zs.getD q.val ByteArray.empty else ByteArray.empty)
@[go_sem] theorem ch_size (zs : List ByteArray) (n j : Nat) : (ch zs n j).size = n := by simp [ch]
theorem ch_get (zs : List ByteArray) (n j q : Nat) (h : q < n) : (ch zs n j)[q]? = some (.string (if q < j then zs.getD q ByteArray.empty else ByteArray.empty)) := by simp [ch, h]
theorem ch_set (zs : List ByteArray) (n j : Nat) (h : j < n) : (ch zs n j).setIfInBounds j (.string (zs.getD j ByteArray.empty)) = ch zs n (j + 1) := by
  apply Array.ext_getElem?
  intro q
  rw [Array.getElem?_setIfInBounds]
  by_cases hj : q < n
  · rw [ch_get _ _ _ _ hj, ch_get _ _ _ _ hj, ch_size]
    by_cases e : j = q
    · subst e; simp [h]
    · rw [if_neg e]
      by_cases h2 : q < j
      · simp only [h2, show q < j + 1 by omega, if_true]
      · simp only [h2, show ¬ q < j + 1 by omega, if_false]
  · rw [if_neg (by omega), Array.getElem?_eq_none (by rw [ch_size]; omega), Array.getElem?_eq_none (by rw [ch_size]; omega)]
theorem mkc (zs : List ByteArray) (n : Nat) (h : n ≤ 100000) (w : World) : (Instr.makeSlice 60 (.int .i64 n) (.int .i64 n)).run Tryz.prog w = .ok (.slice (some ⟨w.heap.size, 0, none⟩) n n) (w.alloc (.cells (ch zs n 0) 9)) := by
  obtain ⟨i, hi, hz⟩ := Option.map_eq_some_iff.1 (by kernel_rfl : (Tryz.prog.info? 9).map (fun i => (i.zero, i.size, i.bytes)) = some (some (.string ByteArray.empty), 1, 16))
  simp only [Prod.mk.injEq] at hz
  obtain ⟨h1, h2, h3⟩ := hz
  rw [run_makeSlice w 60 9 i (.string ByteArray.empty) Tryz.underlying60 hi h1 .i64 .i64 n n (by omega) (by omega) (by rw [h2]; omega) (by rw [h3]; omega) (by omega)]
  rw [h2]
  have e : madeCells (Value.cells (.string ByteArray.empty)) ((n : Int).toNat * 1) = ch zs n 0 := by
    apply Array.ext_getElem?
    intro j
    by_cases hj : j < n
    · rw [ch_get _ _ _ _ hj]
      simp [madeCells, Value.cells, hj, Nat.mod_one]
    · rw [Array.getElem?_eq_none (by simp [madeCells]; omega), Array.getElem?_eq_none (by rw [ch_size]; omega)]
  rw [e]
  rfl
theorem clone (o : Option Addr) (n c : Nat) (ss : List ByteArray) (hn : n ≤ 100000) (w : World) (h : Rs w o n ss) : Calls Tryz.prog 21 #[.slice o n c] w fun e w' => ∃ o' c', e = .returned (.slice o' n c') ∧ Fr w.heap.size w w' ∧ Rs w' o' n ss := by
  have hq : ∀ u : World, (binOp .eql 60 (.slice o n c) (.slice none 0 0)).run Tryz.prog u = .ok (.bool o.isNone) u := fun u => by
    simp only [binOp]
    simp [Op.equal, Op.maxDepth, Lib.run_equalIn_slice_nil u 9999 60 9 o n c 0 0 Tryz.underlying60]
  have HR := Lib.hid h
  have HN := Lib.hid hn
  have hm := mkc ss n hn
  clear h hn
  cases o with
  | none =>
    obtain rfl : n = 0 := by
      cases n with
      | zero => rfl
      | succ k =>
        obtain ⟨a, ha, _⟩ := HR.out.2 0 (Nat.succ_pos k)
        cases ha
    go_enter Tryz.func21, Tryz.ntmps21
    go_wp2
    go_ret
    exact ⟨none, 0, rfl, Fr.refl _ w (Nat.le_refl _), HR.out⟩
  | some a0 =>
    go_enter Tryz.func21, Tryz.ntmps21
    go_wp2
    go_loopg [4] n (fun k i wr => ∃ j : Nat, k = n - j ∧ j ≤ n ∧ i = .int .i64 j ∧ wr.heap[w.heap.size]? = some (.cells (ch ss n j) 9 (0, 0)) ∧ Fr w.heap.size w wr)
    case atStart => exact ⟨0, by simp, Nat.zero_le _, rfl, heap_alloc_new w _, (Fr.refl _ w (Nat.le_refl _)).alloc _⟩
    case round =>
      clear hm hq
      obtain ⟨j, hg, hj, rfl, q1, q2⟩ := hrel
      have p1 : Plain wr w.heap.size := ⟨_, _, q1⟩
      have p2 : cellsAt wr w.heap.size = _ := cellsAt_of q1
      have p3 := p1.lt
      have HQ := Lib.hid q1
      have HF := Lib.hid q2
      have HG := Lib.hid hg
      by_cases c1 : j < n
      · obtain ⟨a, ha, hb, hc0⟩ := HR.out.2 j c1
        have hc : wr.cell? (a.add j) = some (.string (ss.getD j ByteArray.empty)) := (q2.bel.cell (p := a.add j) (by rw [add_block]; exact hb)).trans hc0
        obtain rfl : a0 = a := Option.some.inj ha
        have hx := ch_get ss n j j c1
        have hj2 : (j : Int) ≤ 100000 := by have := HN.out; omega
        clear hg q1 q2 hc0 hb ha
        go_wp2
        go_roundg (n - (j + 1))
        case measure => (have := HG.out; omega)
        case rel => exact ⟨j + 1, rfl, c1, by simp, by rw [setCell_eq_setRow _ _ j _ _ _ _ HQ.out, ← ch_set ss n j c1, List.getD_eq_getElem?_getD]; exact setRow_heap _ _ _ _ _ _ HQ.out, Fr.setN HF.out (Nat.le_refl _) _ _⟩
      · have e : j = n := by omega
        subst e
        clear hg q1 q2
        go_wp2
        go_ret
        exact ⟨_, _, rfl, HF.out, HR.out.1, fun i hi => ⟨⟨w.heap.size, 0, none⟩, rfl, p3, by rw [add0, cell_plain _ _ _ p1, p2, ch_get ss j j i hi, if_pos hi]⟩⟩
theorem zbs (o : Option Addr) (n c : Nat) (ss : List ByteArray) (hn : n ≤ maxLen) (hs : ∀ s ∈ ss, s.size ≤ maxLen) (w : World) (h : Rs w o n ss) : Calls Tryz.prog 20 #[.slice o n c] w fun e w' => ∃ b, e = .returned (.bool b) ∧ w = w' ∧ (b = true → ∀ i, i < n → (ss.getD i ByteArray.empty).size ≤ 1048576) := by
  have HR := Lib.hid h
  have HN := Lib.hid hn
  have HS := Lib.hid hs
  clear h hn hs
  go_enter Tryz.func20, Tryz.ntmps20
  go_wp2
  · go_ret
    exact ⟨_, rfl, rfl, fun h => by cases h⟩
  go_loopg [3, 4] n (fun k z i wr => ∃ (j t : Nat), k = n - j ∧ j ≤ n ∧ z = .int .i64 t ∧ i = .int .i64 j ∧ t ≤ 1048576 ∧ wr = w ∧ ∀ q, q < j → (ss.getD q ByteArray.empty).size ≤ 1048576)
  case atStart => exact ⟨0, n, by simp, Nat.zero_le _, rfl, rfl, by omega, rfl, fun q hq => absurd hq (Nat.not_lt_zero _)⟩
  case round =>
    obtain ⟨j, t, hg, hj, rfl, rfl, ht, rfl, hq⟩ := hrel
    have HG := Lib.hid hg
    have HQ := Lib.hid hq
    clear hg hq
    by_cases c1 : j < n
    · obtain ⟨a, ha, hb, hc⟩ := HR.out.2 j c1
      subst ha
      have hz : (ss.getD j ByteArray.empty).size ≤ maxLen := by
        have hl : j < ss.length := Nat.lt_of_lt_of_le c1 HR.out.1
        rw [List.getD_eq_getElem?_getD, List.getElem?_eq_getElem hl]
        exact HS.out _ (List.getElem_mem hl)
      go_wp2
      all_goals first
      | (go_ret
         exact ⟨_, rfl, rfl, fun h => by cases h⟩)
      | (rename_i g1 g2
         go_roundg (n - (j + 1))
         case measure => (have := HG.out; omega)
         case rel => exact ⟨j + 1, t + (ss[j]?.getD ByteArray.empty).size, rfl, c1, by simp, by simp, by omega, rfl, fun q hq => by
           rcases Nat.lt_succ_iff_lt_or_eq.1 hq with h | rfl
           · exact HQ.out q h
           · rw [List.getD_eq_getElem?_getD]; omega⟩)
    · go_wp2
      go_ret
      exact ⟨_, rfl, rfl, fun _ i hi => HQ.out i (by omega)⟩
end Go.Proofs.YtpnifkpnapoeoaaGreatDoorBesrefl
