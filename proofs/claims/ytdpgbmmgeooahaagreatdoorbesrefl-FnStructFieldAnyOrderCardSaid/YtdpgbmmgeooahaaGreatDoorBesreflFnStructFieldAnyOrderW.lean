/-
  The walk of FnStructFieldAnyOrder: Every answer of a script of lookups on one descriptor of zzOuter equals the table. No condition.
-/
import Derived.Test.YtdpgbmmgeooahaaGreatDoorBesreflN107
import Derived.WalkSpells
namespace Go.Proofs.YtdpgbmmgeooahaaGreatDoorBesrefl.fnStructFieldAnyOrder
open Go.RowKit
set_option maxRecDepth 100000
set_option maxHeartbeats 1000000
set_option linter.unusedVariables false
/-- the slice of integers 'v' reads as 'zs' up to its capacity, or is nil -/
def IntsIn (w : World) (k : IntKind) (v : Value) : Prop := v = .slice none 0 0 ∨ ∃ (a : Addr) (len cap : Nat) (zs : List Int), v = .slice (some a) len cap ∧ len ≤ cap ∧ cap ≤ maxLen ∧ zs.length = cap ∧ (∀ i, i < zs.length → w.cell? (a.add i) = some (.int k (zs.getD i 0))) ∧ (∀ n ∈ zs, (Lit.int k n).wf = true)
/-- the slice of strings 'v' reads as 'ss' up to its capacity, or is nil -/
def StrsIn (w : World) (v : Value) : Prop := v = .slice none 0 0 ∨ ∃ (a : Addr) (len cap : Nat) (ss : List ByteArray), v = .slice (some a) len cap ∧ len ≤ cap ∧ cap ≤ maxLen ∧ ss.length = cap ∧ (∀ i, i < ss.length → w.cell? (a.add i) = some (.string (ss.getD i ByteArray.empty))) ∧ (∀ s ∈ ss, s.size ≤ maxLen)
/-- the pointer 'v' is nil or points at an integer -/
def PtrIn (w : World) (k : IntKind) (v : Value) : Prop := v = .pointer none ∨ ∃ b off n, v = .pointer (some ⟨b, off, none⟩) ∧ w.cell? ⟨b, off, none⟩ = some (.int k n) ∧ (Lit.int k n).wf = true
theorem zbs (o : Option Addr) (n c : Nat) (ss : List ByteArray) (hn : n ≤ maxLen) (hs : ∀ s ∈ ss, s.size ≤ maxLen) (w : World) (h : Rs w o n ss) : Calls Tryz.prog 28 #[.slice o n c] w fun e w' => w = w' ∧ (e = .returned (.bool false) ∨ (e = .returned (.bool true) ∧ ∀ i, i < n → (ss.getD i ByteArray.empty).size ≤ 1048576)) := by
  have HR := Lib.hid h
  have HN := Lib.hid hn
  have HS := Lib.hid hs
  clear h hn hs
  go_enter Tryz.func28, Tryz.ntmps28
  go_wp2
  all_goals try (go_ret; exact ⟨rfl, Or.inl rfl⟩)
  go_loopg [3, 4] n (fun k z i wr => ∃ (j t : Nat), k = n - j ∧ j ≤ n ∧ z = .int .i64 t ∧ i = .int .i64 j ∧ t ≤ 1048576 ∧ wr = w ∧ ∀ q, q < j → (ss.getD q ByteArray.empty).size ≤ 1048576)
  case atStart => exact ⟨0, n, by simp, Nat.zero_le _, by simp, rfl, by omega, rfl, fun q hq => absurd hq (Nat.not_lt_zero _)⟩
  case round =>
    obtain ⟨j, t, hg, hj, rfl, rfl, ht, rfl, hq⟩ := hrel
    have HG := Lib.hid hg
    have HQ := Lib.hid hq
    clear hg hq
    by_cases c1 : j < n
    · obtain ⟨a, ha, hb, hc⟩ := HR.out.2 j c1
      subst ha
      have hz : (ss.getD j ByteArray.empty).size ≤ maxLen := by
        have hl : j < ss.length := Nat.lt_of_lt_of_le c1 HR.out.1
        rw [List.getD_eq_getElem?_getD, List.getElem?_eq_getElem hl]
        exact HS.out _ (List.getElem_mem hl)
      go_wp2
      all_goals first
      | (go_ret
         exact ⟨rfl, Or.inl rfl⟩)
      | (rename_i g1 g2
         go_roundg (n - (j + 1))
         case measure => (have := HG.out; omega)
         case rel => exact ⟨j + 1, t + (ss[j]?.getD ByteArray.empty).size, rfl, c1, by simp, by simp, by omega, rfl, fun q hq => by
           rcases Nat.lt_succ_iff_lt_or_eq.1 hq with h | rfl
           · exact HQ.out q h
           · rw [List.getD_eq_getElem?_getD]; omega⟩)
    · go_wp2
      go_ret
      exact ⟨rfl, Or.inr ⟨rfl, fun i hi => HQ.out i (by omega)⟩⟩
set_option maxHeartbeats 8000000 in
theorem walk0 (o : Option Addr) (n c : Nat) (ss : List ByteArray) (w : World) (hn : n ≤ maxLen) (hs : ∀ s ∈ ss, s.size ≤ maxLen) (h : Rs w o n ss) : Calls Tryz.prog 7 #[.slice o n c] w fun e w' => e = .returned (.bool true) ∧ Below w.heap.size w w' := by
  have HR := Lib.hid h
  have HM := Lib.hid hn
  have HS := Lib.hid hs
  clear h hn hs
  have hsl := sl_eq
  go_enter Tryz.func7, Tryz.ntmps7
  go_wp2_with (first | (go_at_call 28; ((with_reducible refine (zbs _ _ _ ss HM.out HS.out _ HR.out).mono ?_); rintro e w' ⟨rfl, rfl | ⟨rfl, hb⟩⟩ <;> try (have HB := Lib.hid hb; clear hb); skip)) | (go_at_call 29; ((with_reducible refine (zsb _ n _ ss (by omega) HB.out _ HR.out).mono ?_); rintro e w' ⟨t, rfl, ht, rfl⟩; skip)) | (go_at_call 16; ((with_reducible refine (zo_first w.heap.size w.heap.size _ (ca_new w) (Nat.le_refl _) (by simp)).mono ?_); rintro e w1 ⟨td, s, rfl, hf, h1, hT⟩; have hg : Fr w.heap.size w w1 := ((Fr.refl w.heap.size w (Nat.le_refl _)).alloc _).trans hf; have hS : St w.heap.size w.heap.size td s w1 := ⟨_, _, _, _, _, _, hT⟩; have HA := Lib.hid (And.intro (hg) (And.intro (h1) (hS))); clear hf hT hg h1 hS)))
  all_goals try (go_ret; exact ⟨rfl, Below.refl _ _⟩)
  go_loopg [5] n (fun k i wx => ∃ j : Nat, k = n - j ∧ j ≤ n ∧ i = .int .i64 j ∧ St w.heap.size w.heap.size td s wx ∧ Fr w.heap.size w wx)
  case atStart => exact ⟨0, by simp, Nat.zero_le _, rfl, HA.out.2.2, HA.out.1⟩
  case round =>
    obtain ⟨j, hg, hj, rfl, q1, q2⟩ := hrel
    have HG := Lib.hid hg
    have HQ := Lib.hid (And.intro q1 q2)
    by_cases c1 : j < n
    · obtain ⟨a, ha, hb, hc⟩ := HR.out.2 j c1
      subst ha
      obtain ⟨x, hx⟩ : ∃ x, ss.getD j ByteArray.empty = x := ⟨_, rfl⟩
      rw [hx] at hc
      have hc1 : wr.cell? (a.add j) = some (.string x) := (q2.bel.cell (p := a.add j) (by rw [add_block]; exact hb)).trans hc
      have HX := Lib.hid (And.intro hb hc)
      have hjm : (j : Int) ≤ 1000000 := by omega
      clear hg q1 q2 hb hc hx
      go_wp2_with (first | (go_at_call 17; ((with_reducible refine (sfS x HA.out.2.1 HQ.out.1).mono ?_); rintro e w2 ⟨hf, hT, hor⟩; have hg := HQ.out.2.trans hf; have hc2 : w2.cell? (a.add j) = some (.string x) := (hg.bel.cell (p := a.add j) (by rw [add_block]; exact HX.out.1)).trans HX.out.2; rcases hor with ⟨hE, rfl⟩ | ⟨p, td', E, hE, rfl, hI⟩ <;> first | (have HY := Lib.hid (And.intro (hE) (And.intro (hg) (And.intro (hT) (hI)))); clear hE hg hT hI hf) | (have HN := Lib.hid (And.intro (hE) (And.intro (hg) (hT))); clear hE hg hT hf))) | (go_at_call 18; ((with_reducible refine (wo_yes x _ _ HY.out.1).mono ?_); rintro e w3 ⟨g, n3, rfl, hf, hv⟩; have HC := Lib.hid (And.intro (HY.out.2.1.trans (hf.le HY.out.2.1.grow)) (And.intro (HY.out.2.2.1.on hf) (And.intro (HY.out.2.2.2.carry hf) (hv)))); clear hf hv)) | (go_at_call 18; ((with_reducible refine (wo_no x _ HN.out.1).mono ?_); rintro e w3 ⟨rfl, rfl⟩; skip)) | (go_at_call 20; ((with_reducible refine (zfi HC.out.2.2.1).mono ?_); rintro e w' ⟨v, rfl, hv, rfl⟩; have HV := Lib.hid (hv); clear hv)) | (go_at_call 19; ((with_reducible refine (eqi HV.out HC.out.2.2.2 (zs_le _ _ HY.out.1)).mono ?_); rintro e w4 ⟨rfl, hf⟩; have HD := Lib.hid (And.intro (HC.out.1.trans (hf.le HC.out.1.grow)) (HC.out.2.1.on hf)); clear hf)))
      all_goals
        go_roundg (n - (j + 1))
        case measure => (have := HG.out; omega)
        case rel => first | exact ⟨j + 1, rfl, c1, by simp, HD.out.2, HD.out.1⟩ | exact ⟨j + 1, rfl, c1, by simp, HN.out.2.2, HN.out.2.1⟩
    · clear hg q1
      go_wp2
      go_ret
      exact ⟨rfl, q2.bel⟩
theorem rs_of {w : World} {v : Value} (h : StrsIn w v) : ∃ o n c ss, v = .slice o n c ∧ Rs w o n ss ∧ n ≤ maxLen ∧ ∀ s ∈ ss, s.size ≤ maxLen := by
  rcases h with rfl | ⟨a, len, cap, ss, rfl, h1, h2, h3, h4, h5⟩
  · exact ⟨none, 0, 0, [], rfl, ⟨Nat.le_refl _, fun i hi => absurd hi (Nat.not_lt_zero _)⟩, Nat.zero_le _, fun s hs => by cases hs⟩
  · refine ⟨some a, len, cap, ss, rfl, ⟨by omega, fun i hi => ?_⟩, by omega, h5⟩
    have hc := h4 i (by omega)
    refine ⟨a, rfl, ?_, hc⟩
    have hb : (a.add i).block < w.heap.size := by
      unfold World.cell? at hc
      cases hb : w.heap[(a.add i).block]? with
      | none => rw [hb] at hc; simp at hc
      | some _ => exact (Array.getElem?_eq_some_iff.1 hb).1
    rwa [add_block] at hb
theorem walk (v : Value) (w : World) (h : StrsIn w v) : Calls Tryz.prog 7 #[v] w fun e w' => e = .returned (.bool true) ∧ Below w.heap.size w w' := by
  obtain ⟨o, n, c, ss, rfl, hr, hn, hs⟩ := rs_of h
  exact walk0 o n c ss w hn hs hr
end Go.Proofs.YtdpgbmmgeooahaaGreatDoorBesrefl.fnStructFieldAnyOrder
