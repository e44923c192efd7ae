/-
  The walk of FnFinishedAfterLookups: zzFlat reports finished from the first other name on, zzOuter never. No condition.
-/
import Derived.Test.YtdpgbmmgeooahaaGreatDoorBesreflJ107
import Derived.WalkSpells
namespace Go.Proofs.YtdpgbmmgeooahaaGreatDoorBesrefl.fnFinishedAfterLookups
open Go.RowKit
set_option maxRecDepth 100000
set_option maxHeartbeats 1000000
set_option linter.unusedVariables false
/-- the slice of integers 'v' reads as 'zs' up to its capacity, or is nil -/
def IntsIn (w : World) (k : IntKind) (v : Value) : Prop := v = .slice none 0 0 ∨ ∃ (a : Addr) (len cap : Nat) (zs : List Int), v = .slice (some a) len cap ∧ len ≤ cap ∧ cap ≤ maxLen ∧ zs.length = cap ∧ (∀ i, i < zs.length → w.cell? (a.add i) = some (.int k (zs.getD i 0))) ∧ (∀ n ∈ zs, (Lit.int k n).wf = true)
/-- the slice of strings 'v' reads as 'ss' up to its capacity, or is nil -/
def StrsIn (w : World) (v : Value) : Prop := v = .slice none 0 0 ∨ ∃ (a : Addr) (len cap : Nat) (ss : List ByteArray), v = .slice (some a) len cap ∧ len ≤ cap ∧ cap ≤ maxLen ∧ ss.length = cap ∧ (∀ i, i < ss.length → w.cell? (a.add i) = some (.string (ss.getD i ByteArray.empty))) ∧ (∀ s ∈ ss, s.size ≤ maxLen)
/-- the pointer 'v' is nil or points at an integer -/
def PtrIn (w : World) (k : IntKind) (v : Value) : Prop := v = .pointer none ∨ ∃ b off n, v = .pointer (some ⟨b, off, none⟩) ∧ w.cell? ⟨b, off, none⟩ = some (.int k n) ∧ (Lit.int k n).wf = true
theorem zbs (o : Option Addr) (n c : Nat) (ss : List ByteArray) (hn : n ≤ maxLen) (hs : ∀ s ∈ ss, s.size ≤ maxLen) (w : World) (h : Rs w o n ss) : Calls Tryz.prog 33 #[.slice o n c] w fun e w' => w = w' ∧ (e = .returned (.bool false) ∨ (e = .returned (.bool true) ∧ ∀ i, i < n → (ss.getD i ByteArray.empty).size ≤ 1048576)) := by
  have HR := Lib.hid h
  have HN := Lib.hid hn
  have HS := Lib.hid hs
  clear h hn hs
  go_enter Tryz.func33, Tryz.ntmps33
  go_wp2
  all_goals try (go_ret; exact ⟨rfl, Or.inl rfl⟩)
  go_loopg [3, 4] n (fun k z i wr => ∃ (j t : Nat), k = n - j ∧ j ≤ n ∧ z = .int .i64 t ∧ i = .int .i64 j ∧ t ≤ 1048576 ∧ wr = w ∧ ∀ q, q < j → (ss.getD q ByteArray.empty).size ≤ 1048576)
  case atStart => exact ⟨0, n, by simp, Nat.zero_le _, by simp, rfl, by omega, rfl, fun q hq => absurd hq (Nat.not_lt_zero _)⟩
  case round =>
    obtain ⟨j, t, hg, hj, rfl, rfl, ht, rfl, hq⟩ := hrel
    have HG := Lib.hid hg
    have HQ := Lib.hid hq
    clear hg hq
    by_cases c1 : j < n
    · obtain ⟨a, ha, hb, hc⟩ := HR.out.2 j c1
      subst ha
      have hz : (ss.getD j ByteArray.empty).size ≤ maxLen := by
        have hl : j < ss.length := Nat.lt_of_lt_of_le c1 HR.out.1
        rw [List.getD_eq_getElem?_getD, List.getElem?_eq_getElem hl]
        exact HS.out _ (List.getElem_mem hl)
      go_wp2
      all_goals first
      | (go_ret
         exact ⟨rfl, Or.inl rfl⟩)
      | (rename_i g1 g2
         go_roundg (n - (j + 1))
         case measure => (have := HG.out; omega)
         case rel => exact ⟨j + 1, t + (ss[j]?.getD ByteArray.empty).size, rfl, c1, by simp, by simp, by omega, rfl, fun q hq => by
           rcases Nat.lt_succ_iff_lt_or_eq.1 hq with h | rfl
           · exact HQ.out q h
           · rw [List.getD_eq_getElem?_getD]; omega⟩)
    · go_wp2
      go_ret
      exact ⟨rfl, Or.inr ⟨rfl, fun i hi => HQ.out i (by omega)⟩⟩
theorem ix_one (w : World) : Ix (w.alloc (.cells #[.int .i64 0] 3)) (.slice (some ⟨w.heap.size, 0, none⟩) 1 1) [0] false := Or.inr ⟨w.heap.size, 1, _, (0, 0), rfl, heap_alloc_new w _, by simp, (fun h => by cases h), by simp⟩
set_option maxHeartbeats 16000000 in
theorem walk0 (o : Option Addr) (n c : Nat) (ss : List ByteArray) (w : World) (hn : n ≤ maxLen) (hs : ∀ s ∈ ss, s.size ≤ maxLen) (h : Rs w o n ss) : Calls Tryz.prog 9 #[.slice o n c] w fun e w' => e = .returned (.bool true) ∧ Below w.heap.size w w' := by
  have HR := Lib.hid h
  have HM := Lib.hid hn
  have HS := Lib.hid hs
  clear h hn hs
  go_enter Tryz.func9, Tryz.ntmps9
  go_wp2_with (first | (go_at_call 33; ((with_reducible refine (zbs _ _ _ ss HM.out HS.out _ HR.out).mono ?_); rintro e w' ⟨rfl, rfl | ⟨rfl, hb⟩⟩ <;> try (have HB := Lib.hid hb; clear hb); skip)) | (go_at_call 29; ((with_reducible refine (zsb _ n _ ss (by omega) HB.out _ HR.out).mono ?_); rintro e w' ⟨t, rfl, ht, rfl⟩; skip)) | (go_at_call 34; ((with_reducible refine (zf_raw w.heap.size w.heap.size _ (ca_new w) (Nat.le_refl _) (by simp)).mono ?_); rintro e w1 ⟨sF, mc, G, rfl, hf, hC, hT, hG, hGk, hS, l1, l2⟩; have hg : Fr w.heap.size w w1 := ((Fr.refl w.heap.size w (Nat.le_refl _)).alloc _).trans hf; have HA := Lib.hid (And.intro (hg) (And.intro (hC) (And.intro (hT) (And.intro (hG) (And.intro (hGk) (And.intro (hS) (And.intro (l1) (l2)))))))); clear hf hC hT hG hGk hS l1 l2 hg)) | (go_at_call 16; ((with_reducible refine (zo_next w1 HA.out.2.1 HA.out.2.2.1 HA.out.2.2.2.1 HA.out.2.2.2.2.1 HA.out.2.2.2.2.2.1 HA.out.2.2.2.2.2.2.2 (Nat.le_refl _) HA.out.2.2.2.2.2.2.1 HA.out.1.grow).mono ?_); rintro e w2 ⟨td, s, rfl, hf, hJ⟩; have HB2 := Lib.hid (And.intro (HA.out.1.trans hf) (hJ)); clear hf hJ)) | (go_at_call 31; ((with_reducible refine (jfinF HB2.out.2).mono ?_); rintro e w3 ⟨rfl, k3, hw3⟩; have hd : Fr w2.heap.size w2 w3 := (by rw [hw3]; exact (Fr.refl _ w2 (Nat.le_refl _)).drewN k3); have HB3 := Lib.hid (And.intro (HB2.out.1.trans (hd.le HB2.out.1.grow)) (HB2.out.2.on hd)); clear hd hw3)) | (go_at_call 31; ((with_reducible refine (jfinO HB3.out.2).mono ?_); rintro e w4 ⟨rfl, k4, hw4⟩; have hd : Fr w3.heap.size w3 w4 := (by rw [hw4]; exact (Fr.refl _ w3 (Nat.le_refl _)).drewN k4); have HB4 := Lib.hid (And.intro (HB3.out.1.trans (hd.le HB3.out.1.grow)) (HB3.out.2.on hd)); clear hd hw4)))
  all_goals try (go_ret; exact ⟨rfl, Below.refl _ _⟩)
  go_loopg [6, 7] n (fun g sv i wx => ∃ (j : Nat) (saw : Bool), g = n - j ∧ j ≤ n ∧ i = .int .i64 j ∧ sv = .bool saw ∧ J w.heap.size w.heap.size td s sF saw wx ∧ Fr w.heap.size w wx)
  case atStart => exact ⟨0, false, by simp, Nat.zero_le _, rfl, rfl, HB4.out.2, HB4.out.1⟩
  case round =>
    obtain ⟨j, saw, hg, hj, rfl, rfl, q1, q2⟩ := hrel
    have HG := Lib.hid hg
    have HQ := Lib.hid (And.intro q1 q2)
    by_cases c1 : j < n
    · obtain ⟨a, ha, hb, hc⟩ := HR.out.2 j c1
      subst ha
      obtain ⟨x, hx0⟩ : ∃ x, ss.getD j ByteArray.empty = x := ⟨_, rfl⟩
      rw [hx0] at hc
      have hc1 : wr.cell? (a.add j) = some (.string x) := (q2.bel.cell (p := a.add j) (by rw [add_block]; exact hb)).trans hc
      have hjm : (j : Int) ≤ 1000000 := by omega
      clear hg q1 q2 hb hc hx0
      by_cases hx : ((⟨#[80]⟩ : ByteArray) == x) = true
      · obtain rfl := (ba_iff _ _).1 hx
        clear hx
        go_wp2_with (first | (go_at_call 31; ((with_reducible refine (jfinO HZ8.out.2).mono ?_); rintro e w9 ⟨rfl, kw9, hw9⟩; have hd : Fr w8.heap.size w8 w9 := (by rw [hw9]; exact (Fr.refl _ w8 (Nat.le_refl _)).drewN kw9); have HZ9 := Lib.hid (And.intro (HZ8.out.1.trans (hd.le HZ8.out.1.grow)) (HZ8.out.2.on hd)); clear hd hw9)) | (go_at_call 31; ((with_reducible refine (jfinF HZ.out.2).mono ?_); rintro e w8 ⟨rfl, kw8, hw8⟩; have hd : Fr w7.heap.size w7 w8 := (by rw [hw8]; exact (Fr.refl _ w7 (Nat.le_refl _)).drewN kw8); have HZ8 := Lib.hid (And.intro (HZ.out.1.trans (hd.le HZ.out.1.grow)) (HZ.out.2.on hd)); clear hd hw8)) | (go_at_call 17; ((with_reducible refine (jO ⟨#[80]⟩ HE.out.2).mono ?_); rintro e w7 ⟨r2, rfl, hf, hJ⟩; have HZ := Lib.hid (And.intro (HE.out.1.trans hf) (hJ)); clear hf hJ)) | (go_at_call 17; ((with_reducible refine (jF ⟨#[80]⟩ HQ.out.1).mono ?_); rintro e w5 ⟨r, rfl, hf, hJ, h1, _⟩; obtain ⟨p, td', rfl, hI⟩ := h1 (by decide); rw [if_pos (by decide)] at hJ; have HY := Lib.hid (And.intro (HQ.out.2.trans hf) (And.intro (hJ) (hI))); clear hf hJ h1 hI)) | (go_at_call 20; ((with_reducible refine (zfi HY.out.2.2).mono ?_); rintro e w' ⟨v, rfl, hv, rfl⟩; have HV := Lib.hid (hv); clear hv)) | (go_at_call 20; ((with_reducible refine (zfi (HY.out.2.2.carry ((Fr.refl _ w5 (Nat.le_refl _)).alloc _))).mono ?_); rintro e w' ⟨v, rfl, hv, rfl⟩; have HV2 := Lib.hid (hv); clear hv)) | (go_at_call 19; ((with_reducible refine (eqi (HV.out.carry ((Fr.refl _ w5 (Nat.le_refl _)).alloc _)) (ix_one w5) (by simp)).mono ?_); rintro e w6 ⟨rfl, hf⟩; have hg := (HY.out.1.alloc _).trans (hf.le (HY.out.1.alloc _).grow); have hj := (HY.out.2.1.on ((Fr.refl _ w5 (Nat.le_refl _)).alloc _)).on hf; have HE := Lib.hid (And.intro (hg) (hj)); clear hf hg hj)) | (go_at_call 19; ((with_reducible refine (eqi HV2.out (ix_one w5) (by simp)).mono ?_); rintro e w6 ⟨rfl, hf⟩; have hg := (HY.out.1.alloc _).trans (hf.le (HY.out.1.alloc _).grow); have hj := (HY.out.2.1.on ((Fr.refl _ w5 (Nat.le_refl _)).alloc _)).on hf; have HE := Lib.hid (And.intro (hg) (hj)); clear hf hg hj)))
        all_goals
          go_roundg (n - (j + 1))
          case measure => (have := HG.out; omega)
          case rel => exact ⟨j + 1, _, rfl, c1, by simp, rfl, HZ9.out.2, HZ9.out.1⟩
      · have hx2 := q_ne [80] x (by simpa using hx)
        go_wp2_with (first | (go_at_call 31; ((with_reducible refine (jfinO HZ8.out.2).mono ?_); rintro e w9 ⟨rfl, kw9, hw9⟩; have hd : Fr w8.heap.size w8 w9 := (by rw [hw9]; exact (Fr.refl _ w8 (Nat.le_refl _)).drewN kw9); have HZ9 := Lib.hid (And.intro (HZ8.out.1.trans (hd.le HZ8.out.1.grow)) (HZ8.out.2.on hd)); clear hd hw9)) | (go_at_call 31; ((with_reducible refine (jfinF HZ.out.2).mono ?_); rintro e w8 ⟨rfl, kw8, hw8⟩; have hd : Fr w7.heap.size w7 w8 := (by rw [hw8]; exact (Fr.refl _ w7 (Nat.le_refl _)).drewN kw8); have HZ8 := Lib.hid (And.intro (HZ.out.1.trans (hd.le HZ.out.1.grow)) (HZ.out.2.on hd)); clear hd hw8)) | (go_at_call 17; ((with_reducible refine (jO x HY.out.2).mono ?_); rintro e w7 ⟨r2, rfl, hf, hJ⟩; have HZ := Lib.hid (And.intro (HY.out.1.trans hf) (hJ)); clear hf hJ)) | (go_at_call 17; ((with_reducible refine (jF x HQ.out.1).mono ?_); rintro e w5 ⟨r, rfl, hf, hJ, _, h1⟩; obtain rfl := h1 hx; rw [if_neg hx] at hJ; have HY := Lib.hid (And.intro (HQ.out.2.trans hf) (hJ)); clear hf hJ h1)))
        all_goals
          go_roundg (n - (j + 1))
          case measure => (have := HG.out; omega)
          case rel => exact ⟨j + 1, _, rfl, c1, by simp, rfl, HZ9.out.2, HZ9.out.1⟩
    · clear hg q1
      go_wp2
      go_ret
      exact ⟨rfl, q2.bel⟩
theorem rs_of {w : World} {v : Value} (h : StrsIn w v) : ∃ o n c ss, v = .slice o n c ∧ Rs w o n ss ∧ n ≤ maxLen ∧ ∀ s ∈ ss, s.size ≤ maxLen := by
  rcases h with rfl | ⟨a, len, cap, ss, rfl, h1, h2, h3, h4, h5⟩
  · exact ⟨none, 0, 0, [], rfl, ⟨Nat.le_refl _, fun i hi => absurd hi (Nat.not_lt_zero _)⟩, Nat.zero_le _, fun s hs => by cases hs⟩
  · refine ⟨some a, len, cap, ss, rfl, ⟨by omega, fun i hi => ?_⟩, by omega, h5⟩
    have hc := h4 i (by omega)
    refine ⟨a, rfl, ?_, hc⟩
    have hb : (a.add i).block < w.heap.size := by
      unfold World.cell? at hc
      cases hb : w.heap[(a.add i).block]? with
      | none => rw [hb] at hc; simp at hc
      | some _ => exact (Array.getElem?_eq_some_iff.1 hb).1
    rwa [add_block] at hb
theorem walk (v : Value) (w : World) (h : StrsIn w v) : Calls Tryz.prog 9 #[v] w fun e w' => e = .returned (.bool true) ∧ Below w.heap.size w w' := by
  obtain ⟨o, n, c, ss, rfl, hr, hn, hs⟩ := rs_of h
  exact walk0 o n c ss w hn hs hr
end Go.Proofs.YtdpgbmmgeooahaaGreatDoorBesrefl.fnFinishedAfterLookups
