/-
  The walk of FnFindInEmbeddedScript: Every call of a script of findInEmbedded calls answers by the same table; the child stays pending and unfinished. No condition.
-/
import Derived.Test.YtdpgbmmgeooahaaGreatDoorBesreflF107
import Derived.WalkSpells
namespace Go.Proofs.YtdpgbmmgeooahaaGreatDoorBesrefl.fnFindInEmbeddedScript
open Go.RowKit
set_option maxRecDepth 100000
set_option maxHeartbeats 1000000
set_option linter.unusedVariables false
/-- the slice of integers 'v' reads as 'zs' up to its capacity, or is nil -/
def IntsIn (w : World) (k : IntKind) (v : Value) : Prop := v = .slice none 0 0 ∨ ∃ (a : Addr) (len cap : Nat) (zs : List Int), v = .slice (some a) len cap ∧ len ≤ cap ∧ cap ≤ maxLen ∧ zs.length = cap ∧ (∀ i, i < zs.length → w.cell? (a.add i) = some (.int k (zs.getD i 0))) ∧ (∀ n ∈ zs, (Lit.int k n).wf = true)
/-- the slice of strings 'v' reads as 'ss' up to its capacity, or is nil -/
def StrsIn (w : World) (v : Value) : Prop := v = .slice none 0 0 ∨ ∃ (a : Addr) (len cap : Nat) (ss : List ByteArray), v = .slice (some a) len cap ∧ len ≤ cap ∧ cap ≤ maxLen ∧ ss.length = cap ∧ (∀ i, i < ss.length → w.cell? (a.add i) = some (.string (ss.getD i ByteArray.empty))) ∧ (∀ s ∈ ss, s.size ≤ maxLen)
/-- the pointer 'v' is nil or points at an integer -/
def PtrIn (w : World) (k : IntKind) (v : Value) : Prop := v = .pointer none ∨ ∃ b off n, v = .pointer (some ⟨b, off, none⟩) ∧ w.cell? ⟨b, off, none⟩ = some (.int k n) ∧ (Lit.int k n).wf = true
theorem zbs (o2 : Option Addr) (n2 c2 : Nat) (hn2 : n2 ≤ maxLen) (o : Option Addr) (n c : Nat) (ss : List ByteArray) (hn : n ≤ maxLen) (hs : ∀ s ∈ ss, s.size ≤ maxLen) (w : World) (h : Rs w o n ss) : Calls Tryz.prog 30 #[.slice o2 n2 c2, .slice o n c] w fun e w' => w = w' ∧ (e = .returned (.bool false) ∨ (e = .returned (.bool true) ∧ ∀ i, i < n → (ss.getD i ByteArray.empty).size ≤ 1048576)) := by
  have HR := Lib.hid h
  have HN := Lib.hid hn
  have HS := Lib.hid hs
  clear h hn hs
  go_enter Tryz.func30, Tryz.ntmps30
  go_wp2
  all_goals try (go_ret; exact ⟨rfl, Or.inl rfl⟩)
  go_loopg [5, 6] n (fun k z i wr => ∃ (j t : Nat), k = n - j ∧ j ≤ n ∧ z = .int .i64 t ∧ i = .int .i64 j ∧ t ≤ 1048576 ∧ wr = w ∧ ∀ q, q < j → (ss.getD q ByteArray.empty).size ≤ 1048576)
  case atStart => exact ⟨0, (n2 + n), by simp, Nat.zero_le _, by simp, rfl, by omega, rfl, fun q hq => absurd hq (Nat.not_lt_zero _)⟩
  case round =>
    obtain ⟨j, t, hg, hj, rfl, rfl, ht, rfl, hq⟩ := hrel
    have HG := Lib.hid hg
    have HQ := Lib.hid hq
    clear hg hq
    by_cases c1 : j < n
    · obtain ⟨a, ha, hb, hc⟩ := HR.out.2 j c1
      subst ha
      have hz : (ss.getD j ByteArray.empty).size ≤ maxLen := by
        have hl : j < ss.length := Nat.lt_of_lt_of_le c1 HR.out.1
        rw [List.getD_eq_getElem?_getD, List.getElem?_eq_getElem hl]
        exact HS.out _ (List.getElem_mem hl)
      go_wp2
      all_goals first
      | (go_ret
         exact ⟨rfl, Or.inl rfl⟩)
      | (rename_i g1 g2
         go_roundg (n - (j + 1))
         case measure => (have := HG.out; omega)
         case rel => exact ⟨j + 1, t + (ss[j]?.getD ByteArray.empty).size, rfl, c1, by simp, by simp, by omega, rfl, fun q hq => by
           rcases Nat.lt_succ_iff_lt_or_eq.1 hq with h | rfl
           · exact HQ.out q h
           · rw [List.getD_eq_getElem?_getD]; omega⟩)
    · go_wp2
      go_ret
      exact ⟨rfl, Or.inr ⟨rfl, fun i hi => HQ.out i (by omega)⟩⟩
theorem h0_ca {w u : World} {cb s mc : Nat} {c : Array Value} (h : Ca w cb (some mc)) (hS : SD w s c) (ho : Oth [s] w u) : Ca u cb (some mc) := by
  refine (ho cb h.lt (fun e => ?_)).trans h
  rw [List.mem_singleton] at e
  subst e
  rw [SD, h] at hS
  cases hS
theorem h0_ty {w u : World} {s mc : Nat} {G : Nat → Option Nat} {c : Array Value} (h : Ty w mc G) (hS : SD w s c) (ho : Oth [s] w u) : Ty u mc G := by
  refine h.heap (ho mc h.lt (fun e => ?_))
  rw [List.mem_singleton] at e
  exact h.ne hS e
theorem fs_new {B s c m p mc : Nat} {G : Nat → Option Nat} {zs : List Int} {w2 w3 w4 : World} {cs : Array Value} (hQ : Q0 B s 99 5 m (plus (fun _ => none) ⟨#[65]⟩ (.pointer (pt p))) w2 w3) (hI : IsSF w3 p 3 2 none true false [0]) (hBs : B ≤ s) (hT : Ty w2 mc G) (hS2 : SD w2 s cs)
    (hf : Fr B w3 w4) (ho : Oth [mc] w3 w4) (hS : SD w4 c (sdc 96 none ((5 : Nat) : Int) 0 (-1) none none (.slice none 0 0))) (hl : w3.heap.size ≤ c) : FS B s c m zs none (.slice none 0 0) w4 := by
  have hBm : B ≤ m := Nat.le_trans hQ.fr.low hQ.ml
  have hs := hQ.sd.lt
  have hm := hQ.mp.lt
  have hmc : mc < m := Nat.lt_of_lt_of_le hT.lt hQ.ml
  have hms : mc ≠ s := hT.ne hS2
  refine ⟨_, none, 0, .slice none 0 0, fun _ => none, (ho s hs (fun e => hms (List.mem_singleton.1 e).symm)).trans hQ.sd, hQ.mp.heap (ho m hm (fun e => by rw [List.mem_singleton] at e; omega)), ?_, ⟨hS, Nat.zero_le _, rfl, Sound.none _ _, fun j hj => absurd hj (Nat.not_lt_zero _)⟩, fun x h => absurd rfl h, by omega, (fun h => by cases h), plus_self, hBs, hBm, Nat.le_trans hQ.low hl⟩
  exact ((Sound.none w3 (ptab zs)).set (ptab_A zs) hI).carry hf
theorem pne (a : Addr) (w : World) : (binOp .neq 60 (.pointer (some a)) (.pointer (some a))).run Tryz.prog w = .ok (.bool false) w := by
  obtain ⟨j, hj⟩ := Option.isSome_iff_exists.1 (by kernel_rfl : (Tryz.prog.info? 91).isSome = true)
  have h : ∀ d : Nat, (Op.equalIn (d + 1) 60 (.pointer (some a)) (.pointer (some a))).run Tryz.prog w = .ok true w := fun d => by
    simp [Op.equalIn, run_underlying Tryz.underlying60, sizeOf, typeInfo, hj, run_sameAddr_same]
  simp only [binOp]
  simp [Op.equal, Op.maxDepth, h 9999]
set_option maxHeartbeats 16000000 in
theorem walk0 (o : Option Addr) (n cp : Nat) (zs : List Int) (o2 : Option Addr) (k kc : Nat) (ss : List ByteArray) (w : World) (hn : n ≤ maxLen) (hk : k ≤ maxLen) (hs : ∀ s ∈ ss, s.size ≤ maxLen) (h : Ri w o n zs) (h2 : Rs w o2 k ss) : Calls Tryz.prog 8 #[.slice o n cp, .slice o2 k kc] w fun e w' => e = .returned (.bool true) ∧ Below w.heap.size w w' := by
  have hzl : zs.length = n := h.1
  have HR := Lib.hid h
  have HRs := Lib.hid h2
  have HM := Lib.hid hk
  have HS := Lib.hid hs
  have hsl := sl_eq
  have hpn := pne
  clear h h2 hk hs
  go_enter Tryz.func8, Tryz.ntmps8
  go_wp2_with (first | (go_at_call 30; ((with_reducible refine (zbs _ _ _ hn _ _ _ ss HM.out HS.out _ HRs.out).mono ?_); rintro e w' ⟨rfl, rfl | ⟨rfl, hb⟩⟩ <;> try (have HBb := Lib.hid hb; clear hb); skip)) | (go_at_call 29; ((with_reducible refine (zsb _ k _ ss (by omega) HBb.out _ HRs.out).mono ?_); rintro e w' ⟨t, rfl, ht, rfl⟩; skip)) | (go_at_call 24; ((with_reducible refine (zci _ n _ zs (by omega) _ HR.out).mono ?_); rintro e w1 ⟨pv, rfl, hf, hv⟩; have HA := Lib.hid (And.intro (hf) (hv)); clear hf hv)) | (go_at_call 16; ((with_reducible refine (zo_raw w1.heap.size w1.heap.size _ (ca_new w1) (Nat.le_refl _) (by simp)).mono ?_); rintro e w2 ⟨s, mc, G, rfl, hf, hC, hT, hG, hS, l1, l2⟩; have hg : Fr w1.heap.size w1 w2 := ((Fr.refl w1.heap.size w1 (Nat.le_refl _)).alloc _).trans hf; have HB := Lib.hid (And.intro (hg) (And.intro (hC) (And.intro (hT) (And.intro (hG) (And.intro (hS) (And.intro (l1) (l2))))))); clear hf hC hT hG hS l1 l2 hg)) | (go_at_call 17; ((with_reducible refine (zsf0 (B := w1.heap.size) w2 HB.out.2.2.2.2.2.1 (Nat.le_trans HB.out.1.low HB.out.1.grow) HB.out.2.2.2.2.1).mono ?_); rintro e w3 ⟨m, p0, rfl, hQ, hI⟩; have HQ0 := Lib.hid (And.intro (hQ) (hI)); clear hQ hI)) | (go_at_call 25; ((with_reducible refine (zi_raw w1.heap.size w1.heap.size mc G w3 (h0_ca HB.out.2.1 HB.out.2.2.2.2.1 HQ0.out.1.ot) (h0_ty HB.out.2.2.1 HB.out.2.2.2.2.1 HQ0.out.1.ot) HB.out.2.2.2.1 HB.out.2.2.2.2.2.2 HQ0.out.1.low).mono ?_); rintro e w4 ⟨c, rfl, hf, ho, hS, l3⟩; have hfs := fs_new (zs := zs) HQ0.out.1 HQ0.out.2 HB.out.2.2.2.2.2.1 HB.out.2.2.1 HB.out.2.2.2.2.1 hf ho hS l3; have hg : Fr w.heap.size w w4 := HA.out.1.trans (((HB.out.1.trans HQ0.out.1.fr).trans hf).le HA.out.1.grow); have hI4 : Ix w4 pv zs true := HA.out.2.carry ((HB.out.1.trans HQ0.out.1.fr).trans hf); have HC := Lib.hid (And.intro (hg) (And.intro (hI4) (hfs))); clear hf ho hS l3 hg hI4 hfs)))
  all_goals try (go_ret; exact ⟨rfl, Below.refl _ _⟩)
  go_loopg [9] k (fun g i wx => ∃ j : Nat, g = k - j ∧ j ≤ k ∧ i = .int .i64 j ∧ Ix wx pv zs true ∧ Fr w.heap.size w wx ∧ ∃ ch0 ix0, FS w1.heap.size s c m zs ch0 ix0 wx)
  case atStart => exact ⟨0, by simp, Nat.zero_le _, rfl, HC.out.2.1, HC.out.1, _, _, HC.out.2.2⟩
  case round =>
    obtain ⟨j, hg, hj, rfl, q1, q2, ch0, ix0, q3⟩ := hrel
    have HG := Lib.hid hg
    have HQ := Lib.hid (And.intro q1 (And.intro q2 q3))
    by_cases c1 : j < k
    · obtain ⟨a, ha, hb, hc⟩ := HRs.out.2 j c1
      subst ha
      obtain ⟨x, hx⟩ : ∃ x, ss.getD j ByteArray.empty = x := ⟨_, rfl⟩
      rw [hx] at hc
      have hc1 : wr.cell? (a.add j) = some (.string x) := (q2.bel.cell (p := a.add j) (by rw [add_block]; exact hb)).trans hc
      have HX := Lib.hid (And.intro hb hc)
      have hjm : (j : Int) ≤ 1000000 := by omega
      clear hg q1 q2 q3 hb hc hx
      go_wp2_with (first | (go_at_call 26; ((with_reducible refine (zfe x (by omega) HQ.out.1 HQ.out.2.2).mono ?_); rintro e w5 ⟨hf, hT, hor⟩; have hg := HQ.out.2.1.trans (hf.le HA.out.1.grow); have hi := HQ.out.1.carry hf; have hc2 : w5.cell? (a.add j) = some (.string x) := (hg.bel.cell (p := a.add j) (by rw [add_block]; exact HX.out.1)).trans HX.out.2; have HX2 := Lib.hid (And.intro (Nat.lt_of_lt_of_le HX.out.1 hg.grow) hc2); rcases hor with ⟨hE, rfl⟩ | ⟨p, td', E, hE, rfl, hI⟩ <;> first | (have HY := Lib.hid (And.intro (hE) (And.intro (hg) (And.intro (hT) (And.intro (hi) (hI))))); clear hE hg hT hI hf hi) | (have HN := Lib.hid (And.intro (hE) (And.intro (hg) (And.intro (hT) (hi)))); clear hE hg hT hf hi))) | (go_at_call 31; ((with_reducible refine (zfin HY.out.2.2.1).mono ?_); rintro e w6 ⟨rfl, k6, hw6⟩; have hd : Fr w5.heap.size w5 w6 := (by rw [hw6]; exact (Fr.refl _ w5 (Nat.le_refl _)).drewN k6); have hc3 : w6.cell? (a.add j) = some (.string x) := (hd.bel.cell (p := a.add j) (by rw [add_block]; exact HX2.out.1)).trans HX2.out.2; have HZ := Lib.hid (And.intro (HY.out.2.1.trans (hd.le HY.out.2.1.grow)) (And.intro (HY.out.2.2.1.on hd) (And.intro (HY.out.2.2.2.1.carry hd) (HY.out.2.2.2.2.carry hd)))); clear hd hw6)) | (go_at_call 31; ((with_reducible refine (zfin HN.out.2.2.1).mono ?_); rintro e w6 ⟨rfl, k6, hw6⟩; have hd : Fr w5.heap.size w5 w6 := (by rw [hw6]; exact (Fr.refl _ w5 (Nat.le_refl _)).drewN k6); have hc3 : w6.cell? (a.add j) = some (.string x) := (hd.bel.cell (p := a.add j) (by rw [add_block]; exact HX2.out.1)).trans HX2.out.2; have HZ := Lib.hid (And.intro (HN.out.2.1.trans (hd.le HN.out.2.1.grow)) (And.intro (HN.out.2.2.1.on hd) (HN.out.2.2.2.carry hd))); clear hd hw6)) | (go_at_call 32; ((with_reducible refine (zcc HZ.out.2.1).mono ?_); rintro e w' ⟨rfl, rfl⟩; skip)) | (go_at_call 27; ((with_reducible refine (iw_yes _ n _ zs (by omega) x _ _ (HR.out.fr HZ.out.1.bel) HY.out.1).mono ?_); rintro e w7 ⟨g, n1, rfl, hf, hv⟩; have HD := Lib.hid (And.intro (HZ.out.1.trans (hf.le HZ.out.1.grow)) (And.intro (HZ.out.2.1.on hf) (And.intro (HZ.out.2.2.1.carry hf) (And.intro (HZ.out.2.2.2.carry hf) (hv))))); clear hf hv)) | (go_at_call 27; ((with_reducible refine (iw_no _ n _ zs x _ HN.out.1).mono ?_); rintro e w7 ⟨rfl, rfl⟩; skip)) | (go_at_call 20; ((with_reducible refine (zfi HD.out.2.2.2.1).mono ?_); rintro e w' ⟨v, rfl, hv, rfl⟩; have HV := Lib.hid (hv); clear hv)) | (go_at_call 19; ((with_reducible refine (eqi HV.out HD.out.2.2.2.2 (pzs_le zs (by omega) _ _ HY.out.1)).mono ?_); rintro e w8 ⟨rfl, hf⟩; have HE := Lib.hid (And.intro (HD.out.1.trans (hf.le HD.out.1.grow)) (And.intro (HD.out.2.1.on hf) (HD.out.2.2.1.carry hf))); clear hf)))
      all_goals
        go_roundg (k - (j + 1))
        case measure => (have := HG.out; omega)
        case rel => first | exact ⟨j + 1, rfl, c1, by simp, HE.out.2.2, HE.out.1, _, _, HE.out.2.1⟩ | exact ⟨j + 1, rfl, c1, by simp, HZ.out.2.2, HZ.out.1, _, _, HZ.out.2.1⟩
    · clear hg q1 q3
      go_wp2
      go_ret
      exact ⟨rfl, q2.bel⟩
theorem ri_of {w : World} {v : Value} (h : IntsIn w .i64 v) : ∃ o n c zs, v = .slice o n c ∧ Ri w o n zs ∧ n ≤ maxLen := by
  rcases h with rfl | ⟨a, len, cap, zs, rfl, h1, h2, h3, h4, h5⟩
  · exact ⟨none, 0, 0, [], rfl, ⟨rfl, fun i hi => absurd hi (Nat.not_lt_zero _)⟩, Nat.zero_le _⟩
  · refine ⟨some a, len, cap, zs.take len, rfl, ⟨by rw [List.length_take]; omega, fun i hi => ?_⟩, by omega⟩
    have hc := h4 i (by omega)
    have hb : (a.add i).block < w.heap.size := by
      unfold World.cell? at hc
      cases hb : w.heap[(a.add i).block]? with
      | none => rw [hb] at hc; simp at hc
      | some _ => exact (Array.getElem?_eq_some_iff.1 hb).1
    rw [add_block] at hb
    refine ⟨a, rfl, hb, ?_⟩
    rw [hc, List.getD_eq_getElem?_getD, List.getD_eq_getElem?_getD, List.getElem?_take, if_pos hi]
theorem rs_of {w : World} {v : Value} (h : StrsIn w v) : ∃ o n c ss, v = .slice o n c ∧ Rs w o n ss ∧ n ≤ maxLen ∧ ∀ s ∈ ss, s.size ≤ maxLen := by
  rcases h with rfl | ⟨a, len, cap, ss, rfl, h1, h2, h3, h4, h5⟩
  · exact ⟨none, 0, 0, [], rfl, ⟨Nat.le_refl _, fun i hi => absurd hi (Nat.not_lt_zero _)⟩, Nat.zero_le _, fun s hs => by cases hs⟩
  · refine ⟨some a, len, cap, ss, rfl, ⟨by omega, fun i hi => ?_⟩, by omega, h5⟩
    have hc := h4 i (by omega)
    refine ⟨a, rfl, ?_, hc⟩
    have hb : (a.add i).block < w.heap.size := by
      unfold World.cell? at hc
      cases hb : w.heap[(a.add i).block]? with
      | none => rw [hb] at hc; simp at hc
      | some _ => exact (Array.getElem?_eq_some_iff.1 hb).1
    rwa [add_block] at hb
theorem walk (v u : Value) (w : World) (h : IntsIn w .i64 v) (h2 : StrsIn w u) : Calls Tryz.prog 8 #[v, u] w fun e w' => e = .returned (.bool true) ∧ Below w.heap.size w w' := by
  obtain ⟨o, n, c, zs, rfl, hr, hn⟩ := ri_of h
  obtain ⟨o2, k, c2, ss, rfl, hr2, hk, hs⟩ := rs_of h2
  exact walk0 o n c zs o2 k c2 ss w hn hk hs hr hr2
end Go.Proofs.YtdpgbmmgeooahaaGreatDoorBesrefl.fnFindInEmbeddedScript
