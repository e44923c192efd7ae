/-
  The walk of FnFindInEmbeddedExactTable: One call of findInEmbedded on zzOuter, entering zzInner under any prefix, answers by the table. No condition.
-/
import Derived.Test.YtdpgbmmgeooahaaGreatDoorBesreflF107
import Derived.WalkSpells
namespace Go.Proofs.YtdpgbmmgeooahaaGreatDoorBesrefl.fnFindInEmbeddedExactTable
open Go.RowKit
set_option maxRecDepth 100000
set_option maxHeartbeats 1000000
set_option linter.unusedVariables false
/-- the slice of integers 'v' reads as 'zs' up to its capacity, or is nil -/
def IntsIn (w : World) (k : IntKind) (v : Value) : Prop := v = .slice none 0 0 ∨ ∃ (a : Addr) (len cap : Nat) (zs : List Int), v = .slice (some a) len cap ∧ len ≤ cap ∧ cap ≤ maxLen ∧ zs.length = cap ∧ (∀ i, i < zs.length → w.cell? (a.add i) = some (.int k (zs.getD i 0))) ∧ (∀ n ∈ zs, (Lit.int k n).wf = true)
/-- the slice of strings 'v' reads as 'ss' up to its capacity, or is nil -/
def StrsIn (w : World) (v : Value) : Prop := v = .slice none 0 0 ∨ ∃ (a : Addr) (len cap : Nat) (ss : List ByteArray), v = .slice (some a) len cap ∧ len ≤ cap ∧ cap ≤ maxLen ∧ ss.length = cap ∧ (∀ i, i < ss.length → w.cell? (a.add i) = some (.string (ss.getD i ByteArray.empty))) ∧ (∀ s ∈ ss, s.size ≤ maxLen)
/-- the pointer 'v' is nil or points at an integer -/
def PtrIn (w : World) (k : IntKind) (v : Value) : Prop := v = .pointer none ∨ ∃ b off n, v = .pointer (some ⟨b, off, none⟩) ∧ w.cell? ⟨b, off, none⟩ = some (.int k n) ∧ (Lit.int k n).wf = true
theorem zb (o : Option Addr) (n c : Nat) (x : ByteArray) (w : World) : Calls Tryz.prog 23 #[.slice o n c, .string x] w fun e w' => ∃ b, e = .returned (.bool b) ∧ w = w' := by
  go_enter Tryz.func23, Tryz.ntmps23
  go_wp2
  all_goals
    go_ret
    exact ⟨_, rfl, rfl⟩
theorem h0_ca {w u : World} {cb s mc : Nat} {c : Array Value} (h : Ca w cb (some mc)) (hS : SD w s c) (ho : Oth [s] w u) : Ca u cb (some mc) := by
  refine (ho cb h.lt (fun e => ?_)).trans h
  rw [List.mem_singleton] at e
  subst e
  rw [SD, h] at hS
  cases hS
theorem h0_ty {w u : World} {s mc : Nat} {G : Nat → Option Nat} {c : Array Value} (h : Ty w mc G) (hS : SD w s c) (ho : Oth [s] w u) : Ty u mc G := by
  refine h.heap (ho mc h.lt (fun e => ?_))
  rw [List.mem_singleton] at e
  exact h.ne hS e
theorem fs_new {B s c m p mc : Nat} {G : Nat → Option Nat} {zs : List Int} {w2 w3 w4 : World} {cs : Array Value} (hQ : Q0 B s 99 5 m (plus (fun _ => none) ⟨#[65]⟩ (.pointer (pt p))) w2 w3) (hI : IsSF w3 p 3 2 none true false [0]) (hBs : B ≤ s) (hT : Ty w2 mc G) (hS2 : SD w2 s cs)
    (hf : Fr B w3 w4) (ho : Oth [mc] w3 w4) (hS : SD w4 c (sdc 96 none ((5 : Nat) : Int) 0 (-1) none none (.slice none 0 0))) (hl : w3.heap.size ≤ c) : FS B s c m zs none (.slice none 0 0) w4 := by
  have hBm : B ≤ m := Nat.le_trans hQ.fr.low hQ.ml
  have hs := hQ.sd.lt
  have hm := hQ.mp.lt
  have hmc : mc < m := Nat.lt_of_lt_of_le hT.lt hQ.ml
  have hms : mc ≠ s := hT.ne hS2
  refine ⟨_, none, 0, .slice none 0 0, fun _ => none, (ho s hs (fun e => hms (List.mem_singleton.1 e).symm)).trans hQ.sd, hQ.mp.heap (ho m hm (fun e => by rw [List.mem_singleton] at e; omega)), ?_, ⟨hS, Nat.zero_le _, rfl, Sound.none _ _, fun j hj => absurd hj (Nat.not_lt_zero _)⟩, fun x h => absurd rfl h, by omega, (fun h => by cases h), plus_self, hBs, hBm, Nat.le_trans hQ.low hl⟩
  exact ((Sound.none w3 (ptab zs)).set (ptab_A zs) hI).carry hf
set_option maxHeartbeats 8000000 in
theorem walk0 (o : Option Addr) (n c : Nat) (zs : List Int) (x : ByteArray) (w : World) (hn : n ≤ maxLen) (hx : x.size ≤ maxLen) (h : Ri w o n zs) : Calls Tryz.prog 6 #[.slice o n c, .string x] w fun e w' => e = .returned (.bool true) ∧ Below w.heap.size w w' := by
  have hzl : zs.length = n := h.1
  have HR := Lib.hid h
  have hsl := sl_eq
  clear h
  go_enter Tryz.func6, Tryz.ntmps6
  go_wp2_with (first | (go_at_call 23; ((with_reducible refine (zb _ _ _ _ _).mono ?_); rintro e w' ⟨b, rfl, rfl⟩; skip)) | (go_at_call 24; ((with_reducible refine (zci _ n _ zs (by omega) _ HR.out).mono ?_); rintro e w1 ⟨pv, rfl, hf, hv⟩; have HA := Lib.hid (And.intro (hf) (hv)); clear hf hv)) | (go_at_call 16; ((with_reducible refine (zo_raw w1.heap.size w1.heap.size _ (ca_new w1) (Nat.le_refl _) (by simp)).mono ?_); rintro e w2 ⟨s, mc, G, rfl, hf, hC, hT, hG, hS, l1, l2⟩; have hg : Fr w1.heap.size w1 w2 := ((Fr.refl w1.heap.size w1 (Nat.le_refl _)).alloc _).trans hf; have HB := Lib.hid (And.intro (hg) (And.intro (hC) (And.intro (hT) (And.intro (hG) (And.intro (hS) (And.intro (l1) (l2))))))); clear hf hC hT hG hS l1 l2 hg)) | (go_at_call 17; ((with_reducible refine (zsf0 (B := w1.heap.size) w2 HB.out.2.2.2.2.2.1 (Nat.le_trans HB.out.1.low HB.out.1.grow) HB.out.2.2.2.2.1).mono ?_); rintro e w3 ⟨m, p0, rfl, hQ, hI⟩; have HQ0 := Lib.hid (And.intro (hQ) (hI)); clear hQ hI)) | (go_at_call 25; ((with_reducible refine (zi_raw w1.heap.size w1.heap.size mc G w3 (h0_ca HB.out.2.1 HB.out.2.2.2.2.1 HQ0.out.1.ot) (h0_ty HB.out.2.2.1 HB.out.2.2.2.2.1 HQ0.out.1.ot) HB.out.2.2.2.1 HB.out.2.2.2.2.2.2 HQ0.out.1.low).mono ?_); rintro e w4 ⟨c, rfl, hf, ho, hS, l3⟩; have hfs := fs_new (zs := zs) HQ0.out.1 HQ0.out.2 HB.out.2.2.2.2.2.1 HB.out.2.2.1 HB.out.2.2.2.2.1 hf ho hS l3; have hg : Fr w.heap.size w w4 := HA.out.1.trans (((HB.out.1.trans HQ0.out.1.fr).trans hf).le HA.out.1.grow); have hI4 : Ix w4 pv zs true := HA.out.2.carry ((HB.out.1.trans HQ0.out.1.fr).trans hf); have HC := Lib.hid (And.intro (hg) (And.intro (hI4) (hfs))); clear hf ho hS l3 hg hI4 hfs)) | (go_at_call 26; ((with_reducible refine (zfe x (by omega) HC.out.2.1 HC.out.2.2).mono ?_); rintro e w5 ⟨hf, hT, hor⟩; have hg := HC.out.1.trans (hf.le HA.out.1.grow); rcases hor with ⟨hE, rfl⟩ | ⟨p, td', E, hE, rfl, hI⟩ <;> first | (have HY := Lib.hid (And.intro (hE) (And.intro (hg) (And.intro (hI) (HR.out.fr hg.bel)))); clear hE hg hT hI hf) | (have HN := Lib.hid (And.intro (hE) (hg)); clear hE hg hT hf))) | (go_at_call 27; ((with_reducible refine (iw_yes _ n _ zs (by omega) x _ _ HY.out.2.2.2 HY.out.1).mono ?_); rintro e w6 ⟨g, n1, rfl, hf, hv⟩; have HD := Lib.hid (And.intro (HY.out.2.1.trans (hf.le HY.out.2.1.grow)) (And.intro (HY.out.2.2.1.carry hf) (hv))); clear hf hv)) | (go_at_call 27; ((with_reducible refine (iw_no _ n _ zs x _ HN.out.1).mono ?_); rintro e w6 ⟨rfl, rfl⟩; skip)) | (go_at_call 20; ((with_reducible refine (zfi HD.out.2.1).mono ?_); rintro e w' ⟨v, rfl, hv, rfl⟩; have HV := Lib.hid (hv); clear hv)) | (go_at_call 19; ((with_reducible refine (eqi HV.out HD.out.2.2 (pzs_le zs (by omega) _ _ HY.out.1)).mono ?_); rintro e w7 ⟨rfl, hf⟩; have HE := Lib.hid (HD.out.1.trans (hf.le HD.out.1.grow)); clear hf)))
  all_goals
    go_ret
    first | exact ⟨rfl, Below.refl _ _⟩ | exact ⟨rfl, HE.out.bel⟩ | exact ⟨rfl, HN.out.2.bel⟩
theorem ri_of {w : World} {v : Value} (h : IntsIn w .i64 v) : ∃ o n c zs, v = .slice o n c ∧ Ri w o n zs ∧ n ≤ maxLen := by
  rcases h with rfl | ⟨a, len, cap, zs, rfl, h1, h2, h3, h4, h5⟩
  · exact ⟨none, 0, 0, [], rfl, ⟨rfl, fun i hi => absurd hi (Nat.not_lt_zero _)⟩, Nat.zero_le _⟩
  · refine ⟨some a, len, cap, zs.take len, rfl, ⟨by rw [List.length_take]; omega, fun i hi => ?_⟩, by omega⟩
    have hc := h4 i (by omega)
    have hb : (a.add i).block < w.heap.size := by
      unfold World.cell? at hc
      cases hb : w.heap[(a.add i).block]? with
      | none => rw [hb] at hc; simp at hc
      | some _ => exact (Array.getElem?_eq_some_iff.1 hb).1
    rw [add_block] at hb
    refine ⟨a, rfl, hb, ?_⟩
    rw [hc, List.getD_eq_getElem?_getD, List.getD_eq_getElem?_getD, List.getElem?_take, if_pos hi]
theorem walk (v : Value) (x : ByteArray) (w : World) (h : IntsIn w .i64 v) (hx : x.size ≤ maxLen) : Calls Tryz.prog 6 #[v, .string x] w fun e w' => e = .returned (.bool true) ∧ Below w.heap.size w w' := by
  obtain ⟨o, n, c, zs, rfl, hr, hn⟩ := ri_of h
  exact walk0 o n c zs x w hn hx hr
end Go.Proofs.YtdpgbmmgeooahaaGreatDoorBesrefl.fnFindInEmbeddedExactTable
