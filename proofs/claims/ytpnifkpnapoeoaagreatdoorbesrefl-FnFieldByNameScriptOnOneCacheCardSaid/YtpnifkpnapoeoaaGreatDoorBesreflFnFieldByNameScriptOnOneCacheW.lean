/-
  The walk of FnFieldByNameScriptOnOneCache: Every FieldByName answer of a script on one cache matches the field table; a third Nature still finds all seven fields. No condition.
-/
import Derived.Test.YtpnifkpnapoeoaaGreatDoorBesreflS96
import Derived.WalkSpells
import Derived.StillTailTactics
import Derived.Deep.RegionHeld3
import Derived.Deep.RegionLaw
import Derived.Deep.RegionLawGrows
import Derived.Deep.AppendLies
import Derived.Deep.Cut
import Derived.Deep.CutRange
import Derived.Deep.RegionWith
import Derived.Lib.Hide
import Derived.Deep.LoopGhost
import Derived.Deep.DeepCutAuto
namespace Go.Proofs.YtpnifkpnapoeoaaGreatDoorBesrefl.fnFieldByNameScriptOnOneCache
open Go.RowKit
set_option maxRecDepth 100000
set_option maxHeartbeats 1000000
set_option linter.unusedVariables false
/-- the slice of integers 'v' reads as 'zs' up to its capacity, or is nil -/
def IntsIn (w : World) (k : IntKind) (v : Value) : Prop := v = .slice none 0 0 ∨ ∃ (a : Addr) (len cap : Nat) (zs : List Int), v = .slice (some a) len cap ∧ len ≤ cap ∧ cap ≤ maxLen ∧ zs.length = cap ∧ (∀ i, i < zs.length → w.cell? (a.add i) = some (.int k (zs.getD i 0))) ∧ (∀ n ∈ zs, (Lit.int k n).wf = true)
/-- the slice of strings 'v' reads as 'ss' up to its capacity, or is nil -/
def StrsIn (w : World) (v : Value) : Prop := v = .slice none 0 0 ∨ ∃ (a : Addr) (len cap : Nat) (ss : List ByteArray), v = .slice (some a) len cap ∧ len ≤ cap ∧ cap ≤ maxLen ∧ ss.length = cap ∧ (∀ i, i < ss.length → w.cell? (a.add i) = some (.string (ss.getD i ByteArray.empty))) ∧ (∀ s ∈ ss, s.size ≤ maxLen)
/-- the pointer 'v' is nil or points at an integer -/
def PtrIn (w : World) (k : IntKind) (v : Value) : Prop := v = .pointer none ∨ ∃ b off n, v = .pointer (some ⟨b, off, none⟩) ∧ w.cell? ⟨b, off, none⟩ = some (.int k n) ∧ (Lit.int k n).wf = true
theorem natAt_new (w : World) (T td : Nat) : NatAt (w.alloc (.cells (natc T 25 (pt td) false false) 48)) w.heap.size T td := heap_alloc_new w _
def St (B cb td s : Nat) (w : World) : Prop := ∃ mo own an ch ix F, Top B cb td s 81 7 fs81 tab81 ks81 exT mo own an ch ix F w
theorem St.mv {B cb td s : Nat} {w u : World} (h : St B cb td s w) (hf : Fr B w u) (hb : ∀ b, b < w.heap.size → u.heap[b]? = w.heap[b]?) : St B cb td s u := by
  obtain ⟨mo, own, an, ch, ix, F, h⟩ := h
  exact ⟨mo, own, an, ch, ix, F, h.mv hf hb⟩
theorem St.alloc {B cb td s : Nat} {w : World} (h : St B cb td s w) (o : Obj) : St B cb td s (w.alloc o) := by
  obtain ⟨mo, own, an, ch, ix, F, h⟩ := h
  exact ⟨mo, own, an, ch, ix, F, h.alloc o⟩
theorem St.drew {B cb td s : Nat} {w : World} (h : St B cb td s w) : St B cb td s w.drew := by
  obtain ⟨mo, own, an, ch, ix, F, h⟩ := h
  exact ⟨mo, own, an, ch, ix, F, h.drew⟩
theorem St.fr {B cb td s : Nat} {w : World} (h : St B cb td s w) : Fr B w w := by
  obtain ⟨mo, own, an, ch, ix, F, h⟩ := h
  exact Fr.refl B w h.low
theorem nat_carry {B nb T td : Nat} {w u : World} (h : NatAt w nb T td) (hf : Fr B w u) : NatAt u nb T td := hf.kept nb _ h rfl
theorem nat_al {nb T td : Nat} {w : World} (h : NatAt w nb T td) (o : Obj) : NatAt (w.alloc o) nb T td := (Below.heap_alloc w o nb (show Plain w nb from ⟨_, _, h⟩).lt).trans h
theorem fbS {B cb td s nb : Nat} {w : World} (x : ByteArray) (h1 : B ≤ s) (hN : NatAt w nb 81 td) (h : St B cb td s w) : Calls Tryz.prog 10 #[.pointer (pt nb), .pointer (pt cb), .string x] w fun e w' => Fr B w w' ∧ St B cb td s w' ∧
    ((∃ E td', tab81 x = some E ∧ e = .returned (.tuple #[.agg (natc E.t E.k td' E.i E.f), .bool true])) ∨ (tab81 x = none ∧ e = .returned (.tuple #[zeroN, .bool false]))) := by
  obtain ⟨mo, own, an, ch, ix, F, h⟩ := h
  refine (fbn top81 (exOk _ _) h1 x hN h).mono ?_
  rintro e w' ⟨m, own', an', ch', ix', F', hf, hT, hA⟩
  exact ⟨hf, ⟨_, _, _, _, _, _, hT⟩, hA⟩
theorem znS {B cb td s : Nat} {w : World} (h : St B cb td s w) : Calls Tryz.prog 9 #[.pointer (pt cb)] w fun e w' => e = .returned (.agg (natc 81 25 (pt td) false false)) ∧ Fr B w w' ∧ St B cb td s w' := by
  obtain ⟨mo, own, an, ch, ix, F, h⟩ := h
  refine (zn_again w h).mono ?_
  rintro e w' ⟨h1, h2, h3⟩
  exact ⟨h1, h2, _, _, _, _, _, _, h3⟩
theorem fin2 {B cb td s nb : Nat} {w1 W w5 : World} (h : Fr B w1 W ∧ St B cb td s W ∧ NatAt W nb 81 td) (hf : Fr W.drew.heap.size W.drew w5) : St B cb td s w5 ∧ NatAt w5 nb 81 td ∧ Fr B w1 w5 := by
  have h1 : Fr B w1 W.drew := h.1.drew
  have h2 : St B cb td s W.drew := h.2.1.drew
  have h3 : NatAt W.drew nb 81 td := h.2.2
  exact ⟨h2.mv (hf.le (Nat.le_trans h1.low h1.grow)) (fun b hb => hf.bel.block b hb), nat_carry h3 hf, h1.trans (hf.le (Nat.le_trans h1.low h1.grow))⟩
theorem fin3 {B cb td s nb : Nat} {w1 w4 w5 : World} {o : Obj} (h : Fr B w1 w4 ∧ St B cb td s w4 ∧ NatAt w4 nb 81 td) (hf : Fr (w4.alloc o).heap.size (w4.alloc o) w5) : St B cb td s w5 ∧ NatAt w5 nb 81 td ∧ Fr B w1 w5 := by
  have h1 : Fr B w1 (w4.alloc o) := h.1.alloc o
  have h2 : St B cb td s (w4.alloc o) := h.2.1.alloc o
  exact ⟨h2.mv (hf.le (Nat.le_trans h1.low h1.grow)) (fun b hb => hf.bel.block b hb), nat_carry (nat_al h.2.2 o) hf, h1.trans (hf.le (Nat.le_trans h1.low h1.grow))⟩
theorem fbY {B cb td s nb : Nat} {w : World} {x : ByteArray} {E : Ent} (hE : tab81 x = some E) (h1 : B ≤ s) (hN : NatAt w nb 81 td) (h : St B cb td s w) : Calls Tryz.prog 10 #[.pointer (pt nb), .pointer (pt cb), .string x] w fun e w' => ∃ td', e = .returned (.tuple #[.agg (natc E.t E.k td' E.i E.f), .bool true]) ∧ Fr B w w' ∧ St B cb td s w' := by
  refine (fbS x h1 hN h).mono ?_
  rintro e w' ⟨hf, hS, ⟨E2, td', h2, rfl⟩ | ⟨h2, rfl⟩⟩
  · rw [hE] at h2
    cases h2
    exact ⟨td', rfl, hf, hS⟩
  · rw [hE] at h2
    cases h2
theorem zfn_0 (w : World) : Calls Tryz.prog 22 #[.int .i64 0] w fun e w' => e = .returned (.string ⟨#[78, 97, 109, 101]⟩) ∧ w = w' := by
  go_enter Tryz.func22, Tryz.ntmps22
  go_wp2
  go_ret
  exact ⟨rfl, rfl⟩
theorem hT_0 : ∃ E, tab81 ⟨#[78, 97, 109, 101]⟩ = some E := ⟨_, rfl⟩
theorem zfn_1 (w : World) : Calls Tryz.prog 22 #[.int .i64 1] w fun e w' => e = .returned (.string ⟨#[80, 107, 103, 80, 97, 116, 104]⟩) ∧ w = w' := by
  go_enter Tryz.func22, Tryz.ntmps22
  go_wp2
  go_ret
  exact ⟨rfl, rfl⟩
theorem hT_1 : ∃ E, tab81 ⟨#[80, 107, 103, 80, 97, 116, 104]⟩ = some E := ⟨_, rfl⟩
theorem zfn_2 (w : World) : Calls Tryz.prog 22 #[.int .i64 2] w fun e w' => e = .returned (.string ⟨#[84, 121, 112, 101]⟩) ∧ w = w' := by
  go_enter Tryz.func22, Tryz.ntmps22
  go_wp2
  go_ret
  exact ⟨rfl, rfl⟩
theorem hT_2 : ∃ E, tab81 ⟨#[84, 121, 112, 101]⟩ = some E := ⟨_, rfl⟩
theorem zfn_3 (w : World) : Calls Tryz.prog 22 #[.int .i64 3] w fun e w' => e = .returned (.string ⟨#[84, 97, 103]⟩) ∧ w = w' := by
  go_enter Tryz.func22, Tryz.ntmps22
  go_wp2
  go_ret
  exact ⟨rfl, rfl⟩
theorem hT_3 : ∃ E, tab81 ⟨#[84, 97, 103]⟩ = some E := ⟨_, rfl⟩
theorem zfn_4 (w : World) : Calls Tryz.prog 22 #[.int .i64 4] w fun e w' => e = .returned (.string ⟨#[79, 102, 102, 115, 101, 116]⟩) ∧ w = w' := by
  go_enter Tryz.func22, Tryz.ntmps22
  go_wp2
  go_ret
  exact ⟨rfl, rfl⟩
theorem hT_4 : ∃ E, tab81 ⟨#[79, 102, 102, 115, 101, 116]⟩ = some E := ⟨_, rfl⟩
theorem zfn_5 (w : World) : Calls Tryz.prog 22 #[.int .i64 5] w fun e w' => e = .returned (.string ⟨#[73, 110, 100, 101, 120]⟩) ∧ w = w' := by
  go_enter Tryz.func22, Tryz.ntmps22
  go_wp2
  go_ret
  exact ⟨rfl, rfl⟩
theorem hT_5 : ∃ E, tab81 ⟨#[73, 110, 100, 101, 120]⟩ = some E := ⟨_, rfl⟩
theorem zfn_6 (w : World) : Calls Tryz.prog 22 #[.int .i64 6] w fun e w' => e = .returned (.string ⟨#[65, 110, 111, 110, 121, 109, 111, 117, 115]⟩) ∧ w = w' := by
  go_enter Tryz.func22, Tryz.ntmps22
  go_wp2
  go_ret
  exact ⟨rfl, rfl⟩
theorem hT_6 : ∃ E, tab81 ⟨#[65, 110, 111, 110, 121, 109, 111, 117, 115]⟩ = some E := ⟨_, rfl⟩
set_option maxHeartbeats 16000000 in
theorem walk0 (o : Option Addr) (n c : Nat) (ss : List ByteArray) (w : World) (hn : n ≤ maxLen) (hs : ∀ s ∈ ss, s.size ≤ maxLen) (h : Rs w o n ss) : Calls Tryz.prog 6 #[.slice o n c] w fun e w' => e = .returned (.bool true) ∧ Below w.heap.size w w' := by
  have HR := Lib.hid h
  have HM := Lib.hid hn
  have HS := Lib.hid hs
  clear h hn hs
  go_enter Tryz.func6, Tryz.ntmps6
  go_wp2_with (go_at_call 20; ((with_reducible refine (zbs _ _ _ ss HM.out HS.out _ HR.out).mono ?_); rintro e w' ⟨b, rfl, rfl, hb⟩; have HB := Lib.hid hb; clear hb))
  · go_ret
    exact ⟨rfl, Below.refl _ _⟩
  · go_ret
    exact ⟨rfl, Below.refl _ _⟩
  rename_i g1
  go_loopg [3, 4] n (fun k z i wr => ∃ (j t : Nat), k = n - j ∧ j ≤ n ∧ z = .int .i64 t ∧ i = .int .i64 j ∧ t ≤ 1048576 ∧ wr = w)
  case atStart => exact ⟨0, 16 * n, by simp, Nat.zero_le _, by simp, rfl, by omega, rfl⟩
  case round =>
    obtain ⟨j, t, hg, hj, rfl, rfl, ht, rfl⟩ := hrel
    have HG := Lib.hid hg
    clear hg
    by_cases c1 : j < n
    · obtain ⟨a, ha, hb, hc⟩ := HR.out.2 j c1
      subst ha
      have hz := HB.out (by simpa using (by assumption : (!b) = false)) j c1
      rw [List.getD_eq_getElem?_getD] at hz
      go_wp2
      all_goals first
      | (go_ret
         exact ⟨rfl, Below.refl _ _⟩)
      | (rename_i g1 g2
         go_roundg (n - (j + 1))
         case measure => (have := HG.out; omega)
         case rel => exact ⟨j + 1, t + (ss[j]?.getD ByteArray.empty).size, rfl, c1, by simp, by simp, by omega, rfl⟩)
    · clear hj
      go_upto_region 18 with (first | (go_at_call 21; ((with_reducible refine (clone _ _ _ ss (by omega) _ HR.out).mono ?_); rintro e w1 ⟨o2, c2, rfl, hf, hr⟩; have HC := Lib.hid (And.intro hf hr); clear hf hr)) | (go_at_call 9; ((with_reducible refine (zn_first w1.heap.size w1.heap.size _ (ca_new w1) (Nat.le_refl _) (by simp)).mono ?_); rintro e w2 ⟨td, sd, rfl, hf, h1, hT⟩; have hS : St w1.heap.size w1.heap.size td sd w2 := ⟨_, _, _, _, _, _, hT⟩; have hg : Fr w1.heap.size w1 w2 := ((Fr.refl w1.heap.size w1 (Nat.le_refl _)).alloc _).trans hf; have HA := Lib.hid (And.intro hg (And.intro hS h1)); clear hf hS h1 hT hg)))
      go_loopg [7] n (fun k i wx => ∃ j : Nat, k = n - j ∧ j ≤ n ∧ i = .int .i64 j ∧ St w1.heap.size w1.heap.size td sd wx ∧ NatAt wx w2.heap.size 81 td ∧ Fr w1.heap.size w1 wx)
      case atStart => exact ⟨0, by simp, Nat.zero_le _, rfl, HA.out.2.1.alloc _, natAt_new _ _ _, HA.out.1.alloc _⟩
      case round =>
        obtain ⟨j, hg, hj, rfl, q1, q2, q3⟩ := hrel
        have HG2 := Lib.hid hg
        have HQ := Lib.hid (And.intro q1 (And.intro q2 q3))
        clear hg q1 q2 q3
        have H1 := Lib.hid HA.out.2.2
        by_cases c2 : j < n
        · obtain ⟨a, ha, hb, hc⟩ := HC.out.2.2 j c2
          subst ha
          have HCa := Lib.hid (And.intro hb hc)
          clear hb hc
          go_wp2_with (first | (go_at_call 9; ((with_reducible refine (znS HQ.out.1).mono ?_); rintro e w3 ⟨rfl, hf, hS⟩; have hg := HQ.out.2.2.trans hf; have hc3 : (w3.alloc (.cells (natc 81 25 (pt td) false false) 48)).cell? (a.add j) = some (.string (ss.getD j ByteArray.empty)) := ((hg.alloc _).bel.cell (p := a.add j) (by rw [add_block]; exact HCa.out.1)).trans HCa.out.2; have H3 := Lib.hid (And.intro hg (And.intro hS (nat_carry HQ.out.2.1 hf))); clear hf hS hg)) | (go_at_call 10; ((with_reducible refine (fbS _ H1.out (nat_al H3.out.2.2 _) (H3.out.2.1.alloc _)).mono ?_); rintro e w4 ⟨hf, hS, hor⟩; have hg := (H3.out.1.alloc _).trans hf; have H4 := Lib.hid (And.intro hg (And.intro hS (nat_carry (nat_al H3.out.2.2 _) hf))); clear hf hS; rcases hor with ⟨E, td', hE, rfl⟩ | ⟨hE, rfl⟩ <;> (have HE := Lib.hid hE; clear hE; first | (have hc4 : (w4.alloc (.cells (natc E.t E.k td' E.i E.f) 48)).cell? (a.add j) = some (.string (ss.getD j ByteArray.empty)) := ((hg.alloc _).bel.cell (p := a.add j) (by rw [add_block]; exact HCa.out.1)).trans HCa.out.2) | (have hc4 : (w4.alloc (.cells zcs 48)).cell? (a.add j) = some (.string (ss.getD j ByteArray.empty)) := ((hg.alloc _).bel.cell (p := a.add j) (by rw [add_block]; exact HCa.out.1)).trans HCa.out.2)))) | (go_at_call 10; ((with_reducible refine (fbS _ H1.out (natAt_new w3 _ _) (H3.out.2.1.alloc _)).mono ?_); rintro e w4 ⟨hf, hS, hor⟩; have hg := (H3.out.1.alloc _).trans hf; have H4 := Lib.hid (And.intro hg (And.intro hS (nat_carry (nat_al H3.out.2.2 _) hf))); clear hf hS; rcases hor with ⟨E, td', hE, rfl⟩ | ⟨hE, rfl⟩ <;> (have HE := Lib.hid hE; clear hE; first | (have hc4 : (w4.alloc (.cells (natc E.t E.k td' E.i E.f) 48)).cell? (a.add j) = some (.string (ss.getD j ByteArray.empty)) := ((hg.alloc _).bel.cell (p := a.add j) (by rw [add_block]; exact HCa.out.1)).trans HCa.out.2) | (have hc4 : (w4.alloc (.cells zcs 48)).cell? (a.add j) = some (.string (ss.getD j ByteArray.empty)) := ((hg.alloc _).bel.cell (p := a.add j) (by rw [add_block]; exact HCa.out.1)).trans HCa.out.2)))))
          all_goals
            generalize hgw : World.alloc w4 _ = W
            have hWl : w4.heap.size < W.heap.size := by rw [← hgw]; simp
            have hcW : W.cell? (a.add j) = some (.string (ss.getD j ByteArray.empty)) := by rw [← hgw]; exact hc4
            have HW : RowKit.Hid (Fr w1.heap.size w1 W ∧ St w1.heap.size w1.heap.size td sd W ∧ NatAt W w2.heap.size 81 td) := by rw [← hgw]; exact Lib.hid ⟨H4.out.1.alloc _, H4.out.2.1.alloc _, nat_al H4.out.2.2 _⟩
            have hWh := (congrArg (fun v : World => v.heap[w4.heap.size]?) hgw).symm.trans (heap_alloc_new w4 _)
            have hWp : Plain W w4.heap.size := ⟨_, _, hWh⟩
            have hWc := cellsAt_of hWh
            have hWz : (cellsAt W w4.heap.size).size = 9 := by rw [hWc]; rfl
            clear hWh hgw hc4
            go_still_tail 6, (by kernel_rfl)
            change wpList _ _ _ _ _ W.drew
            go_wp2_with (first | (go_at_call 11; ((with_reducible refine (ma_yes _ _ _ _ HE.out).mono ?_); rintro e w5 ⟨rfl, hf5⟩; have H5 := Lib.hid (fin2 HW.out hf5); clear hf5)) | (go_at_call 11; ((with_reducible refine (ma_no _ _ HE.out).mono ?_); rintro e w5 ⟨rfl, hf5⟩; have H5 := Lib.hid (fin2 HW.out hf5); clear hf5)))
            go_roundg (n - (j + 1))
            case measure => (have := HG2.out; omega)
            case rel => exact ⟨j + 1, rfl, c2, by simp, H5.out⟩
        · go_wp2_with (go_at_call 9; ((with_reducible refine (znS HQ.out.1).mono ?_); rintro e w6 ⟨rfl, hf, hS⟩; have H6 := Lib.hid (And.intro (HQ.out.2.2.trans hf) hS); clear hf hS))
          go_loopg [14] 7 (fun k i wx => ∃ q : Nat, k = 7 - q ∧ q ≤ 7 ∧ i = .int .i64 q ∧ St w1.heap.size w1.heap.size td sd wx ∧ NatAt wx w6.heap.size 81 td ∧ Fr w1.heap.size w1 wx)
          case atStart => exact ⟨0, by simp, Nat.zero_le _, rfl, H6.out.2.alloc _, natAt_new _ _ _, H6.out.1.alloc _⟩
          case round =>
            obtain ⟨q, hg, hq, rfl, r1, r2, r3⟩ := hrel
            have HG3 := Lib.hid hg
            have HR3 := Lib.hid (And.intro r1 (And.intro r2 r3))
            clear hg r1 r2 r3
            by_cases c3 : q < 7
            · have hc : q = 0 ∨ q = 1 ∨ q = 2 ∨ q = 3 ∨ q = 4 ∨ q = 5 ∨ q = 6 := by omega
              rcases hc with rfl | rfl | rfl | rfl | rfl | rfl | rfl
              · obtain ⟨E, hE⟩ := hT_0
                have HE := Lib.hid hE
                clear hE
                go_wp2_with (first | (go_at_call 22; ((with_reducible refine (zfn_0 _).mono ?_); rintro e w' ⟨rfl, rfl⟩)) | (go_at_call 10; ((with_reducible refine (fbY HE.out HA.out.2.2 HR3.out.2.1 HR3.out.1).mono ?_); rintro e w7 ⟨td7, rfl, hf, hS⟩; have H7 := Lib.hid (And.intro (HR3.out.2.2.trans hf) (And.intro hS (nat_carry HR3.out.2.1 hf))); clear hf hS)) | (go_at_call 11; ((with_reducible refine (ma_yes _ _ _ _ HE.out).mono ?_); rintro e w8 ⟨rfl, hf⟩; have H8 := Lib.hid (fin3 H7.out hf); clear hf)))
                go_roundg (7 - (0 + 1))
                case measure => (have := HG3.out; omega)
                case rel => exact ⟨0 + 1, rfl, c3, by simp, H8.out⟩
              · obtain ⟨E, hE⟩ := hT_1
                have HE := Lib.hid hE
                clear hE
                go_wp2_with (first | (go_at_call 22; ((with_reducible refine (zfn_1 _).mono ?_); rintro e w' ⟨rfl, rfl⟩)) | (go_at_call 10; ((with_reducible refine (fbY HE.out HA.out.2.2 HR3.out.2.1 HR3.out.1).mono ?_); rintro e w7 ⟨td7, rfl, hf, hS⟩; have H7 := Lib.hid (And.intro (HR3.out.2.2.trans hf) (And.intro hS (nat_carry HR3.out.2.1 hf))); clear hf hS)) | (go_at_call 11; ((with_reducible refine (ma_yes _ _ _ _ HE.out).mono ?_); rintro e w8 ⟨rfl, hf⟩; have H8 := Lib.hid (fin3 H7.out hf); clear hf)))
                go_roundg (7 - (1 + 1))
                case measure => (have := HG3.out; omega)
                case rel => exact ⟨1 + 1, rfl, c3, by simp, H8.out⟩
              · obtain ⟨E, hE⟩ := hT_2
                have HE := Lib.hid hE
                clear hE
                go_wp2_with (first | (go_at_call 22; ((with_reducible refine (zfn_2 _).mono ?_); rintro e w' ⟨rfl, rfl⟩)) | (go_at_call 10; ((with_reducible refine (fbY HE.out HA.out.2.2 HR3.out.2.1 HR3.out.1).mono ?_); rintro e w7 ⟨td7, rfl, hf, hS⟩; have H7 := Lib.hid (And.intro (HR3.out.2.2.trans hf) (And.intro hS (nat_carry HR3.out.2.1 hf))); clear hf hS)) | (go_at_call 11; ((with_reducible refine (ma_yes _ _ _ _ HE.out).mono ?_); rintro e w8 ⟨rfl, hf⟩; have H8 := Lib.hid (fin3 H7.out hf); clear hf)))
                go_roundg (7 - (2 + 1))
                case measure => (have := HG3.out; omega)
                case rel => exact ⟨2 + 1, rfl, c3, by simp, H8.out⟩
              · obtain ⟨E, hE⟩ := hT_3
                have HE := Lib.hid hE
                clear hE
                go_wp2_with (first | (go_at_call 22; ((with_reducible refine (zfn_3 _).mono ?_); rintro e w' ⟨rfl, rfl⟩)) | (go_at_call 10; ((with_reducible refine (fbY HE.out HA.out.2.2 HR3.out.2.1 HR3.out.1).mono ?_); rintro e w7 ⟨td7, rfl, hf, hS⟩; have H7 := Lib.hid (And.intro (HR3.out.2.2.trans hf) (And.intro hS (nat_carry HR3.out.2.1 hf))); clear hf hS)) | (go_at_call 11; ((with_reducible refine (ma_yes _ _ _ _ HE.out).mono ?_); rintro e w8 ⟨rfl, hf⟩; have H8 := Lib.hid (fin3 H7.out hf); clear hf)))
                go_roundg (7 - (3 + 1))
                case measure => (have := HG3.out; omega)
                case rel => exact ⟨3 + 1, rfl, c3, by simp, H8.out⟩
              · obtain ⟨E, hE⟩ := hT_4
                have HE := Lib.hid hE
                clear hE
                go_wp2_with (first | (go_at_call 22; ((with_reducible refine (zfn_4 _).mono ?_); rintro e w' ⟨rfl, rfl⟩)) | (go_at_call 10; ((with_reducible refine (fbY HE.out HA.out.2.2 HR3.out.2.1 HR3.out.1).mono ?_); rintro e w7 ⟨td7, rfl, hf, hS⟩; have H7 := Lib.hid (And.intro (HR3.out.2.2.trans hf) (And.intro hS (nat_carry HR3.out.2.1 hf))); clear hf hS)) | (go_at_call 11; ((with_reducible refine (ma_yes _ _ _ _ HE.out).mono ?_); rintro e w8 ⟨rfl, hf⟩; have H8 := Lib.hid (fin3 H7.out hf); clear hf)))
                go_roundg (7 - (4 + 1))
                case measure => (have := HG3.out; omega)
                case rel => exact ⟨4 + 1, rfl, c3, by simp, H8.out⟩
              · obtain ⟨E, hE⟩ := hT_5
                have HE := Lib.hid hE
                clear hE
                go_wp2_with (first | (go_at_call 22; ((with_reducible refine (zfn_5 _).mono ?_); rintro e w' ⟨rfl, rfl⟩)) | (go_at_call 10; ((with_reducible refine (fbY HE.out HA.out.2.2 HR3.out.2.1 HR3.out.1).mono ?_); rintro e w7 ⟨td7, rfl, hf, hS⟩; have H7 := Lib.hid (And.intro (HR3.out.2.2.trans hf) (And.intro hS (nat_carry HR3.out.2.1 hf))); clear hf hS)) | (go_at_call 11; ((with_reducible refine (ma_yes _ _ _ _ HE.out).mono ?_); rintro e w8 ⟨rfl, hf⟩; have H8 := Lib.hid (fin3 H7.out hf); clear hf)))
                go_roundg (7 - (5 + 1))
                case measure => (have := HG3.out; omega)
                case rel => exact ⟨5 + 1, rfl, c3, by simp, H8.out⟩
              · obtain ⟨E, hE⟩ := hT_6
                have HE := Lib.hid hE
                clear hE
                go_wp2_with (first | (go_at_call 22; ((with_reducible refine (zfn_6 _).mono ?_); rintro e w' ⟨rfl, rfl⟩)) | (go_at_call 10; ((with_reducible refine (fbY HE.out HA.out.2.2 HR3.out.2.1 HR3.out.1).mono ?_); rintro e w7 ⟨td7, rfl, hf, hS⟩; have H7 := Lib.hid (And.intro (HR3.out.2.2.trans hf) (And.intro hS (nat_carry HR3.out.2.1 hf))); clear hf hS)) | (go_at_call 11; ((with_reducible refine (ma_yes _ _ _ _ HE.out).mono ?_); rintro e w8 ⟨rfl, hf⟩; have H8 := Lib.hid (fin3 H7.out hf); clear hf)))
                go_roundg (7 - (6 + 1))
                case measure => (have := HG3.out; omega)
                case rel => exact ⟨6 + 1, rfl, c3, by simp, H8.out⟩
            · go_wp2
              go_ret
              exact ⟨rfl, (HC.out.1.trans (HR3.out.2.2.le HC.out.1.grow)).bel⟩
theorem rs_of {w : World} {v : Value} (h : StrsIn w v) : ∃ o n c ss, v = .slice o n c ∧ Rs w o n ss ∧ n ≤ maxLen ∧ ∀ s ∈ ss, s.size ≤ maxLen := by
  rcases h with rfl | ⟨a, len, cap, ss, rfl, h1, h2, h3, h4, h5⟩
  · exact ⟨none, 0, 0, [], rfl, ⟨Nat.le_refl _, fun i hi => absurd hi (Nat.not_lt_zero _)⟩, Nat.zero_le _, fun s hs => by cases hs⟩
  · refine ⟨some a, len, cap, ss, rfl, ⟨by omega, fun i hi => ?_⟩, by omega, h5⟩
    have hc := h4 i (by omega)
    refine ⟨a, rfl, ?_, hc⟩
    have hb : (a.add i).block < w.heap.size := by
      unfold World.cell? at hc
      cases hb : w.heap[(a.add i).block]? with
      | none => rw [hb] at hc; simp at hc
      | some _ => exact (Array.getElem?_eq_some_iff.1 hb).1
    rwa [add_block] at hb
theorem walk (v : Value) (w : World) (h : StrsIn w v) : Calls Tryz.prog 6 #[v] w fun e w' => e = .returned (.bool true) ∧ Below w.heap.size w w' := by
  obtain ⟨o, n, c, ss, rfl, hr, hn, hs⟩ := rs_of h
  exact walk0 o n c ss w hn hs hr
end Go.Proofs.YtpnifkpnapoeoaaGreatDoorBesrefl.fnFieldByNameScriptOnOneCache
