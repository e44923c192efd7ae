/-
  The hand table of the fields of ZZFix; its Nature on a Cache; slices compared. No condition.
-/
import Derived.Test.YtpnifkpnapoeoaaGreatDoorBesreflG6
import Derived.Test.YtpnifkpnapoeoaaGreatDoorBesreflTy98
import Derived.StillTailTactics
import Derived.Deep.RegionHeld3
import Derived.Deep.RegionLaw
import Derived.Deep.RegionLawGrows
import Derived.Deep.AppendLies
import Derived.Deep.Cut
import Derived.Deep.CutRange
import Derived.Deep.RegionWith
import Derived.Lib.Hide
import Derived.Deep.LoopGhost
import Derived.Deep.DeepCutAuto
namespace Go.Proofs.YtpnifkpnapoeoaaGreatDoorBesrefl
open Go.RowKit
set_option maxRecDepth 100000
set_option maxHeartbeats 1000000
set_option linter.unusedVariables false
abbrev exT : (ByteArray → Option Value) → Option Addr → Prop := fun _ _ => True
theorem exOk (n : Nat) (fs : Nat → Fd) : ExOk n fs exT := ⟨fun _ _ _ _ _ _ _ _ => trivial, fun _ _ => trivial, trivial⟩
theorem Fr.le {B C : Nat} {w v : World} (h : Fr C w v) (hB : B ≤ C) : Fr B w v := ⟨h.bel.mono hB, h.kept, h.grow, Nat.le_trans hB h.low⟩
theorem ca_new (w : World) : Ca (w.alloc (.cells #[.map none, .map none] 41)) w.heap.size none := heap_alloc_new w _
theorem q_ne (l : List UInt8) (name : ByteArray) (h : ((⟨l.toArray⟩ : ByteArray) == name) = false) : (name.toList == l) = false := by
  rw [ba_list] at h
  cases h2 : (name.toList == l) with
  | false => rfl
  | true =>
    rw [eq_of_beq h2] at h
    simp at h
theorem kind25_98 (w : World) : (callFunc 167 #[.pointer (some ⟨4, 98, none⟩)]).run Tryz.prog w = .ok (.value (.int .u64 25)) w := by kernel_rfl
theorem nf_98 (w : World) : (callFunc 173 #[.pointer (some ⟨4, 98, none⟩)]).run Tryz.prog w = .ok (.value (.int .i64 (7 : Nat))) w := by kernel_rfl
theorem zf_thr (cb : Nat) (w : World) (Q : Nat → World → Prop) (hFT : Calls Tryz.prog 31 #[.pointer (pt cb), .iface 105 (.pointer (some ⟨4, 98, none⟩))] (w.alloc (.cells zcs 48)) fun e w1 => ∃ td, e = .returned (.agg (natc 98 25 (pt td) false false)) ∧ Q td w1 ∧ ∃ B0, Fr B0 (w.alloc (.cells zcs 48)) w1) :
    Calls Tryz.prog 13 #[.pointer (pt cb)] w (Thr 98 w.heap.size Q) := by
  have HG := Lib.hid hFT
  clear hFT
  go_enter Tryz.func13, Tryz.ntmps13
  go_wp2_with (go_at_call 31; ((with_reducible refine HG.out.mono ?_); rintro e w1 ⟨td, rfl, hQ, B0, hf⟩; have hres := hf.kept w.heap.size _ (heap_alloc_new w _) rfl; have hrp : Plain w1 w.heap.size := ⟨_, _, hres⟩; have hrc := cellsAt_of hres; have hrl := hrp.lt; have hrz : (cellsAt w1 w.heap.size).size = 9 := (by rw [hrc]; rfl); have HQ := Lib.hid hQ; have HR := Lib.hid hres; clear hQ hres hf))
  refine bodyPost_ret (v := .agg (natc 98 25 (pt td) false false)) (by simp [results, Tryz.results13, go_sem, hrp, hrc]) rfl ?_
  refine ⟨td, w1, rfl, HQ.out, ⟨fun b hb => ?_, _, _, HR.out⟩, fun B0 w0 hf hl => ?_⟩
  · repeat rw [Below.heap_setCell _ _ _ _ hb]
  · repeat (first | with_reducible exact hf | with_reducible refine Fr.setN ?_ hl _ _)
theorem zf_first (cb B : Nat) (w : World) (hC : Ca w cb none) (hB : B ≤ cb) (hBw : B ≤ w.heap.size) : Calls Tryz.prog 13 #[.pointer (pt cb)] w (First B cb 98 7 fs98 tab98 ks98 exT w) :=
  thr_first hBw (zf_thr cb w) (ftop_first top98 (exOk _ _) kind25_98 nf_98 (hC.alloc _) hB (by simp; omega))
theorem zf_again {B cb tdt s : Nat} {mo : Option Nat} {own : Nat} {an : Int} {ch : Option Addr} {ix : Value} {F : ByteArray → Option Value} (w : World) (h : Top B cb tdt s 98 7 fs98 tab98 ks98 exT mo own an ch ix F w) : Calls Tryz.prog 13 #[.pointer (pt cb)] w (Again B cb tdt s 98 7 fs98 tab98 ks98 exT mo own an ch ix F w) :=
  thr_again h.low (zf_thr cb w) (ftop_again kind25_98 (h.alloc _))
theorem ix_shape {w : World} {v : Value} {zs : List Int} (h : Ix w v zs false) : ∃ o cap, v = .slice o zs.length cap ∧ ∀ i, i < zs.length → ∃ a, o = some a ∧ a.block < w.heap.size ∧ w.cell? (a.add i) = some (.int .i64 (zs.getD i 0)) := by
  rcases h with ⟨rfl, rfl⟩ | ⟨gg, cap, cur, fr, rfl, h1, h2, _, h4⟩
  · exact ⟨none, 0, rfl, fun i hi => absurd hi (Nat.not_lt_zero _)⟩
  · refine ⟨some ⟨gg, 0, none⟩, cap, rfl, fun i hi => ⟨_, rfl, (Array.getElem?_eq_some_iff.1 h1).1, ix_cells h1 h4 i _ ?_⟩⟩
    rw [List.getElem?_map, List.getElem?_eq_getElem hi, List.getD_eq_getElem?_getD, List.getElem?_eq_getElem hi]
    rfl
theorem add_block (a : Addr) (i : Nat) : (a.add i).block = a.block := by unfold Addr.add; split <;> rfl
theorem eqi {w : World} {a b : Value} {zs : List Int} (ha : Ix w a zs false) (hb : Ix w b zs false) (hl : zs.length ≤ 1000000) : Calls Tryz.prog 16 #[a, b] w fun e w' => e = .returned (.bool true) ∧ Fr w.heap.size w w' := by
  obtain ⟨oa, ca, rfl, hA⟩ := ix_shape ha
  obtain ⟨ob, cb, rfl, hB⟩ := ix_shape hb
  obtain ⟨n, hn⟩ : ∃ n, zs.length = n := ⟨_, rfl⟩
  rw [hn] at hA hB hl ⊢
  have HA := Lib.hid hA
  have HB := Lib.hid hB
  have HL := Lib.hid hl
  clear ha hb hA hB hn hl
  go_enter Tryz.func16, Tryz.ntmps16
  go_wp2
  go_loopg [5] n (fun g i wr => ∃ j : Nat, g = n - j ∧ j ≤ n ∧ i = .int .i64 j ∧ Fr w.heap.size w wr)
  case atStart => exact ⟨0, by simp, Nat.zero_le _, rfl, Fr.refl _ w (Nat.le_refl _)⟩
  case round =>
    obtain ⟨j, hg, hj, rfl, hF⟩ := hrel
    have HG := Lib.hid hg
    have HF := Lib.hid hF
    clear hg hF
    by_cases c1 : j < n
    · obtain ⟨x, hx, hxb, hxc⟩ := HA.out j c1
      obtain ⟨y, hy, hyb, hyc⟩ := HB.out j c1
      subst hx hy
      have c2 : wr.cell? (x.add j) = some (.int .i64 (zs.getD j 0)) := (HF.out.bel.cell (p := x.add j) (by rw [add_block]; exact hxb)).trans hxc
      have c3 : wr.cell? (y.add j) = some (.int .i64 (zs.getD j 0)) := (HF.out.bel.cell (p := y.add j) (by rw [add_block]; exact hyb)).trans hyc
      have hjm : (j : Int) ≤ 1000000 := by have := HL.out; omega
      clear hxc hyc hxb hyb
      go_wp2
      go_quiet (fail)
      go_wp2
      go_roundg (n - (j + 1))
      case measure => (have := HG.out; omega)
      case rel => exact ⟨j + 1, rfl, c1, by simp, HF.out.drewN _⟩
    · go_wp2
      go_ret
      exact ⟨rfl, HF.out⟩
theorem wi_A (w : World) : Calls Tryz.prog 15 #[.string ⟨#[65]⟩] w fun e w' => e = .returned (.tuple #[.slice (some ⟨w.heap.size, 0, none⟩) 1 1, .bool true]) ∧ w.alloc (.cells #[.int .i64 0] 3) = w' := by
  go_enter Tryz.func15, Tryz.ntmps15
  go_wp2
  go_ret2
  exact ⟨rfl, rfl⟩
theorem wi_ee (w : World) : Calls Tryz.prog 15 #[.string ⟨#[101, 101]⟩] w fun e w' => e = .returned (.tuple #[.slice (some ⟨w.heap.size, 0, none⟩) 1 1, .bool true]) ∧ w.alloc (.cells #[.int .i64 2] 3) = w' := by
  go_enter Tryz.func15, Tryz.ntmps15
  go_wp2
  go_ret2
  exact ⟨rfl, rfl⟩
theorem wi_ZZInner_n003_97 (w : World) : Calls Tryz.prog 15 #[.string ⟨#[90, 90, 73, 110, 110, 101, 114, 95, 110, 48, 48, 51, 95, 57, 55]⟩] w fun e w' => e = .returned (.tuple #[.slice (some ⟨w.heap.size, 0, none⟩) 1 1, .bool true]) ∧ w.alloc (.cells #[.int .i64 4] 3) = w' := by
  go_enter Tryz.func15, Tryz.ntmps15
  go_wp2
  go_ret2
  exact ⟨rfl, rfl⟩
theorem wi_G (w : World) : Calls Tryz.prog 15 #[.string ⟨#[71]⟩] w fun e w' => e = .returned (.tuple #[.slice (some ⟨w.heap.size, 0, none⟩) 1 1, .bool true]) ∧ w.alloc (.cells #[.int .i64 5] 3) = w' := by
  go_enter Tryz.func15, Tryz.ntmps15
  go_wp2
  go_ret2
  exact ⟨rfl, rfl⟩
theorem wi_D (w : World) : Calls Tryz.prog 15 #[.string ⟨#[68]⟩] w fun e w' => e = .returned (.tuple #[.slice (some ⟨w.heap.size, 0, none⟩) 1 1, .bool true]) ∧ w.alloc (.cells #[.int .i64 6] 3) = w' := by
  go_enter Tryz.func15, Tryz.ntmps15
  go_wp2
  go_ret2
  exact ⟨rfl, rfl⟩
theorem wi_C (w : World) : Calls Tryz.prog 15 #[.string ⟨#[67]⟩] w fun e w' => e = .returned (.tuple #[.slice (some ⟨w.heap.size, 0, none⟩) 2 2, .bool true]) ∧ w.alloc (.cells #[.int .i64 4, .int .i64 0] 3) = w' := by
  go_enter Tryz.func15, Tryz.ntmps15
  go_wp2
  go_ret2
  exact ⟨rfl, rfl⟩
theorem wi_other (x : ByteArray) (a0 : (x.toList == [65]) = false) (a1 : (x.toList == [101, 101]) = false) (a2 : (x.toList == [90, 90, 73, 110, 110, 101, 114, 95, 110, 48, 48, 51, 95, 57, 55]) = false) (a3 : (x.toList == [71]) = false) (a4 : (x.toList == [68]) = false) (a5 : (x.toList == [67]) = false) (w : World) : Calls Tryz.prog 15 #[.string x] w fun e w' => e = .returned (.tuple #[.slice none 0 0, .bool false]) ∧ w = w' := by
  go_enter Tryz.func15, Tryz.ntmps15
  go_wp2
  go_ret2
  exact ⟨rfl, rfl⟩
theorem wi_yes (x : ByteArray) (E : Ent) (w : World) (h : tab98 x = some E) : Calls Tryz.prog 15 #[.string x] w fun e w' => ∃ v, e = .returned (.tuple #[v, .bool true]) ∧ Fr w.heap.size w w' ∧ Ix w' v E.zs false := by
  unfold tab98 at h
  by_cases h0 : ((⟨#[65]⟩ : ByteArray) == x) = true
  · rw [if_pos h0] at h
    cases h
    obtain rfl := (ba_iff _ _).1 h0
    refine (wi_A w).mono ?_
    rintro e w' ⟨rfl, rfl⟩
    exact ⟨_, rfl, (Fr.refl _ w (Nat.le_refl _)).alloc _, Or.inr ⟨w.heap.size, 1, _, (0, 0), rfl, heap_alloc_new w _, by simp, (fun h => by cases h), by simp⟩⟩
  rw [if_neg h0] at h
  by_cases h1 : ((⟨#[101, 101]⟩ : ByteArray) == x) = true
  · rw [if_pos h1] at h
    cases h
    obtain rfl := (ba_iff _ _).1 h1
    refine (wi_ee w).mono ?_
    rintro e w' ⟨rfl, rfl⟩
    exact ⟨_, rfl, (Fr.refl _ w (Nat.le_refl _)).alloc _, Or.inr ⟨w.heap.size, 1, _, (0, 0), rfl, heap_alloc_new w _, by simp, (fun h => by cases h), by simp⟩⟩
  rw [if_neg h1] at h
  by_cases h2 : ((⟨#[90, 90, 73, 110, 110, 101, 114, 95, 110, 48, 48, 51, 95, 57, 55]⟩ : ByteArray) == x) = true
  · rw [if_pos h2] at h
    cases h
    obtain rfl := (ba_iff _ _).1 h2
    refine (wi_ZZInner_n003_97 w).mono ?_
    rintro e w' ⟨rfl, rfl⟩
    exact ⟨_, rfl, (Fr.refl _ w (Nat.le_refl _)).alloc _, Or.inr ⟨w.heap.size, 1, _, (0, 0), rfl, heap_alloc_new w _, by simp, (fun h => by cases h), by simp⟩⟩
  rw [if_neg h2] at h
  by_cases h3 : ((⟨#[71]⟩ : ByteArray) == x) = true
  · rw [if_pos h3] at h
    cases h
    obtain rfl := (ba_iff _ _).1 h3
    refine (wi_G w).mono ?_
    rintro e w' ⟨rfl, rfl⟩
    exact ⟨_, rfl, (Fr.refl _ w (Nat.le_refl _)).alloc _, Or.inr ⟨w.heap.size, 1, _, (0, 0), rfl, heap_alloc_new w _, by simp, (fun h => by cases h), by simp⟩⟩
  rw [if_neg h3] at h
  by_cases h4 : ((⟨#[68]⟩ : ByteArray) == x) = true
  · rw [if_pos h4] at h
    cases h
    obtain rfl := (ba_iff _ _).1 h4
    refine (wi_D w).mono ?_
    rintro e w' ⟨rfl, rfl⟩
    exact ⟨_, rfl, (Fr.refl _ w (Nat.le_refl _)).alloc _, Or.inr ⟨w.heap.size, 1, _, (0, 0), rfl, heap_alloc_new w _, by simp, (fun h => by cases h), by simp⟩⟩
  rw [if_neg h4] at h
  by_cases h5 : ((⟨#[67]⟩ : ByteArray) == x) = true
  · rw [if_pos h5] at h
    cases h
    obtain rfl := (ba_iff _ _).1 h5
    refine (wi_C w).mono ?_
    rintro e w' ⟨rfl, rfl⟩
    exact ⟨_, rfl, (Fr.refl _ w (Nat.le_refl _)).alloc _, Or.inr ⟨w.heap.size, 2, _, (0, 0), rfl, heap_alloc_new w _, by simp, (fun h => by cases h), by simp⟩⟩
  rw [if_neg h5] at h
  cases h
theorem wi_no (x : ByteArray) (w : World) (h : tab98 x = none) : Calls Tryz.prog 15 #[.string x] w fun e w' => e = .returned (.tuple #[.slice none 0 0, .bool false]) ∧ w = w' := by
  unfold tab98 at h
  by_cases h0 : ((⟨#[65]⟩ : ByteArray) == x) = true
  · rw [if_pos h0] at h
    cases h
  rw [if_neg h0] at h
  by_cases h1 : ((⟨#[101, 101]⟩ : ByteArray) == x) = true
  · rw [if_pos h1] at h
    cases h
  rw [if_neg h1] at h
  by_cases h2 : ((⟨#[90, 90, 73, 110, 110, 101, 114, 95, 110, 48, 48, 51, 95, 57, 55]⟩ : ByteArray) == x) = true
  · rw [if_pos h2] at h
    cases h
  rw [if_neg h2] at h
  by_cases h3 : ((⟨#[71]⟩ : ByteArray) == x) = true
  · rw [if_pos h3] at h
    cases h
  rw [if_neg h3] at h
  by_cases h4 : ((⟨#[68]⟩ : ByteArray) == x) = true
  · rw [if_pos h4] at h
    cases h
  rw [if_neg h4] at h
  by_cases h5 : ((⟨#[67]⟩ : ByteArray) == x) = true
  · rw [if_pos h5] at h
    cases h
  rw [if_neg h5] at h
  clear h
  exact wi_other x (q_ne [65] x (by simpa using h0)) (q_ne [101, 101] x (by simpa using h1)) (q_ne [90, 90, 73, 110, 110, 101, 114, 95, 110, 48, 48, 51, 95, 57, 55] x (by simpa using h2)) (q_ne [71] x (by simpa using h3)) (q_ne [68] x (by simpa using h4)) (q_ne [67] x (by simpa using h5)) w
theorem zs_le (x : ByteArray) (E : Ent) (h : tab98 x = some E) : E.zs.length ≤ 1000000 := by
  unfold tab98 at h
  by_cases h0 : ((⟨#[65]⟩ : ByteArray) == x) = true
  · rw [if_pos h0] at h
    cases h
    simp
  rw [if_neg h0] at h
  by_cases h1 : ((⟨#[101, 101]⟩ : ByteArray) == x) = true
  · rw [if_pos h1] at h
    cases h
    simp
  rw [if_neg h1] at h
  by_cases h2 : ((⟨#[90, 90, 73, 110, 110, 101, 114, 95, 110, 48, 48, 51, 95, 57, 55]⟩ : ByteArray) == x) = true
  · rw [if_pos h2] at h
    cases h
    simp
  rw [if_neg h2] at h
  by_cases h3 : ((⟨#[71]⟩ : ByteArray) == x) = true
  · rw [if_pos h3] at h
    cases h
    simp
  rw [if_neg h3] at h
  by_cases h4 : ((⟨#[68]⟩ : ByteArray) == x) = true
  · rw [if_pos h4] at h
    cases h
    simp
  rw [if_neg h4] at h
  by_cases h5 : ((⟨#[67]⟩ : ByteArray) == x) = true
  · rw [if_pos h5] at h
    cases h
    simp
  rw [if_neg h5] at h
  cases h
end Go.Proofs.YtpnifkpnapoeoaaGreatDoorBesrefl
