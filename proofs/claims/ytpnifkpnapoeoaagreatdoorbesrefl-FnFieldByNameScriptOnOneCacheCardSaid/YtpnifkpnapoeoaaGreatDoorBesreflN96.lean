/-
  The hand table of the fields of reflect.StructField; its Nature on a Cache. No condition.
-/
import Derived.Test.YtpnifkpnapoeoaaGreatDoorBesreflG6
import Derived.Test.YtpnifkpnapoeoaaGreatDoorBesreflTy81
import Derived.StillTailTactics
import Derived.Deep.RegionHeld3
import Derived.Deep.RegionLaw
import Derived.Deep.RegionLawGrows
import Derived.Deep.AppendLies
import Derived.Deep.Cut
import Derived.Deep.CutRange
import Derived.Deep.RegionWith
import Derived.Lib.Hide
import Derived.Deep.LoopGhost
import Derived.Deep.DeepCutAuto
namespace Go.Proofs.YtpnifkpnapoeoaaGreatDoorBesrefl
open Go.RowKit
set_option maxRecDepth 100000
set_option maxHeartbeats 1000000
set_option linter.unusedVariables false
abbrev exT : (ByteArray → Option Value) → Option Addr → Prop := fun _ _ => True
theorem exOk (n : Nat) (fs : Nat → Fd) : ExOk n fs exT := ⟨fun _ _ _ _ _ _ _ _ => trivial, fun _ _ => trivial, trivial⟩
theorem Fr.le {B C : Nat} {w v : World} (h : Fr C w v) (hB : B ≤ C) : Fr B w v := ⟨h.bel.mono hB, h.kept, h.grow, Nat.le_trans hB h.low⟩
theorem ca_new (w : World) : Ca (w.alloc (.cells #[.map none, .map none] 41)) w.heap.size none := heap_alloc_new w _
theorem q_ne (l : List UInt8) (name : ByteArray) (h : ((⟨l.toArray⟩ : ByteArray) == name) = false) : (name.toList == l) = false := by
  rw [ba_list] at h
  cases h2 : (name.toList == l) with
  | false => rfl
  | true =>
    rw [eq_of_beq h2] at h
    simp at h
theorem kind25_81 (w : World) : (callFunc 167 #[.pointer (some ⟨4, 81, none⟩)]).run Tryz.prog w = .ok (.value (.int .u64 25)) w := by kernel_rfl
theorem nf_81 (w : World) : (callFunc 173 #[.pointer (some ⟨4, 81, none⟩)]).run Tryz.prog w = .ok (.value (.int .i64 (7 : Nat))) w := by kernel_rfl
theorem zn_thr (cb : Nat) (w : World) (Q : Nat → World → Prop) (hFT : Calls Tryz.prog 31 #[.pointer (pt cb), .iface 105 (.pointer (some ⟨4, 81, none⟩))] (w.alloc (.cells zcs 48)) fun e w1 => ∃ td, e = .returned (.agg (natc 81 25 (pt td) false false)) ∧ Q td w1 ∧ ∃ B0, Fr B0 (w.alloc (.cells zcs 48)) w1) :
    Calls Tryz.prog 9 #[.pointer (pt cb)] w (Thr 81 w.heap.size Q) := by
  have HG := Lib.hid hFT
  clear hFT
  go_enter Tryz.func9, Tryz.ntmps9
  go_wp2_with (go_at_call 31; ((with_reducible refine HG.out.mono ?_); rintro e w1 ⟨td, rfl, hQ, B0, hf⟩; have hres := hf.kept w.heap.size _ (heap_alloc_new w _) rfl; have hrp : Plain w1 w.heap.size := ⟨_, _, hres⟩; have hrc := cellsAt_of hres; have hrl := hrp.lt; have hrz : (cellsAt w1 w.heap.size).size = 9 := (by rw [hrc]; rfl); have HQ := Lib.hid hQ; have HR := Lib.hid hres; clear hQ hres hf))
  refine bodyPost_ret (v := .agg (natc 81 25 (pt td) false false)) (by simp [results, Tryz.results9, go_sem, hrp, hrc]) rfl ?_
  refine ⟨td, w1, rfl, HQ.out, ⟨fun b hb => ?_, _, _, HR.out⟩, fun B0 w0 hf hl => ?_⟩
  · repeat rw [Below.heap_setCell _ _ _ _ hb]
  · repeat (first | with_reducible exact hf | with_reducible refine Fr.setN ?_ hl _ _)
theorem zn_first (cb B : Nat) (w : World) (hC : Ca w cb none) (hB : B ≤ cb) (hBw : B ≤ w.heap.size) : Calls Tryz.prog 9 #[.pointer (pt cb)] w (First B cb 81 7 fs81 tab81 ks81 exT w) :=
  thr_first hBw (zn_thr cb w) (ftop_first top81 (exOk _ _) kind25_81 nf_81 (hC.alloc _) hB (by simp; omega))
theorem zn_again {B cb tdt s : Nat} {mo : Option Nat} {own : Nat} {an : Int} {ch : Option Addr} {ix : Value} {F : ByteArray → Option Value} (w : World) (h : Top B cb tdt s 81 7 fs81 tab81 ks81 exT mo own an ch ix F w) : Calls Tryz.prog 9 #[.pointer (pt cb)] w (Again B cb tdt s 81 7 fs81 tab81 ks81 exT mo own an ch ix F w) :=
  thr_again h.low (zn_thr cb w) (ftop_again kind25_81 (h.alloc _))
theorem results_tmp4 {fn : Func} {t u v x : Tmp} (h : fn.results = #[.tmp t, .tmp u, .tmp v, .tmp x]) (tmps : Array Value) (P : Program) (w : World) :
    (results fn tmps).run P w = .ok (.tuple #[tmps.getD t undef, tmps.getD u undef, tmps.getD v undef, tmps.getD x undef]) w := by simp [results, h]
theorem zk (k : Int) (w : World) : Calls Tryz.prog 36 #[.int .u64 k] w fun e w' => e = .returned (.int .u64 k) ∧ w' = w := by
  go_enter Tryz.func36, Tryz.ntmps36
  go_wp2
  go_ret
  exact ⟨rfl, rfl⟩
theorem sm_Name (w : World) : Calls Tryz.prog 35 #[.string ⟨#[78, 97, 109, 101]⟩, .bool false] w fun e w' => e = .returned (.tuple #[.bool true, .int .u64 24, .bool false, .bool false]) ∧ w = w' := by
  go_enter Tryz.func35, Tryz.ntmps35
  go_wp2
  refine bodyPost_ret (results_tmp4 rfl _ _ _) rfl ?_
  exact ⟨rfl, rfl⟩
theorem sm_PkgPath (w : World) : Calls Tryz.prog 35 #[.string ⟨#[80, 107, 103, 80, 97, 116, 104]⟩, .bool false] w fun e w' => e = .returned (.tuple #[.bool true, .int .u64 24, .bool false, .bool false]) ∧ w = w' := by
  go_enter Tryz.func35, Tryz.ntmps35
  go_wp2
  refine bodyPost_ret (results_tmp4 rfl _ _ _) rfl ?_
  exact ⟨rfl, rfl⟩
theorem sm_Type (w : World) : Calls Tryz.prog 35 #[.string ⟨#[84, 121, 112, 101]⟩, .bool false] w fun e w' => e = .returned (.tuple #[.bool true, .int .u64 20, .bool false, .bool false]) ∧ w = w' := by
  go_enter Tryz.func35, Tryz.ntmps35
  go_wp2
  refine bodyPost_ret (results_tmp4 rfl _ _ _) rfl ?_
  exact ⟨rfl, rfl⟩
theorem sm_Tag (w : World) : Calls Tryz.prog 35 #[.string ⟨#[84, 97, 103]⟩, .bool false] w fun e w' => e = .returned (.tuple #[.bool true, .int .u64 24, .bool false, .bool false]) ∧ w = w' := by
  go_enter Tryz.func35, Tryz.ntmps35
  go_wp2
  refine bodyPost_ret (results_tmp4 rfl _ _ _) rfl ?_
  exact ⟨rfl, rfl⟩
theorem sm_Offset (w : World) : Calls Tryz.prog 35 #[.string ⟨#[79, 102, 102, 115, 101, 116]⟩, .bool false] w fun e w' => e = .returned (.tuple #[.bool true, .int .u64 12, .bool false, .bool true]) ∧ w = w' := by
  go_enter Tryz.func35, Tryz.ntmps35
  go_wp2
  refine bodyPost_ret (results_tmp4 rfl _ _ _) rfl ?_
  exact ⟨rfl, rfl⟩
theorem sm_Index (w : World) : Calls Tryz.prog 35 #[.string ⟨#[73, 110, 100, 101, 120]⟩, .bool false] w fun e w' => e = .returned (.tuple #[.bool true, .int .u64 23, .bool false, .bool false]) ∧ w = w' := by
  go_enter Tryz.func35, Tryz.ntmps35
  go_wp2
  refine bodyPost_ret (results_tmp4 rfl _ _ _) rfl ?_
  exact ⟨rfl, rfl⟩
theorem sm_Anonymous (w : World) : Calls Tryz.prog 35 #[.string ⟨#[65, 110, 111, 110, 121, 109, 111, 117, 115]⟩, .bool false] w fun e w' => e = .returned (.tuple #[.bool true, .int .u64 1, .bool false, .bool false]) ∧ w = w' := by
  go_enter Tryz.func35, Tryz.ntmps35
  go_wp2
  refine bodyPost_ret (results_tmp4 rfl _ _ _) rfl ?_
  exact ⟨rfl, rfl⟩
theorem sm_IsExported (w : World) : Calls Tryz.prog 35 #[.string ⟨#[73, 115, 69, 120, 112, 111, 114, 116, 101, 100]⟩, .bool false] w fun e w' => e = .returned (.tuple #[.bool false, .int .u64 0, .bool false, .bool false]) ∧ w = w' := by
  go_enter Tryz.func35, Tryz.ntmps35
  go_wp2
  refine bodyPost_ret (results_tmp4 rfl _ _ _) rfl ?_
  exact ⟨rfl, rfl⟩
theorem sm_other (name : ByteArray) (a0 : (name.toList == [78, 97, 109, 101]) = false) (a1 : (name.toList == [80, 107, 103, 80, 97, 116, 104]) = false) (a2 : (name.toList == [84, 121, 112, 101]) = false) (a3 : (name.toList == [84, 97, 103]) = false) (a4 : (name.toList == [79, 102, 102, 115, 101, 116]) = false) (a5 : (name.toList == [73, 110, 100, 101, 120]) = false) (a6 : (name.toList == [65, 110, 111, 110, 121, 109, 111, 117, 115]) = false) (a7 : (name.toList == [73, 115, 69, 120, 112, 111, 114, 116, 101, 100]) = false) (w : World) : Calls Tryz.prog 35 #[.string name, .bool false] w fun e w' => e = .returned (.tuple #[.bool false, .int .u64 0, .bool false, .bool false]) ∧ w = w' := by
  go_enter Tryz.func35, Tryz.ntmps35
  go_wp2
  refine bodyPost_ret (results_tmp4 rfl _ _ _) rfl ?_
  exact ⟨rfl, rfl⟩
theorem ma_Name (td : Option Addr) (w : World) : Calls Tryz.prog 11 #[.agg (natc 9 24 td false false), .bool true, .string ⟨#[78, 97, 109, 101]⟩, .bool false] w fun e w' => e = .returned (.bool true) ∧ Fr w.heap.size w w' := by
  go_enter Tryz.func11, Tryz.ntmps11
  go_wp2_with (go_at_call 35; ((with_reducible refine (sm_Name _).mono ?_); rintro e w' ⟨rfl, rfl⟩))
  go_quiet ((go_at_call 36; exact Calls.quiet_of_same (zk _ _)))
  go_wp2
  go_ret
  exact ⟨rfl, (((Fr.refl _ w (Nat.le_refl _)).alloc _).drewN _)⟩
theorem ma_PkgPath (td : Option Addr) (w : World) : Calls Tryz.prog 11 #[.agg (natc 9 24 td false false), .bool true, .string ⟨#[80, 107, 103, 80, 97, 116, 104]⟩, .bool false] w fun e w' => e = .returned (.bool true) ∧ Fr w.heap.size w w' := by
  go_enter Tryz.func11, Tryz.ntmps11
  go_wp2_with (go_at_call 35; ((with_reducible refine (sm_PkgPath _).mono ?_); rintro e w' ⟨rfl, rfl⟩))
  go_quiet ((go_at_call 36; exact Calls.quiet_of_same (zk _ _)))
  go_wp2
  go_ret
  exact ⟨rfl, (((Fr.refl _ w (Nat.le_refl _)).alloc _).drewN _)⟩
theorem ma_Type (td : Option Addr) (w : World) : Calls Tryz.prog 11 #[.agg (natc 43 20 td false false), .bool true, .string ⟨#[84, 121, 112, 101]⟩, .bool false] w fun e w' => e = .returned (.bool true) ∧ Fr w.heap.size w w' := by
  go_enter Tryz.func11, Tryz.ntmps11
  go_wp2_with (go_at_call 35; ((with_reducible refine (sm_Type _).mono ?_); rintro e w' ⟨rfl, rfl⟩))
  go_quiet ((go_at_call 36; exact Calls.quiet_of_same (zk _ _)))
  go_wp2
  go_ret
  exact ⟨rfl, (((Fr.refl _ w (Nat.le_refl _)).alloc _).drewN _)⟩
theorem ma_Tag (td : Option Addr) (w : World) : Calls Tryz.prog 11 #[.agg (natc 79 24 td false false), .bool true, .string ⟨#[84, 97, 103]⟩, .bool false] w fun e w' => e = .returned (.bool true) ∧ Fr w.heap.size w w' := by
  go_enter Tryz.func11, Tryz.ntmps11
  go_wp2_with (go_at_call 35; ((with_reducible refine (sm_Tag _).mono ?_); rintro e w' ⟨rfl, rfl⟩))
  go_quiet ((go_at_call 36; exact Calls.quiet_of_same (zk _ _)))
  go_wp2
  go_ret
  exact ⟨rfl, (((Fr.refl _ w (Nat.le_refl _)).alloc _).drewN _)⟩
theorem ma_Offset (td : Option Addr) (w : World) : Calls Tryz.prog 11 #[.agg (natc 12 12 td true false), .bool true, .string ⟨#[79, 102, 102, 115, 101, 116]⟩, .bool false] w fun e w' => e = .returned (.bool true) ∧ Fr w.heap.size w w' := by
  go_enter Tryz.func11, Tryz.ntmps11
  go_wp2_with (go_at_call 35; ((with_reducible refine (sm_Offset _).mono ?_); rintro e w' ⟨rfl, rfl⟩))
  go_quiet ((go_at_call 36; exact Calls.quiet_of_same (zk _ _)))
  go_wp2
  go_ret
  exact ⟨rfl, (((Fr.refl _ w (Nat.le_refl _)).alloc _).drewN _)⟩
theorem ma_Index (td : Option Addr) (w : World) : Calls Tryz.prog 11 #[.agg (natc 53 23 td false false), .bool true, .string ⟨#[73, 110, 100, 101, 120]⟩, .bool false] w fun e w' => e = .returned (.bool true) ∧ Fr w.heap.size w w' := by
  go_enter Tryz.func11, Tryz.ntmps11
  go_wp2_with (go_at_call 35; ((with_reducible refine (sm_Index _).mono ?_); rintro e w' ⟨rfl, rfl⟩))
  go_quiet ((go_at_call 36; exact Calls.quiet_of_same (zk _ _)))
  go_wp2
  go_ret
  exact ⟨rfl, (((Fr.refl _ w (Nat.le_refl _)).alloc _).drewN _)⟩
theorem ma_Anonymous (td : Option Addr) (w : World) : Calls Tryz.prog 11 #[.agg (natc 4 1 td false false), .bool true, .string ⟨#[65, 110, 111, 110, 121, 109, 111, 117, 115]⟩, .bool false] w fun e w' => e = .returned (.bool true) ∧ Fr w.heap.size w w' := by
  go_enter Tryz.func11, Tryz.ntmps11
  go_wp2_with (go_at_call 35; ((with_reducible refine (sm_Anonymous _).mono ?_); rintro e w' ⟨rfl, rfl⟩))
  go_quiet ((go_at_call 36; exact Calls.quiet_of_same (zk _ _)))
  go_wp2
  go_ret
  exact ⟨rfl, (((Fr.refl _ w (Nat.le_refl _)).alloc _).drewN _)⟩
theorem ma_IsExported  (w : World) : Calls Tryz.prog 11 #[.agg #[.nilIface, .int .u64 0, .pointer none, .pointer none, .bool false, .bool false, .bool false, .bool false, .bool false], .bool false, .string ⟨#[73, 115, 69, 120, 112, 111, 114, 116, 101, 100]⟩, .bool false] w fun e w' => e = .returned (.bool true) ∧ Fr w.heap.size w w' := by
  go_enter Tryz.func11, Tryz.ntmps11
  go_wp2_with (go_at_call 35; ((with_reducible refine (sm_IsExported _).mono ?_); rintro e w' ⟨rfl, rfl⟩))
  go_quiet ((go_at_call 36; exact Calls.quiet_of_same (zk _ _)))
  go_wp2
  go_ret
  exact ⟨rfl, (((Fr.refl _ w (Nat.le_refl _)).alloc _).drewN _)⟩
theorem ma_other (name : ByteArray) (a0 : (name.toList == [78, 97, 109, 101]) = false) (a1 : (name.toList == [80, 107, 103, 80, 97, 116, 104]) = false) (a2 : (name.toList == [84, 121, 112, 101]) = false) (a3 : (name.toList == [84, 97, 103]) = false) (a4 : (name.toList == [79, 102, 102, 115, 101, 116]) = false) (a5 : (name.toList == [73, 110, 100, 101, 120]) = false) (a6 : (name.toList == [65, 110, 111, 110, 121, 109, 111, 117, 115]) = false) (a7 : (name.toList == [73, 115, 69, 120, 112, 111, 114, 116, 101, 100]) = false) (w : World) : Calls Tryz.prog 11 #[.agg #[.nilIface, .int .u64 0, .pointer none, .pointer none, .bool false, .bool false, .bool false, .bool false, .bool false], .bool false, .string name, .bool false] w fun e w' => e = .returned (.bool true) ∧ Fr w.heap.size w w' := by
  go_enter Tryz.func11, Tryz.ntmps11
  go_wp2_with (go_at_call 35; ((with_reducible refine (sm_other name a0 a1 a2 a3 a4 a5 a6 a7 _).mono ?_); rintro e w' ⟨rfl, rfl⟩))
  go_quiet ((go_at_call 36; exact Calls.quiet_of_same (zk _ _)))
  go_wp2
  go_ret
  exact ⟨rfl, (((Fr.refl _ w (Nat.le_refl _)).alloc _).drewN _)⟩
theorem ma_yes (x : ByteArray) (E : Ent) (td : Option Addr) (w : World) (h : tab81 x = some E) : Calls Tryz.prog 11 #[.agg (natc E.t E.k td E.i E.f), .bool true, .string x, .bool false] w fun e w' => e = .returned (.bool true) ∧ Fr w.heap.size w w' := by
  unfold tab81 at h
  by_cases h0 : ((⟨#[78, 97, 109, 101]⟩ : ByteArray) == x) = true
  · rw [if_pos h0] at h
    cases h
    obtain rfl := (ba_iff _ _).1 h0
    exact ma_Name td w
  rw [if_neg h0] at h
  by_cases h1 : ((⟨#[80, 107, 103, 80, 97, 116, 104]⟩ : ByteArray) == x) = true
  · rw [if_pos h1] at h
    cases h
    obtain rfl := (ba_iff _ _).1 h1
    exact ma_PkgPath td w
  rw [if_neg h1] at h
  by_cases h2 : ((⟨#[84, 121, 112, 101]⟩ : ByteArray) == x) = true
  · rw [if_pos h2] at h
    cases h
    obtain rfl := (ba_iff _ _).1 h2
    exact ma_Type td w
  rw [if_neg h2] at h
  by_cases h3 : ((⟨#[84, 97, 103]⟩ : ByteArray) == x) = true
  · rw [if_pos h3] at h
    cases h
    obtain rfl := (ba_iff _ _).1 h3
    exact ma_Tag td w
  rw [if_neg h3] at h
  by_cases h4 : ((⟨#[79, 102, 102, 115, 101, 116]⟩ : ByteArray) == x) = true
  · rw [if_pos h4] at h
    cases h
    obtain rfl := (ba_iff _ _).1 h4
    exact ma_Offset td w
  rw [if_neg h4] at h
  by_cases h5 : ((⟨#[73, 110, 100, 101, 120]⟩ : ByteArray) == x) = true
  · rw [if_pos h5] at h
    cases h
    obtain rfl := (ba_iff _ _).1 h5
    exact ma_Index td w
  rw [if_neg h5] at h
  by_cases h6 : ((⟨#[65, 110, 111, 110, 121, 109, 111, 117, 115]⟩ : ByteArray) == x) = true
  · rw [if_pos h6] at h
    cases h
    obtain rfl := (ba_iff _ _).1 h6
    exact ma_Anonymous td w
  rw [if_neg h6] at h
  cases h
theorem ma_no (x : ByteArray) (w : World) (h : tab81 x = none) : Calls Tryz.prog 11 #[zeroN, .bool false, .string x, .bool false] w fun e w' => e = .returned (.bool true) ∧ Fr w.heap.size w w' := by
  unfold tab81 at h
  by_cases h0 : ((⟨#[78, 97, 109, 101]⟩ : ByteArray) == x) = true
  · rw [if_pos h0] at h
    cases h
  rw [if_neg h0] at h
  by_cases h1 : ((⟨#[80, 107, 103, 80, 97, 116, 104]⟩ : ByteArray) == x) = true
  · rw [if_pos h1] at h
    cases h
  rw [if_neg h1] at h
  by_cases h2 : ((⟨#[84, 121, 112, 101]⟩ : ByteArray) == x) = true
  · rw [if_pos h2] at h
    cases h
  rw [if_neg h2] at h
  by_cases h3 : ((⟨#[84, 97, 103]⟩ : ByteArray) == x) = true
  · rw [if_pos h3] at h
    cases h
  rw [if_neg h3] at h
  by_cases h4 : ((⟨#[79, 102, 102, 115, 101, 116]⟩ : ByteArray) == x) = true
  · rw [if_pos h4] at h
    cases h
  rw [if_neg h4] at h
  by_cases h5 : ((⟨#[73, 110, 100, 101, 120]⟩ : ByteArray) == x) = true
  · rw [if_pos h5] at h
    cases h
  rw [if_neg h5] at h
  by_cases h6 : ((⟨#[65, 110, 111, 110, 121, 109, 111, 117, 115]⟩ : ByteArray) == x) = true
  · rw [if_pos h6] at h
    cases h
  rw [if_neg h6] at h
  clear h
  by_cases hi : ((⟨#[73, 115, 69, 120, 112, 111, 114, 116, 101, 100]⟩ : ByteArray) == x) = true
  · obtain rfl := (ba_iff _ _).1 hi
    exact ma_IsExported w
  exact ma_other x (q_ne [78, 97, 109, 101] x (by simpa using h0)) (q_ne [80, 107, 103, 80, 97, 116, 104] x (by simpa using h1)) (q_ne [84, 121, 112, 101] x (by simpa using h2)) (q_ne [84, 97, 103] x (by simpa using h3)) (q_ne [79, 102, 102, 115, 101, 116] x (by simpa using h4)) (q_ne [73, 110, 100, 101, 120] x (by simpa using h5)) (q_ne [65, 110, 111, 110, 121, 109, 111, 117, 115] x (by simpa using h6)) (q_ne [73, 115, 69, 120, 112, 111, 114, 116, 101, 100] x (by simpa using hi)) w
end Go.Proofs.YtpnifkpnapoeoaaGreatDoorBesrefl
