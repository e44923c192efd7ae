/-
  Lookups in zzRec and zzOuter. No condition.
-/
import Derived.Test.YtpnifkpnapoeoaaGreatDoorBesreflN97
import Derived.Test.YtpnifkpnapoeoaaGreatDoorBesreflTy68
import Derived.Test.YtpnifkpnapoeoaaGreatDoorBesreflTy76
import Derived.StillTailTactics
import Derived.Deep.RegionHeld3
import Derived.Deep.RegionLaw
import Derived.Deep.RegionLawGrows
import Derived.Deep.AppendLies
import Derived.Deep.Cut
import Derived.Deep.CutRange
import Derived.Deep.RegionWith
import Derived.Lib.Hide
import Derived.Deep.LoopGhost
import Derived.Deep.DeepCutAuto
namespace Go.Proofs.YtpnifkpnapoeoaaGreatDoorBesrefl
open Go.RowKit
set_option maxRecDepth 100000
set_option maxHeartbeats 1000000
set_option linter.unusedVariables false
theorem natAt_new (w : World) (T td : Nat) : NatAt (w.alloc (.cells (natc T 25 (pt td) false false) 48)) w.heap.size T td := heap_alloc_new w _
theorem w64 (n : Int) (h : -9223372036854775808 ≤ n ∧ n ≤ 9223372036854775807) : wrap64 n = n := by unfold wrap64; omega
theorem tm (a n : Int) (hn : 0 < n) : -n < a.tmod n ∧ a.tmod n < n := by
  refine ⟨?_, Int.tmod_lt_of_pos a hn⟩
  have h := Int.tmod_lt_of_pos (-a) hn
  rw [Int.neg_tmod] at h
  omega
theorem tm_neg (a n : Int) (hn : 0 < n) (h : a.tmod n < 0) : a % n = a.tmod n + n := by
  have h1 := Int.mul_tdiv_add_tmod a n
  have h2 := (tm a n hn).1
  have h3 : a % n = (a.tmod n + n) % n := by
    conv => lhs; rw [← h1]
    rw [Int.add_comm, Int.add_mul_emod_self_left, Int.add_emod_right]
  rw [h3, Int.emod_eq_of_lt (by omega) (by omega)]
theorem tm_pos (a n : Int) (hn : 0 < n) (h : 0 ≤ a.tmod n) : a % n = a.tmod n := by
  have h1 := Int.mul_tdiv_add_tmod a n
  have h2 := (tm a n hn).2
  have h3 : a % n = (a.tmod n) % n := by
    conv => lhs; rw [← h1]
    rw [Int.add_comm, Int.add_mul_emod_self_left]
  rw [h3, Int.emod_eq_of_lt (by omega) (by omega)]
theorem zmod (a n : Int) (hn : 0 < n) (hn2 : n < 100) (w0 : (Lit.int .i64 a).wf = true) (w : World) : Calls Tryz.prog 24 #[.int .i64 a, .int .i64 n] w fun e w' => e = .returned (.int .i64 (a % n)) ∧ w = w' := by
  have ht := tm a n hn
  have H := Lib.hid ht
  clear ht
  go_enter Tryz.func24, Tryz.ntmps24
  go_wp2
  · rename_i h
    go_ret
    exact ⟨by rw [tm_neg a n hn h]; exact congrArg (fun x : Int => Ending.returned (.int .i64 x)) (w64 _ (by have := H.out; omega)), rfl⟩
  · rename_i h
    go_ret
    exact ⟨by rw [tm_pos a n hn h]; rfl, rfl⟩
theorem nat_carry {B nb T td : Nat} {w u : World} (h : NatAt w nb T td) (hf : Fr B w u) : NatAt u nb T td := hf.kept nb _ h rfl
theorem nat_al {nb T td : Nat} {w : World} (h : NatAt w nb T td) (o : Obj) : NatAt (w.alloc o) nb T td := (Below.heap_alloc w o nb (show Plain w nb from ⟨_, _, h⟩).lt).trans h
/-- block b is a Nature without more -/
def NAt (w : World) (b t : Nat) (k : Int) (td : Option Addr) (i f : Bool) : Prop := w.heap[b]? = some (.cells (natc t k td i f) 48 (0, 0))
theorem nAt_new (w : World) (t : Nat) (k : Int) (td : Option Addr) (i f : Bool) : NAt (w.alloc (.cells (natc t k td i f) 48)) w.heap.size t k td i f := heap_alloc_new w _
theorem nAt_carry {B b t : Nat} {k : Int} {td : Option Addr} {i f : Bool} {w u : World} (h : NAt w b t k td i f) (hf : Fr B w u) : NAt u b t k td i f := hf.kept b _ h rfl
theorem ix1 {w : World} {v : Value} {a : Int} (h : Ix w v [a] false) : ∃ gg cap, v = .slice (some ⟨gg, 0, none⟩) 1 cap ∧ w.cell? ⟨gg, 0, none⟩ = some (.int .i64 a) := by
  rcases h with ⟨_, h⟩ | ⟨gg, cap, cur, fr, rfl, h1, h2, _, h4⟩
  · cases h
  · exact ⟨gg, cap, rfl, by have := ix_cells h1 h4 0 (.int .i64 a) (by simp); simpa [Addr.add] using this⟩
theorem ix2 {w : World} {v : Value} {a b : Int} (h : Ix w v [a, b] false) : ∃ gg cap, v = .slice (some ⟨gg, 0, none⟩) 2 cap ∧ w.cell? ⟨gg, 0, none⟩ = some (.int .i64 a) ∧ w.cell? ⟨gg, 1, none⟩ = some (.int .i64 b) := by
  rcases h with ⟨_, h⟩ | ⟨gg, cap, cur, fr, rfl, h1, h2, _, h4⟩
  · cases h
  · exact ⟨gg, cap, rfl, by have := ix_cells h1 h4 0 (.int .i64 a) (by simp); simpa [Addr.add] using this, by have := ix_cells h1 h4 1 (.int .i64 b) (by simp); simpa [Addr.add] using this⟩
theorem str_at {b t : Nat} {k : Int} {td : Option Addr} {i f : Bool} {w : World} (s : ByteArray) (hs : ∀ v : World, (callFunc 185 #[.pointer (some ⟨4, t, none⟩)]).run Tryz.prog v = .ok (.value (.string s)) v) (hN : NAt w b t k td i f) : Calls Tryz.prog 29 #[.pointer (pt b)] w fun e w' => e = .returned (.string s) ∧ w = w' := by
  have hp : Plain w b := ⟨_, _, hN⟩
  have hc : cellsAt w b = _ := cellsAt_of hN
  have hlt := hp.lt
  clear hN
  go_enter Tryz.func29, Tryz.ntmps29
  go_wp2
  go_ret
  exact ⟨rfl, rfl⟩
theorem iss_at {b t : Nat} {td : Option Addr} {i f : Bool} {w : World} (hN : NAt w b t 24 td i f) : Calls Tryz.prog 30 #[.pointer (pt b)] w fun e w' => e = .returned (.bool true) ∧ w = w' := by
  have hp : Plain w b := ⟨_, _, hN⟩
  have hc : cellsAt w b = _ := cellsAt_of hN
  have hlt := hp.lt
  clear hN
  go_enter Tryz.func30, Tryz.ntmps30
  go_wp2
  go_ret
  exact ⟨rfl, rfl⟩
theorem strf_3 (w : World) : (callFunc 185 #[.pointer (some ⟨4, 3, none⟩)]).run Tryz.prog w = .ok (.value (.string ⟨#[105, 110, 116]⟩)) w := by kernel_rfl
theorem strf_9 (w : World) : (callFunc 185 #[.pointer (some ⟨4, 9, none⟩)]).run Tryz.prog w = .ok (.value (.string ⟨#[115, 116, 114, 105, 110, 103]⟩)) w := by kernel_rfl
theorem strf_27 (w : World) : (callFunc 185 #[.pointer (some ⟨4, 27, none⟩)]).run Tryz.prog w = .ok (.value (.string ⟨#[102, 108, 111, 97, 116, 54, 52]⟩)) w := by kernel_rfl
theorem strf_53 (w : World) : (callFunc 185 #[.pointer (some ⟨4, 53, none⟩)]).run Tryz.prog w = .ok (.value (.string ⟨#[91, 93, 105, 110, 116]⟩)) w := by kernel_rfl
theorem kind25_68 (w : World) : (callFunc 167 #[.pointer (some ⟨4, 68, none⟩)]).run Tryz.prog w = .ok (.value (.int .u64 25)) w := by kernel_rfl
theorem nf_68 (w : World) : (callFunc 173 #[.pointer (some ⟨4, 68, none⟩)]).run Tryz.prog w = .ok (.value (.int .i64 (5 : Nat))) w := by kernel_rfl
theorem gz68_thr (cb : Nat) (w : World) (Q : Nat → World → Prop) (hFT : Calls Tryz.prog 33 #[.pointer (pt cb), .iface 105 (.pointer (some ⟨4, 68, none⟩))] (w.alloc (.cells zcs 48)) fun e w1 => ∃ td, e = .returned (.agg (natc 68 25 (pt td) false false)) ∧ Q td w1 ∧ ∃ B0, Fr B0 (w.alloc (.cells zcs 48)) w1) :
    Calls Tryz.prog 26 #[.pointer (pt cb), .iface 105 (.pointer (some ⟨4, 68, none⟩))] w (Thr 68 w.heap.size Q) := by
  have HG := Lib.hid hFT
  clear hFT
  go_enter Tryz.func26, Tryz.ntmps26
  go_wp2_with (go_at_call 33; ((with_reducible refine HG.out.mono ?_); rintro e w1 ⟨td, rfl, hQ, B0, hf⟩; have hres := hf.kept w.heap.size _ (heap_alloc_new w _) rfl; have hrp : Plain w1 w.heap.size := ⟨_, _, hres⟩; have hrc := cellsAt_of hres; have hrl := hrp.lt; have hrz : (cellsAt w1 w.heap.size).size = 9 := (by rw [hrc]; rfl); have HQ := Lib.hid hQ; have HR := Lib.hid hres; clear hQ hres hf))
  refine bodyPost_ret (v := .agg (natc 68 25 (pt td) false false)) (by simp [results, Tryz.results26, go_sem, hrp, hrc]) rfl ?_
  refine ⟨td, w1, rfl, HQ.out, ⟨fun b hb => ?_, _, _, HR.out⟩, fun B0 w0 hf hl => ?_⟩
  · repeat rw [Below.heap_setCell _ _ _ _ hb]
  · repeat (first | with_reducible exact hf | with_reducible refine Fr.setN ?_ hl _ _)
theorem gzf_68 (cb B : Nat) (w : World) (hC : Ca w cb none) (hB : B ≤ cb) (hBw : B ≤ w.heap.size) : Calls Tryz.prog 26 #[.pointer (pt cb), .iface 105 (.pointer (some ⟨4, 68, none⟩))] w (First B cb 68 5 fs68 tab68 ks68 exT w) :=
  thr_first hBw (gz68_thr cb w) ((top_first top68 (exOk _ _) nf_68 (hC.alloc _) hB (by simp; omega)).mono fun e w' ⟨td, s, h1, h2, _, h3, h4⟩ => ⟨td, s, h1, h2, h3, h4⟩)
theorem nfa_68 {B cb td s : Nat} {w : World} (h : Top B cb td s 68 5 fs68 tab68 ks68 exT none 0 (-1) none (.slice none 0 0) (fun _ => none) w) : Calls Tryz.prog 27 #[.agg (natc 68 25 (pt td) false false)] w fun e w' => e = .returned (.int .i64 5) ∧ w.alloc (.cells (natc 68 25 (pt td) false false) 48) = w' := by
  obtain ⟨tq, tc⟩ := sz14 w td s h.td
  have hsd := h.sd
  have sp : Plain w s := ⟨_, _, hsd⟩
  have sc : cellsAt w s = _ := cellsAt_of hsd
  have tlt := tq.lt
  have slt := sp.lt
  obtain ⟨t1, t2, t3, t4⟩ := szs tlt
  obtain ⟨s1, s2, s3, s4⟩ := szs slt
  clear h hsd
  go_enter Tryz.func27, Tryz.ntmps27
  go_wp2
  go_ret
  exact ⟨rfl, rfl⟩
theorem aia_68 {B cb td s : Nat} {w : World} (h : Top B cb td s 68 5 fs68 tab68 ks68 exT none 0 (-1) none (.slice none 0 0) (fun _ => none) w) : Calls Tryz.prog 28 #[.agg (natc 68 25 (pt td) false false)] w fun e w' => e = .returned (.int .i64 (-1)) ∧ w.alloc (.cells (natc 68 25 (pt td) false false) 48) = w' := by
  obtain ⟨tq, tc⟩ := sz14 w td s h.td
  have hsd := h.sd
  have sp : Plain w s := ⟨_, _, hsd⟩
  have sc : cellsAt w s = _ := cellsAt_of hsd
  have tlt := tq.lt
  have slt := sp.lt
  obtain ⟨t1, t2, t3, t4⟩ := szs tlt
  obtain ⟨s1, s2, s3, s4⟩ := szs slt
  clear h hsd
  go_enter Tryz.func28, Tryz.ntmps28
  go_wp2
  go_ret
  exact ⟨rfl, rfl⟩
theorem frn_68 (w : World) : Calls Tryz.prog 31 #[.pointer none, .iface 105 (.pointer (some ⟨4, 68, none⟩))] w fun e w' => ∃ td, e = .returned (.agg (natc 68 25 td false false)) ∧ Fr w.heap.size w w' := by
  have hk := kind25_68
  go_enter Tryz.func31, Tryz.ntmps31
  go_wp2
  refine bodyPost_ret (v := .agg (natc 68 25 (some ⟨w.heap.size + 1, 0, none⟩) false false)) (by simp [results, Tryz.results31, go_sem]) rfl ⟨_, rfl, ?_⟩
  repeat (first | with_reducible exact Fr.refl _ w (Nat.le_refl _) | with_reducible refine Fr.setN ?_ (Nat.le_refl _) _ _ | with_reducible refine Fr.alloc ?_ _)
theorem no_68 (v : Value) (w : World) : Calls Tryz.prog 25 #[.pointer none, .iface 68 v] w fun e w' => ∃ td, e = .returned (.agg (natc 68 25 td false false)) ∧ Fr w.heap.size w w' := by
  go_enter Tryz.func25, Tryz.ntmps25
  go_wp2_with (go_at_call 31; ((with_reducible refine (frn_68 _).mono ?_); rintro e w1 ⟨td, rfl, hf⟩; have hres := hf.kept w.heap.size _ (heap_alloc_new w _) rfl; have hrp : Plain w1 w.heap.size := ⟨_, _, hres⟩; have hrc := cellsAt_of hres; have hrl := hrp.lt; have hrz : (cellsAt w1 w.heap.size).size = 9 := (by rw [hrc]; rfl)))
  refine bodyPost_ret (v := .agg (natc 68 25 td false false)) (by simp [results, Tryz.results25, go_sem, hrp, hrc]) rfl ⟨td, rfl, ?_⟩
  have hf2 : Fr w.heap.size w w1 := ((Fr.refl _ w (Nat.le_refl _)).alloc _).trans (hf.le (by simp))
  repeat (first | with_reducible exact hf2 | with_reducible refine Fr.setN ?_ (Nat.le_refl _) _ _ | with_reducible refine Fr.alloc ?_ _)
def Sx68 (B cb td s : Nat) (w : World) : Prop := ∃ mo own an ch ix F, Top B cb td s 68 5 fs68 tab68 ks68 exT mo own an ch ix F w
theorem Sx68.alloc {B cb td s : Nat} {w : World} (h : Sx68 B cb td s w) (o : Obj) : Sx68 B cb td s (w.alloc o) := by
  obtain ⟨mo, own, an, ch, ix, F, h⟩ := h
  exact ⟨mo, own, an, ch, ix, F, h.alloc o⟩
theorem fbx_68 {B cb td s nb : Nat} {w : World} (x : ByteArray) (h1 : B ≤ s) (hN : NatAt w nb 68 td) (h : Sx68 B cb td s w) : Calls Tryz.prog 10 #[.pointer (pt nb), .pointer (pt cb), .string x] w fun e w' => Fr B w w' ∧ Sx68 B cb td s w' ∧
    ((x = ⟨#[65]⟩ ∧ ∃ td', e = .returned (.tuple #[.agg (natc 3 2 td' true false), .bool true])) ∨ (x = ⟨#[98, 101, 101]⟩ ∧ ∃ td', e = .returned (.tuple #[.agg (natc 9 24 td' false false), .bool true])) ∨ (x = ⟨#[69]⟩ ∧ ∃ td', e = .returned (.tuple #[.agg (natc 53 23 td' false false), .bool true])) ∨ (tab68 x = none ∧ ((⟨#[65]⟩ == x) = false ∧ (⟨#[98, 101, 101]⟩ == x) = false ∧ (⟨#[69]⟩ == x) = false) ∧ e = .returned (.tuple #[zeroN, .bool false]))) := by
  obtain ⟨mo, own, an, ch, ix, F, hS⟩ := h
  refine (fbn top68 (exOk _ _) h1 x hN hS).mono ?_
  rintro e w' ⟨m, own', an', ch', ix', F', hf, hT, hA⟩
  refine ⟨hf, ⟨_, _, _, _, _, _, hT⟩, ?_⟩
  rcases hA with ⟨E, td', hE, rfl⟩ | ⟨hE, rfl⟩
  · have h := hE
    unfold tab68 at h
    by_cases h0 : ((⟨#[65]⟩ : ByteArray) == x) = true
    · rw [if_pos h0] at h
      cases h
      obtain rfl := (ba_iff _ _).1 h0
      exact Or.inl ⟨rfl, _, rfl⟩
    rw [if_neg h0] at h
    by_cases h1 : ((⟨#[98, 101, 101]⟩ : ByteArray) == x) = true
    · rw [if_pos h1] at h
      cases h
      obtain rfl := (ba_iff _ _).1 h1
      exact Or.inr (Or.inl ⟨rfl, _, rfl⟩)
    rw [if_neg h1] at h
    by_cases h2 : ((⟨#[69]⟩ : ByteArray) == x) = true
    · rw [if_pos h2] at h
      cases h
      obtain rfl := (ba_iff _ _).1 h2
      exact Or.inr (Or.inr (Or.inl ⟨rfl, _, rfl⟩))
    rw [if_neg h2] at h
    cases h
  · have hE0 := hE
    have h := hE
    unfold tab68 at h
    by_cases h0 : ((⟨#[65]⟩ : ByteArray) == x) = true
    · rw [if_pos h0] at h
      cases h
    rw [if_neg h0] at h
    by_cases h1 : ((⟨#[98, 101, 101]⟩ : ByteArray) == x) = true
    · rw [if_pos h1] at h
      cases h
    rw [if_neg h1] at h
    by_cases h2 : ((⟨#[69]⟩ : ByteArray) == x) = true
    · rw [if_pos h2] at h
      cases h
    rw [if_neg h2] at h
    clear h
    exact Or.inr (Or.inr (Or.inr (⟨hE0, ⟨by simpa using h0, by simpa using h1, by simpa using h2⟩, rfl⟩)))
theorem fxy_68 {B cb td s nb : Nat} {w : World} {x : ByteArray} {E : Ent} (hE : tab68 x = some E) (h1 : B ≤ s) (hN : NatAt w nb 68 td) (h : Sx68 B cb td s w) : Calls Tryz.prog 14 #[.pointer (pt nb), .pointer (pt cb), .string x] w fun e w' => ∃ v, e = .returned (.tuple #[v, .bool true]) ∧ Fr B w w' ∧ Ix w' v E.zs false := by
  obtain ⟨mo, own, an, ch, ix, F, h⟩ := h
  refine (fix top68 (exOk _ _) h1 x hN h).mono ?_
  rintro e w' ⟨m, own', an', ch', ix', F', hf, hT, hA⟩
  rcases hA with ⟨E2, v, h2, rfl, hv⟩ | ⟨h2, rfl⟩
  · obtain rfl : E = E2 := by rw [hE] at h2; exact Option.some.inj h2
    exact ⟨v, rfl, hf, hv⟩
  · rw [hE] at h2; cases h2
theorem fxn_68 {B cb td s nb : Nat} {w : World} {x : ByteArray} (hE : tab68 x = none) (h1 : B ≤ s) (hN : NatAt w nb 68 td) (h : Sx68 B cb td s w) : Calls Tryz.prog 14 #[.pointer (pt nb), .pointer (pt cb), .string x] w fun e w' => e = .returned (.tuple #[.slice none 0 0, .bool false]) ∧ Fr B w w' := by
  obtain ⟨mo, own, an, ch, ix, F, h⟩ := h
  refine (fix top68 (exOk _ _) h1 x hN h).mono ?_
  rintro e w' ⟨m, own', an', ch', ix', F', hf, hT, hA⟩
  rcases hA with ⟨E2, v, h2, rfl, hv⟩ | ⟨h2, rfl⟩
  · rw [hE] at h2; cases h2
  · exact ⟨rfl, hf⟩
theorem te_68_A : tab68 ⟨#[65]⟩ = some ⟨3, 2, true, false, [0]⟩ := by kernel_rfl
theorem fxk_68_A {B cb td s nb : Nat} {w : World} (h1 : B ≤ s) (hN : NatAt w nb 68 td) (h : Sx68 B cb td s w) : Calls Tryz.prog 14 #[.pointer (pt nb), .pointer (pt cb), .string ⟨#[65]⟩] w fun e w' => ∃ gg cap, e = .returned (.tuple #[.slice (some ⟨gg, 0, none⟩) 1 cap, .bool true]) ∧ Fr B w w' ∧ w'.cell? ⟨gg, 0, none⟩ = some (.int .i64 0) := by
  refine (fxy_68 te_68_A h1 hN h).mono ?_
  rintro e w' ⟨v, rfl, hf, hv⟩
  obtain ⟨gg, cap, rfl, h⟩ := ix1 hv
  exact ⟨gg, cap, rfl, hf, h⟩
theorem te_68_bee : tab68 ⟨#[98, 101, 101]⟩ = some ⟨9, 24, false, false, [1]⟩ := by kernel_rfl
theorem fxk_68_bee {B cb td s nb : Nat} {w : World} (h1 : B ≤ s) (hN : NatAt w nb 68 td) (h : Sx68 B cb td s w) : Calls Tryz.prog 14 #[.pointer (pt nb), .pointer (pt cb), .string ⟨#[98, 101, 101]⟩] w fun e w' => ∃ gg cap, e = .returned (.tuple #[.slice (some ⟨gg, 0, none⟩) 1 cap, .bool true]) ∧ Fr B w w' ∧ w'.cell? ⟨gg, 0, none⟩ = some (.int .i64 1) := by
  refine (fxy_68 te_68_bee h1 hN h).mono ?_
  rintro e w' ⟨v, rfl, hf, hv⟩
  obtain ⟨gg, cap, rfl, h⟩ := ix1 hv
  exact ⟨gg, cap, rfl, hf, h⟩
theorem te_68_E : tab68 ⟨#[69]⟩ = some ⟨53, 23, false, false, [4]⟩ := by kernel_rfl
theorem fxk_68_E {B cb td s nb : Nat} {w : World} (h1 : B ≤ s) (hN : NatAt w nb 68 td) (h : Sx68 B cb td s w) : Calls Tryz.prog 14 #[.pointer (pt nb), .pointer (pt cb), .string ⟨#[69]⟩] w fun e w' => ∃ gg cap, e = .returned (.tuple #[.slice (some ⟨gg, 0, none⟩) 1 cap, .bool true]) ∧ Fr B w w' ∧ w'.cell? ⟨gg, 0, none⟩ = some (.int .i64 4) := by
  refine (fxy_68 te_68_E h1 hN h).mono ?_
  rintro e w' ⟨v, rfl, hf, hv⟩
  obtain ⟨gg, cap, rfl, h⟩ := ix1 hv
  exact ⟨gg, cap, rfl, hf, h⟩
theorem kind25_76 (w : World) : (callFunc 167 #[.pointer (some ⟨4, 76, none⟩)]).run Tryz.prog w = .ok (.value (.int .u64 25)) w := by kernel_rfl
theorem nf_76 (w : World) : (callFunc 173 #[.pointer (some ⟨4, 76, none⟩)]).run Tryz.prog w = .ok (.value (.int .i64 (2 : Nat))) w := by kernel_rfl
theorem gz76_thr (cb : Nat) (w : World) (Q : Nat → World → Prop) (hFT : Calls Tryz.prog 33 #[.pointer (pt cb), .iface 105 (.pointer (some ⟨4, 76, none⟩))] (w.alloc (.cells zcs 48)) fun e w1 => ∃ td, e = .returned (.agg (natc 76 25 (pt td) false false)) ∧ Q td w1 ∧ ∃ B0, Fr B0 (w.alloc (.cells zcs 48)) w1) :
    Calls Tryz.prog 26 #[.pointer (pt cb), .iface 105 (.pointer (some ⟨4, 76, none⟩))] w (Thr 76 w.heap.size Q) := by
  have HG := Lib.hid hFT
  clear hFT
  go_enter Tryz.func26, Tryz.ntmps26
  go_wp2_with (go_at_call 33; ((with_reducible refine HG.out.mono ?_); rintro e w1 ⟨td, rfl, hQ, B0, hf⟩; have hres := hf.kept w.heap.size _ (heap_alloc_new w _) rfl; have hrp : Plain w1 w.heap.size := ⟨_, _, hres⟩; have hrc := cellsAt_of hres; have hrl := hrp.lt; have hrz : (cellsAt w1 w.heap.size).size = 9 := (by rw [hrc]; rfl); have HQ := Lib.hid hQ; have HR := Lib.hid hres; clear hQ hres hf))
  refine bodyPost_ret (v := .agg (natc 76 25 (pt td) false false)) (by simp [results, Tryz.results26, go_sem, hrp, hrc]) rfl ?_
  refine ⟨td, w1, rfl, HQ.out, ⟨fun b hb => ?_, _, _, HR.out⟩, fun B0 w0 hf hl => ?_⟩
  · repeat rw [Below.heap_setCell _ _ _ _ hb]
  · repeat (first | with_reducible exact hf | with_reducible refine Fr.setN ?_ hl _ _)
theorem gzf_76 (cb B : Nat) (w : World) (hC : Ca w cb none) (hB : B ≤ cb) (hBw : B ≤ w.heap.size) : Calls Tryz.prog 26 #[.pointer (pt cb), .iface 105 (.pointer (some ⟨4, 76, none⟩))] w (First B cb 76 2 fs76 tab76 ks76 exT w) :=
  thr_first hBw (gz76_thr cb w) ((top_first top76 (exOk _ _) nf_76 (hC.alloc _) hB (by simp; omega)).mono fun e w' ⟨td, s, h1, h2, _, h3, h4⟩ => ⟨td, s, h1, h2, h3, h4⟩)
theorem nfa_76 {B cb td s : Nat} {w : World} (h : Top B cb td s 76 2 fs76 tab76 ks76 exT none 0 (-1) none (.slice none 0 0) (fun _ => none) w) : Calls Tryz.prog 27 #[.agg (natc 76 25 (pt td) false false)] w fun e w' => e = .returned (.int .i64 2) ∧ w.alloc (.cells (natc 76 25 (pt td) false false) 48) = w' := by
  obtain ⟨tq, tc⟩ := sz14 w td s h.td
  have hsd := h.sd
  have sp : Plain w s := ⟨_, _, hsd⟩
  have sc : cellsAt w s = _ := cellsAt_of hsd
  have tlt := tq.lt
  have slt := sp.lt
  obtain ⟨t1, t2, t3, t4⟩ := szs tlt
  obtain ⟨s1, s2, s3, s4⟩ := szs slt
  clear h hsd
  go_enter Tryz.func27, Tryz.ntmps27
  go_wp2
  go_ret
  exact ⟨rfl, rfl⟩
theorem aia_76 {B cb td s : Nat} {w : World} (h : Top B cb td s 76 2 fs76 tab76 ks76 exT none 0 (-1) none (.slice none 0 0) (fun _ => none) w) : Calls Tryz.prog 28 #[.agg (natc 76 25 (pt td) false false)] w fun e w' => e = .returned (.int .i64 (-1)) ∧ w.alloc (.cells (natc 76 25 (pt td) false false) 48) = w' := by
  obtain ⟨tq, tc⟩ := sz14 w td s h.td
  have hsd := h.sd
  have sp : Plain w s := ⟨_, _, hsd⟩
  have sc : cellsAt w s = _ := cellsAt_of hsd
  have tlt := tq.lt
  have slt := sp.lt
  obtain ⟨t1, t2, t3, t4⟩ := szs tlt
  obtain ⟨s1, s2, s3, s4⟩ := szs slt
  clear h hsd
  go_enter Tryz.func28, Tryz.ntmps28
  go_wp2
  go_ret
  exact ⟨rfl, rfl⟩
theorem frn_76 (w : World) : Calls Tryz.prog 31 #[.pointer none, .iface 105 (.pointer (some ⟨4, 76, none⟩))] w fun e w' => ∃ td, e = .returned (.agg (natc 76 25 td false false)) ∧ Fr w.heap.size w w' := by
  have hk := kind25_76
  go_enter Tryz.func31, Tryz.ntmps31
  go_wp2
  refine bodyPost_ret (v := .agg (natc 76 25 (some ⟨w.heap.size + 1, 0, none⟩) false false)) (by simp [results, Tryz.results31, go_sem]) rfl ⟨_, rfl, ?_⟩
  repeat (first | with_reducible exact Fr.refl _ w (Nat.le_refl _) | with_reducible refine Fr.setN ?_ (Nat.le_refl _) _ _ | with_reducible refine Fr.alloc ?_ _)
theorem no_76 (v : Value) (w : World) : Calls Tryz.prog 25 #[.pointer none, .iface 76 v] w fun e w' => ∃ td, e = .returned (.agg (natc 76 25 td false false)) ∧ Fr w.heap.size w w' := by
  go_enter Tryz.func25, Tryz.ntmps25
  go_wp2_with (go_at_call 31; ((with_reducible refine (frn_76 _).mono ?_); rintro e w1 ⟨td, rfl, hf⟩; have hres := hf.kept w.heap.size _ (heap_alloc_new w _) rfl; have hrp : Plain w1 w.heap.size := ⟨_, _, hres⟩; have hrc := cellsAt_of hres; have hrl := hrp.lt; have hrz : (cellsAt w1 w.heap.size).size = 9 := (by rw [hrc]; rfl)))
  refine bodyPost_ret (v := .agg (natc 76 25 td false false)) (by simp [results, Tryz.results25, go_sem, hrp, hrc]) rfl ⟨td, rfl, ?_⟩
  have hf2 : Fr w.heap.size w w1 := ((Fr.refl _ w (Nat.le_refl _)).alloc _).trans (hf.le (by simp))
  repeat (first | with_reducible exact hf2 | with_reducible refine Fr.setN ?_ (Nat.le_refl _) _ _ | with_reducible refine Fr.alloc ?_ _)
def Sx76 (B cb td s : Nat) (w : World) : Prop := ∃ mo own an ch ix F, Top B cb td s 76 2 fs76 tab76 ks76 exT mo own an ch ix F w
theorem Sx76.alloc {B cb td s : Nat} {w : World} (h : Sx76 B cb td s w) (o : Obj) : Sx76 B cb td s (w.alloc o) := by
  obtain ⟨mo, own, an, ch, ix, F, h⟩ := h
  exact ⟨mo, own, an, ch, ix, F, h.alloc o⟩
theorem fbx_76 {B cb td s nb : Nat} {w : World} (x : ByteArray) (h1 : B ≤ s) (hN : NatAt w nb 76 td) (h : Sx76 B cb td s w) : Calls Tryz.prog 10 #[.pointer (pt nb), .pointer (pt cb), .string x] w fun e w' => Fr B w w' ∧ Sx76 B cb td s w' ∧
    ((x = ⟨#[90]⟩ ∧ ∃ td', e = .returned (.tuple #[.agg (natc 27 14 td' false true), .bool true])) ∨ (x = ⟨#[88]⟩ ∧ ∃ td', e = .returned (.tuple #[.agg (natc 3 2 td' true false), .bool true])) ∨ (x = ⟨#[89]⟩ ∧ ∃ td', e = .returned (.tuple #[.agg (natc 9 24 td' false false), .bool true])) ∨ (tab76 x = none ∧ ((⟨#[90]⟩ == x) = false ∧ (⟨#[88]⟩ == x) = false ∧ (⟨#[89]⟩ == x) = false) ∧ e = .returned (.tuple #[zeroN, .bool false]))) := by
  obtain ⟨mo, own, an, ch, ix, F, hS⟩ := h
  refine (fbn top76 (exOk _ _) h1 x hN hS).mono ?_
  rintro e w' ⟨m, own', an', ch', ix', F', hf, hT, hA⟩
  refine ⟨hf, ⟨_, _, _, _, _, _, hT⟩, ?_⟩
  rcases hA with ⟨E, td', hE, rfl⟩ | ⟨hE, rfl⟩
  · have h := hE
    unfold tab76 at h
    by_cases h0 : ((⟨#[90]⟩ : ByteArray) == x) = true
    · rw [if_pos h0] at h
      cases h
      obtain rfl := (ba_iff _ _).1 h0
      exact Or.inl ⟨rfl, _, rfl⟩
    rw [if_neg h0] at h
    by_cases h1 : ((⟨#[88]⟩ : ByteArray) == x) = true
    · rw [if_pos h1] at h
      cases h
      obtain rfl := (ba_iff _ _).1 h1
      exact Or.inr (Or.inl ⟨rfl, _, rfl⟩)
    rw [if_neg h1] at h
    by_cases h2 : ((⟨#[89]⟩ : ByteArray) == x) = true
    · rw [if_pos h2] at h
      cases h
      obtain rfl := (ba_iff _ _).1 h2
      exact Or.inr (Or.inr (Or.inl ⟨rfl, _, rfl⟩))
    rw [if_neg h2] at h
    cases h
  · have hE0 := hE
    have h := hE
    unfold tab76 at h
    by_cases h0 : ((⟨#[90]⟩ : ByteArray) == x) = true
    · rw [if_pos h0] at h
      cases h
    rw [if_neg h0] at h
    by_cases h1 : ((⟨#[88]⟩ : ByteArray) == x) = true
    · rw [if_pos h1] at h
      cases h
    rw [if_neg h1] at h
    by_cases h2 : ((⟨#[89]⟩ : ByteArray) == x) = true
    · rw [if_pos h2] at h
      cases h
    rw [if_neg h2] at h
    clear h
    exact Or.inr (Or.inr (Or.inr (⟨hE0, ⟨by simpa using h0, by simpa using h1, by simpa using h2⟩, rfl⟩)))
theorem fxy_76 {B cb td s nb : Nat} {w : World} {x : ByteArray} {E : Ent} (hE : tab76 x = some E) (h1 : B ≤ s) (hN : NatAt w nb 76 td) (h : Sx76 B cb td s w) : Calls Tryz.prog 14 #[.pointer (pt nb), .pointer (pt cb), .string x] w fun e w' => ∃ v, e = .returned (.tuple #[v, .bool true]) ∧ Fr B w w' ∧ Ix w' v E.zs false := by
  obtain ⟨mo, own, an, ch, ix, F, h⟩ := h
  refine (fix top76 (exOk _ _) h1 x hN h).mono ?_
  rintro e w' ⟨m, own', an', ch', ix', F', hf, hT, hA⟩
  rcases hA with ⟨E2, v, h2, rfl, hv⟩ | ⟨h2, rfl⟩
  · obtain rfl : E = E2 := by rw [hE] at h2; exact Option.some.inj h2
    exact ⟨v, rfl, hf, hv⟩
  · rw [hE] at h2; cases h2
theorem fxn_76 {B cb td s nb : Nat} {w : World} {x : ByteArray} (hE : tab76 x = none) (h1 : B ≤ s) (hN : NatAt w nb 76 td) (h : Sx76 B cb td s w) : Calls Tryz.prog 14 #[.pointer (pt nb), .pointer (pt cb), .string x] w fun e w' => e = .returned (.tuple #[.slice none 0 0, .bool false]) ∧ Fr B w w' := by
  obtain ⟨mo, own, an, ch, ix, F, h⟩ := h
  refine (fix top76 (exOk _ _) h1 x hN h).mono ?_
  rintro e w' ⟨m, own', an', ch', ix', F', hf, hT, hA⟩
  rcases hA with ⟨E2, v, h2, rfl, hv⟩ | ⟨h2, rfl⟩
  · rw [hE] at h2; cases h2
  · exact ⟨rfl, hf⟩
theorem te_76_Z : tab76 ⟨#[90]⟩ = some ⟨27, 14, false, true, [1]⟩ := by kernel_rfl
theorem fxk_76_Z {B cb td s nb : Nat} {w : World} (h1 : B ≤ s) (hN : NatAt w nb 76 td) (h : Sx76 B cb td s w) : Calls Tryz.prog 14 #[.pointer (pt nb), .pointer (pt cb), .string ⟨#[90]⟩] w fun e w' => ∃ gg cap, e = .returned (.tuple #[.slice (some ⟨gg, 0, none⟩) 1 cap, .bool true]) ∧ Fr B w w' ∧ w'.cell? ⟨gg, 0, none⟩ = some (.int .i64 1) := by
  refine (fxy_76 te_76_Z h1 hN h).mono ?_
  rintro e w' ⟨v, rfl, hf, hv⟩
  obtain ⟨gg, cap, rfl, h⟩ := ix1 hv
  exact ⟨gg, cap, rfl, hf, h⟩
theorem te_76_X : tab76 ⟨#[88]⟩ = some ⟨3, 2, true, false, [0, 0]⟩ := by kernel_rfl
theorem fxk_76_X {B cb td s nb : Nat} {w : World} (h1 : B ≤ s) (hN : NatAt w nb 76 td) (h : Sx76 B cb td s w) : Calls Tryz.prog 14 #[.pointer (pt nb), .pointer (pt cb), .string ⟨#[88]⟩] w fun e w' => ∃ gg cap, e = .returned (.tuple #[.slice (some ⟨gg, 0, none⟩) 2 cap, .bool true]) ∧ Fr B w w' ∧ w'.cell? ⟨gg, 0, none⟩ = some (.int .i64 0) ∧ w'.cell? ⟨gg, 1, none⟩ = some (.int .i64 0) := by
  refine (fxy_76 te_76_X h1 hN h).mono ?_
  rintro e w' ⟨v, rfl, hf, hv⟩
  obtain ⟨gg, cap, rfl, h⟩ := ix2 hv
  exact ⟨gg, cap, rfl, hf, h⟩
theorem te_76_Y : tab76 ⟨#[89]⟩ = some ⟨9, 24, false, false, [0, 1]⟩ := by kernel_rfl
theorem fxk_76_Y {B cb td s nb : Nat} {w : World} (h1 : B ≤ s) (hN : NatAt w nb 76 td) (h : Sx76 B cb td s w) : Calls Tryz.prog 14 #[.pointer (pt nb), .pointer (pt cb), .string ⟨#[89]⟩] w fun e w' => ∃ gg cap, e = .returned (.tuple #[.slice (some ⟨gg, 0, none⟩) 2 cap, .bool true]) ∧ Fr B w w' ∧ w'.cell? ⟨gg, 0, none⟩ = some (.int .i64 0) ∧ w'.cell? ⟨gg, 1, none⟩ = some (.int .i64 1) := by
  refine (fxy_76 te_76_Y h1 hN h).mono ?_
  rintro e w' ⟨v, rfl, hf, hv⟩
  obtain ⟨gg, cap, rfl, h⟩ := ix2 hv
  exact ⟨gg, cap, rfl, hf, h⟩
end Go.Proofs.YtpnifkpnapoeoaaGreatDoorBesrefl
