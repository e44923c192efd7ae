/-
  The Nature of a struct type, on a fresh Cache and again. No condition.
-/
import Derived.Test.YtpnifkpnapoeoaaGreatDoorBesreflG5
import Derived.StillTailTactics
import Derived.Deep.RegionHeld3
import Derived.Deep.RegionLaw
import Derived.Deep.RegionLawGrows
import Derived.Deep.AppendLies
import Derived.Deep.Cut
import Derived.Deep.CutRange
import Derived.Deep.RegionWith
import Derived.Lib.Hide
import Derived.Deep.LoopGhost
import Derived.Deep.DeepCutAuto
namespace Go.Proofs.YtpnifkpnapoeoaaGreatDoorBesrefl
open Go.RowKit
set_option maxRecDepth 100000
set_option maxHeartbeats 1000000
set_option linter.unusedVariables false
abbrev zcs : Array Value := #[.nilIface, .int .u64 0, .pointer none, .pointer none, .bool false, .bool false, .bool false, .bool false, .bool false]
/-- what a function hands on that gets the Nature of a struct type from another (z: its own result's block) -/
def Thr (T z : Nat) (Q : Nat → World → Prop) (e : Ending) (w' : World) : Prop := ∃ td w1, e = .returned (.agg (natc T 25 (pt td) false false)) ∧ Q td w1 ∧ Tw z w1 w' ∧ ∀ (B0 : Nat) (w0 : World), Fr B0 w0 w1 → w0.heap.size ≤ z → Fr B0 w0 w'
theorem ft_thr2 (t cb : Nat) (hk : ∀ w : World, (callFunc 167 #[.pointer (some ⟨4, t, none⟩)]).run Tryz.prog w = .ok (.value (.int .u64 25)) w) (w : World) (Q : Nat → World → Prop)
    (hGS : Calls Tryz.prog 33 #[.pointer (pt cb), .iface 105 (.pointer (some ⟨4, t, none⟩))] (w.alloc (.cells zcs 48)) fun e w1 => ∃ td, e = .returned (.agg (natc t 25 (pt td) false false)) ∧ Q td w1 ∧ ∃ B0, Fr B0 (w.alloc (.cells zcs 48)) w1) :
    Calls Tryz.prog 31 #[.pointer (pt cb), .iface 105 (.pointer (some ⟨4, t, none⟩))] w (Thr t w.heap.size Q) := by
  refine (ft_thr t cb hk w (fun td w1 => Q td w1 ∧ w1.heap[w.heap.size]? = some (.cells zcs 48 (0, 0))) (hGS.mono ?_)).mono ?_
  · rintro e w1 ⟨td, rfl, hQ, B0, hf⟩
    have h := hf.kept _ _ (heap_alloc_new w _) rfl
    exact ⟨td, rfl, ⟨hQ, h⟩, h⟩
  · rintro e w' ⟨td, w1, rfl, ⟨hQ, h⟩, hb, hfr⟩
    exact ⟨td, w1, rfl, hQ, ⟨hb, _, _, h⟩, hfr⟩
section
variable {B cb tdt s T n : Nat} {fs : Nat → Fd} {tab : ByteArray → Option Ent} {kT : Nat → Nat} {kK : Nat → Int} {ks : List Kid} {ex : (ByteArray → Option Value) → Option Addr → Prop} {mo : Option Nat} {own : Nat} {an : Int} {ch : Option Addr} {ix : Value} {F : ByteArray → Option Value} {w : World}
/-- what is handed back on a fresh Cache -/
def First (B cb T n : Nat) (fs : Nat → Fd) (tab : ByteArray → Option Ent) (ks : List Kid) (ex : (ByteArray → Option Value) → Option Addr → Prop) (w : World) (e : Ending) (w' : World) : Prop :=
  ∃ tdt s, e = .returned (.agg (natc T 25 (pt tdt) false false)) ∧ Fr B w w' ∧ B ≤ s ∧ Top B cb tdt s T n fs tab ks ex none 0 (-1) none (.slice none 0 0) (fun _ => none) w'
def Again (B cb tdt s T n : Nat) (fs : Nat → Fd) (tab : ByteArray → Option Ent) (ks : List Kid) (ex : (ByteArray → Option Value) → Option Addr → Prop) (mo : Option Nat) (own : Nat) (an : Int) (ch : Option Addr) (ix : Value) (F : ByteArray → Option Value) (w : World) (e : Ending) (w' : World) : Prop :=
  e = .returned (.agg (natc T 25 (pt tdt) false false)) ∧ Fr B w w' ∧ Top B cb tdt s T n fs tab ks ex mo own an ch ix F w'
theorem Ca.alloc {x : Option Nat} (h : Ca w cb x) (o : Obj) : Ca (w.alloc o) cb x := (Below.heap_alloc w o cb h.lt).trans h
/-- from what is called to what is handed on -/
theorem thr_first {f f2 : Nat} {args args2 : Array Value} (hBw : B ≤ w.heap.size)
    (h : ∀ Q : Nat → World → Prop, (Calls Tryz.prog f args (w.alloc (.cells zcs 48)) fun e w1 => ∃ td, e = .returned (.agg (natc T 25 (pt td) false false)) ∧ Q td w1 ∧ ∃ B0, Fr B0 (w.alloc (.cells zcs 48)) w1) → Calls Tryz.prog f2 args2 w (Thr T w.heap.size Q))
    (hc : Calls Tryz.prog f args (w.alloc (.cells zcs 48)) (First B cb T n fs tab ks ex (w.alloc (.cells zcs 48)))) : Calls Tryz.prog f2 args2 w (First B cb T n fs tab ks ex w) := by
  refine (h (fun td w1 => ∃ s, Fr B (w.alloc (.cells zcs 48)) w1 ∧ B ≤ s ∧ Top B cb td s T n fs tab ks ex none 0 (-1) none (.slice none 0 0) (fun _ => none) w1) (hc.mono ?_)).mono ?_
  · rintro e w1 ⟨td, s, rfl, hf, hB, hT⟩
    exact ⟨td, rfl, ⟨s, hf, hB, hT⟩, B, hf⟩
  · rintro e w' ⟨td, w1, rfl, ⟨s, hf, hB, hT⟩, ht, hfr⟩
    exact ⟨td, s, rfl, hfr B w (((Fr.refl B w hBw).alloc _).trans hf) (Nat.le_refl _), hB, hT.tw ht⟩
theorem thr_again {f f2 : Nat} {args args2 : Array Value} (hBw : B ≤ w.heap.size)
    (h : ∀ Q : Nat → World → Prop, (Calls Tryz.prog f args (w.alloc (.cells zcs 48)) fun e w1 => ∃ td, e = .returned (.agg (natc T 25 (pt td) false false)) ∧ Q td w1 ∧ ∃ B0, Fr B0 (w.alloc (.cells zcs 48)) w1) → Calls Tryz.prog f2 args2 w (Thr T w.heap.size Q))
    (hc : Calls Tryz.prog f args (w.alloc (.cells zcs 48)) (Again B cb tdt s T n fs tab ks ex mo own an ch ix F (w.alloc (.cells zcs 48)))) : Calls Tryz.prog f2 args2 w (Again B cb tdt s T n fs tab ks ex mo own an ch ix F w) := by
  refine (h (fun td w1 => td = tdt ∧ Fr B (w.alloc (.cells zcs 48)) w1 ∧ Top B cb tdt s T n fs tab ks ex mo own an ch ix F w1) (hc.mono ?_)).mono ?_
  · rintro e w1 ⟨rfl, hf, hT⟩
    exact ⟨tdt, rfl, ⟨rfl, hf, hT⟩, B, hf⟩
  · rintro e w' ⟨td, w1, rfl, ⟨rfl, hf, hT⟩, ht, hfr⟩
    exact ⟨rfl, hfr B w (((Fr.refl B w hBw).alloc _).trans hf) (Nat.le_refl _), hT.tw ht⟩
theorem ftop_first (TF : TopFacts T n fs tab kT kK ks) (EX : ExOk n fs ex) (hk : ∀ w : World, (callFunc 167 #[.pointer (some ⟨4, T, none⟩)]).run Tryz.prog w = .ok (.value (.int .u64 25)) w) (hnf : ∀ w : World, (callFunc 173 #[.pointer (some ⟨4, T, none⟩)]).run Tryz.prog w = .ok (.value (.int .i64 (n : Nat))) w)
    (hC : Ca w cb none) (hB : B ≤ cb) (hBw : B ≤ w.heap.size) : Calls Tryz.prog 31 #[.pointer (pt cb), .iface 105 (.pointer (some ⟨4, T, none⟩))] w (First B cb T n fs tab ks ex w) :=
  thr_first hBw (ft_thr2 T cb hk w) ((top_first TF EX hnf (hC.alloc _) hB (by simp; omega)).mono fun e w' ⟨td, s, h1, h2, _, h3, h4⟩ => ⟨td, s, h1, h2, h3, h4⟩)
theorem ftop_again (hk : ∀ w : World, (callFunc 167 #[.pointer (some ⟨4, T, none⟩)]).run Tryz.prog w = .ok (.value (.int .u64 25)) w) (h : Top B cb tdt s T n fs tab ks ex mo own an ch ix F w) :
    Calls Tryz.prog 31 #[.pointer (pt cb), .iface 105 (.pointer (some ⟨4, T, none⟩))] w (Again B cb tdt s T n fs tab ks ex mo own an ch ix F w) :=
  thr_again h.low (ft_thr2 T cb hk w) ((top_again (h.alloc _)).mono fun e w' ⟨h1, h2, _, h4⟩ => ⟨h1, h2, h4⟩)
end
end Go.Proofs.YtpnifkpnapoeoaaGreatDoorBesrefl
