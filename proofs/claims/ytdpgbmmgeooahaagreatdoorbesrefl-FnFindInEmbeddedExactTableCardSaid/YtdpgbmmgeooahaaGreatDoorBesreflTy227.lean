/-
  What the model says of struct type 227. No condition.
-/
import Derived.Test.YtdpgbmmgeooahaaGreatDoorBesreflTyBase
namespace Go.Proofs.YtdpgbmmgeooahaaGreatDoorBesrefl
open Go.RowKit
set_option maxRecDepth 100000
set_option maxHeartbeats 1000000
set_option linter.unusedVariables false
def fs227 : Nat → Fd
  | 0 => ⟨⟨#[68]⟩, ⟨#[]⟩, 3, ⟨#[]⟩, 0, false, true, true, ⟨#[68]⟩, 2, true, false⟩
  | 1 => ⟨⟨#[69]⟩, ⟨#[]⟩, 3, ⟨#[101, 120, 112, 114, 58, 34, 45, 34]⟩, 8, false, true, false, ⟨#[]⟩, 2, true, false⟩
  | _ => ⟨⟨#[]⟩, ⟨#[]⟩, 0, ⟨#[]⟩, 0, false, false, false, ⟨#[]⟩, 0, false, false⟩
theorem fl0_227_0 (w : World) : (callFunc 160 #[.pointer (some ⟨4, 227, none⟩), .int .i64 (0 : Nat)]).run Tryz.prog w = .ok (.value (.agg (frec (fs227 0) (.slice (some ⟨w.heap.size, 0, none⟩) 1 1)))) ((w.alloc (.cells #[.int .i64 (0 : Nat)] 3)).freeze ⟨w.heap.size, 0, none⟩ 1) := by kernel_rfl
theorem fl_227_0 (w : World) : (callFunc 160 #[.pointer (some ⟨4, 227, none⟩), .int .i64 (0 : Nat)]).run Tryz.prog w = .ok (.value (.agg (frec (fs227 0) (.slice (some ⟨w.heap.size, 0, none⟩) 1 1)))) (w.alloc (.cells #[.int .i64 (0 : Nat)] 3 (0, 1))) := by rw [fl0_227_0, freeze_alloc]
theorem ie_227_0 (ix : Value) (w : World) : (callFunc 51 #[.agg (frec (fs227 0) ix)]).run Tryz.prog w = .ok (.value (.bool (fs227 0).exp)) w := by kernel_rfl
theorem fl0_227_1 (w : World) : (callFunc 160 #[.pointer (some ⟨4, 227, none⟩), .int .i64 (1 : Nat)]).run Tryz.prog w = .ok (.value (.agg (frec (fs227 1) (.slice (some ⟨w.heap.size, 0, none⟩) 1 1)))) ((w.alloc (.cells #[.int .i64 (1 : Nat)] 3)).freeze ⟨w.heap.size, 0, none⟩ 1) := by kernel_rfl
theorem fl_227_1 (w : World) : (callFunc 160 #[.pointer (some ⟨4, 227, none⟩), .int .i64 (1 : Nat)]).run Tryz.prog w = .ok (.value (.agg (frec (fs227 1) (.slice (some ⟨w.heap.size, 0, none⟩) 1 1)))) (w.alloc (.cells #[.int .i64 (1 : Nat)] 3 (0, 1))) := by rw [fl0_227_1, freeze_alloc]
theorem ie_227_1 (ix : Value) (w : World) : (callFunc 51 #[.agg (frec (fs227 1) ix)]).run Tryz.prog w = .ok (.value (.bool (fs227 1).exp)) w := by kernel_rfl
theorem mk_227 (w : World) : (Instr.makeMap 89 (some (.int .i64 (2 : Nat)))).run Tryz.prog w = .ok (.map (some w.heap.size)) (w.alloc (.map #[] 0)) := by kernel_rfl
theorem ty227 : TyFacts 227 2 fs227 where
  n0 := by decide
  n64 := by decide
  fld := by
    intro j hj w
    have hc : j = 0 ∨ j = 1 := by omega
    rcases hc with rfl | rfl
    · exact fl_227_0 w
    · exact fl_227_1 w
  iex := by
    intro j hj ix w
    have hc : j = 0 ∨ j = 1 := by omega
    rcases hc with rfl | rfl
    · exact ie_227_0 ix w
    · exact ie_227_1 ix w
  fnm := by
    intro j hj he w
    have hc : j = 0 ∨ j = 1 := by omega
    rcases hc with rfl | rfl
    · exact (fn_plain _ w).mono fun e w' ⟨h1, h2⟩ => ⟨h1, 0, h2.symm⟩
    · exact fn_m _ w
  key := by
    intro j hj hv
    have hc : j = 0 ∨ j = 1 := by omega
    rcases hc with rfl | rfl
    · exact keyne (l := [68]) rfl
    · cases hv
  mkm := mk_227
def tab227 (x : ByteArray) : Option Ent :=
  if ((⟨#[68]⟩ : ByteArray) == x) = true then some ⟨3, 2, true, false, [0]⟩ else
  none
theorem tb227_0 : tab227 (fs227 0).key = some ⟨(fs227 0).t, (fs227 0).k, (fs227 0).i, (fs227 0).f, [((0 : Nat) : Int)]⟩ := by kernel_rfl
theorem leaf227 : LeafFacts 227 2 fs227 tab227 where
  toTyFacts := ty227
  tk := by
    intro j hj he hv
    have hc : j = 0 ∨ j = 1 := by omega
    rcases hc with rfl | rfl
    · exact tb227_0
    · cases hv
  emb := by
    intro j hj
    have hc : j = 0 ∨ j = 1 := by omega
    rcases hc with rfl | rfl
    all_goals rfl
  ft := by
    intro j hj he hv c w
    have hc : j = 0 ∨ j = 1 := by omega
    rcases hc with rfl | rfl
    · exact from_3 c w
    · cases hv
  rng := by
    intro x E h
    unfold tab227 at h
    by_cases h0 : ((⟨#[68]⟩ : ByteArray) == x) = true
    · rw [if_pos h0] at h
      exact ⟨0, by decide, rfl, rfl, (ba_iff _ _).1 h0⟩
    rw [if_neg h0] at h
    cases h
  zs := by
    intro x E h
    unfold tab227 at h
    by_cases h0 : ((⟨#[68]⟩ : ByteArray) == x) = true
    · rw [if_pos h0] at h
      cases h
      exact ⟨by simp, by decide⟩
    rw [if_neg h0] at h
    cases h
end Go.Proofs.YtdpgbmmgeooahaaGreatDoorBesrefl
