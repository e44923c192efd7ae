/-
  What the model says of struct type 209. No condition.
-/
import Derived.Test.YtdpgbmmgeooahaaGreatDoorBesreflTyBase
namespace Go.Proofs.YtdpgbmmgeooahaaGreatDoorBesrefl
open Go.RowKit
set_option maxRecDepth 100000
set_option maxHeartbeats 1000000
set_option linter.unusedVariables false
def fs209 : Nat → Fd
  | 0 => ⟨⟨#[70, 108, 97, 103]⟩, ⟨#[]⟩, 4, ⟨#[]⟩, 0, false, true, true, ⟨#[70, 108, 97, 103]⟩, 1, false, false⟩
  | 1 => ⟨⟨#[84, 97, 103, 115]⟩, ⟨#[]⟩, 74, ⟨#[]⟩, 8, false, true, true, ⟨#[84, 97, 103, 115]⟩, 23, false, false⟩
  | _ => ⟨⟨#[]⟩, ⟨#[]⟩, 0, ⟨#[]⟩, 0, false, false, false, ⟨#[]⟩, 0, false, false⟩
theorem fl0_209_0 (w : World) : (callFunc 160 #[.pointer (some ⟨4, 209, none⟩), .int .i64 (0 : Nat)]).run Tryz.prog w = .ok (.value (.agg (frec (fs209 0) (.slice (some ⟨w.heap.size, 0, none⟩) 1 1)))) ((w.alloc (.cells #[.int .i64 (0 : Nat)] 3)).freeze ⟨w.heap.size, 0, none⟩ 1) := by kernel_rfl
theorem fl_209_0 (w : World) : (callFunc 160 #[.pointer (some ⟨4, 209, none⟩), .int .i64 (0 : Nat)]).run Tryz.prog w = .ok (.value (.agg (frec (fs209 0) (.slice (some ⟨w.heap.size, 0, none⟩) 1 1)))) (w.alloc (.cells #[.int .i64 (0 : Nat)] 3 (0, 1))) := by rw [fl0_209_0, freeze_alloc]
theorem ie_209_0 (ix : Value) (w : World) : (callFunc 51 #[.agg (frec (fs209 0) ix)]).run Tryz.prog w = .ok (.value (.bool (fs209 0).exp)) w := by kernel_rfl
theorem fl0_209_1 (w : World) : (callFunc 160 #[.pointer (some ⟨4, 209, none⟩), .int .i64 (1 : Nat)]).run Tryz.prog w = .ok (.value (.agg (frec (fs209 1) (.slice (some ⟨w.heap.size, 0, none⟩) 1 1)))) ((w.alloc (.cells #[.int .i64 (1 : Nat)] 3)).freeze ⟨w.heap.size, 0, none⟩ 1) := by kernel_rfl
theorem fl_209_1 (w : World) : (callFunc 160 #[.pointer (some ⟨4, 209, none⟩), .int .i64 (1 : Nat)]).run Tryz.prog w = .ok (.value (.agg (frec (fs209 1) (.slice (some ⟨w.heap.size, 0, none⟩) 1 1)))) (w.alloc (.cells #[.int .i64 (1 : Nat)] 3 (0, 1))) := by rw [fl0_209_1, freeze_alloc]
theorem ie_209_1 (ix : Value) (w : World) : (callFunc 51 #[.agg (frec (fs209 1) ix)]).run Tryz.prog w = .ok (.value (.bool (fs209 1).exp)) w := by kernel_rfl
theorem mk_209 (w : World) : (Instr.makeMap 89 (some (.int .i64 (2 : Nat)))).run Tryz.prog w = .ok (.map (some w.heap.size)) (w.alloc (.map #[] 0)) := by kernel_rfl
theorem ty209 : TyFacts 209 2 fs209 where
  n0 := by decide
  n64 := by decide
  fld := by
    intro j hj w
    have hc : j = 0 ∨ j = 1 := by omega
    rcases hc with rfl | rfl
    · exact fl_209_0 w
    · exact fl_209_1 w
  iex := by
    intro j hj ix w
    have hc : j = 0 ∨ j = 1 := by omega
    rcases hc with rfl | rfl
    · exact ie_209_0 ix w
    · exact ie_209_1 ix w
  fnm := by
    intro j hj he w
    have hc : j = 0 ∨ j = 1 := by omega
    rcases hc with rfl | rfl
    · exact (fn_plain _ w).mono fun e w' ⟨h1, h2⟩ => ⟨h1, 0, h2.symm⟩
    · exact (fn_plain _ w).mono fun e w' ⟨h1, h2⟩ => ⟨h1, 0, h2.symm⟩
  key := by
    intro j hj hv
    have hc : j = 0 ∨ j = 1 := by omega
    rcases hc with rfl | rfl
    · exact keyne (l := [70, 108, 97, 103]) rfl
    · exact keyne (l := [84, 97, 103, 115]) rfl
  mkm := mk_209
def tab209 (x : ByteArray) : Option Ent :=
  if ((⟨#[70, 108, 97, 103]⟩ : ByteArray) == x) = true then some ⟨4, 1, false, false, [0]⟩ else
  if ((⟨#[84, 97, 103, 115]⟩ : ByteArray) == x) = true then some ⟨74, 23, false, false, [1]⟩ else
  none
theorem tb209_0 : tab209 (fs209 0).key = some ⟨(fs209 0).t, (fs209 0).k, (fs209 0).i, (fs209 0).f, [((0 : Nat) : Int)]⟩ := by kernel_rfl
theorem tb209_1 : tab209 (fs209 1).key = some ⟨(fs209 1).t, (fs209 1).k, (fs209 1).i, (fs209 1).f, [((1 : Nat) : Int)]⟩ := by kernel_rfl
theorem leaf209 : LeafFacts 209 2 fs209 tab209 where
  toTyFacts := ty209
  tk := by
    intro j hj he hv
    have hc : j = 0 ∨ j = 1 := by omega
    rcases hc with rfl | rfl
    · exact tb209_0
    · exact tb209_1
  emb := by
    intro j hj
    have hc : j = 0 ∨ j = 1 := by omega
    rcases hc with rfl | rfl
    all_goals rfl
  ft := by
    intro j hj he hv c w
    have hc : j = 0 ∨ j = 1 := by omega
    rcases hc with rfl | rfl
    · exact from_4 c w
    · exact from_74 c w
  rng := by
    intro x E h
    unfold tab209 at h
    by_cases h0 : ((⟨#[70, 108, 97, 103]⟩ : ByteArray) == x) = true
    · rw [if_pos h0] at h
      exact ⟨0, by decide, rfl, rfl, (ba_iff _ _).1 h0⟩
    rw [if_neg h0] at h
    by_cases h1 : ((⟨#[84, 97, 103, 115]⟩ : ByteArray) == x) = true
    · rw [if_pos h1] at h
      exact ⟨1, by decide, rfl, rfl, (ba_iff _ _).1 h1⟩
    rw [if_neg h1] at h
    cases h
  zs := by
    intro x E h
    unfold tab209 at h
    by_cases h0 : ((⟨#[70, 108, 97, 103]⟩ : ByteArray) == x) = true
    · rw [if_pos h0] at h
      cases h
      exact ⟨by simp, by decide⟩
    rw [if_neg h0] at h
    by_cases h1 : ((⟨#[84, 97, 103, 115]⟩ : ByteArray) == x) = true
    · rw [if_pos h1] at h
      cases h
      exact ⟨by simp, by decide⟩
    rw [if_neg h1] at h
    cases h
end Go.Proofs.YtdpgbmmgeooahaaGreatDoorBesrefl
