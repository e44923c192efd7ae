/-
  What the model says of struct type 51. No condition.
-/
import Derived.Test.YtdpgbmmgeooahaaGreatDoorBesreflTyBase
namespace Go.Proofs.YtdpgbmmgeooahaaGreatDoorBesrefl
open Go.RowKit
set_option maxRecDepth 100000
set_option maxHeartbeats 1000000
set_option linter.unusedVariables false
def fs51 : Nat → Fd
  | 0 => ⟨⟨#[68, 101, 101, 112]⟩, ⟨#[]⟩, 3, ⟨#[]⟩, 0, false, true, true, ⟨#[68, 101, 101, 112]⟩, 2, true, false⟩
  | 1 => ⟨⟨#[83, 104, 97, 114, 101, 100]⟩, ⟨#[]⟩, 9, ⟨#[]⟩, 8, false, true, true, ⟨#[83, 104, 97, 114, 101, 100]⟩, 24, false, false⟩
  | 2 => ⟨⟨#[104, 105, 100, 100, 101, 110]⟩, ⟨#[103, 105, 116, 104, 117, 98, 46, 99, 111, 109, 47, 101, 120, 112, 114, 45, 108, 97, 110, 103, 47, 101, 120, 112, 114, 47, 110, 48, 48, 51, 95, 56, 52]⟩, 3, ⟨#[]⟩, 24, false, false, false, ⟨#[]⟩, 2, true, false⟩
  | _ => ⟨⟨#[]⟩, ⟨#[]⟩, 0, ⟨#[]⟩, 0, false, false, false, ⟨#[]⟩, 0, false, false⟩
theorem fl0_51_0 (w : World) : (callFunc 160 #[.pointer (some ⟨4, 51, none⟩), .int .i64 (0 : Nat)]).run Tryz.prog w = .ok (.value (.agg (frec (fs51 0) (.slice (some ⟨w.heap.size, 0, none⟩) 1 1)))) ((w.alloc (.cells #[.int .i64 (0 : Nat)] 3)).freeze ⟨w.heap.size, 0, none⟩ 1) := by kernel_rfl
theorem fl_51_0 (w : World) : (callFunc 160 #[.pointer (some ⟨4, 51, none⟩), .int .i64 (0 : Nat)]).run Tryz.prog w = .ok (.value (.agg (frec (fs51 0) (.slice (some ⟨w.heap.size, 0, none⟩) 1 1)))) (w.alloc (.cells #[.int .i64 (0 : Nat)] 3 (0, 1))) := by rw [fl0_51_0, freeze_alloc]
theorem ie_51_0 (ix : Value) (w : World) : (callFunc 51 #[.agg (frec (fs51 0) ix)]).run Tryz.prog w = .ok (.value (.bool (fs51 0).exp)) w := by kernel_rfl
theorem fl0_51_1 (w : World) : (callFunc 160 #[.pointer (some ⟨4, 51, none⟩), .int .i64 (1 : Nat)]).run Tryz.prog w = .ok (.value (.agg (frec (fs51 1) (.slice (some ⟨w.heap.size, 0, none⟩) 1 1)))) ((w.alloc (.cells #[.int .i64 (1 : Nat)] 3)).freeze ⟨w.heap.size, 0, none⟩ 1) := by kernel_rfl
theorem fl_51_1 (w : World) : (callFunc 160 #[.pointer (some ⟨4, 51, none⟩), .int .i64 (1 : Nat)]).run Tryz.prog w = .ok (.value (.agg (frec (fs51 1) (.slice (some ⟨w.heap.size, 0, none⟩) 1 1)))) (w.alloc (.cells #[.int .i64 (1 : Nat)] 3 (0, 1))) := by rw [fl0_51_1, freeze_alloc]
theorem ie_51_1 (ix : Value) (w : World) : (callFunc 51 #[.agg (frec (fs51 1) ix)]).run Tryz.prog w = .ok (.value (.bool (fs51 1).exp)) w := by kernel_rfl
theorem fl0_51_2 (w : World) : (callFunc 160 #[.pointer (some ⟨4, 51, none⟩), .int .i64 (2 : Nat)]).run Tryz.prog w = .ok (.value (.agg (frec (fs51 2) (.slice (some ⟨w.heap.size, 0, none⟩) 1 1)))) ((w.alloc (.cells #[.int .i64 (2 : Nat)] 3)).freeze ⟨w.heap.size, 0, none⟩ 1) := by kernel_rfl
theorem fl_51_2 (w : World) : (callFunc 160 #[.pointer (some ⟨4, 51, none⟩), .int .i64 (2 : Nat)]).run Tryz.prog w = .ok (.value (.agg (frec (fs51 2) (.slice (some ⟨w.heap.size, 0, none⟩) 1 1)))) (w.alloc (.cells #[.int .i64 (2 : Nat)] 3 (0, 1))) := by rw [fl0_51_2, freeze_alloc]
theorem ie_51_2 (ix : Value) (w : World) : (callFunc 51 #[.agg (frec (fs51 2) ix)]).run Tryz.prog w = .ok (.value (.bool (fs51 2).exp)) w := by kernel_rfl
theorem mk_51 (w : World) : (Instr.makeMap 89 (some (.int .i64 (3 : Nat)))).run Tryz.prog w = .ok (.map (some w.heap.size)) (w.alloc (.map #[] 0)) := by kernel_rfl
theorem ty51 : TyFacts 51 3 fs51 where
  n0 := by decide
  n64 := by decide
  fld := by
    intro j hj w
    have hc : j = 0 ∨ j = 1 ∨ j = 2 := by omega
    rcases hc with rfl | rfl | rfl
    · exact fl_51_0 w
    · exact fl_51_1 w
    · exact fl_51_2 w
  iex := by
    intro j hj ix w
    have hc : j = 0 ∨ j = 1 ∨ j = 2 := by omega
    rcases hc with rfl | rfl | rfl
    · exact ie_51_0 ix w
    · exact ie_51_1 ix w
    · exact ie_51_2 ix w
  fnm := by
    intro j hj he w
    have hc : j = 0 ∨ j = 1 ∨ j = 2 := by omega
    rcases hc with rfl | rfl | rfl
    · exact (fn_plain _ w).mono fun e w' ⟨h1, h2⟩ => ⟨h1, 0, h2.symm⟩
    · exact (fn_plain _ w).mono fun e w' ⟨h1, h2⟩ => ⟨h1, 0, h2.symm⟩
    · cases he
  key := by
    intro j hj hv
    have hc : j = 0 ∨ j = 1 ∨ j = 2 := by omega
    rcases hc with rfl | rfl | rfl
    · exact keyne (l := [68, 101, 101, 112]) rfl
    · exact keyne (l := [83, 104, 97, 114, 101, 100]) rfl
    · cases hv
  mkm := mk_51
def tab51 (x : ByteArray) : Option Ent :=
  if ((⟨#[68, 101, 101, 112]⟩ : ByteArray) == x) = true then some ⟨3, 2, true, false, [0]⟩ else
  if ((⟨#[83, 104, 97, 114, 101, 100]⟩ : ByteArray) == x) = true then some ⟨9, 24, false, false, [1]⟩ else
  none
theorem tb51_0 : tab51 (fs51 0).key = some ⟨(fs51 0).t, (fs51 0).k, (fs51 0).i, (fs51 0).f, [((0 : Nat) : Int)]⟩ := by kernel_rfl
theorem tb51_1 : tab51 (fs51 1).key = some ⟨(fs51 1).t, (fs51 1).k, (fs51 1).i, (fs51 1).f, [((1 : Nat) : Int)]⟩ := by kernel_rfl
theorem leaf51 : LeafFacts 51 3 fs51 tab51 where
  toTyFacts := ty51
  tk := by
    intro j hj he hv
    have hc : j = 0 ∨ j = 1 ∨ j = 2 := by omega
    rcases hc with rfl | rfl | rfl
    · exact tb51_0
    · exact tb51_1
    · cases he
  emb := by
    intro j hj
    have hc : j = 0 ∨ j = 1 ∨ j = 2 := by omega
    rcases hc with rfl | rfl | rfl
    all_goals rfl
  ft := by
    intro j hj he hv c w
    have hc : j = 0 ∨ j = 1 ∨ j = 2 := by omega
    rcases hc with rfl | rfl | rfl
    · exact from_3 c w
    · exact from_9 c w
    · cases he
  rng := by
    intro x E h
    unfold tab51 at h
    by_cases h0 : ((⟨#[68, 101, 101, 112]⟩ : ByteArray) == x) = true
    · rw [if_pos h0] at h
      exact ⟨0, by decide, rfl, rfl, (ba_iff _ _).1 h0⟩
    rw [if_neg h0] at h
    by_cases h1 : ((⟨#[83, 104, 97, 114, 101, 100]⟩ : ByteArray) == x) = true
    · rw [if_pos h1] at h
      exact ⟨1, by decide, rfl, rfl, (ba_iff _ _).1 h1⟩
    rw [if_neg h1] at h
    cases h
  zs := by
    intro x E h
    unfold tab51 at h
    by_cases h0 : ((⟨#[68, 101, 101, 112]⟩ : ByteArray) == x) = true
    · rw [if_pos h0] at h
      cases h
      exact ⟨by simp, by decide⟩
    rw [if_neg h0] at h
    by_cases h1 : ((⟨#[83, 104, 97, 114, 101, 100]⟩ : ByteArray) == x) = true
    · rw [if_pos h1] at h
      cases h
      exact ⟨by simp, by decide⟩
    rw [if_neg h1] at h
    cases h
end Go.Proofs.YtdpgbmmgeooahaaGreatDoorBesrefl
