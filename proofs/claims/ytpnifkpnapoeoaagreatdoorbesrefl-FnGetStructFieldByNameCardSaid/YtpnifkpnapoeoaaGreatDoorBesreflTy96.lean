/-
  What the model says of struct type 96. No condition.
-/
import Derived.Test.YtpnifkpnapoeoaaGreatDoorBesreflTyBase
namespace Go.Proofs.YtpnifkpnapoeoaaGreatDoorBesrefl
open Go.RowKit
set_option maxRecDepth 100000
set_option maxHeartbeats 1000000
set_option linter.unusedVariables false
def fs96 : Nat → Fd
  | 0 => ⟨⟨#[67]⟩, ⟨#[]⟩, 3, ⟨#[]⟩, 0, false, true, true, ⟨#[67]⟩, 2, true, false⟩
  | 1 => ⟨⟨#[68]⟩, ⟨#[]⟩, 9, ⟨#[]⟩, 8, false, true, true, ⟨#[68]⟩, 24, false, false⟩
  | _ => ⟨⟨#[]⟩, ⟨#[]⟩, 0, ⟨#[]⟩, 0, false, false, false, ⟨#[]⟩, 0, false, false⟩
theorem fl0_96_0 (w : World) : (callFunc 156 #[.pointer (some ⟨4, 96, none⟩), .int .i64 (0 : Nat)]).run Tryz.prog w = .ok (.value (.agg (frec (fs96 0) (.slice (some ⟨w.heap.size, 0, none⟩) 1 1)))) ((w.alloc (.cells #[.int .i64 (0 : Nat)] 3)).freeze ⟨w.heap.size, 0, none⟩ 1) := by kernel_rfl
theorem fl_96_0 (w : World) : (callFunc 156 #[.pointer (some ⟨4, 96, none⟩), .int .i64 (0 : Nat)]).run Tryz.prog w = .ok (.value (.agg (frec (fs96 0) (.slice (some ⟨w.heap.size, 0, none⟩) 1 1)))) (w.alloc (.cells #[.int .i64 (0 : Nat)] 3 (0, 1))) := by rw [fl0_96_0, freeze_alloc]
theorem ie_96_0 (ix : Value) (w : World) : (callFunc 44 #[.agg (frec (fs96 0) ix)]).run Tryz.prog w = .ok (.value (.bool (fs96 0).exp)) w := by kernel_rfl
theorem fl0_96_1 (w : World) : (callFunc 156 #[.pointer (some ⟨4, 96, none⟩), .int .i64 (1 : Nat)]).run Tryz.prog w = .ok (.value (.agg (frec (fs96 1) (.slice (some ⟨w.heap.size, 0, none⟩) 1 1)))) ((w.alloc (.cells #[.int .i64 (1 : Nat)] 3)).freeze ⟨w.heap.size, 0, none⟩ 1) := by kernel_rfl
theorem fl_96_1 (w : World) : (callFunc 156 #[.pointer (some ⟨4, 96, none⟩), .int .i64 (1 : Nat)]).run Tryz.prog w = .ok (.value (.agg (frec (fs96 1) (.slice (some ⟨w.heap.size, 0, none⟩) 1 1)))) (w.alloc (.cells #[.int .i64 (1 : Nat)] 3 (0, 1))) := by rw [fl0_96_1, freeze_alloc]
theorem ie_96_1 (ix : Value) (w : World) : (callFunc 44 #[.agg (frec (fs96 1) ix)]).run Tryz.prog w = .ok (.value (.bool (fs96 1).exp)) w := by kernel_rfl
theorem mk_96 (w : World) : (Instr.makeMap 100 (some (.int .i64 (2 : Nat)))).run Tryz.prog w = .ok (.map (some w.heap.size)) (w.alloc (.map #[] 0)) := by kernel_rfl
theorem ty96 : TyFacts 96 2 fs96 where
  n0 := by decide
  n64 := by decide
  fld := by
    intro j hj w
    have hc : j = 0 ∨ j = 1 := by omega
    rcases hc with rfl | rfl
    · exact fl_96_0 w
    · exact fl_96_1 w
  iex := by
    intro j hj ix w
    have hc : j = 0 ∨ j = 1 := by omega
    rcases hc with rfl | rfl
    · exact ie_96_0 ix w
    · exact ie_96_1 ix w
  fnm := by
    intro j hj he w
    have hc : j = 0 ∨ j = 1 := by omega
    rcases hc with rfl | rfl
    · exact (fn_plain _ w).mono fun e w' ⟨h1, h2⟩ => ⟨h1, 0, h2.symm⟩
    · exact (fn_plain _ w).mono fun e w' ⟨h1, h2⟩ => ⟨h1, 0, h2.symm⟩
  key := by
    intro j hj hv
    have hc : j = 0 ∨ j = 1 := by omega
    rcases hc with rfl | rfl
    · exact keyne (l := [67]) rfl
    · exact keyne (l := [68]) rfl
  mkm := mk_96
def tab96 (x : ByteArray) : Option Ent :=
  if ((⟨#[67]⟩ : ByteArray) == x) = true then some ⟨3, 2, true, false, [0]⟩ else
  if ((⟨#[68]⟩ : ByteArray) == x) = true then some ⟨9, 24, false, false, [1]⟩ else
  none
theorem tb96_0 : tab96 (fs96 0).key = some ⟨(fs96 0).t, (fs96 0).k, (fs96 0).i, (fs96 0).f, [((0 : Nat) : Int)]⟩ := by kernel_rfl
theorem tb96_1 : tab96 (fs96 1).key = some ⟨(fs96 1).t, (fs96 1).k, (fs96 1).i, (fs96 1).f, [((1 : Nat) : Int)]⟩ := by kernel_rfl
theorem leaf96 : LeafFacts 96 2 fs96 tab96 where
  toTyFacts := ty96
  tk := by
    intro j hj he hv
    have hc : j = 0 ∨ j = 1 := by omega
    rcases hc with rfl | rfl
    · exact tb96_0
    · exact tb96_1
  emb := by
    intro j hj
    have hc : j = 0 ∨ j = 1 := by omega
    rcases hc with rfl | rfl
    all_goals rfl
  ft := by
    intro j hj he hv c w
    have hc : j = 0 ∨ j = 1 := by omega
    rcases hc with rfl | rfl
    · exact from_3 c w
    · exact from_9 c w
  rng := by
    intro x E h
    unfold tab96 at h
    by_cases h0 : ((⟨#[67]⟩ : ByteArray) == x) = true
    · rw [if_pos h0] at h
      exact ⟨0, by decide, rfl, rfl, (ba_iff _ _).1 h0⟩
    rw [if_neg h0] at h
    by_cases h1 : ((⟨#[68]⟩ : ByteArray) == x) = true
    · rw [if_pos h1] at h
      exact ⟨1, by decide, rfl, rfl, (ba_iff _ _).1 h1⟩
    rw [if_neg h1] at h
    cases h
  zs := by
    intro x E h
    unfold tab96 at h
    by_cases h0 : ((⟨#[67]⟩ : ByteArray) == x) = true
    · rw [if_pos h0] at h
      cases h
      exact ⟨by simp, by decide⟩
    rw [if_neg h0] at h
    by_cases h1 : ((⟨#[68]⟩ : ByteArray) == x) = true
    · rw [if_pos h1] at h
      cases h
      exact ⟨by simp, by decide⟩
    rw [if_neg h1] at h
    cases h
end Go.Proofs.YtpnifkpnapoeoaaGreatDoorBesrefl
