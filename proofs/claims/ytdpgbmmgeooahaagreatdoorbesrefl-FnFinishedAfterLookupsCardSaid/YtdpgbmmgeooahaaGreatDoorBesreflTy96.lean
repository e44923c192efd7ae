/-
  What the model says of struct type 96. No condition.
-/
import Derived.Test.YtdpgbmmgeooahaaGreatDoorBesreflTyBase
namespace Go.Proofs.YtdpgbmmgeooahaaGreatDoorBesrefl
open Go.RowKit
set_option maxRecDepth 100000
set_option maxHeartbeats 1000000
set_option linter.unusedVariables false
def fs96 : Nat → Fd
  | 0 => ⟨⟨#[88]⟩, ⟨#[]⟩, 3, ⟨#[]⟩, 0, false, true, true, ⟨#[88]⟩, 2, true, false⟩
  | 1 => ⟨⟨#[89]⟩, ⟨#[]⟩, 9, ⟨#[]⟩, 8, false, true, true, ⟨#[89]⟩, 24, false, false⟩
  | 2 => ⟨⟨#[104, 105, 100, 100, 101, 110]⟩, ⟨#[103, 105, 116, 104, 117, 98, 46, 99, 111, 109, 47, 101, 120, 112, 114, 45, 108, 97, 110, 103, 47, 101, 120, 112, 114, 47, 99, 104, 101, 99, 107, 101, 114, 47, 110, 97, 116, 117, 114, 101]⟩, 3, ⟨#[]⟩, 24, false, false, false, ⟨#[]⟩, 2, true, false⟩
  | 3 => ⟨⟨#[84]⟩, ⟨#[]⟩, 3, ⟨#[101, 120, 112, 114, 58, 34, 116, 101, 101, 34]⟩, 32, false, true, true, ⟨#[116, 101, 101]⟩, 2, true, false⟩
  | 4 => ⟨⟨#[65]⟩, ⟨#[]⟩, 9, ⟨#[]⟩, 40, false, true, true, ⟨#[65]⟩, 24, false, false⟩
  | _ => ⟨⟨#[]⟩, ⟨#[]⟩, 0, ⟨#[]⟩, 0, false, false, false, ⟨#[]⟩, 0, false, false⟩
theorem fl0_96_0 (w : World) : (callFunc 160 #[.pointer (some ⟨4, 96, none⟩), .int .i64 (0 : Nat)]).run Tryz.prog w = .ok (.value (.agg (frec (fs96 0) (.slice (some ⟨w.heap.size, 0, none⟩) 1 1)))) ((w.alloc (.cells #[.int .i64 (0 : Nat)] 3)).freeze ⟨w.heap.size, 0, none⟩ 1) := by kernel_rfl
theorem fl_96_0 (w : World) : (callFunc 160 #[.pointer (some ⟨4, 96, none⟩), .int .i64 (0 : Nat)]).run Tryz.prog w = .ok (.value (.agg (frec (fs96 0) (.slice (some ⟨w.heap.size, 0, none⟩) 1 1)))) (w.alloc (.cells #[.int .i64 (0 : Nat)] 3 (0, 1))) := by rw [fl0_96_0, freeze_alloc]
theorem ie_96_0 (ix : Value) (w : World) : (callFunc 51 #[.agg (frec (fs96 0) ix)]).run Tryz.prog w = .ok (.value (.bool (fs96 0).exp)) w := by kernel_rfl
theorem fl0_96_1 (w : World) : (callFunc 160 #[.pointer (some ⟨4, 96, none⟩), .int .i64 (1 : Nat)]).run Tryz.prog w = .ok (.value (.agg (frec (fs96 1) (.slice (some ⟨w.heap.size, 0, none⟩) 1 1)))) ((w.alloc (.cells #[.int .i64 (1 : Nat)] 3)).freeze ⟨w.heap.size, 0, none⟩ 1) := by kernel_rfl
theorem fl_96_1 (w : World) : (callFunc 160 #[.pointer (some ⟨4, 96, none⟩), .int .i64 (1 : Nat)]).run Tryz.prog w = .ok (.value (.agg (frec (fs96 1) (.slice (some ⟨w.heap.size, 0, none⟩) 1 1)))) (w.alloc (.cells #[.int .i64 (1 : Nat)] 3 (0, 1))) := by rw [fl0_96_1, freeze_alloc]
theorem ie_96_1 (ix : Value) (w : World) : (callFunc 51 #[.agg (frec (fs96 1) ix)]).run Tryz.prog w = .ok (.value (.bool (fs96 1).exp)) w := by kernel_rfl
theorem fl0_96_2 (w : World) : (callFunc 160 #[.pointer (some ⟨4, 96, none⟩), .int .i64 (2 : Nat)]).run Tryz.prog w = .ok (.value (.agg (frec (fs96 2) (.slice (some ⟨w.heap.size, 0, none⟩) 1 1)))) ((w.alloc (.cells #[.int .i64 (2 : Nat)] 3)).freeze ⟨w.heap.size, 0, none⟩ 1) := by kernel_rfl
theorem fl_96_2 (w : World) : (callFunc 160 #[.pointer (some ⟨4, 96, none⟩), .int .i64 (2 : Nat)]).run Tryz.prog w = .ok (.value (.agg (frec (fs96 2) (.slice (some ⟨w.heap.size, 0, none⟩) 1 1)))) (w.alloc (.cells #[.int .i64 (2 : Nat)] 3 (0, 1))) := by rw [fl0_96_2, freeze_alloc]
theorem ie_96_2 (ix : Value) (w : World) : (callFunc 51 #[.agg (frec (fs96 2) ix)]).run Tryz.prog w = .ok (.value (.bool (fs96 2).exp)) w := by kernel_rfl
theorem fl0_96_3 (w : World) : (callFunc 160 #[.pointer (some ⟨4, 96, none⟩), .int .i64 (3 : Nat)]).run Tryz.prog w = .ok (.value (.agg (frec (fs96 3) (.slice (some ⟨w.heap.size, 0, none⟩) 1 1)))) ((w.alloc (.cells #[.int .i64 (3 : Nat)] 3)).freeze ⟨w.heap.size, 0, none⟩ 1) := by kernel_rfl
theorem fl_96_3 (w : World) : (callFunc 160 #[.pointer (some ⟨4, 96, none⟩), .int .i64 (3 : Nat)]).run Tryz.prog w = .ok (.value (.agg (frec (fs96 3) (.slice (some ⟨w.heap.size, 0, none⟩) 1 1)))) (w.alloc (.cells #[.int .i64 (3 : Nat)] 3 (0, 1))) := by rw [fl0_96_3, freeze_alloc]
theorem ie_96_3 (ix : Value) (w : World) : (callFunc 51 #[.agg (frec (fs96 3) ix)]).run Tryz.prog w = .ok (.value (.bool (fs96 3).exp)) w := by kernel_rfl
theorem fl0_96_4 (w : World) : (callFunc 160 #[.pointer (some ⟨4, 96, none⟩), .int .i64 (4 : Nat)]).run Tryz.prog w = .ok (.value (.agg (frec (fs96 4) (.slice (some ⟨w.heap.size, 0, none⟩) 1 1)))) ((w.alloc (.cells #[.int .i64 (4 : Nat)] 3)).freeze ⟨w.heap.size, 0, none⟩ 1) := by kernel_rfl
theorem fl_96_4 (w : World) : (callFunc 160 #[.pointer (some ⟨4, 96, none⟩), .int .i64 (4 : Nat)]).run Tryz.prog w = .ok (.value (.agg (frec (fs96 4) (.slice (some ⟨w.heap.size, 0, none⟩) 1 1)))) (w.alloc (.cells #[.int .i64 (4 : Nat)] 3 (0, 1))) := by rw [fl0_96_4, freeze_alloc]
theorem ie_96_4 (ix : Value) (w : World) : (callFunc 51 #[.agg (frec (fs96 4) ix)]).run Tryz.prog w = .ok (.value (.bool (fs96 4).exp)) w := by kernel_rfl
theorem mk_96 (w : World) : (Instr.makeMap 89 (some (.int .i64 (5 : Nat)))).run Tryz.prog w = .ok (.map (some w.heap.size)) (w.alloc (.map #[] 0)) := by kernel_rfl
theorem ty96 : TyFacts 96 5 fs96 where
  n0 := by decide
  n64 := by decide
  fld := by
    intro j hj w
    have hc : j = 0 ∨ j = 1 ∨ j = 2 ∨ j = 3 ∨ j = 4 := by omega
    rcases hc with rfl | rfl | rfl | rfl | rfl
    · exact fl_96_0 w
    · exact fl_96_1 w
    · exact fl_96_2 w
    · exact fl_96_3 w
    · exact fl_96_4 w
  iex := by
    intro j hj ix w
    have hc : j = 0 ∨ j = 1 ∨ j = 2 ∨ j = 3 ∨ j = 4 := by omega
    rcases hc with rfl | rfl | rfl | rfl | rfl
    · exact ie_96_0 ix w
    · exact ie_96_1 ix w
    · exact ie_96_2 ix w
    · exact ie_96_3 ix w
    · exact ie_96_4 ix w
  fnm := by
    intro j hj he w
    have hc : j = 0 ∨ j = 1 ∨ j = 2 ∨ j = 3 ∨ j = 4 := by omega
    rcases hc with rfl | rfl | rfl | rfl | rfl
    · exact (fn_plain _ w).mono fun e w' ⟨h1, h2⟩ => ⟨h1, 0, h2.symm⟩
    · exact (fn_plain _ w).mono fun e w' ⟨h1, h2⟩ => ⟨h1, 0, h2.symm⟩
    · cases he
    · exact fn_tee _ w
    · exact (fn_plain _ w).mono fun e w' ⟨h1, h2⟩ => ⟨h1, 0, h2.symm⟩
  key := by
    intro j hj hv
    have hc : j = 0 ∨ j = 1 ∨ j = 2 ∨ j = 3 ∨ j = 4 := by omega
    rcases hc with rfl | rfl | rfl | rfl | rfl
    · exact keyne (l := [88]) rfl
    · exact keyne (l := [89]) rfl
    · cases hv
    · exact keyne (l := [116, 101, 101]) rfl
    · exact keyne (l := [65]) rfl
  mkm := mk_96
def tab96 (x : ByteArray) : Option Ent :=
  if ((⟨#[88]⟩ : ByteArray) == x) = true then some ⟨3, 2, true, false, [0]⟩ else
  if ((⟨#[89]⟩ : ByteArray) == x) = true then some ⟨9, 24, false, false, [1]⟩ else
  if ((⟨#[116, 101, 101]⟩ : ByteArray) == x) = true then some ⟨3, 2, true, false, [3]⟩ else
  if ((⟨#[65]⟩ : ByteArray) == x) = true then some ⟨9, 24, false, false, [4]⟩ else
  none
theorem tb96_0 : tab96 (fs96 0).key = some ⟨(fs96 0).t, (fs96 0).k, (fs96 0).i, (fs96 0).f, [((0 : Nat) : Int)]⟩ := by kernel_rfl
theorem tb96_1 : tab96 (fs96 1).key = some ⟨(fs96 1).t, (fs96 1).k, (fs96 1).i, (fs96 1).f, [((1 : Nat) : Int)]⟩ := by kernel_rfl
theorem tb96_3 : tab96 (fs96 3).key = some ⟨(fs96 3).t, (fs96 3).k, (fs96 3).i, (fs96 3).f, [((3 : Nat) : Int)]⟩ := by kernel_rfl
theorem tb96_4 : tab96 (fs96 4).key = some ⟨(fs96 4).t, (fs96 4).k, (fs96 4).i, (fs96 4).f, [((4 : Nat) : Int)]⟩ := by kernel_rfl
theorem leaf96 : LeafFacts 96 5 fs96 tab96 where
  toTyFacts := ty96
  tk := by
    intro j hj he hv
    have hc : j = 0 ∨ j = 1 ∨ j = 2 ∨ j = 3 ∨ j = 4 := by omega
    rcases hc with rfl | rfl | rfl | rfl | rfl
    · exact tb96_0
    · exact tb96_1
    · cases he
    · exact tb96_3
    · exact tb96_4
  emb := by
    intro j hj
    have hc : j = 0 ∨ j = 1 ∨ j = 2 ∨ j = 3 ∨ j = 4 := by omega
    rcases hc with rfl | rfl | rfl | rfl | rfl
    all_goals rfl
  ft := by
    intro j hj he hv c w
    have hc : j = 0 ∨ j = 1 ∨ j = 2 ∨ j = 3 ∨ j = 4 := by omega
    rcases hc with rfl | rfl | rfl | rfl | rfl
    · exact from_3 c w
    · exact from_9 c w
    · cases he
    · exact from_3 c w
    · exact from_9 c w
  rng := by
    intro x E h
    unfold tab96 at h
    by_cases h0 : ((⟨#[88]⟩ : ByteArray) == x) = true
    · rw [if_pos h0] at h
      exact ⟨0, by decide, rfl, rfl, (ba_iff _ _).1 h0⟩
    rw [if_neg h0] at h
    by_cases h1 : ((⟨#[89]⟩ : ByteArray) == x) = true
    · rw [if_pos h1] at h
      exact ⟨1, by decide, rfl, rfl, (ba_iff _ _).1 h1⟩
    rw [if_neg h1] at h
    by_cases h2 : ((⟨#[116, 101, 101]⟩ : ByteArray) == x) = true
    · rw [if_pos h2] at h
      exact ⟨3, by decide, rfl, rfl, (ba_iff _ _).1 h2⟩
    rw [if_neg h2] at h
    by_cases h3 : ((⟨#[65]⟩ : ByteArray) == x) = true
    · rw [if_pos h3] at h
      exact ⟨4, by decide, rfl, rfl, (ba_iff _ _).1 h3⟩
    rw [if_neg h3] at h
    cases h
  zs := by
    intro x E h
    unfold tab96 at h
    by_cases h0 : ((⟨#[88]⟩ : ByteArray) == x) = true
    · rw [if_pos h0] at h
      cases h
      exact ⟨by simp, by decide⟩
    rw [if_neg h0] at h
    by_cases h1 : ((⟨#[89]⟩ : ByteArray) == x) = true
    · rw [if_pos h1] at h
      cases h
      exact ⟨by simp, by decide⟩
    rw [if_neg h1] at h
    by_cases h2 : ((⟨#[116, 101, 101]⟩ : ByteArray) == x) = true
    · rw [if_pos h2] at h
      cases h
      exact ⟨by simp, by decide⟩
    rw [if_neg h2] at h
    by_cases h3 : ((⟨#[65]⟩ : ByteArray) == x) = true
    · rw [if_pos h3] at h
      cases h
      exact ⟨by simp, by decide⟩
    rw [if_neg h3] at h
    cases h
end Go.Proofs.YtdpgbmmgeooahaaGreatDoorBesrefl
