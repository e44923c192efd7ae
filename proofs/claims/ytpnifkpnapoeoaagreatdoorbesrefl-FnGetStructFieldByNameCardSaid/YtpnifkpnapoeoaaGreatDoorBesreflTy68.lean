/-
  What the model says of struct type 68. No condition.
-/
import Derived.Test.YtpnifkpnapoeoaaGreatDoorBesreflTyBase
namespace Go.Proofs.YtpnifkpnapoeoaaGreatDoorBesrefl
open Go.RowKit
set_option maxRecDepth 100000
set_option maxHeartbeats 1000000
set_option linter.unusedVariables false
def fs68 : Nat → Fd
  | 0 => ⟨⟨#[65]⟩, ⟨#[]⟩, 3, ⟨#[]⟩, 0, false, true, true, ⟨#[65]⟩, 2, true, false⟩
  | 1 => ⟨⟨#[66]⟩, ⟨#[]⟩, 9, ⟨#[101, 120, 112, 114, 58, 34, 98, 101, 101, 34]⟩, 8, false, true, true, ⟨#[98, 101, 101]⟩, 24, false, false⟩
  | 2 => ⟨⟨#[67]⟩, ⟨#[]⟩, 27, ⟨#[101, 120, 112, 114, 58, 34, 45, 34]⟩, 24, false, true, false, ⟨#[]⟩, 14, false, true⟩
  | 3 => ⟨⟨#[100]⟩, ⟨#[103, 105, 116, 104, 117, 98, 46, 99, 111, 109, 47, 101, 120, 112, 114, 45, 108, 97, 110, 103, 47, 101, 120, 112, 114, 47, 110, 48, 48, 51, 95, 50, 52]⟩, 4, ⟨#[]⟩, 32, false, false, false, ⟨#[]⟩, 1, false, false⟩
  | 4 => ⟨⟨#[69]⟩, ⟨#[]⟩, 53, ⟨#[]⟩, 40, false, true, true, ⟨#[69]⟩, 23, false, false⟩
  | _ => ⟨⟨#[]⟩, ⟨#[]⟩, 0, ⟨#[]⟩, 0, false, false, false, ⟨#[]⟩, 0, false, false⟩
theorem fl0_68_0 (w : World) : (callFunc 156 #[.pointer (some ⟨4, 68, none⟩), .int .i64 (0 : Nat)]).run Tryz.prog w = .ok (.value (.agg (frec (fs68 0) (.slice (some ⟨w.heap.size, 0, none⟩) 1 1)))) ((w.alloc (.cells #[.int .i64 (0 : Nat)] 3)).freeze ⟨w.heap.size, 0, none⟩ 1) := by kernel_rfl
theorem fl_68_0 (w : World) : (callFunc 156 #[.pointer (some ⟨4, 68, none⟩), .int .i64 (0 : Nat)]).run Tryz.prog w = .ok (.value (.agg (frec (fs68 0) (.slice (some ⟨w.heap.size, 0, none⟩) 1 1)))) (w.alloc (.cells #[.int .i64 (0 : Nat)] 3 (0, 1))) := by rw [fl0_68_0, freeze_alloc]
theorem ie_68_0 (ix : Value) (w : World) : (callFunc 44 #[.agg (frec (fs68 0) ix)]).run Tryz.prog w = .ok (.value (.bool (fs68 0).exp)) w := by kernel_rfl
theorem fl0_68_1 (w : World) : (callFunc 156 #[.pointer (some ⟨4, 68, none⟩), .int .i64 (1 : Nat)]).run Tryz.prog w = .ok (.value (.agg (frec (fs68 1) (.slice (some ⟨w.heap.size, 0, none⟩) 1 1)))) ((w.alloc (.cells #[.int .i64 (1 : Nat)] 3)).freeze ⟨w.heap.size, 0, none⟩ 1) := by kernel_rfl
theorem fl_68_1 (w : World) : (callFunc 156 #[.pointer (some ⟨4, 68, none⟩), .int .i64 (1 : Nat)]).run Tryz.prog w = .ok (.value (.agg (frec (fs68 1) (.slice (some ⟨w.heap.size, 0, none⟩) 1 1)))) (w.alloc (.cells #[.int .i64 (1 : Nat)] 3 (0, 1))) := by rw [fl0_68_1, freeze_alloc]
theorem ie_68_1 (ix : Value) (w : World) : (callFunc 44 #[.agg (frec (fs68 1) ix)]).run Tryz.prog w = .ok (.value (.bool (fs68 1).exp)) w := by kernel_rfl
theorem fl0_68_2 (w : World) : (callFunc 156 #[.pointer (some ⟨4, 68, none⟩), .int .i64 (2 : Nat)]).run Tryz.prog w = .ok (.value (.agg (frec (fs68 2) (.slice (some ⟨w.heap.size, 0, none⟩) 1 1)))) ((w.alloc (.cells #[.int .i64 (2 : Nat)] 3)).freeze ⟨w.heap.size, 0, none⟩ 1) := by kernel_rfl
theorem fl_68_2 (w : World) : (callFunc 156 #[.pointer (some ⟨4, 68, none⟩), .int .i64 (2 : Nat)]).run Tryz.prog w = .ok (.value (.agg (frec (fs68 2) (.slice (some ⟨w.heap.size, 0, none⟩) 1 1)))) (w.alloc (.cells #[.int .i64 (2 : Nat)] 3 (0, 1))) := by rw [fl0_68_2, freeze_alloc]
theorem ie_68_2 (ix : Value) (w : World) : (callFunc 44 #[.agg (frec (fs68 2) ix)]).run Tryz.prog w = .ok (.value (.bool (fs68 2).exp)) w := by kernel_rfl
theorem fl0_68_3 (w : World) : (callFunc 156 #[.pointer (some ⟨4, 68, none⟩), .int .i64 (3 : Nat)]).run Tryz.prog w = .ok (.value (.agg (frec (fs68 3) (.slice (some ⟨w.heap.size, 0, none⟩) 1 1)))) ((w.alloc (.cells #[.int .i64 (3 : Nat)] 3)).freeze ⟨w.heap.size, 0, none⟩ 1) := by kernel_rfl
theorem fl_68_3 (w : World) : (callFunc 156 #[.pointer (some ⟨4, 68, none⟩), .int .i64 (3 : Nat)]).run Tryz.prog w = .ok (.value (.agg (frec (fs68 3) (.slice (some ⟨w.heap.size, 0, none⟩) 1 1)))) (w.alloc (.cells #[.int .i64 (3 : Nat)] 3 (0, 1))) := by rw [fl0_68_3, freeze_alloc]
theorem ie_68_3 (ix : Value) (w : World) : (callFunc 44 #[.agg (frec (fs68 3) ix)]).run Tryz.prog w = .ok (.value (.bool (fs68 3).exp)) w := by kernel_rfl
theorem fl0_68_4 (w : World) : (callFunc 156 #[.pointer (some ⟨4, 68, none⟩), .int .i64 (4 : Nat)]).run Tryz.prog w = .ok (.value (.agg (frec (fs68 4) (.slice (some ⟨w.heap.size, 0, none⟩) 1 1)))) ((w.alloc (.cells #[.int .i64 (4 : Nat)] 3)).freeze ⟨w.heap.size, 0, none⟩ 1) := by kernel_rfl
theorem fl_68_4 (w : World) : (callFunc 156 #[.pointer (some ⟨4, 68, none⟩), .int .i64 (4 : Nat)]).run Tryz.prog w = .ok (.value (.agg (frec (fs68 4) (.slice (some ⟨w.heap.size, 0, none⟩) 1 1)))) (w.alloc (.cells #[.int .i64 (4 : Nat)] 3 (0, 1))) := by rw [fl0_68_4, freeze_alloc]
theorem ie_68_4 (ix : Value) (w : World) : (callFunc 44 #[.agg (frec (fs68 4) ix)]).run Tryz.prog w = .ok (.value (.bool (fs68 4).exp)) w := by kernel_rfl
theorem mk_68 (w : World) : (Instr.makeMap 100 (some (.int .i64 (5 : Nat)))).run Tryz.prog w = .ok (.map (some w.heap.size)) (w.alloc (.map #[] 0)) := by kernel_rfl
theorem ty68 : TyFacts 68 5 fs68 where
  n0 := by decide
  n64 := by decide
  fld := by
    intro j hj w
    have hc : j = 0 ∨ j = 1 ∨ j = 2 ∨ j = 3 ∨ j = 4 := by omega
    rcases hc with rfl | rfl | rfl | rfl | rfl
    · exact fl_68_0 w
    · exact fl_68_1 w
    · exact fl_68_2 w
    · exact fl_68_3 w
    · exact fl_68_4 w
  iex := by
    intro j hj ix w
    have hc : j = 0 ∨ j = 1 ∨ j = 2 ∨ j = 3 ∨ j = 4 := by omega
    rcases hc with rfl | rfl | rfl | rfl | rfl
    · exact ie_68_0 ix w
    · exact ie_68_1 ix w
    · exact ie_68_2 ix w
    · exact ie_68_3 ix w
    · exact ie_68_4 ix w
  fnm := by
    intro j hj he w
    have hc : j = 0 ∨ j = 1 ∨ j = 2 ∨ j = 3 ∨ j = 4 := by omega
    rcases hc with rfl | rfl | rfl | rfl | rfl
    · exact (fn_plain _ w).mono fun e w' ⟨h1, h2⟩ => ⟨h1, 0, h2.symm⟩
    · exact fn_bee _ w
    · exact fn_m _ w
    · cases he
    · exact (fn_plain _ w).mono fun e w' ⟨h1, h2⟩ => ⟨h1, 0, h2.symm⟩
  key := by
    intro j hj hv
    have hc : j = 0 ∨ j = 1 ∨ j = 2 ∨ j = 3 ∨ j = 4 := by omega
    rcases hc with rfl | rfl | rfl | rfl | rfl
    · exact keyne (l := [65]) rfl
    · exact keyne (l := [98, 101, 101]) rfl
    · cases hv
    · cases hv
    · exact keyne (l := [69]) rfl
  mkm := mk_68
def tab68 (x : ByteArray) : Option Ent :=
  if ((⟨#[65]⟩ : ByteArray) == x) = true then some ⟨3, 2, true, false, [0]⟩ else
  if ((⟨#[98, 101, 101]⟩ : ByteArray) == x) = true then some ⟨9, 24, false, false, [1]⟩ else
  if ((⟨#[69]⟩ : ByteArray) == x) = true then some ⟨53, 23, false, false, [4]⟩ else
  none
theorem tb68_0 : tab68 (fs68 0).key = some ⟨(fs68 0).t, (fs68 0).k, (fs68 0).i, (fs68 0).f, [((0 : Nat) : Int)]⟩ := by kernel_rfl
theorem tb68_1 : tab68 (fs68 1).key = some ⟨(fs68 1).t, (fs68 1).k, (fs68 1).i, (fs68 1).f, [((1 : Nat) : Int)]⟩ := by kernel_rfl
theorem tb68_4 : tab68 (fs68 4).key = some ⟨(fs68 4).t, (fs68 4).k, (fs68 4).i, (fs68 4).f, [((4 : Nat) : Int)]⟩ := by kernel_rfl
abbrev ks68 : List Kid := []
def kT68 : Nat → Nat
  | _ => 0
def kK68 : Nat → Int
  | _ => 0
theorem top68 : TopFacts 68 5 fs68 tab68 kT68 kK68 ks68 where
  toTyFacts := ty68
  tk := by
    intro j hj he hv
    have hc : j = 0 ∨ j = 1 ∨ j = 2 ∨ j = 3 ∨ j = 4 := by omega
    rcases hc with rfl | rfl | rfl | rfl | rfl
    · exact tb68_0
    · exact tb68_1
    · cases hv
    · cases he
    · exact tb68_4
  ft := by
    intro j hj he hv
    have hc : j = 0 ∨ j = 1 ∨ j = 2 ∨ j = 3 ∨ j = 4 := by omega
    rcases hc with rfl | rfl | rfl | rfl | rfl
    · exact Or.inl (fun c w => from_3 c w)
    · exact Or.inl (fun c w => from_9 c w)
    · cases hv
    · cases he
    · exact Or.inl (fun c w => from_53 c w)
  kd := by
    intro j hj he
    have hc : j = 0 ∨ j = 1 ∨ j = 2 ∨ j = 3 ∨ j = 4 := by omega
    rcases hc with rfl | rfl | rfl | rfl | rfl
    · cases he
    · cases he
    · cases he
    · cases he
    · cases he
  kid := by
    intro j hj he hk
    have hc : j = 0 ∨ j = 1 ∨ j = 2 ∨ j = 3 ∨ j = 4 := by omega
    rcases hc with rfl | rfl | rfl | rfl | rfl
    · cases he
    · cases he
    · cases he
    · cases he
    · cases he
  kj := by
    intro K hK
    cases hK
  inj := by
    intro K hK K' hK'
    cases hK
  leaf := by
    intro K hK
    cases hK
  nf := by
    intro K hK
    cases hK
  kkind := by
    intro K hK
    cases hK
  comp := by
    intro K hK x E h
    cases hK
  kjl := by
    intro K hK
    cases hK
  cov := by
    intro x E h
    unfold tab68 at h
    by_cases h0 : ((⟨#[65]⟩ : ByteArray) == x) = true
    · rw [if_pos h0] at h
      exact Or.inl ⟨0, by decide, rfl, rfl, (ba_iff _ _).1 h0⟩
    rw [if_neg h0] at h
    by_cases h1 : ((⟨#[98, 101, 101]⟩ : ByteArray) == x) = true
    · rw [if_pos h1] at h
      exact Or.inl ⟨1, by decide, rfl, rfl, (ba_iff _ _).1 h1⟩
    rw [if_neg h1] at h
    by_cases h2 : ((⟨#[69]⟩ : ByteArray) == x) = true
    · rw [if_pos h2] at h
      exact Or.inl ⟨4, by decide, rfl, rfl, (ba_iff _ _).1 h2⟩
    rw [if_neg h2] at h
    cases h
end Go.Proofs.YtpnifkpnapoeoaaGreatDoorBesrefl
