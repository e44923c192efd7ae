/-
  What the model says of struct type 81. No condition.
-/
import Derived.Test.YtpnifkpnapoeoaaGreatDoorBesreflTyBase
namespace Go.Proofs.YtpnifkpnapoeoaaGreatDoorBesrefl
open Go.RowKit
set_option maxRecDepth 100000
set_option maxHeartbeats 1000000
set_option linter.unusedVariables false
def fs81 : Nat → Fd
  | 0 => ⟨⟨#[78, 97, 109, 101]⟩, ⟨#[]⟩, 9, ⟨#[]⟩, 0, false, true, true, ⟨#[78, 97, 109, 101]⟩, 24, false, false⟩
  | 1 => ⟨⟨#[80, 107, 103, 80, 97, 116, 104]⟩, ⟨#[]⟩, 9, ⟨#[]⟩, 16, false, true, true, ⟨#[80, 107, 103, 80, 97, 116, 104]⟩, 24, false, false⟩
  | 2 => ⟨⟨#[84, 121, 112, 101]⟩, ⟨#[]⟩, 43, ⟨#[]⟩, 32, false, true, true, ⟨#[84, 121, 112, 101]⟩, 20, false, false⟩
  | 3 => ⟨⟨#[84, 97, 103]⟩, ⟨#[]⟩, 79, ⟨#[]⟩, 48, false, true, true, ⟨#[84, 97, 103]⟩, 24, false, false⟩
  | 4 => ⟨⟨#[79, 102, 102, 115, 101, 116]⟩, ⟨#[]⟩, 12, ⟨#[]⟩, 64, false, true, true, ⟨#[79, 102, 102, 115, 101, 116]⟩, 12, true, false⟩
  | 5 => ⟨⟨#[73, 110, 100, 101, 120]⟩, ⟨#[]⟩, 53, ⟨#[]⟩, 72, false, true, true, ⟨#[73, 110, 100, 101, 120]⟩, 23, false, false⟩
  | 6 => ⟨⟨#[65, 110, 111, 110, 121, 109, 111, 117, 115]⟩, ⟨#[]⟩, 4, ⟨#[]⟩, 96, false, true, true, ⟨#[65, 110, 111, 110, 121, 109, 111, 117, 115]⟩, 1, false, false⟩
  | _ => ⟨⟨#[]⟩, ⟨#[]⟩, 0, ⟨#[]⟩, 0, false, false, false, ⟨#[]⟩, 0, false, false⟩
theorem fl0_81_0 (w : World) : (callFunc 156 #[.pointer (some ⟨4, 81, none⟩), .int .i64 (0 : Nat)]).run Tryz.prog w = .ok (.value (.agg (frec (fs81 0) (.slice (some ⟨w.heap.size, 0, none⟩) 1 1)))) ((w.alloc (.cells #[.int .i64 (0 : Nat)] 3)).freeze ⟨w.heap.size, 0, none⟩ 1) := by kernel_rfl
theorem fl_81_0 (w : World) : (callFunc 156 #[.pointer (some ⟨4, 81, none⟩), .int .i64 (0 : Nat)]).run Tryz.prog w = .ok (.value (.agg (frec (fs81 0) (.slice (some ⟨w.heap.size, 0, none⟩) 1 1)))) (w.alloc (.cells #[.int .i64 (0 : Nat)] 3 (0, 1))) := by rw [fl0_81_0, freeze_alloc]
theorem ie_81_0 (ix : Value) (w : World) : (callFunc 44 #[.agg (frec (fs81 0) ix)]).run Tryz.prog w = .ok (.value (.bool (fs81 0).exp)) w := by kernel_rfl
theorem fl0_81_1 (w : World) : (callFunc 156 #[.pointer (some ⟨4, 81, none⟩), .int .i64 (1 : Nat)]).run Tryz.prog w = .ok (.value (.agg (frec (fs81 1) (.slice (some ⟨w.heap.size, 0, none⟩) 1 1)))) ((w.alloc (.cells #[.int .i64 (1 : Nat)] 3)).freeze ⟨w.heap.size, 0, none⟩ 1) := by kernel_rfl
theorem fl_81_1 (w : World) : (callFunc 156 #[.pointer (some ⟨4, 81, none⟩), .int .i64 (1 : Nat)]).run Tryz.prog w = .ok (.value (.agg (frec (fs81 1) (.slice (some ⟨w.heap.size, 0, none⟩) 1 1)))) (w.alloc (.cells #[.int .i64 (1 : Nat)] 3 (0, 1))) := by rw [fl0_81_1, freeze_alloc]
theorem ie_81_1 (ix : Value) (w : World) : (callFunc 44 #[.agg (frec (fs81 1) ix)]).run Tryz.prog w = .ok (.value (.bool (fs81 1).exp)) w := by kernel_rfl
theorem fl0_81_2 (w : World) : (callFunc 156 #[.pointer (some ⟨4, 81, none⟩), .int .i64 (2 : Nat)]).run Tryz.prog w = .ok (.value (.agg (frec (fs81 2) (.slice (some ⟨w.heap.size, 0, none⟩) 1 1)))) ((w.alloc (.cells #[.int .i64 (2 : Nat)] 3)).freeze ⟨w.heap.size, 0, none⟩ 1) := by kernel_rfl
theorem fl_81_2 (w : World) : (callFunc 156 #[.pointer (some ⟨4, 81, none⟩), .int .i64 (2 : Nat)]).run Tryz.prog w = .ok (.value (.agg (frec (fs81 2) (.slice (some ⟨w.heap.size, 0, none⟩) 1 1)))) (w.alloc (.cells #[.int .i64 (2 : Nat)] 3 (0, 1))) := by rw [fl0_81_2, freeze_alloc]
theorem ie_81_2 (ix : Value) (w : World) : (callFunc 44 #[.agg (frec (fs81 2) ix)]).run Tryz.prog w = .ok (.value (.bool (fs81 2).exp)) w := by kernel_rfl
theorem fl0_81_3 (w : World) : (callFunc 156 #[.pointer (some ⟨4, 81, none⟩), .int .i64 (3 : Nat)]).run Tryz.prog w = .ok (.value (.agg (frec (fs81 3) (.slice (some ⟨w.heap.size, 0, none⟩) 1 1)))) ((w.alloc (.cells #[.int .i64 (3 : Nat)] 3)).freeze ⟨w.heap.size, 0, none⟩ 1) := by kernel_rfl
theorem fl_81_3 (w : World) : (callFunc 156 #[.pointer (some ⟨4, 81, none⟩), .int .i64 (3 : Nat)]).run Tryz.prog w = .ok (.value (.agg (frec (fs81 3) (.slice (some ⟨w.heap.size, 0, none⟩) 1 1)))) (w.alloc (.cells #[.int .i64 (3 : Nat)] 3 (0, 1))) := by rw [fl0_81_3, freeze_alloc]
theorem ie_81_3 (ix : Value) (w : World) : (callFunc 44 #[.agg (frec (fs81 3) ix)]).run Tryz.prog w = .ok (.value (.bool (fs81 3).exp)) w := by kernel_rfl
theorem fl0_81_4 (w : World) : (callFunc 156 #[.pointer (some ⟨4, 81, none⟩), .int .i64 (4 : Nat)]).run Tryz.prog w = .ok (.value (.agg (frec (fs81 4) (.slice (some ⟨w.heap.size, 0, none⟩) 1 1)))) ((w.alloc (.cells #[.int .i64 (4 : Nat)] 3)).freeze ⟨w.heap.size, 0, none⟩ 1) := by kernel_rfl
theorem fl_81_4 (w : World) : (callFunc 156 #[.pointer (some ⟨4, 81, none⟩), .int .i64 (4 : Nat)]).run Tryz.prog w = .ok (.value (.agg (frec (fs81 4) (.slice (some ⟨w.heap.size, 0, none⟩) 1 1)))) (w.alloc (.cells #[.int .i64 (4 : Nat)] 3 (0, 1))) := by rw [fl0_81_4, freeze_alloc]
theorem ie_81_4 (ix : Value) (w : World) : (callFunc 44 #[.agg (frec (fs81 4) ix)]).run Tryz.prog w = .ok (.value (.bool (fs81 4).exp)) w := by kernel_rfl
theorem fl0_81_5 (w : World) : (callFunc 156 #[.pointer (some ⟨4, 81, none⟩), .int .i64 (5 : Nat)]).run Tryz.prog w = .ok (.value (.agg (frec (fs81 5) (.slice (some ⟨w.heap.size, 0, none⟩) 1 1)))) ((w.alloc (.cells #[.int .i64 (5 : Nat)] 3)).freeze ⟨w.heap.size, 0, none⟩ 1) := by kernel_rfl
theorem fl_81_5 (w : World) : (callFunc 156 #[.pointer (some ⟨4, 81, none⟩), .int .i64 (5 : Nat)]).run Tryz.prog w = .ok (.value (.agg (frec (fs81 5) (.slice (some ⟨w.heap.size, 0, none⟩) 1 1)))) (w.alloc (.cells #[.int .i64 (5 : Nat)] 3 (0, 1))) := by rw [fl0_81_5, freeze_alloc]
theorem ie_81_5 (ix : Value) (w : World) : (callFunc 44 #[.agg (frec (fs81 5) ix)]).run Tryz.prog w = .ok (.value (.bool (fs81 5).exp)) w := by kernel_rfl
theorem fl0_81_6 (w : World) : (callFunc 156 #[.pointer (some ⟨4, 81, none⟩), .int .i64 (6 : Nat)]).run Tryz.prog w = .ok (.value (.agg (frec (fs81 6) (.slice (some ⟨w.heap.size, 0, none⟩) 1 1)))) ((w.alloc (.cells #[.int .i64 (6 : Nat)] 3)).freeze ⟨w.heap.size, 0, none⟩ 1) := by kernel_rfl
theorem fl_81_6 (w : World) : (callFunc 156 #[.pointer (some ⟨4, 81, none⟩), .int .i64 (6 : Nat)]).run Tryz.prog w = .ok (.value (.agg (frec (fs81 6) (.slice (some ⟨w.heap.size, 0, none⟩) 1 1)))) (w.alloc (.cells #[.int .i64 (6 : Nat)] 3 (0, 1))) := by rw [fl0_81_6, freeze_alloc]
theorem ie_81_6 (ix : Value) (w : World) : (callFunc 44 #[.agg (frec (fs81 6) ix)]).run Tryz.prog w = .ok (.value (.bool (fs81 6).exp)) w := by kernel_rfl
theorem mk_81 (w : World) : (Instr.makeMap 100 (some (.int .i64 (7 : Nat)))).run Tryz.prog w = .ok (.map (some w.heap.size)) (w.alloc (.map #[] 0)) := by kernel_rfl
theorem ty81 : TyFacts 81 7 fs81 where
  n0 := by decide
  n64 := by decide
  fld := by
    intro j hj w
    have hc : j = 0 ∨ j = 1 ∨ j = 2 ∨ j = 3 ∨ j = 4 ∨ j = 5 ∨ j = 6 := by omega
    rcases hc with rfl | rfl | rfl | rfl | rfl | rfl | rfl
    · exact fl_81_0 w
    · exact fl_81_1 w
    · exact fl_81_2 w
    · exact fl_81_3 w
    · exact fl_81_4 w
    · exact fl_81_5 w
    · exact fl_81_6 w
  iex := by
    intro j hj ix w
    have hc : j = 0 ∨ j = 1 ∨ j = 2 ∨ j = 3 ∨ j = 4 ∨ j = 5 ∨ j = 6 := by omega
    rcases hc with rfl | rfl | rfl | rfl | rfl | rfl | rfl
    · exact ie_81_0 ix w
    · exact ie_81_1 ix w
    · exact ie_81_2 ix w
    · exact ie_81_3 ix w
    · exact ie_81_4 ix w
    · exact ie_81_5 ix w
    · exact ie_81_6 ix w
  fnm := by
    intro j hj he w
    have hc : j = 0 ∨ j = 1 ∨ j = 2 ∨ j = 3 ∨ j = 4 ∨ j = 5 ∨ j = 6 := by omega
    rcases hc with rfl | rfl | rfl | rfl | rfl | rfl | rfl
    · exact (fn_plain _ w).mono fun e w' ⟨h1, h2⟩ => ⟨h1, 0, h2.symm⟩
    · exact (fn_plain _ w).mono fun e w' ⟨h1, h2⟩ => ⟨h1, 0, h2.symm⟩
    · exact (fn_plain _ w).mono fun e w' ⟨h1, h2⟩ => ⟨h1, 0, h2.symm⟩
    · exact (fn_plain _ w).mono fun e w' ⟨h1, h2⟩ => ⟨h1, 0, h2.symm⟩
    · exact (fn_plain _ w).mono fun e w' ⟨h1, h2⟩ => ⟨h1, 0, h2.symm⟩
    · exact (fn_plain _ w).mono fun e w' ⟨h1, h2⟩ => ⟨h1, 0, h2.symm⟩
    · exact (fn_plain _ w).mono fun e w' ⟨h1, h2⟩ => ⟨h1, 0, h2.symm⟩
  key := by
    intro j hj hv
    have hc : j = 0 ∨ j = 1 ∨ j = 2 ∨ j = 3 ∨ j = 4 ∨ j = 5 ∨ j = 6 := by omega
    rcases hc with rfl | rfl | rfl | rfl | rfl | rfl | rfl
    · exact keyne (l := [78, 97, 109, 101]) rfl
    · exact keyne (l := [80, 107, 103, 80, 97, 116, 104]) rfl
    · exact keyne (l := [84, 121, 112, 101]) rfl
    · exact keyne (l := [84, 97, 103]) rfl
    · exact keyne (l := [79, 102, 102, 115, 101, 116]) rfl
    · exact keyne (l := [73, 110, 100, 101, 120]) rfl
    · exact keyne (l := [65, 110, 111, 110, 121, 109, 111, 117, 115]) rfl
  mkm := mk_81
def tab81 (x : ByteArray) : Option Ent :=
  if ((⟨#[78, 97, 109, 101]⟩ : ByteArray) == x) = true then some ⟨9, 24, false, false, [0]⟩ else
  if ((⟨#[80, 107, 103, 80, 97, 116, 104]⟩ : ByteArray) == x) = true then some ⟨9, 24, false, false, [1]⟩ else
  if ((⟨#[84, 121, 112, 101]⟩ : ByteArray) == x) = true then some ⟨43, 20, false, false, [2]⟩ else
  if ((⟨#[84, 97, 103]⟩ : ByteArray) == x) = true then some ⟨79, 24, false, false, [3]⟩ else
  if ((⟨#[79, 102, 102, 115, 101, 116]⟩ : ByteArray) == x) = true then some ⟨12, 12, true, false, [4]⟩ else
  if ((⟨#[73, 110, 100, 101, 120]⟩ : ByteArray) == x) = true then some ⟨53, 23, false, false, [5]⟩ else
  if ((⟨#[65, 110, 111, 110, 121, 109, 111, 117, 115]⟩ : ByteArray) == x) = true then some ⟨4, 1, false, false, [6]⟩ else
  none
theorem tb81_0 : tab81 (fs81 0).key = some ⟨(fs81 0).t, (fs81 0).k, (fs81 0).i, (fs81 0).f, [((0 : Nat) : Int)]⟩ := by kernel_rfl
theorem tb81_1 : tab81 (fs81 1).key = some ⟨(fs81 1).t, (fs81 1).k, (fs81 1).i, (fs81 1).f, [((1 : Nat) : Int)]⟩ := by kernel_rfl
theorem tb81_2 : tab81 (fs81 2).key = some ⟨(fs81 2).t, (fs81 2).k, (fs81 2).i, (fs81 2).f, [((2 : Nat) : Int)]⟩ := by kernel_rfl
theorem tb81_3 : tab81 (fs81 3).key = some ⟨(fs81 3).t, (fs81 3).k, (fs81 3).i, (fs81 3).f, [((3 : Nat) : Int)]⟩ := by kernel_rfl
theorem tb81_4 : tab81 (fs81 4).key = some ⟨(fs81 4).t, (fs81 4).k, (fs81 4).i, (fs81 4).f, [((4 : Nat) : Int)]⟩ := by kernel_rfl
theorem tb81_5 : tab81 (fs81 5).key = some ⟨(fs81 5).t, (fs81 5).k, (fs81 5).i, (fs81 5).f, [((5 : Nat) : Int)]⟩ := by kernel_rfl
theorem tb81_6 : tab81 (fs81 6).key = some ⟨(fs81 6).t, (fs81 6).k, (fs81 6).i, (fs81 6).f, [((6 : Nat) : Int)]⟩ := by kernel_rfl
abbrev ks81 : List Kid := []
def kT81 : Nat → Nat
  | _ => 0
def kK81 : Nat → Int
  | _ => 0
theorem top81 : TopFacts 81 7 fs81 tab81 kT81 kK81 ks81 where
  toTyFacts := ty81
  tk := by
    intro j hj he hv
    have hc : j = 0 ∨ j = 1 ∨ j = 2 ∨ j = 3 ∨ j = 4 ∨ j = 5 ∨ j = 6 := by omega
    rcases hc with rfl | rfl | rfl | rfl | rfl | rfl | rfl
    · exact tb81_0
    · exact tb81_1
    · exact tb81_2
    · exact tb81_3
    · exact tb81_4
    · exact tb81_5
    · exact tb81_6
  ft := by
    intro j hj he hv
    have hc : j = 0 ∨ j = 1 ∨ j = 2 ∨ j = 3 ∨ j = 4 ∨ j = 5 ∨ j = 6 := by omega
    rcases hc with rfl | rfl | rfl | rfl | rfl | rfl | rfl
    · exact Or.inl (fun c w => from_9 c w)
    · exact Or.inl (fun c w => from_9 c w)
    · exact Or.inl (fun c w => from_43 c w)
    · exact Or.inl (fun c w => from_79 c w)
    · exact Or.inl (fun c w => from_12 c w)
    · exact Or.inl (fun c w => from_53 c w)
    · exact Or.inl (fun c w => from_4 c w)
  kd := by
    intro j hj he
    have hc : j = 0 ∨ j = 1 ∨ j = 2 ∨ j = 3 ∨ j = 4 ∨ j = 5 ∨ j = 6 := by omega
    rcases hc with rfl | rfl | rfl | rfl | rfl | rfl | rfl
    · cases he
    · cases he
    · cases he
    · cases he
    · cases he
    · cases he
    · cases he
  kid := by
    intro j hj he hk
    have hc : j = 0 ∨ j = 1 ∨ j = 2 ∨ j = 3 ∨ j = 4 ∨ j = 5 ∨ j = 6 := by omega
    rcases hc with rfl | rfl | rfl | rfl | rfl | rfl | rfl
    · cases he
    · cases he
    · cases he
    · cases he
    · cases he
    · cases he
    · cases he
  kj := by
    intro K hK
    cases hK
  inj := by
    intro K hK K' hK'
    cases hK
  leaf := by
    intro K hK
    cases hK
  nf := by
    intro K hK
    cases hK
  kkind := by
    intro K hK
    cases hK
  comp := by
    intro K hK x E h
    cases hK
  kjl := by
    intro K hK
    cases hK
  cov := by
    intro x E h
    unfold tab81 at h
    by_cases h0 : ((⟨#[78, 97, 109, 101]⟩ : ByteArray) == x) = true
    · rw [if_pos h0] at h
      exact Or.inl ⟨0, by decide, rfl, rfl, (ba_iff _ _).1 h0⟩
    rw [if_neg h0] at h
    by_cases h1 : ((⟨#[80, 107, 103, 80, 97, 116, 104]⟩ : ByteArray) == x) = true
    · rw [if_pos h1] at h
      exact Or.inl ⟨1, by decide, rfl, rfl, (ba_iff _ _).1 h1⟩
    rw [if_neg h1] at h
    by_cases h2 : ((⟨#[84, 121, 112, 101]⟩ : ByteArray) == x) = true
    · rw [if_pos h2] at h
      exact Or.inl ⟨2, by decide, rfl, rfl, (ba_iff _ _).1 h2⟩
    rw [if_neg h2] at h
    by_cases h3 : ((⟨#[84, 97, 103]⟩ : ByteArray) == x) = true
    · rw [if_pos h3] at h
      exact Or.inl ⟨3, by decide, rfl, rfl, (ba_iff _ _).1 h3⟩
    rw [if_neg h3] at h
    by_cases h4 : ((⟨#[79, 102, 102, 115, 101, 116]⟩ : ByteArray) == x) = true
    · rw [if_pos h4] at h
      exact Or.inl ⟨4, by decide, rfl, rfl, (ba_iff _ _).1 h4⟩
    rw [if_neg h4] at h
    by_cases h5 : ((⟨#[73, 110, 100, 101, 120]⟩ : ByteArray) == x) = true
    · rw [if_pos h5] at h
      exact Or.inl ⟨5, by decide, rfl, rfl, (ba_iff _ _).1 h5⟩
    rw [if_neg h5] at h
    by_cases h6 : ((⟨#[65, 110, 111, 110, 121, 109, 111, 117, 115]⟩ : ByteArray) == x) = true
    · rw [if_pos h6] at h
      exact Or.inl ⟨6, by decide, rfl, rfl, (ba_iff _ _).1 h6⟩
    rw [if_neg h6] at h
    cases h
end Go.Proofs.YtpnifkpnapoeoaaGreatDoorBesrefl
