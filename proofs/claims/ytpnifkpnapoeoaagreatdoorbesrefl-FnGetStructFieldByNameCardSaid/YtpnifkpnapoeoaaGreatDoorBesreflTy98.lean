/-
  What the model says of struct type 98. No condition.
-/
import Derived.Test.YtpnifkpnapoeoaaGreatDoorBesreflTyBase
import Derived.Test.YtpnifkpnapoeoaaGreatDoorBesreflTy96
namespace Go.Proofs.YtpnifkpnapoeoaaGreatDoorBesrefl
open Go.RowKit
set_option maxRecDepth 100000
set_option maxHeartbeats 1000000
set_option linter.unusedVariables false
def fs98 : Nat → Fd
  | 0 => ⟨⟨#[65]⟩, ⟨#[]⟩, 3, ⟨#[]⟩, 0, false, true, true, ⟨#[65]⟩, 2, true, false⟩
  | 1 => ⟨⟨#[98]⟩, ⟨#[103, 105, 116, 104, 117, 98, 46, 99, 111, 109, 47, 101, 120, 112, 114, 45, 108, 97, 110, 103, 47, 101, 120, 112, 114, 47, 99, 104, 101, 99, 107, 101, 114, 47, 110, 97, 116, 117, 114, 101]⟩, 3, ⟨#[]⟩, 8, false, false, false, ⟨#[]⟩, 2, true, false⟩
  | 2 => ⟨⟨#[69]⟩, ⟨#[]⟩, 9, ⟨#[101, 120, 112, 114, 58, 34, 101, 101, 34]⟩, 16, false, true, true, ⟨#[101, 101]⟩, 24, false, false⟩
  | 3 => ⟨⟨#[70]⟩, ⟨#[]⟩, 3, ⟨#[101, 120, 112, 114, 58, 34, 45, 34]⟩, 32, false, true, false, ⟨#[]⟩, 2, true, false⟩
  | 4 => ⟨⟨#[90, 90, 73, 110, 110, 101, 114, 95, 110, 48, 48, 51, 95, 57, 55]⟩, ⟨#[]⟩, 96, ⟨#[]⟩, 40, true, true, true, ⟨#[90, 90, 73, 110, 110, 101, 114, 95, 110, 48, 48, 51, 95, 57, 55]⟩, 25, false, false⟩
  | 5 => ⟨⟨#[71]⟩, ⟨#[]⟩, 4, ⟨#[]⟩, 64, false, true, true, ⟨#[71]⟩, 1, false, false⟩
  | 6 => ⟨⟨#[68]⟩, ⟨#[]⟩, 27, ⟨#[]⟩, 72, false, true, true, ⟨#[68]⟩, 14, false, true⟩
  | _ => ⟨⟨#[]⟩, ⟨#[]⟩, 0, ⟨#[]⟩, 0, false, false, false, ⟨#[]⟩, 0, false, false⟩
theorem fl0_98_0 (w : World) : (callFunc 156 #[.pointer (some ⟨4, 98, none⟩), .int .i64 (0 : Nat)]).run Tryz.prog w = .ok (.value (.agg (frec (fs98 0) (.slice (some ⟨w.heap.size, 0, none⟩) 1 1)))) ((w.alloc (.cells #[.int .i64 (0 : Nat)] 3)).freeze ⟨w.heap.size, 0, none⟩ 1) := by kernel_rfl
theorem fl_98_0 (w : World) : (callFunc 156 #[.pointer (some ⟨4, 98, none⟩), .int .i64 (0 : Nat)]).run Tryz.prog w = .ok (.value (.agg (frec (fs98 0) (.slice (some ⟨w.heap.size, 0, none⟩) 1 1)))) (w.alloc (.cells #[.int .i64 (0 : Nat)] 3 (0, 1))) := by rw [fl0_98_0, freeze_alloc]
theorem ie_98_0 (ix : Value) (w : World) : (callFunc 44 #[.agg (frec (fs98 0) ix)]).run Tryz.prog w = .ok (.value (.bool (fs98 0).exp)) w := by kernel_rfl
theorem fl0_98_1 (w : World) : (callFunc 156 #[.pointer (some ⟨4, 98, none⟩), .int .i64 (1 : Nat)]).run Tryz.prog w = .ok (.value (.agg (frec (fs98 1) (.slice (some ⟨w.heap.size, 0, none⟩) 1 1)))) ((w.alloc (.cells #[.int .i64 (1 : Nat)] 3)).freeze ⟨w.heap.size, 0, none⟩ 1) := by kernel_rfl
theorem fl_98_1 (w : World) : (callFunc 156 #[.pointer (some ⟨4, 98, none⟩), .int .i64 (1 : Nat)]).run Tryz.prog w = .ok (.value (.agg (frec (fs98 1) (.slice (some ⟨w.heap.size, 0, none⟩) 1 1)))) (w.alloc (.cells #[.int .i64 (1 : Nat)] 3 (0, 1))) := by rw [fl0_98_1, freeze_alloc]
theorem ie_98_1 (ix : Value) (w : World) : (callFunc 44 #[.agg (frec (fs98 1) ix)]).run Tryz.prog w = .ok (.value (.bool (fs98 1).exp)) w := by kernel_rfl
theorem fl0_98_2 (w : World) : (callFunc 156 #[.pointer (some ⟨4, 98, none⟩), .int .i64 (2 : Nat)]).run Tryz.prog w = .ok (.value (.agg (frec (fs98 2) (.slice (some ⟨w.heap.size, 0, none⟩) 1 1)))) ((w.alloc (.cells #[.int .i64 (2 : Nat)] 3)).freeze ⟨w.heap.size, 0, none⟩ 1) := by kernel_rfl
theorem fl_98_2 (w : World) : (callFunc 156 #[.pointer (some ⟨4, 98, none⟩), .int .i64 (2 : Nat)]).run Tryz.prog w = .ok (.value (.agg (frec (fs98 2) (.slice (some ⟨w.heap.size, 0, none⟩) 1 1)))) (w.alloc (.cells #[.int .i64 (2 : Nat)] 3 (0, 1))) := by rw [fl0_98_2, freeze_alloc]
theorem ie_98_2 (ix : Value) (w : World) : (callFunc 44 #[.agg (frec (fs98 2) ix)]).run Tryz.prog w = .ok (.value (.bool (fs98 2).exp)) w := by kernel_rfl
theorem fl0_98_3 (w : World) : (callFunc 156 #[.pointer (some ⟨4, 98, none⟩), .int .i64 (3 : Nat)]).run Tryz.prog w = .ok (.value (.agg (frec (fs98 3) (.slice (some ⟨w.heap.size, 0, none⟩) 1 1)))) ((w.alloc (.cells #[.int .i64 (3 : Nat)] 3)).freeze ⟨w.heap.size, 0, none⟩ 1) := by kernel_rfl
theorem fl_98_3 (w : World) : (callFunc 156 #[.pointer (some ⟨4, 98, none⟩), .int .i64 (3 : Nat)]).run Tryz.prog w = .ok (.value (.agg (frec (fs98 3) (.slice (some ⟨w.heap.size, 0, none⟩) 1 1)))) (w.alloc (.cells #[.int .i64 (3 : Nat)] 3 (0, 1))) := by rw [fl0_98_3, freeze_alloc]
theorem ie_98_3 (ix : Value) (w : World) : (callFunc 44 #[.agg (frec (fs98 3) ix)]).run Tryz.prog w = .ok (.value (.bool (fs98 3).exp)) w := by kernel_rfl
theorem fl0_98_4 (w : World) : (callFunc 156 #[.pointer (some ⟨4, 98, none⟩), .int .i64 (4 : Nat)]).run Tryz.prog w = .ok (.value (.agg (frec (fs98 4) (.slice (some ⟨w.heap.size, 0, none⟩) 1 1)))) ((w.alloc (.cells #[.int .i64 (4 : Nat)] 3)).freeze ⟨w.heap.size, 0, none⟩ 1) := by kernel_rfl
theorem fl_98_4 (w : World) : (callFunc 156 #[.pointer (some ⟨4, 98, none⟩), .int .i64 (4 : Nat)]).run Tryz.prog w = .ok (.value (.agg (frec (fs98 4) (.slice (some ⟨w.heap.size, 0, none⟩) 1 1)))) (w.alloc (.cells #[.int .i64 (4 : Nat)] 3 (0, 1))) := by rw [fl0_98_4, freeze_alloc]
theorem ie_98_4 (ix : Value) (w : World) : (callFunc 44 #[.agg (frec (fs98 4) ix)]).run Tryz.prog w = .ok (.value (.bool (fs98 4).exp)) w := by kernel_rfl
theorem fl0_98_5 (w : World) : (callFunc 156 #[.pointer (some ⟨4, 98, none⟩), .int .i64 (5 : Nat)]).run Tryz.prog w = .ok (.value (.agg (frec (fs98 5) (.slice (some ⟨w.heap.size, 0, none⟩) 1 1)))) ((w.alloc (.cells #[.int .i64 (5 : Nat)] 3)).freeze ⟨w.heap.size, 0, none⟩ 1) := by kernel_rfl
theorem fl_98_5 (w : World) : (callFunc 156 #[.pointer (some ⟨4, 98, none⟩), .int .i64 (5 : Nat)]).run Tryz.prog w = .ok (.value (.agg (frec (fs98 5) (.slice (some ⟨w.heap.size, 0, none⟩) 1 1)))) (w.alloc (.cells #[.int .i64 (5 : Nat)] 3 (0, 1))) := by rw [fl0_98_5, freeze_alloc]
theorem ie_98_5 (ix : Value) (w : World) : (callFunc 44 #[.agg (frec (fs98 5) ix)]).run Tryz.prog w = .ok (.value (.bool (fs98 5).exp)) w := by kernel_rfl
theorem fl0_98_6 (w : World) : (callFunc 156 #[.pointer (some ⟨4, 98, none⟩), .int .i64 (6 : Nat)]).run Tryz.prog w = .ok (.value (.agg (frec (fs98 6) (.slice (some ⟨w.heap.size, 0, none⟩) 1 1)))) ((w.alloc (.cells #[.int .i64 (6 : Nat)] 3)).freeze ⟨w.heap.size, 0, none⟩ 1) := by kernel_rfl
theorem fl_98_6 (w : World) : (callFunc 156 #[.pointer (some ⟨4, 98, none⟩), .int .i64 (6 : Nat)]).run Tryz.prog w = .ok (.value (.agg (frec (fs98 6) (.slice (some ⟨w.heap.size, 0, none⟩) 1 1)))) (w.alloc (.cells #[.int .i64 (6 : Nat)] 3 (0, 1))) := by rw [fl0_98_6, freeze_alloc]
theorem ie_98_6 (ix : Value) (w : World) : (callFunc 44 #[.agg (frec (fs98 6) ix)]).run Tryz.prog w = .ok (.value (.bool (fs98 6).exp)) w := by kernel_rfl
theorem mk_98 (w : World) : (Instr.makeMap 100 (some (.int .i64 (7 : Nat)))).run Tryz.prog w = .ok (.map (some w.heap.size)) (w.alloc (.map #[] 0)) := by kernel_rfl
theorem ty98 : TyFacts 98 7 fs98 where
  n0 := by decide
  n64 := by decide
  fld := by
    intro j hj w
    have hc : j = 0 ∨ j = 1 ∨ j = 2 ∨ j = 3 ∨ j = 4 ∨ j = 5 ∨ j = 6 := by omega
    rcases hc with rfl | rfl | rfl | rfl | rfl | rfl | rfl
    · exact fl_98_0 w
    · exact fl_98_1 w
    · exact fl_98_2 w
    · exact fl_98_3 w
    · exact fl_98_4 w
    · exact fl_98_5 w
    · exact fl_98_6 w
  iex := by
    intro j hj ix w
    have hc : j = 0 ∨ j = 1 ∨ j = 2 ∨ j = 3 ∨ j = 4 ∨ j = 5 ∨ j = 6 := by omega
    rcases hc with rfl | rfl | rfl | rfl | rfl | rfl | rfl
    · exact ie_98_0 ix w
    · exact ie_98_1 ix w
    · exact ie_98_2 ix w
    · exact ie_98_3 ix w
    · exact ie_98_4 ix w
    · exact ie_98_5 ix w
    · exact ie_98_6 ix w
  fnm := by
    intro j hj he w
    have hc : j = 0 ∨ j = 1 ∨ j = 2 ∨ j = 3 ∨ j = 4 ∨ j = 5 ∨ j = 6 := by omega
    rcases hc with rfl | rfl | rfl | rfl | rfl | rfl | rfl
    · exact (fn_plain _ w).mono fun e w' ⟨h1, h2⟩ => ⟨h1, 0, h2.symm⟩
    · cases he
    · exact fn_ee _ w
    · exact fn_m _ w
    · exact (fn_plain _ w).mono fun e w' ⟨h1, h2⟩ => ⟨h1, 0, h2.symm⟩
    · exact (fn_plain _ w).mono fun e w' ⟨h1, h2⟩ => ⟨h1, 0, h2.symm⟩
    · exact (fn_plain _ w).mono fun e w' ⟨h1, h2⟩ => ⟨h1, 0, h2.symm⟩
  key := by
    intro j hj hv
    have hc : j = 0 ∨ j = 1 ∨ j = 2 ∨ j = 3 ∨ j = 4 ∨ j = 5 ∨ j = 6 := by omega
    rcases hc with rfl | rfl | rfl | rfl | rfl | rfl | rfl
    · exact keyne (l := [65]) rfl
    · cases hv
    · exact keyne (l := [101, 101]) rfl
    · cases hv
    · exact keyne (l := [90, 90, 73, 110, 110, 101, 114, 95, 110, 48, 48, 51, 95, 57, 55]) rfl
    · exact keyne (l := [71]) rfl
    · exact keyne (l := [68]) rfl
  mkm := mk_98
def tab98 (x : ByteArray) : Option Ent :=
  if ((⟨#[65]⟩ : ByteArray) == x) = true then some ⟨3, 2, true, false, [0]⟩ else
  if ((⟨#[101, 101]⟩ : ByteArray) == x) = true then some ⟨9, 24, false, false, [2]⟩ else
  if ((⟨#[90, 90, 73, 110, 110, 101, 114, 95, 110, 48, 48, 51, 95, 57, 55]⟩ : ByteArray) == x) = true then some ⟨96, 25, false, false, [4]⟩ else
  if ((⟨#[71]⟩ : ByteArray) == x) = true then some ⟨4, 1, false, false, [5]⟩ else
  if ((⟨#[68]⟩ : ByteArray) == x) = true then some ⟨27, 14, false, true, [6]⟩ else
  if ((⟨#[67]⟩ : ByteArray) == x) = true then some ⟨3, 2, true, false, [4, 0]⟩ else
  none
theorem tb98_0 : tab98 (fs98 0).key = some ⟨(fs98 0).t, (fs98 0).k, (fs98 0).i, (fs98 0).f, [((0 : Nat) : Int)]⟩ := by kernel_rfl
theorem tb98_2 : tab98 (fs98 2).key = some ⟨(fs98 2).t, (fs98 2).k, (fs98 2).i, (fs98 2).f, [((2 : Nat) : Int)]⟩ := by kernel_rfl
theorem tb98_4 : tab98 (fs98 4).key = some ⟨(fs98 4).t, (fs98 4).k, (fs98 4).i, (fs98 4).f, [((4 : Nat) : Int)]⟩ := by kernel_rfl
theorem tb98_5 : tab98 (fs98 5).key = some ⟨(fs98 5).t, (fs98 5).k, (fs98 5).i, (fs98 5).f, [((5 : Nat) : Int)]⟩ := by kernel_rfl
theorem tb98_6 : tab98 (fs98 6).key = some ⟨(fs98 6).t, (fs98 6).k, (fs98 6).i, (fs98 6).f, [((6 : Nat) : Int)]⟩ := by kernel_rfl
def kid98_4 : Kid := ⟨4, 96, 2, fs96, tab96⟩
abbrev ks98 : List Kid := [kid98_4]
def kT98 : Nat → Nat
  | 4 => 96
  | _ => 0
def kK98 : Nat → Int
  | 4 => 25
  | _ => 0
theorem kk_98_4 (w : World) : (callFunc 167 #[.pointer (some ⟨4, 96, none⟩)]).run Tryz.prog w = .ok (.value (.int .u64 25)) w := by kernel_rfl
theorem tk_98_4 (w : World) : Calls Tryz.prog 48 #[.iface 105 (.pointer (some ⟨4, 96, none⟩)), .int .u64 25] w fun e w' => e = .returned (.tuple #[.iface 105 (.pointer (some ⟨4, 96, none⟩)), .int .u64 25, .bool false]) ∧ w' = w := by
  go_enter Tryz.func48, Tryz.ntmps48
  go_wp2
  refine wp_loop_rounds 1 ?_
  rw [rounds_succ]
  go_wp2
  go_ret3
  exact ⟨rfl, rfl⟩
theorem nf_98_4 (w : World) : (callFunc 173 #[.pointer (some ⟨4, 96, none⟩)]).run Tryz.prog w = .ok (.value (.int .i64 (2 : Nat))) w := by kernel_rfl
theorem kd_98_4 (w : World) : (callFunc 167 #[.pointer (some ⟨4, 96, none⟩)]).run Tryz.prog w = .ok (.value (.int .u64 25)) w := by kernel_rfl
theorem top98 : TopFacts 98 7 fs98 tab98 kT98 kK98 ks98 where
  toTyFacts := ty98
  tk := by
    intro j hj he hv
    have hc : j = 0 ∨ j = 1 ∨ j = 2 ∨ j = 3 ∨ j = 4 ∨ j = 5 ∨ j = 6 := by omega
    rcases hc with rfl | rfl | rfl | rfl | rfl | rfl | rfl
    · exact tb98_0
    · cases he
    · exact tb98_2
    · cases hv
    · exact tb98_4
    · exact tb98_5
    · exact tb98_6
  ft := by
    intro j hj he hv
    have hc : j = 0 ∨ j = 1 ∨ j = 2 ∨ j = 3 ∨ j = 4 ∨ j = 5 ∨ j = 6 := by omega
    rcases hc with rfl | rfl | rfl | rfl | rfl | rfl | rfl
    · exact Or.inl (fun c w => from_3 c w)
    · cases he
    · exact Or.inl (fun c w => from_9 c w)
    · cases hv
    · exact Or.inr ⟨kid98_4, by simp, rfl, rfl, rfl, rfl⟩
    · exact Or.inl (fun c w => from_4 c w)
    · exact Or.inl (fun c w => from_27 c w)
  kd := by
    intro j hj he
    have hc : j = 0 ∨ j = 1 ∨ j = 2 ∨ j = 3 ∨ j = 4 ∨ j = 5 ∨ j = 6 := by omega
    rcases hc with rfl | rfl | rfl | rfl | rfl | rfl | rfl
    · cases he
    · cases he
    · cases he
    · cases he
    · exact ⟨25, false, kk_98_4, tk_98_4⟩
    · cases he
    · cases he
  kid := by
    intro j hj he hk
    have hc : j = 0 ∨ j = 1 ∨ j = 2 ∨ j = 3 ∨ j = 4 ∨ j = 5 ∨ j = 6 := by omega
    rcases hc with rfl | rfl | rfl | rfl | rfl | rfl | rfl
    · cases he
    · cases he
    · cases he
    · cases he
    · exact ⟨kid98_4, by simp, rfl, rfl⟩
    · cases he
    · cases he
  kj := by
    intro K hK
    simp only [List.mem_cons, List.not_mem_nil, or_false] at hK
    rcases hK with rfl
    exact ⟨rfl, rfl, by decide⟩
  inj := by
    intro K hK K' hK'
    simp only [List.mem_cons, List.not_mem_nil, or_false] at hK hK'
    rcases hK with rfl <;> rcases hK' with rfl
    exact ⟨fun _ => rfl, fun _ => rfl⟩
  leaf := by
    intro K hK
    simp only [List.mem_cons, List.not_mem_nil, or_false] at hK
    rcases hK with rfl
    exact leaf96
  nf := by
    intro K hK
    simp only [List.mem_cons, List.not_mem_nil, or_false] at hK
    rcases hK with rfl
    exact nf_98_4
  kkind := by
    intro K hK
    simp only [List.mem_cons, List.not_mem_nil, or_false] at hK
    rcases hK with rfl
    exact kd_98_4
  comp := by
    intro K hK x E h
    simp only [List.mem_cons, List.not_mem_nil, or_false] at hK
    rcases hK with rfl
    change tab96 x = some E at h
    unfold tab96 at h
    by_cases h0 : ((⟨#[67]⟩ : ByteArray) == x) = true
    · rw [if_pos h0] at h
      obtain rfl := (ba_iff _ _).1 h0
      cases h
      exact Or.inr (by kernel_rfl)
    rw [if_neg h0] at h
    by_cases h1 : ((⟨#[68]⟩ : ByteArray) == x) = true
    · rw [if_pos h1] at h
      exact Or.inl ⟨6, by decide, rfl, rfl, (ba_iff _ _).1 h1⟩
    rw [if_neg h1] at h
    cases h
  kjl := by
    intro K hK
    simp only [List.mem_cons, List.not_mem_nil, or_false] at hK
    rcases hK with rfl
    decide
  cov := by
    intro x E h
    unfold tab98 at h
    by_cases h0 : ((⟨#[65]⟩ : ByteArray) == x) = true
    · rw [if_pos h0] at h
      exact Or.inl ⟨0, by decide, rfl, rfl, (ba_iff _ _).1 h0⟩
    rw [if_neg h0] at h
    by_cases h1 : ((⟨#[101, 101]⟩ : ByteArray) == x) = true
    · rw [if_pos h1] at h
      exact Or.inl ⟨2, by decide, rfl, rfl, (ba_iff _ _).1 h1⟩
    rw [if_neg h1] at h
    by_cases h2 : ((⟨#[90, 90, 73, 110, 110, 101, 114, 95, 110, 48, 48, 51, 95, 57, 55]⟩ : ByteArray) == x) = true
    · rw [if_pos h2] at h
      exact Or.inl ⟨4, by decide, rfl, rfl, (ba_iff _ _).1 h2⟩
    rw [if_neg h2] at h
    by_cases h3 : ((⟨#[71]⟩ : ByteArray) == x) = true
    · rw [if_pos h3] at h
      exact Or.inl ⟨5, by decide, rfl, rfl, (ba_iff _ _).1 h3⟩
    rw [if_neg h3] at h
    by_cases h4 : ((⟨#[68]⟩ : ByteArray) == x) = true
    · rw [if_pos h4] at h
      exact Or.inl ⟨6, by decide, rfl, rfl, (ba_iff _ _).1 h4⟩
    rw [if_neg h4] at h
    by_cases h5 : ((⟨#[67]⟩ : ByteArray) == x) = true
    · rw [if_pos h5] at h
      obtain rfl := (ba_iff _ _).1 h5
      exact Or.inr ⟨kid98_4, by simp, by decide⟩
    rw [if_neg h5] at h
    cases h
end Go.Proofs.YtpnifkpnapoeoaaGreatDoorBesrefl
