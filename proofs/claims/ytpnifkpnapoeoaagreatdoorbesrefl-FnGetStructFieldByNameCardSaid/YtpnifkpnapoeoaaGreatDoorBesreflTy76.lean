/-
  What the model says of struct type 76. No condition.
-/
import Derived.Test.YtpnifkpnapoeoaaGreatDoorBesreflTyBase
import Derived.Test.YtpnifkpnapoeoaaGreatDoorBesreflTy74
namespace Go.Proofs.YtpnifkpnapoeoaaGreatDoorBesrefl
open Go.RowKit
set_option maxRecDepth 100000
set_option maxHeartbeats 1000000
set_option linter.unusedVariables false
def fs76 : Nat → Fd
  | 0 => ⟨⟨#[122, 122, 80, 111, 105, 110, 116]⟩, ⟨#[103, 105, 116, 104, 117, 98, 46, 99, 111, 109, 47, 101, 120, 112, 114, 45, 108, 97, 110, 103, 47, 101, 120, 112, 114, 47, 110, 48, 48, 51, 95, 50, 52]⟩, 74, ⟨#[]⟩, 0, true, false, false, ⟨#[]⟩, 25, false, false⟩
  | 1 => ⟨⟨#[90]⟩, ⟨#[]⟩, 27, ⟨#[]⟩, 24, false, true, true, ⟨#[90]⟩, 14, false, true⟩
  | _ => ⟨⟨#[]⟩, ⟨#[]⟩, 0, ⟨#[]⟩, 0, false, false, false, ⟨#[]⟩, 0, false, false⟩
theorem fl0_76_0 (w : World) : (callFunc 156 #[.pointer (some ⟨4, 76, none⟩), .int .i64 (0 : Nat)]).run Tryz.prog w = .ok (.value (.agg (frec (fs76 0) (.slice (some ⟨w.heap.size, 0, none⟩) 1 1)))) ((w.alloc (.cells #[.int .i64 (0 : Nat)] 3)).freeze ⟨w.heap.size, 0, none⟩ 1) := by kernel_rfl
theorem fl_76_0 (w : World) : (callFunc 156 #[.pointer (some ⟨4, 76, none⟩), .int .i64 (0 : Nat)]).run Tryz.prog w = .ok (.value (.agg (frec (fs76 0) (.slice (some ⟨w.heap.size, 0, none⟩) 1 1)))) (w.alloc (.cells #[.int .i64 (0 : Nat)] 3 (0, 1))) := by rw [fl0_76_0, freeze_alloc]
theorem ie_76_0 (ix : Value) (w : World) : (callFunc 44 #[.agg (frec (fs76 0) ix)]).run Tryz.prog w = .ok (.value (.bool (fs76 0).exp)) w := by kernel_rfl
theorem fl0_76_1 (w : World) : (callFunc 156 #[.pointer (some ⟨4, 76, none⟩), .int .i64 (1 : Nat)]).run Tryz.prog w = .ok (.value (.agg (frec (fs76 1) (.slice (some ⟨w.heap.size, 0, none⟩) 1 1)))) ((w.alloc (.cells #[.int .i64 (1 : Nat)] 3)).freeze ⟨w.heap.size, 0, none⟩ 1) := by kernel_rfl
theorem fl_76_1 (w : World) : (callFunc 156 #[.pointer (some ⟨4, 76, none⟩), .int .i64 (1 : Nat)]).run Tryz.prog w = .ok (.value (.agg (frec (fs76 1) (.slice (some ⟨w.heap.size, 0, none⟩) 1 1)))) (w.alloc (.cells #[.int .i64 (1 : Nat)] 3 (0, 1))) := by rw [fl0_76_1, freeze_alloc]
theorem ie_76_1 (ix : Value) (w : World) : (callFunc 44 #[.agg (frec (fs76 1) ix)]).run Tryz.prog w = .ok (.value (.bool (fs76 1).exp)) w := by kernel_rfl
theorem mk_76 (w : World) : (Instr.makeMap 100 (some (.int .i64 (2 : Nat)))).run Tryz.prog w = .ok (.map (some w.heap.size)) (w.alloc (.map #[] 0)) := by kernel_rfl
theorem ty76 : TyFacts 76 2 fs76 where
  n0 := by decide
  n64 := by decide
  fld := by
    intro j hj w
    have hc : j = 0 ∨ j = 1 := by omega
    rcases hc with rfl | rfl
    · exact fl_76_0 w
    · exact fl_76_1 w
  iex := by
    intro j hj ix w
    have hc : j = 0 ∨ j = 1 := by omega
    rcases hc with rfl | rfl
    · exact ie_76_0 ix w
    · exact ie_76_1 ix w
  fnm := by
    intro j hj he w
    have hc : j = 0 ∨ j = 1 := by omega
    rcases hc with rfl | rfl
    · cases he
    · exact (fn_plain _ w).mono fun e w' ⟨h1, h2⟩ => ⟨h1, 0, h2.symm⟩
  key := by
    intro j hj hv
    have hc : j = 0 ∨ j = 1 := by omega
    rcases hc with rfl | rfl
    · cases hv
    · exact keyne (l := [90]) rfl
  mkm := mk_76
def tab76 (x : ByteArray) : Option Ent :=
  if ((⟨#[90]⟩ : ByteArray) == x) = true then some ⟨27, 14, false, true, [1]⟩ else
  if ((⟨#[88]⟩ : ByteArray) == x) = true then some ⟨3, 2, true, false, [0, 0]⟩ else
  if ((⟨#[89]⟩ : ByteArray) == x) = true then some ⟨9, 24, false, false, [0, 1]⟩ else
  none
theorem tb76_1 : tab76 (fs76 1).key = some ⟨(fs76 1).t, (fs76 1).k, (fs76 1).i, (fs76 1).f, [((1 : Nat) : Int)]⟩ := by kernel_rfl
def kid76_0 : Kid := ⟨0, 74, 2, fs74, tab74⟩
abbrev ks76 : List Kid := [kid76_0]
def kT76 : Nat → Nat
  | 0 => 74
  | _ => 0
def kK76 : Nat → Int
  | 0 => 25
  | _ => 0
theorem kk_76_0 (w : World) : (callFunc 167 #[.pointer (some ⟨4, 74, none⟩)]).run Tryz.prog w = .ok (.value (.int .u64 25)) w := by kernel_rfl
theorem tk_76_0 (w : World) : Calls Tryz.prog 48 #[.iface 105 (.pointer (some ⟨4, 74, none⟩)), .int .u64 25] w fun e w' => e = .returned (.tuple #[.iface 105 (.pointer (some ⟨4, 74, none⟩)), .int .u64 25, .bool false]) ∧ w' = w := by
  go_enter Tryz.func48, Tryz.ntmps48
  go_wp2
  refine wp_loop_rounds 1 ?_
  rw [rounds_succ]
  go_wp2
  go_ret3
  exact ⟨rfl, rfl⟩
theorem nf_76_0 (w : World) : (callFunc 173 #[.pointer (some ⟨4, 74, none⟩)]).run Tryz.prog w = .ok (.value (.int .i64 (2 : Nat))) w := by kernel_rfl
theorem kd_76_0 (w : World) : (callFunc 167 #[.pointer (some ⟨4, 74, none⟩)]).run Tryz.prog w = .ok (.value (.int .u64 25)) w := by kernel_rfl
theorem top76 : TopFacts 76 2 fs76 tab76 kT76 kK76 ks76 where
  toTyFacts := ty76
  tk := by
    intro j hj he hv
    have hc : j = 0 ∨ j = 1 := by omega
    rcases hc with rfl | rfl
    · cases he
    · exact tb76_1
  ft := by
    intro j hj he hv
    have hc : j = 0 ∨ j = 1 := by omega
    rcases hc with rfl | rfl
    · cases he
    · exact Or.inl (fun c w => from_27 c w)
  kd := by
    intro j hj he
    have hc : j = 0 ∨ j = 1 := by omega
    rcases hc with rfl | rfl
    · exact ⟨25, false, kk_76_0, tk_76_0⟩
    · cases he
  kid := by
    intro j hj he hk
    have hc : j = 0 ∨ j = 1 := by omega
    rcases hc with rfl | rfl
    · exact ⟨kid76_0, by simp, rfl, rfl⟩
    · cases he
  kj := by
    intro K hK
    simp only [List.mem_cons, List.not_mem_nil, or_false] at hK
    rcases hK with rfl
    exact ⟨rfl, rfl, by decide⟩
  inj := by
    intro K hK K' hK'
    simp only [List.mem_cons, List.not_mem_nil, or_false] at hK hK'
    rcases hK with rfl <;> rcases hK' with rfl
    exact ⟨fun _ => rfl, fun _ => rfl⟩
  leaf := by
    intro K hK
    simp only [List.mem_cons, List.not_mem_nil, or_false] at hK
    rcases hK with rfl
    exact leaf74
  nf := by
    intro K hK
    simp only [List.mem_cons, List.not_mem_nil, or_false] at hK
    rcases hK with rfl
    exact nf_76_0
  kkind := by
    intro K hK
    simp only [List.mem_cons, List.not_mem_nil, or_false] at hK
    rcases hK with rfl
    exact kd_76_0
  comp := by
    intro K hK x E h
    simp only [List.mem_cons, List.not_mem_nil, or_false] at hK
    rcases hK with rfl
    change tab74 x = some E at h
    unfold tab74 at h
    by_cases h0 : ((⟨#[88]⟩ : ByteArray) == x) = true
    · rw [if_pos h0] at h
      obtain rfl := (ba_iff _ _).1 h0
      cases h
      exact Or.inr (by kernel_rfl)
    rw [if_neg h0] at h
    by_cases h1 : ((⟨#[89]⟩ : ByteArray) == x) = true
    · rw [if_pos h1] at h
      obtain rfl := (ba_iff _ _).1 h1
      cases h
      exact Or.inr (by kernel_rfl)
    rw [if_neg h1] at h
    cases h
  kjl := by
    intro K hK
    simp only [List.mem_cons, List.not_mem_nil, or_false] at hK
    rcases hK with rfl
    decide
  cov := by
    intro x E h
    unfold tab76 at h
    by_cases h0 : ((⟨#[90]⟩ : ByteArray) == x) = true
    · rw [if_pos h0] at h
      exact Or.inl ⟨1, by decide, rfl, rfl, (ba_iff _ _).1 h0⟩
    rw [if_neg h0] at h
    by_cases h1 : ((⟨#[88]⟩ : ByteArray) == x) = true
    · rw [if_pos h1] at h
      obtain rfl := (ba_iff _ _).1 h1
      exact Or.inr ⟨kid76_0, by simp, by decide⟩
    rw [if_neg h1] at h
    by_cases h2 : ((⟨#[89]⟩ : ByteArray) == x) = true
    · rw [if_pos h2] at h
      obtain rfl := (ba_iff _ _).1 h2
      exact Or.inr ⟨kid76_0, by simp, by decide⟩
    rw [if_neg h2] at h
    cases h
end Go.Proofs.YtpnifkpnapoeoaaGreatDoorBesrefl
