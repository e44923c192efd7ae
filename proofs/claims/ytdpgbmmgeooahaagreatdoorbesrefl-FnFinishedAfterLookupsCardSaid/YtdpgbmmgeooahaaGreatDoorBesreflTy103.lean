/-
  What the model says of struct type 103. No condition.
-/
import Derived.Test.YtdpgbmmgeooahaaGreatDoorBesreflTyBase
namespace Go.Proofs.YtdpgbmmgeooahaaGreatDoorBesrefl
open Go.RowKit
set_option maxRecDepth 100000
set_option maxHeartbeats 1000000
set_option linter.unusedVariables false
def fs103 : Nat → Fd
  | 0 => ⟨⟨#[80]⟩, ⟨#[]⟩, 3, ⟨#[]⟩, 0, false, true, true, ⟨#[80]⟩, 2, true, false⟩
  | 1 => ⟨⟨#[122, 122, 78, 117, 109, 95, 110, 48, 48, 51, 95, 49, 48, 55]⟩, ⟨#[103, 105, 116, 104, 117, 98, 46, 99, 111, 109, 47, 101, 120, 112, 114, 45, 108, 97, 110, 103, 47, 101, 120, 112, 114, 47, 99, 104, 101, 99, 107, 101, 114, 47, 110, 97, 116, 117, 114, 101]⟩, 101, ⟨#[]⟩, 8, true, false, false, ⟨#[]⟩, 2, false, false⟩
  | _ => ⟨⟨#[]⟩, ⟨#[]⟩, 0, ⟨#[]⟩, 0, false, false, false, ⟨#[]⟩, 0, false, false⟩
theorem fl0_103_0 (w : World) : (callFunc 160 #[.pointer (some ⟨4, 103, none⟩), .int .i64 (0 : Nat)]).run Tryz.prog w = .ok (.value (.agg (frec (fs103 0) (.slice (some ⟨w.heap.size, 0, none⟩) 1 1)))) ((w.alloc (.cells #[.int .i64 (0 : Nat)] 3)).freeze ⟨w.heap.size, 0, none⟩ 1) := by kernel_rfl
theorem fl_103_0 (w : World) : (callFunc 160 #[.pointer (some ⟨4, 103, none⟩), .int .i64 (0 : Nat)]).run Tryz.prog w = .ok (.value (.agg (frec (fs103 0) (.slice (some ⟨w.heap.size, 0, none⟩) 1 1)))) (w.alloc (.cells #[.int .i64 (0 : Nat)] 3 (0, 1))) := by rw [fl0_103_0, freeze_alloc]
theorem ie_103_0 (ix : Value) (w : World) : (callFunc 51 #[.agg (frec (fs103 0) ix)]).run Tryz.prog w = .ok (.value (.bool (fs103 0).exp)) w := by kernel_rfl
theorem fl0_103_1 (w : World) : (callFunc 160 #[.pointer (some ⟨4, 103, none⟩), .int .i64 (1 : Nat)]).run Tryz.prog w = .ok (.value (.agg (frec (fs103 1) (.slice (some ⟨w.heap.size, 0, none⟩) 1 1)))) ((w.alloc (.cells #[.int .i64 (1 : Nat)] 3)).freeze ⟨w.heap.size, 0, none⟩ 1) := by kernel_rfl
theorem fl_103_1 (w : World) : (callFunc 160 #[.pointer (some ⟨4, 103, none⟩), .int .i64 (1 : Nat)]).run Tryz.prog w = .ok (.value (.agg (frec (fs103 1) (.slice (some ⟨w.heap.size, 0, none⟩) 1 1)))) (w.alloc (.cells #[.int .i64 (1 : Nat)] 3 (0, 1))) := by rw [fl0_103_1, freeze_alloc]
theorem ie_103_1 (ix : Value) (w : World) : (callFunc 51 #[.agg (frec (fs103 1) ix)]).run Tryz.prog w = .ok (.value (.bool (fs103 1).exp)) w := by kernel_rfl
theorem mk_103 (w : World) : (Instr.makeMap 89 (some (.int .i64 (2 : Nat)))).run Tryz.prog w = .ok (.map (some w.heap.size)) (w.alloc (.map #[] 0)) := by kernel_rfl
theorem ty103 : TyFacts 103 2 fs103 where
  n0 := by decide
  n64 := by decide
  fld := by
    intro j hj w
    have hc : j = 0 ∨ j = 1 := by omega
    rcases hc with rfl | rfl
    · exact fl_103_0 w
    · exact fl_103_1 w
  iex := by
    intro j hj ix w
    have hc : j = 0 ∨ j = 1 := by omega
    rcases hc with rfl | rfl
    · exact ie_103_0 ix w
    · exact ie_103_1 ix w
  fnm := by
    intro j hj he w
    have hc : j = 0 ∨ j = 1 := by omega
    rcases hc with rfl | rfl
    · exact (fn_plain _ w).mono fun e w' ⟨h1, h2⟩ => ⟨h1, 0, h2.symm⟩
    · cases he
  key := by
    intro j hj hv
    have hc : j = 0 ∨ j = 1 := by omega
    rcases hc with rfl | rfl
    · exact keyne (l := [80]) rfl
    · cases hv
  mkm := mk_103
def tab103 (x : ByteArray) : Option Ent :=
  if ((⟨#[80]⟩ : ByteArray) == x) = true then some ⟨3, 2, true, false, [0]⟩ else
  none
theorem tb103_0 : tab103 (fs103 0).key = some ⟨(fs103 0).t, (fs103 0).k, (fs103 0).i, (fs103 0).f, [((0 : Nat) : Int)]⟩ := by kernel_rfl
abbrev ks103 : List Kid := []
def kT103 : Nat → Nat
  | 1 => 101
  | _ => 0
def kK103 : Nat → Int
  | 1 => 2
  | _ => 0
theorem kk_103_1 (w : World) : (callFunc 171 #[.pointer (some ⟨4, 101, none⟩)]).run Tryz.prog w = .ok (.value (.int .u64 2)) w := by kernel_rfl
theorem tk_103_1 (w : World) : Calls Tryz.prog 37 #[.iface 105 (.pointer (some ⟨4, 101, none⟩)), .int .u64 2] w fun e w' => e = .returned (.tuple #[.iface 105 (.pointer (some ⟨4, 101, none⟩)), .int .u64 2, .bool false]) ∧ w' = w := by
  go_enter Tryz.func37, Tryz.ntmps37
  go_wp2
  refine wp_loop_rounds 1 ?_
  rw [rounds_succ]
  go_wp2
  go_ret3
  exact ⟨rfl, rfl⟩
theorem top103 : TopFacts 103 2 fs103 tab103 kT103 kK103 ks103 where
  toTyFacts := ty103
  tk := by
    intro j hj he hv
    have hc : j = 0 ∨ j = 1 := by omega
    rcases hc with rfl | rfl
    · exact tb103_0
    · cases he
  ft := by
    intro j hj he hv
    have hc : j = 0 ∨ j = 1 := by omega
    rcases hc with rfl | rfl
    · exact Or.inl (fun c w => from_3 c w)
    · cases he
  kd := by
    intro j hj he
    have hc : j = 0 ∨ j = 1 := by omega
    rcases hc with rfl | rfl
    · cases he
    · exact ⟨2, false, kk_103_1, tk_103_1⟩
  kid := by
    intro j hj he hk
    have hc : j = 0 ∨ j = 1 := by omega
    rcases hc with rfl | rfl
    · cases he
    · exact absurd hk (by decide)
  kj := by
    intro K hK
    cases hK
  inj := by
    intro K hK K' hK'
    cases hK
  leaf := by
    intro K hK
    cases hK
  nf := by
    intro K hK
    cases hK
  kkind := by
    intro K hK
    cases hK
  comp := by
    intro K hK x E h
    cases hK
  kjl := by
    intro K hK
    cases hK
  cov := by
    intro x E h
    unfold tab103 at h
    by_cases h0 : ((⟨#[80]⟩ : ByteArray) == x) = true
    · rw [if_pos h0] at h
      exact Or.inl ⟨0, by decide, rfl, rfl, (ba_iff _ _).1 h0⟩
    rw [if_neg h0] at h
    cases h
end Go.Proofs.YtdpgbmmgeooahaaGreatDoorBesrefl
