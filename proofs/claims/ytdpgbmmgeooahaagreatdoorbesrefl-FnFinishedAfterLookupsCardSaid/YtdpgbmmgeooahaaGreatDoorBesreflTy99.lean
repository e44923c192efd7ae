/-
  What the model says of struct type 99. No condition.
-/
import Derived.Test.YtdpgbmmgeooahaaGreatDoorBesreflTyBase
import Derived.Test.YtdpgbmmgeooahaaGreatDoorBesreflTy96
import Derived.Test.YtdpgbmmgeooahaaGreatDoorBesreflTy227
namespace Go.Proofs.YtdpgbmmgeooahaaGreatDoorBesrefl
open Go.RowKit
set_option maxRecDepth 100000
set_option maxHeartbeats 1000000
set_option linter.unusedVariables false
def fs99 : Nat → Fd
  | 0 => ⟨⟨#[65]⟩, ⟨#[]⟩, 3, ⟨#[]⟩, 0, false, true, true, ⟨#[65]⟩, 2, true, false⟩
  | 1 => ⟨⟨#[122, 122, 73, 110, 110, 101, 114, 95, 110, 48, 48, 51, 95, 49, 48, 55]⟩, ⟨#[103, 105, 116, 104, 117, 98, 46, 99, 111, 109, 47, 101, 120, 112, 114, 45, 108, 97, 110, 103, 47, 101, 120, 112, 114, 47, 99, 104, 101, 99, 107, 101, 114, 47, 110, 97, 116, 117, 114, 101]⟩, 96, ⟨#[]⟩, 8, true, false, false, ⟨#[]⟩, 25, false, false⟩
  | 2 => ⟨⟨#[66]⟩, ⟨#[]⟩, 4, ⟨#[101, 120, 112, 114, 58, 34, 45, 34]⟩, 64, false, true, false, ⟨#[]⟩, 1, false, false⟩
  | 3 => ⟨⟨#[67]⟩, ⟨#[]⟩, 27, ⟨#[]⟩, 72, false, true, true, ⟨#[67]⟩, 14, false, true⟩
  | 4 => ⟨⟨#[122, 122, 68, 101, 101, 112, 95, 110, 48, 48, 51, 95, 49, 48, 55]⟩, ⟨#[103, 105, 116, 104, 117, 98, 46, 99, 111, 109, 47, 101, 120, 112, 114, 45, 108, 97, 110, 103, 47, 101, 120, 112, 114, 47, 99, 104, 101, 99, 107, 101, 114, 47, 110, 97, 116, 117, 114, 101]⟩, 97, ⟨#[]⟩, 80, true, false, false, ⟨#[]⟩, 22, false, false⟩
  | _ => ⟨⟨#[]⟩, ⟨#[]⟩, 0, ⟨#[]⟩, 0, false, false, false, ⟨#[]⟩, 0, false, false⟩
theorem fl0_99_0 (w : World) : (callFunc 160 #[.pointer (some ⟨4, 99, none⟩), .int .i64 (0 : Nat)]).run Tryz.prog w = .ok (.value (.agg (frec (fs99 0) (.slice (some ⟨w.heap.size, 0, none⟩) 1 1)))) ((w.alloc (.cells #[.int .i64 (0 : Nat)] 3)).freeze ⟨w.heap.size, 0, none⟩ 1) := by kernel_rfl
theorem fl_99_0 (w : World) : (callFunc 160 #[.pointer (some ⟨4, 99, none⟩), .int .i64 (0 : Nat)]).run Tryz.prog w = .ok (.value (.agg (frec (fs99 0) (.slice (some ⟨w.heap.size, 0, none⟩) 1 1)))) (w.alloc (.cells #[.int .i64 (0 : Nat)] 3 (0, 1))) := by rw [fl0_99_0, freeze_alloc]
theorem ie_99_0 (ix : Value) (w : World) : (callFunc 51 #[.agg (frec (fs99 0) ix)]).run Tryz.prog w = .ok (.value (.bool (fs99 0).exp)) w := by kernel_rfl
theorem fl0_99_1 (w : World) : (callFunc 160 #[.pointer (some ⟨4, 99, none⟩), .int .i64 (1 : Nat)]).run Tryz.prog w = .ok (.value (.agg (frec (fs99 1) (.slice (some ⟨w.heap.size, 0, none⟩) 1 1)))) ((w.alloc (.cells #[.int .i64 (1 : Nat)] 3)).freeze ⟨w.heap.size, 0, none⟩ 1) := by kernel_rfl
theorem fl_99_1 (w : World) : (callFunc 160 #[.pointer (some ⟨4, 99, none⟩), .int .i64 (1 : Nat)]).run Tryz.prog w = .ok (.value (.agg (frec (fs99 1) (.slice (some ⟨w.heap.size, 0, none⟩) 1 1)))) (w.alloc (.cells #[.int .i64 (1 : Nat)] 3 (0, 1))) := by rw [fl0_99_1, freeze_alloc]
theorem ie_99_1 (ix : Value) (w : World) : (callFunc 51 #[.agg (frec (fs99 1) ix)]).run Tryz.prog w = .ok (.value (.bool (fs99 1).exp)) w := by kernel_rfl
theorem fl0_99_2 (w : World) : (callFunc 160 #[.pointer (some ⟨4, 99, none⟩), .int .i64 (2 : Nat)]).run Tryz.prog w = .ok (.value (.agg (frec (fs99 2) (.slice (some ⟨w.heap.size, 0, none⟩) 1 1)))) ((w.alloc (.cells #[.int .i64 (2 : Nat)] 3)).freeze ⟨w.heap.size, 0, none⟩ 1) := by kernel_rfl
theorem fl_99_2 (w : World) : (callFunc 160 #[.pointer (some ⟨4, 99, none⟩), .int .i64 (2 : Nat)]).run Tryz.prog w = .ok (.value (.agg (frec (fs99 2) (.slice (some ⟨w.heap.size, 0, none⟩) 1 1)))) (w.alloc (.cells #[.int .i64 (2 : Nat)] 3 (0, 1))) := by rw [fl0_99_2, freeze_alloc]
theorem ie_99_2 (ix : Value) (w : World) : (callFunc 51 #[.agg (frec (fs99 2) ix)]).run Tryz.prog w = .ok (.value (.bool (fs99 2).exp)) w := by kernel_rfl
theorem fl0_99_3 (w : World) : (callFunc 160 #[.pointer (some ⟨4, 99, none⟩), .int .i64 (3 : Nat)]).run Tryz.prog w = .ok (.value (.agg (frec (fs99 3) (.slice (some ⟨w.heap.size, 0, none⟩) 1 1)))) ((w.alloc (.cells #[.int .i64 (3 : Nat)] 3)).freeze ⟨w.heap.size, 0, none⟩ 1) := by kernel_rfl
theorem fl_99_3 (w : World) : (callFunc 160 #[.pointer (some ⟨4, 99, none⟩), .int .i64 (3 : Nat)]).run Tryz.prog w = .ok (.value (.agg (frec (fs99 3) (.slice (some ⟨w.heap.size, 0, none⟩) 1 1)))) (w.alloc (.cells #[.int .i64 (3 : Nat)] 3 (0, 1))) := by rw [fl0_99_3, freeze_alloc]
theorem ie_99_3 (ix : Value) (w : World) : (callFunc 51 #[.agg (frec (fs99 3) ix)]).run Tryz.prog w = .ok (.value (.bool (fs99 3).exp)) w := by kernel_rfl
theorem fl0_99_4 (w : World) : (callFunc 160 #[.pointer (some ⟨4, 99, none⟩), .int .i64 (4 : Nat)]).run Tryz.prog w = .ok (.value (.agg (frec (fs99 4) (.slice (some ⟨w.heap.size, 0, none⟩) 1 1)))) ((w.alloc (.cells #[.int .i64 (4 : Nat)] 3)).freeze ⟨w.heap.size, 0, none⟩ 1) := by kernel_rfl
theorem fl_99_4 (w : World) : (callFunc 160 #[.pointer (some ⟨4, 99, none⟩), .int .i64 (4 : Nat)]).run Tryz.prog w = .ok (.value (.agg (frec (fs99 4) (.slice (some ⟨w.heap.size, 0, none⟩) 1 1)))) (w.alloc (.cells #[.int .i64 (4 : Nat)] 3 (0, 1))) := by rw [fl0_99_4, freeze_alloc]
theorem ie_99_4 (ix : Value) (w : World) : (callFunc 51 #[.agg (frec (fs99 4) ix)]).run Tryz.prog w = .ok (.value (.bool (fs99 4).exp)) w := by kernel_rfl
theorem mk_99 (w : World) : (Instr.makeMap 89 (some (.int .i64 (5 : Nat)))).run Tryz.prog w = .ok (.map (some w.heap.size)) (w.alloc (.map #[] 0)) := by kernel_rfl
theorem ty99 : TyFacts 99 5 fs99 where
  n0 := by decide
  n64 := by decide
  fld := by
    intro j hj w
    have hc : j = 0 ∨ j = 1 ∨ j = 2 ∨ j = 3 ∨ j = 4 := by omega
    rcases hc with rfl | rfl | rfl | rfl | rfl
    · exact fl_99_0 w
    · exact fl_99_1 w
    · exact fl_99_2 w
    · exact fl_99_3 w
    · exact fl_99_4 w
  iex := by
    intro j hj ix w
    have hc : j = 0 ∨ j = 1 ∨ j = 2 ∨ j = 3 ∨ j = 4 := by omega
    rcases hc with rfl | rfl | rfl | rfl | rfl
    · exact ie_99_0 ix w
    · exact ie_99_1 ix w
    · exact ie_99_2 ix w
    · exact ie_99_3 ix w
    · exact ie_99_4 ix w
  fnm := by
    intro j hj he w
    have hc : j = 0 ∨ j = 1 ∨ j = 2 ∨ j = 3 ∨ j = 4 := by omega
    rcases hc with rfl | rfl | rfl | rfl | rfl
    · exact (fn_plain _ w).mono fun e w' ⟨h1, h2⟩ => ⟨h1, 0, h2.symm⟩
    · cases he
    · exact fn_m _ w
    · exact (fn_plain _ w).mono fun e w' ⟨h1, h2⟩ => ⟨h1, 0, h2.symm⟩
    · cases he
  key := by
    intro j hj hv
    have hc : j = 0 ∨ j = 1 ∨ j = 2 ∨ j = 3 ∨ j = 4 := by omega
    rcases hc with rfl | rfl | rfl | rfl | rfl
    · exact keyne (l := [65]) rfl
    · cases hv
    · cases hv
    · exact keyne (l := [67]) rfl
    · cases hv
  mkm := mk_99
def tab99 (x : ByteArray) : Option Ent :=
  if ((⟨#[65]⟩ : ByteArray) == x) = true then some ⟨3, 2, true, false, [0]⟩ else
  if ((⟨#[67]⟩ : ByteArray) == x) = true then some ⟨27, 14, false, true, [3]⟩ else
  if ((⟨#[88]⟩ : ByteArray) == x) = true then some ⟨3, 2, true, false, [1, 0]⟩ else
  if ((⟨#[89]⟩ : ByteArray) == x) = true then some ⟨9, 24, false, false, [1, 1]⟩ else
  if ((⟨#[116, 101, 101]⟩ : ByteArray) == x) = true then some ⟨3, 2, true, false, [1, 3]⟩ else
  if ((⟨#[68]⟩ : ByteArray) == x) = true then some ⟨3, 2, true, false, [4, 0]⟩ else
  none
theorem tb99_0 : tab99 (fs99 0).key = some ⟨(fs99 0).t, (fs99 0).k, (fs99 0).i, (fs99 0).f, [((0 : Nat) : Int)]⟩ := by kernel_rfl
theorem tb99_3 : tab99 (fs99 3).key = some ⟨(fs99 3).t, (fs99 3).k, (fs99 3).i, (fs99 3).f, [((3 : Nat) : Int)]⟩ := by kernel_rfl
def kid99_1 : Kid := ⟨1, 96, 5, fs96, tab96⟩
def kid99_4 : Kid := ⟨4, 227, 2, fs227, tab227⟩
abbrev ks99 : List Kid := [kid99_1, kid99_4]
def kT99 : Nat → Nat
  | 1 => 96
  | 4 => 227
  | _ => 0
def kK99 : Nat → Int
  | 1 => 25
  | 4 => 25
  | _ => 0
theorem kk_99_1 (w : World) : (callFunc 171 #[.pointer (some ⟨4, 96, none⟩)]).run Tryz.prog w = .ok (.value (.int .u64 25)) w := by kernel_rfl
theorem tk_99_1 (w : World) : Calls Tryz.prog 37 #[.iface 105 (.pointer (some ⟨4, 96, none⟩)), .int .u64 25] w fun e w' => e = .returned (.tuple #[.iface 105 (.pointer (some ⟨4, 96, none⟩)), .int .u64 25, .bool false]) ∧ w' = w := by
  go_enter Tryz.func37, Tryz.ntmps37
  go_wp2
  refine wp_loop_rounds 1 ?_
  rw [rounds_succ]
  go_wp2
  go_ret3
  exact ⟨rfl, rfl⟩
theorem kk_99_4 (w : World) : (callFunc 171 #[.pointer (some ⟨4, 97, none⟩)]).run Tryz.prog w = .ok (.value (.int .u64 22)) w := by kernel_rfl
theorem ke_99_4 (w : World) : (callFunc 171 #[.pointer (some ⟨4, 227, none⟩)]).run Tryz.prog w = .ok (.value (.int .u64 25)) w := by kernel_rfl
theorem el_99_4 (w : World) : (callFunc 159 #[.pointer (some ⟨4, 97, none⟩)]).run Tryz.prog w = .ok (.value (.iface 105 (.pointer (some ⟨4, 227, none⟩)))) w := by kernel_rfl
theorem tk_99_4 (w : World) : Calls Tryz.prog 37 #[.iface 105 (.pointer (some ⟨4, 97, none⟩)), .int .u64 22] w fun e w' => e = .returned (.tuple #[.iface 105 (.pointer (some ⟨4, 227, none⟩)), .int .u64 25, .bool true]) ∧ w' = w := by
  have h1 := ke_99_4
  have h2 := el_99_4
  go_enter Tryz.func37, Tryz.ntmps37
  go_wp2
  refine wp_loop_rounds 2 ?_
  rw [rounds_succ]
  go_wp2
  rw [rounds_succ]
  go_wp2
  go_ret3
  exact ⟨rfl, rfl⟩
theorem nf_99_1 (w : World) : (callFunc 177 #[.pointer (some ⟨4, 96, none⟩)]).run Tryz.prog w = .ok (.value (.int .i64 (5 : Nat))) w := by kernel_rfl
theorem kd_99_1 (w : World) : (callFunc 171 #[.pointer (some ⟨4, 96, none⟩)]).run Tryz.prog w = .ok (.value (.int .u64 25)) w := by kernel_rfl
theorem nf_99_4 (w : World) : (callFunc 177 #[.pointer (some ⟨4, 227, none⟩)]).run Tryz.prog w = .ok (.value (.int .i64 (2 : Nat))) w := by kernel_rfl
theorem kd_99_4 (w : World) : (callFunc 171 #[.pointer (some ⟨4, 227, none⟩)]).run Tryz.prog w = .ok (.value (.int .u64 25)) w := by kernel_rfl
theorem top99 : TopFacts 99 5 fs99 tab99 kT99 kK99 ks99 where
  toTyFacts := ty99
  tk := by
    intro j hj he hv
    have hc : j = 0 ∨ j = 1 ∨ j = 2 ∨ j = 3 ∨ j = 4 := by omega
    rcases hc with rfl | rfl | rfl | rfl | rfl
    · exact tb99_0
    · cases he
    · cases hv
    · exact tb99_3
    · cases he
  ft := by
    intro j hj he hv
    have hc : j = 0 ∨ j = 1 ∨ j = 2 ∨ j = 3 ∨ j = 4 := by omega
    rcases hc with rfl | rfl | rfl | rfl | rfl
    · exact Or.inl (fun c w => from_3 c w)
    · cases he
    · cases hv
    · exact Or.inl (fun c w => from_27 c w)
    · cases he
  kd := by
    intro j hj he
    have hc : j = 0 ∨ j = 1 ∨ j = 2 ∨ j = 3 ∨ j = 4 := by omega
    rcases hc with rfl | rfl | rfl | rfl | rfl
    · cases he
    · exact ⟨25, false, kk_99_1, tk_99_1⟩
    · cases he
    · cases he
    · exact ⟨22, true, kk_99_4, tk_99_4⟩
  kid := by
    intro j hj he hk
    have hc : j = 0 ∨ j = 1 ∨ j = 2 ∨ j = 3 ∨ j = 4 := by omega
    rcases hc with rfl | rfl | rfl | rfl | rfl
    · cases he
    · exact ⟨kid99_1, by simp, rfl, rfl⟩
    · cases he
    · cases he
    · exact ⟨kid99_4, by simp, rfl, rfl⟩
  kj := by
    intro K hK
    simp only [List.mem_cons, List.not_mem_nil, or_false] at hK
    rcases hK with rfl | rfl
    · exact ⟨rfl, rfl, by decide⟩
    · exact ⟨rfl, rfl, by decide⟩
  inj := by
    intro K hK K' hK'
    simp only [List.mem_cons, List.not_mem_nil, or_false] at hK hK'
    rcases hK with rfl | rfl <;> rcases hK' with rfl | rfl
    · exact ⟨fun _ => rfl, fun _ => rfl⟩
    · exact ⟨fun h => absurd h (by decide), fun h => absurd h (by decide)⟩
    · exact ⟨fun h => absurd h (by decide), fun h => absurd h (by decide)⟩
    · exact ⟨fun _ => rfl, fun _ => rfl⟩
  leaf := by
    intro K hK
    simp only [List.mem_cons, List.not_mem_nil, or_false] at hK
    rcases hK with rfl | rfl
    · exact leaf96
    · exact leaf227
  nf := by
    intro K hK
    simp only [List.mem_cons, List.not_mem_nil, or_false] at hK
    rcases hK with rfl | rfl
    · exact nf_99_1
    · exact nf_99_4
  kkind := by
    intro K hK
    simp only [List.mem_cons, List.not_mem_nil, or_false] at hK
    rcases hK with rfl | rfl
    · exact kd_99_1
    · exact kd_99_4
  comp := by
    intro K hK x E h
    simp only [List.mem_cons, List.not_mem_nil, or_false] at hK
    rcases hK with rfl | rfl
    · change tab96 x = some E at h
      unfold tab96 at h
      by_cases h0 : ((⟨#[88]⟩ : ByteArray) == x) = true
      · rw [if_pos h0] at h
        obtain rfl := (ba_iff _ _).1 h0
        cases h
        exact Or.inr (by kernel_rfl)
      rw [if_neg h0] at h
      by_cases h1 : ((⟨#[89]⟩ : ByteArray) == x) = true
      · rw [if_pos h1] at h
        obtain rfl := (ba_iff _ _).1 h1
        cases h
        exact Or.inr (by kernel_rfl)
      rw [if_neg h1] at h
      by_cases h2 : ((⟨#[116, 101, 101]⟩ : ByteArray) == x) = true
      · rw [if_pos h2] at h
        obtain rfl := (ba_iff _ _).1 h2
        cases h
        exact Or.inr (by kernel_rfl)
      rw [if_neg h2] at h
      by_cases h3 : ((⟨#[65]⟩ : ByteArray) == x) = true
      · rw [if_pos h3] at h
        exact Or.inl ⟨0, by decide, rfl, rfl, (ba_iff _ _).1 h3⟩
      rw [if_neg h3] at h
      cases h
    · change tab227 x = some E at h
      unfold tab227 at h
      by_cases h0 : ((⟨#[68]⟩ : ByteArray) == x) = true
      · rw [if_pos h0] at h
        obtain rfl := (ba_iff _ _).1 h0
        cases h
        exact Or.inr (by kernel_rfl)
      rw [if_neg h0] at h
      cases h
  kjl := by
    intro K hK
    simp only [List.mem_cons, List.not_mem_nil, or_false] at hK
    rcases hK with rfl | rfl
    · decide
    · decide
  cov := by
    intro x E h
    unfold tab99 at h
    by_cases h0 : ((⟨#[65]⟩ : ByteArray) == x) = true
    · rw [if_pos h0] at h
      exact Or.inl ⟨0, by decide, rfl, rfl, (ba_iff _ _).1 h0⟩
    rw [if_neg h0] at h
    by_cases h1 : ((⟨#[67]⟩ : ByteArray) == x) = true
    · rw [if_pos h1] at h
      exact Or.inl ⟨3, by decide, rfl, rfl, (ba_iff _ _).1 h1⟩
    rw [if_neg h1] at h
    by_cases h2 : ((⟨#[88]⟩ : ByteArray) == x) = true
    · rw [if_pos h2] at h
      obtain rfl := (ba_iff _ _).1 h2
      exact Or.inr ⟨kid99_1, by simp, by decide⟩
    rw [if_neg h2] at h
    by_cases h3 : ((⟨#[89]⟩ : ByteArray) == x) = true
    · rw [if_pos h3] at h
      obtain rfl := (ba_iff _ _).1 h3
      exact Or.inr ⟨kid99_1, by simp, by decide⟩
    rw [if_neg h3] at h
    by_cases h4 : ((⟨#[116, 101, 101]⟩ : ByteArray) == x) = true
    · rw [if_pos h4] at h
      obtain rfl := (ba_iff _ _).1 h4
      exact Or.inr ⟨kid99_1, by simp, by decide⟩
    rw [if_neg h4] at h
    by_cases h5 : ((⟨#[68]⟩ : ByteArray) == x) = true
    · rw [if_pos h5] at h
      obtain rfl := (ba_iff _ _).1 h5
      exact Or.inr ⟨kid99_4, by simp, by decide⟩
    rw [if_neg h5] at h
    cases h
end Go.Proofs.YtdpgbmmgeooahaaGreatDoorBesrefl
