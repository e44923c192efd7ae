/-
  What the model says of struct type 54. No condition.
-/
import Derived.Test.YtdpgbmmgeooahaaGreatDoorBesreflTyBase
import Derived.Test.YtdpgbmmgeooahaaGreatDoorBesreflTy51
import Derived.Test.YtdpgbmmgeooahaaGreatDoorBesreflTy209
namespace Go.Proofs.YtdpgbmmgeooahaaGreatDoorBesrefl
open Go.RowKit
set_option maxRecDepth 100000
set_option maxHeartbeats 1000000
set_option linter.unusedVariables false
def fs54 : Nat → Fd
  | 0 => ⟨⟨#[78, 97, 109, 101]⟩, ⟨#[]⟩, 9, ⟨#[]⟩, 0, false, true, true, ⟨#[78, 97, 109, 101]⟩, 24, false, false⟩
  | 1 => ⟨⟨#[67, 111, 117, 110, 116]⟩, ⟨#[]⟩, 3, ⟨#[101, 120, 112, 114, 58, 34, 116, 111, 116, 97, 108, 34]⟩, 16, false, true, true, ⟨#[116, 111, 116, 97, 108]⟩, 2, true, false⟩
  | 2 => ⟨⟨#[83, 107, 105, 112]⟩, ⟨#[]⟩, 4, ⟨#[101, 120, 112, 114, 58, 34, 45, 34]⟩, 24, false, true, false, ⟨#[]⟩, 1, false, false⟩
  | 3 => ⟨⟨#[115, 101, 99, 114, 101, 116]⟩, ⟨#[103, 105, 116, 104, 117, 98, 46, 99, 111, 109, 47, 101, 120, 112, 114, 45, 108, 97, 110, 103, 47, 101, 120, 112, 114, 47, 110, 48, 48, 51, 95, 56, 52]⟩, 3, ⟨#[]⟩, 32, false, false, false, ⟨#[]⟩, 2, true, false⟩
  | 4 => ⟨⟨#[122, 122, 73, 110, 110, 101, 114]⟩, ⟨#[103, 105, 116, 104, 117, 98, 46, 99, 111, 109, 47, 101, 120, 112, 114, 45, 108, 97, 110, 103, 47, 101, 120, 112, 114, 47, 110, 48, 48, 51, 95, 56, 52]⟩, 51, ⟨#[]⟩, 40, true, false, false, ⟨#[]⟩, 25, false, false⟩
  | 5 => ⟨⟨#[83, 104, 97, 114, 101, 100]⟩, ⟨#[]⟩, 27, ⟨#[]⟩, 72, false, true, true, ⟨#[83, 104, 97, 114, 101, 100]⟩, 14, false, true⟩
  | 6 => ⟨⟨#[122, 122, 80, 116, 114]⟩, ⟨#[103, 105, 116, 104, 117, 98, 46, 99, 111, 109, 47, 101, 120, 112, 114, 45, 108, 97, 110, 103, 47, 101, 120, 112, 114, 47, 110, 48, 48, 51, 95, 56, 52]⟩, 52, ⟨#[]⟩, 80, true, false, false, ⟨#[]⟩, 22, false, false⟩
  | _ => ⟨⟨#[]⟩, ⟨#[]⟩, 0, ⟨#[]⟩, 0, false, false, false, ⟨#[]⟩, 0, false, false⟩
theorem fl0_54_0 (w : World) : (callFunc 160 #[.pointer (some ⟨4, 54, none⟩), .int .i64 (0 : Nat)]).run Tryz.prog w = .ok (.value (.agg (frec (fs54 0) (.slice (some ⟨w.heap.size, 0, none⟩) 1 1)))) ((w.alloc (.cells #[.int .i64 (0 : Nat)] 3)).freeze ⟨w.heap.size, 0, none⟩ 1) := by kernel_rfl
theorem fl_54_0 (w : World) : (callFunc 160 #[.pointer (some ⟨4, 54, none⟩), .int .i64 (0 : Nat)]).run Tryz.prog w = .ok (.value (.agg (frec (fs54 0) (.slice (some ⟨w.heap.size, 0, none⟩) 1 1)))) (w.alloc (.cells #[.int .i64 (0 : Nat)] 3 (0, 1))) := by rw [fl0_54_0, freeze_alloc]
theorem ie_54_0 (ix : Value) (w : World) : (callFunc 51 #[.agg (frec (fs54 0) ix)]).run Tryz.prog w = .ok (.value (.bool (fs54 0).exp)) w := by kernel_rfl
theorem fl0_54_1 (w : World) : (callFunc 160 #[.pointer (some ⟨4, 54, none⟩), .int .i64 (1 : Nat)]).run Tryz.prog w = .ok (.value (.agg (frec (fs54 1) (.slice (some ⟨w.heap.size, 0, none⟩) 1 1)))) ((w.alloc (.cells #[.int .i64 (1 : Nat)] 3)).freeze ⟨w.heap.size, 0, none⟩ 1) := by kernel_rfl
theorem fl_54_1 (w : World) : (callFunc 160 #[.pointer (some ⟨4, 54, none⟩), .int .i64 (1 : Nat)]).run Tryz.prog w = .ok (.value (.agg (frec (fs54 1) (.slice (some ⟨w.heap.size, 0, none⟩) 1 1)))) (w.alloc (.cells #[.int .i64 (1 : Nat)] 3 (0, 1))) := by rw [fl0_54_1, freeze_alloc]
theorem ie_54_1 (ix : Value) (w : World) : (callFunc 51 #[.agg (frec (fs54 1) ix)]).run Tryz.prog w = .ok (.value (.bool (fs54 1).exp)) w := by kernel_rfl
theorem fl0_54_2 (w : World) : (callFunc 160 #[.pointer (some ⟨4, 54, none⟩), .int .i64 (2 : Nat)]).run Tryz.prog w = .ok (.value (.agg (frec (fs54 2) (.slice (some ⟨w.heap.size, 0, none⟩) 1 1)))) ((w.alloc (.cells #[.int .i64 (2 : Nat)] 3)).freeze ⟨w.heap.size, 0, none⟩ 1) := by kernel_rfl
theorem fl_54_2 (w : World) : (callFunc 160 #[.pointer (some ⟨4, 54, none⟩), .int .i64 (2 : Nat)]).run Tryz.prog w = .ok (.value (.agg (frec (fs54 2) (.slice (some ⟨w.heap.size, 0, none⟩) 1 1)))) (w.alloc (.cells #[.int .i64 (2 : Nat)] 3 (0, 1))) := by rw [fl0_54_2, freeze_alloc]
theorem ie_54_2 (ix : Value) (w : World) : (callFunc 51 #[.agg (frec (fs54 2) ix)]).run Tryz.prog w = .ok (.value (.bool (fs54 2).exp)) w := by kernel_rfl
theorem fl0_54_3 (w : World) : (callFunc 160 #[.pointer (some ⟨4, 54, none⟩), .int .i64 (3 : Nat)]).run Tryz.prog w = .ok (.value (.agg (frec (fs54 3) (.slice (some ⟨w.heap.size, 0, none⟩) 1 1)))) ((w.alloc (.cells #[.int .i64 (3 : Nat)] 3)).freeze ⟨w.heap.size, 0, none⟩ 1) := by kernel_rfl
theorem fl_54_3 (w : World) : (callFunc 160 #[.pointer (some ⟨4, 54, none⟩), .int .i64 (3 : Nat)]).run Tryz.prog w = .ok (.value (.agg (frec (fs54 3) (.slice (some ⟨w.heap.size, 0, none⟩) 1 1)))) (w.alloc (.cells #[.int .i64 (3 : Nat)] 3 (0, 1))) := by rw [fl0_54_3, freeze_alloc]
theorem ie_54_3 (ix : Value) (w : World) : (callFunc 51 #[.agg (frec (fs54 3) ix)]).run Tryz.prog w = .ok (.value (.bool (fs54 3).exp)) w := by kernel_rfl
theorem fl0_54_4 (w : World) : (callFunc 160 #[.pointer (some ⟨4, 54, none⟩), .int .i64 (4 : Nat)]).run Tryz.prog w = .ok (.value (.agg (frec (fs54 4) (.slice (some ⟨w.heap.size, 0, none⟩) 1 1)))) ((w.alloc (.cells #[.int .i64 (4 : Nat)] 3)).freeze ⟨w.heap.size, 0, none⟩ 1) := by kernel_rfl
theorem fl_54_4 (w : World) : (callFunc 160 #[.pointer (some ⟨4, 54, none⟩), .int .i64 (4 : Nat)]).run Tryz.prog w = .ok (.value (.agg (frec (fs54 4) (.slice (some ⟨w.heap.size, 0, none⟩) 1 1)))) (w.alloc (.cells #[.int .i64 (4 : Nat)] 3 (0, 1))) := by rw [fl0_54_4, freeze_alloc]
theorem ie_54_4 (ix : Value) (w : World) : (callFunc 51 #[.agg (frec (fs54 4) ix)]).run Tryz.prog w = .ok (.value (.bool (fs54 4).exp)) w := by kernel_rfl
theorem fl0_54_5 (w : World) : (callFunc 160 #[.pointer (some ⟨4, 54, none⟩), .int .i64 (5 : Nat)]).run Tryz.prog w = .ok (.value (.agg (frec (fs54 5) (.slice (some ⟨w.heap.size, 0, none⟩) 1 1)))) ((w.alloc (.cells #[.int .i64 (5 : Nat)] 3)).freeze ⟨w.heap.size, 0, none⟩ 1) := by kernel_rfl
theorem fl_54_5 (w : World) : (callFunc 160 #[.pointer (some ⟨4, 54, none⟩), .int .i64 (5 : Nat)]).run Tryz.prog w = .ok (.value (.agg (frec (fs54 5) (.slice (some ⟨w.heap.size, 0, none⟩) 1 1)))) (w.alloc (.cells #[.int .i64 (5 : Nat)] 3 (0, 1))) := by rw [fl0_54_5, freeze_alloc]
theorem ie_54_5 (ix : Value) (w : World) : (callFunc 51 #[.agg (frec (fs54 5) ix)]).run Tryz.prog w = .ok (.value (.bool (fs54 5).exp)) w := by kernel_rfl
theorem fl0_54_6 (w : World) : (callFunc 160 #[.pointer (some ⟨4, 54, none⟩), .int .i64 (6 : Nat)]).run Tryz.prog w = .ok (.value (.agg (frec (fs54 6) (.slice (some ⟨w.heap.size, 0, none⟩) 1 1)))) ((w.alloc (.cells #[.int .i64 (6 : Nat)] 3)).freeze ⟨w.heap.size, 0, none⟩ 1) := by kernel_rfl
theorem fl_54_6 (w : World) : (callFunc 160 #[.pointer (some ⟨4, 54, none⟩), .int .i64 (6 : Nat)]).run Tryz.prog w = .ok (.value (.agg (frec (fs54 6) (.slice (some ⟨w.heap.size, 0, none⟩) 1 1)))) (w.alloc (.cells #[.int .i64 (6 : Nat)] 3 (0, 1))) := by rw [fl0_54_6, freeze_alloc]
theorem ie_54_6 (ix : Value) (w : World) : (callFunc 51 #[.agg (frec (fs54 6) ix)]).run Tryz.prog w = .ok (.value (.bool (fs54 6).exp)) w := by kernel_rfl
theorem mk_54 (w : World) : (Instr.makeMap 89 (some (.int .i64 (7 : Nat)))).run Tryz.prog w = .ok (.map (some w.heap.size)) (w.alloc (.map #[] 0)) := by kernel_rfl
theorem ty54 : TyFacts 54 7 fs54 where
  n0 := by decide
  n64 := by decide
  fld := by
    intro j hj w
    have hc : j = 0 ∨ j = 1 ∨ j = 2 ∨ j = 3 ∨ j = 4 ∨ j = 5 ∨ j = 6 := by omega
    rcases hc with rfl | rfl | rfl | rfl | rfl | rfl | rfl
    · exact fl_54_0 w
    · exact fl_54_1 w
    · exact fl_54_2 w
    · exact fl_54_3 w
    · exact fl_54_4 w
    · exact fl_54_5 w
    · exact fl_54_6 w
  iex := by
    intro j hj ix w
    have hc : j = 0 ∨ j = 1 ∨ j = 2 ∨ j = 3 ∨ j = 4 ∨ j = 5 ∨ j = 6 := by omega
    rcases hc with rfl | rfl | rfl | rfl | rfl | rfl | rfl
    · exact ie_54_0 ix w
    · exact ie_54_1 ix w
    · exact ie_54_2 ix w
    · exact ie_54_3 ix w
    · exact ie_54_4 ix w
    · exact ie_54_5 ix w
    · exact ie_54_6 ix w
  fnm := by
    intro j hj he w
    have hc : j = 0 ∨ j = 1 ∨ j = 2 ∨ j = 3 ∨ j = 4 ∨ j = 5 ∨ j = 6 := by omega
    rcases hc with rfl | rfl | rfl | rfl | rfl | rfl | rfl
    · exact (fn_plain _ w).mono fun e w' ⟨h1, h2⟩ => ⟨h1, 0, h2.symm⟩
    · exact fn_total _ w
    · exact fn_m _ w
    · cases he
    · cases he
    · exact (fn_plain _ w).mono fun e w' ⟨h1, h2⟩ => ⟨h1, 0, h2.symm⟩
    · cases he
  key := by
    intro j hj hv
    have hc : j = 0 ∨ j = 1 ∨ j = 2 ∨ j = 3 ∨ j = 4 ∨ j = 5 ∨ j = 6 := by omega
    rcases hc with rfl | rfl | rfl | rfl | rfl | rfl | rfl
    · exact keyne (l := [78, 97, 109, 101]) rfl
    · exact keyne (l := [116, 111, 116, 97, 108]) rfl
    · cases hv
    · cases hv
    · cases hv
    · exact keyne (l := [83, 104, 97, 114, 101, 100]) rfl
    · cases hv
  mkm := mk_54
def tab54 (x : ByteArray) : Option Ent :=
  if ((⟨#[78, 97, 109, 101]⟩ : ByteArray) == x) = true then some ⟨9, 24, false, false, [0]⟩ else
  if ((⟨#[116, 111, 116, 97, 108]⟩ : ByteArray) == x) = true then some ⟨3, 2, true, false, [1]⟩ else
  if ((⟨#[83, 104, 97, 114, 101, 100]⟩ : ByteArray) == x) = true then some ⟨27, 14, false, true, [5]⟩ else
  if ((⟨#[68, 101, 101, 112]⟩ : ByteArray) == x) = true then some ⟨3, 2, true, false, [4, 0]⟩ else
  if ((⟨#[70, 108, 97, 103]⟩ : ByteArray) == x) = true then some ⟨4, 1, false, false, [6, 0]⟩ else
  if ((⟨#[84, 97, 103, 115]⟩ : ByteArray) == x) = true then some ⟨74, 23, false, false, [6, 1]⟩ else
  none
theorem tb54_0 : tab54 (fs54 0).key = some ⟨(fs54 0).t, (fs54 0).k, (fs54 0).i, (fs54 0).f, [((0 : Nat) : Int)]⟩ := by kernel_rfl
theorem tb54_1 : tab54 (fs54 1).key = some ⟨(fs54 1).t, (fs54 1).k, (fs54 1).i, (fs54 1).f, [((1 : Nat) : Int)]⟩ := by kernel_rfl
theorem tb54_5 : tab54 (fs54 5).key = some ⟨(fs54 5).t, (fs54 5).k, (fs54 5).i, (fs54 5).f, [((5 : Nat) : Int)]⟩ := by kernel_rfl
def kid54_4 : Kid := ⟨4, 51, 3, fs51, tab51⟩
def kid54_6 : Kid := ⟨6, 209, 2, fs209, tab209⟩
abbrev ks54 : List Kid := [kid54_4, kid54_6]
def kT54 : Nat → Nat
  | 4 => 51
  | 6 => 209
  | _ => 0
def kK54 : Nat → Int
  | 4 => 25
  | 6 => 25
  | _ => 0
theorem kk_54_4 (w : World) : (callFunc 171 #[.pointer (some ⟨4, 51, none⟩)]).run Tryz.prog w = .ok (.value (.int .u64 25)) w := by kernel_rfl
theorem tk_54_4 (w : World) : Calls Tryz.prog 37 #[.iface 105 (.pointer (some ⟨4, 51, none⟩)), .int .u64 25] w fun e w' => e = .returned (.tuple #[.iface 105 (.pointer (some ⟨4, 51, none⟩)), .int .u64 25, .bool false]) ∧ w' = w := by
  go_enter Tryz.func37, Tryz.ntmps37
  go_wp2
  refine wp_loop_rounds 1 ?_
  rw [rounds_succ]
  go_wp2
  go_ret3
  exact ⟨rfl, rfl⟩
theorem kk_54_6 (w : World) : (callFunc 171 #[.pointer (some ⟨4, 52, none⟩)]).run Tryz.prog w = .ok (.value (.int .u64 22)) w := by kernel_rfl
theorem ke_54_6 (w : World) : (callFunc 171 #[.pointer (some ⟨4, 209, none⟩)]).run Tryz.prog w = .ok (.value (.int .u64 25)) w := by kernel_rfl
theorem el_54_6 (w : World) : (callFunc 159 #[.pointer (some ⟨4, 52, none⟩)]).run Tryz.prog w = .ok (.value (.iface 105 (.pointer (some ⟨4, 209, none⟩)))) w := by kernel_rfl
theorem tk_54_6 (w : World) : Calls Tryz.prog 37 #[.iface 105 (.pointer (some ⟨4, 52, none⟩)), .int .u64 22] w fun e w' => e = .returned (.tuple #[.iface 105 (.pointer (some ⟨4, 209, none⟩)), .int .u64 25, .bool true]) ∧ w' = w := by
  have h1 := ke_54_6
  have h2 := el_54_6
  go_enter Tryz.func37, Tryz.ntmps37
  go_wp2
  refine wp_loop_rounds 2 ?_
  rw [rounds_succ]
  go_wp2
  rw [rounds_succ]
  go_wp2
  go_ret3
  exact ⟨rfl, rfl⟩
theorem nf_54_4 (w : World) : (callFunc 177 #[.pointer (some ⟨4, 51, none⟩)]).run Tryz.prog w = .ok (.value (.int .i64 (3 : Nat))) w := by kernel_rfl
theorem kd_54_4 (w : World) : (callFunc 171 #[.pointer (some ⟨4, 51, none⟩)]).run Tryz.prog w = .ok (.value (.int .u64 25)) w := by kernel_rfl
theorem nf_54_6 (w : World) : (callFunc 177 #[.pointer (some ⟨4, 209, none⟩)]).run Tryz.prog w = .ok (.value (.int .i64 (2 : Nat))) w := by kernel_rfl
theorem kd_54_6 (w : World) : (callFunc 171 #[.pointer (some ⟨4, 209, none⟩)]).run Tryz.prog w = .ok (.value (.int .u64 25)) w := by kernel_rfl
theorem top54 : TopFacts 54 7 fs54 tab54 kT54 kK54 ks54 where
  toTyFacts := ty54
  tk := by
    intro j hj he hv
    have hc : j = 0 ∨ j = 1 ∨ j = 2 ∨ j = 3 ∨ j = 4 ∨ j = 5 ∨ j = 6 := by omega
    rcases hc with rfl | rfl | rfl | rfl | rfl | rfl | rfl
    · exact tb54_0
    · exact tb54_1
    · cases hv
    · cases he
    · cases he
    · exact tb54_5
    · cases he
  ft := by
    intro j hj he hv
    have hc : j = 0 ∨ j = 1 ∨ j = 2 ∨ j = 3 ∨ j = 4 ∨ j = 5 ∨ j = 6 := by omega
    rcases hc with rfl | rfl | rfl | rfl | rfl | rfl | rfl
    · exact Or.inl (fun c w => from_9 c w)
    · exact Or.inl (fun c w => from_3 c w)
    · cases hv
    · cases he
    · cases he
    · exact Or.inl (fun c w => from_27 c w)
    · cases he
  kd := by
    intro j hj he
    have hc : j = 0 ∨ j = 1 ∨ j = 2 ∨ j = 3 ∨ j = 4 ∨ j = 5 ∨ j = 6 := by omega
    rcases hc with rfl | rfl | rfl | rfl | rfl | rfl | rfl
    · cases he
    · cases he
    · cases he
    · cases he
    · exact ⟨25, false, kk_54_4, tk_54_4⟩
    · cases he
    · exact ⟨22, true, kk_54_6, tk_54_6⟩
  kid := by
    intro j hj he hk
    have hc : j = 0 ∨ j = 1 ∨ j = 2 ∨ j = 3 ∨ j = 4 ∨ j = 5 ∨ j = 6 := by omega
    rcases hc with rfl | rfl | rfl | rfl | rfl | rfl | rfl
    · cases he
    · cases he
    · cases he
    · cases he
    · exact ⟨kid54_4, by simp, rfl, rfl⟩
    · cases he
    · exact ⟨kid54_6, by simp, rfl, rfl⟩
  kj := by
    intro K hK
    simp only [List.mem_cons, List.not_mem_nil, or_false] at hK
    rcases hK with rfl | rfl
    · exact ⟨rfl, rfl, by decide⟩
    · exact ⟨rfl, rfl, by decide⟩
  inj := by
    intro K hK K' hK'
    simp only [List.mem_cons, List.not_mem_nil, or_false] at hK hK'
    rcases hK with rfl | rfl <;> rcases hK' with rfl | rfl
    · exact ⟨fun _ => rfl, fun _ => rfl⟩
    · exact ⟨fun h => absurd h (by decide), fun h => absurd h (by decide)⟩
    · exact ⟨fun h => absurd h (by decide), fun h => absurd h (by decide)⟩
    · exact ⟨fun _ => rfl, fun _ => rfl⟩
  leaf := by
    intro K hK
    simp only [List.mem_cons, List.not_mem_nil, or_false] at hK
    rcases hK with rfl | rfl
    · exact leaf51
    · exact leaf209
  nf := by
    intro K hK
    simp only [List.mem_cons, List.not_mem_nil, or_false] at hK
    rcases hK with rfl | rfl
    · exact nf_54_4
    · exact nf_54_6
  kkind := by
    intro K hK
    simp only [List.mem_cons, List.not_mem_nil, or_false] at hK
    rcases hK with rfl | rfl
    · exact kd_54_4
    · exact kd_54_6
  comp := by
    intro K hK x E h
    simp only [List.mem_cons, List.not_mem_nil, or_false] at hK
    rcases hK with rfl | rfl
    · change tab51 x = some E at h
      unfold tab51 at h
      by_cases h0 : ((⟨#[68, 101, 101, 112]⟩ : ByteArray) == x) = true
      · rw [if_pos h0] at h
        obtain rfl := (ba_iff _ _).1 h0
        cases h
        exact Or.inr (by kernel_rfl)
      rw [if_neg h0] at h
      by_cases h1 : ((⟨#[83, 104, 97, 114, 101, 100]⟩ : ByteArray) == x) = true
      · rw [if_pos h1] at h
        exact Or.inl ⟨5, by decide, rfl, rfl, (ba_iff _ _).1 h1⟩
      rw [if_neg h1] at h
      cases h
    · change tab209 x = some E at h
      unfold tab209 at h
      by_cases h0 : ((⟨#[70, 108, 97, 103]⟩ : ByteArray) == x) = true
      · rw [if_pos h0] at h
        obtain rfl := (ba_iff _ _).1 h0
        cases h
        exact Or.inr (by kernel_rfl)
      rw [if_neg h0] at h
      by_cases h1 : ((⟨#[84, 97, 103, 115]⟩ : ByteArray) == x) = true
      · rw [if_pos h1] at h
        obtain rfl := (ba_iff _ _).1 h1
        cases h
        exact Or.inr (by kernel_rfl)
      rw [if_neg h1] at h
      cases h
  kjl := by
    intro K hK
    simp only [List.mem_cons, List.not_mem_nil, or_false] at hK
    rcases hK with rfl | rfl
    · decide
    · decide
  cov := by
    intro x E h
    unfold tab54 at h
    by_cases h0 : ((⟨#[78, 97, 109, 101]⟩ : ByteArray) == x) = true
    · rw [if_pos h0] at h
      exact Or.inl ⟨0, by decide, rfl, rfl, (ba_iff _ _).1 h0⟩
    rw [if_neg h0] at h
    by_cases h1 : ((⟨#[116, 111, 116, 97, 108]⟩ : ByteArray) == x) = true
    · rw [if_pos h1] at h
      exact Or.inl ⟨1, by decide, rfl, rfl, (ba_iff _ _).1 h1⟩
    rw [if_neg h1] at h
    by_cases h2 : ((⟨#[83, 104, 97, 114, 101, 100]⟩ : ByteArray) == x) = true
    · rw [if_pos h2] at h
      exact Or.inl ⟨5, by decide, rfl, rfl, (ba_iff _ _).1 h2⟩
    rw [if_neg h2] at h
    by_cases h3 : ((⟨#[68, 101, 101, 112]⟩ : ByteArray) == x) = true
    · rw [if_pos h3] at h
      obtain rfl := (ba_iff _ _).1 h3
      exact Or.inr ⟨kid54_4, by simp, by decide⟩
    rw [if_neg h3] at h
    by_cases h4 : ((⟨#[70, 108, 97, 103]⟩ : ByteArray) == x) = true
    · rw [if_pos h4] at h
      obtain rfl := (ba_iff _ _).1 h4
      exact Or.inr ⟨kid54_6, by simp, by decide⟩
    rw [if_neg h4] at h
    by_cases h5 : ((⟨#[84, 97, 103, 115]⟩ : ByteArray) == x) = true
    · rw [if_pos h5] at h
      obtain rfl := (ba_iff _ _).1 h5
      exact Or.inr ⟨kid54_6, by simp, by decide⟩
    rw [if_neg h5] at h
    cases h
end Go.Proofs.YtdpgbmmgeooahaaGreatDoorBesrefl
