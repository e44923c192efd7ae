/-
  The walk of FnIsAnyOfModel: IsAnyOf answers true exactly when the set of checks named meets the set of checks that hold.
-/
import Derived.Test.YtnjjndnnpkejlaaGreatFmtBase
import Derived.Test.YtnjjndnnpkejlaaGreatFmtN51
import Derived.Laws.BitsAllLaws
import Derived.IntWalk
import Derived.OpenShut
import Derived.Deep.RegionWith
import Derived.RegionTactic
import Derived.ChangeAlike
import Derived.Deep.QuietTactic
import Derived.BigQuiet
import Derived.WalkSmall
import Derived.Outline
import Derived.Lib.Hide
import Derived.Deep.LoopGhost
import Derived.Deep.Cut
import Derived.Deep.CutRange
import Derived.Laws.Cells
import Derived.Laws.MakeOwn
import Derived.Test.YtnjjndnnpkejlaaGreatFmtKit
namespace Go.Proofs.YtnjjndnnpkejlaaGreatFmt.fnIsAnyOfModel
open Go.RowKit
set_option maxRecDepth 100000
set_option maxHeartbeats 1000000
set_option linter.unusedVariables false
theorem bal {w v : World} (h : Below w.heap.size w v) (o : Obj) : Below w.heap.size w (v.alloc o) := h.alloc h.size o
theorem bdn {B : Nat} {a w : World} (h : Below B a w) (n : Nat) : Below B a (w.drewN n) := ⟨h.os, h.tape, h.output, h.size, h.block⟩
/-- the slice of integers 'v' reads as 'zs' up to its capacity, or is nil -/
def IntsIn (w : World) (k : IntKind) (v : Value) : Prop := v = .slice none 0 0 ∨ ∃ (a : Addr) (len cap : Nat) (zs : List Int), v = .slice (some a) len cap ∧ len ≤ cap ∧ cap ≤ maxLen ∧ zs.length = cap ∧ (∀ i, i < zs.length → w.cell? (a.add i) = some (.int k (zs.getD i 0))) ∧ (∀ n ∈ zs, (Lit.int k n).wf = true)
/-- the slice of strings 'v' reads as 'ss' up to its capacity, or is nil -/
def StrsIn (w : World) (v : Value) : Prop := v = .slice none 0 0 ∨ ∃ (a : Addr) (len cap : Nat) (ss : List ByteArray), v = .slice (some a) len cap ∧ len ≤ cap ∧ cap ≤ maxLen ∧ ss.length = cap ∧ (∀ i, i < ss.length → w.cell? (a.add i) = some (.string (ss.getD i ByteArray.empty))) ∧ (∀ s ∈ ss, s.size ≤ maxLen)
/-- the pointer 'v' is nil or points at an integer -/
def PtrIn (w : World) (k : IntKind) (v : Value) : Prop := v = .pointer none ∨ ∃ b off n, v = .pointer (some ⟨b, off, none⟩) ∧ w.cell? ⟨b, off, none⟩ = some (.int k n) ∧ (Lit.int k n).wf = true
theorem rd_of {w : World} {v : Value} (h : IntsIn w .i64 v) : ∃ o n c zs, v = .slice o n c ∧ Rd w o n zs := by
  rcases h with rfl | ⟨a, len, cap, zs, rfl, h1, h2, h3, h4, h5⟩
  · exact ⟨none, 0, 0, [], rfl, rfl, fun i hi => absurd hi (Nat.not_lt_zero _)⟩
  · refine ⟨some a, len, cap, zs.take len, rfl, by rw [List.length_take]; omega, fun i hi => ⟨a, rfl, ?_⟩⟩
    rw [h4 i (by omega), List.getD_eq_getElem?_getD, List.getD_eq_getElem?_getD, List.getElem?_take, if_pos hi]

theorem bytes (k : Int) (ii ff : Bool) (o : Option Addr) (n c : Nat) (w : World) : Calls Tryz.prog 10 #[.int .u64 k, .bool ii, .bool ff, .slice o n c] w fun e w' => w = w' ∧ ((e = .returned (.bool true) ∧ n ≤ 1048576) ∨ e = .returned (.bool false)) := by
  by_cases c1 : (n : Int) ≤ 1048576
  · have c2 := w64 n (by omega)
    go_enter Tryz.func10, Tryz.ntmps10
    go_wp2
    all_goals
      go_ret
      first | exact ⟨rfl, Or.inl ⟨rfl, by omega⟩⟩ | exact ⟨rfl, Or.inr rfl⟩
  · go_enter Tryz.func10, Tryz.ntmps10
    go_wp2
    all_goals
      go_ret
      first | exact ⟨rfl, Or.inr rfl⟩
theorem walk0 (k : Int) (ii ff : Bool) (o : Option Addr) (n c : Nat) (zs : List Int) (w : World) (h : Rd w o n zs) : Calls Tryz.prog 4 #[.int .u64 k, .bool ii, .bool ff, .slice o n c] w fun e w' => e = .returned (.bool true) ∧ Below w.heap.size w w' := by
  have HR := Lib.hid h
  have HLn := Lib.hid h.1
  clear h
  go_enter Tryz.func4, Tryz.ntmps4
  go_wp2_with (first | (go_at_call 10; ((with_reducible refine (bytes _ _ _ _ _ _ _).mono ?_); rintro e w' ⟨rfl, ⟨rfl, hb⟩ | rfl⟩)) | (go_at_call 11; ((with_reducible refine (known _ _ _ zs (by omega) _ HR.out).mono ?_); rintro e w' ⟨rfl, ⟨rfl, ho⟩ | rfl⟩)) | (go_at_call 12; ((with_reducible refine (reach _ _ _ _).mono ?_); rintro e w' ⟨rfl | rfl, rfl⟩)) | (go_at_call 13; ((with_reducible refine (toChecks _ _ _ zs (by omega) _ HR.out).mono ?_); rintro e w1 ⟨sb, rfl, hB, hA, hle⟩; have HB := Lib.hid hB; have HA := Lib.hid hA; have HO := Lib.hid ho; clear hB hA hle ho)) | (go_at_call 14; ((with_reducible refine (nat0 _ _ _ _).mono ?_); rintro e w' ⟨rfl, rfl⟩)) | (go_at_call 9; go_loud ((with_reducible refine (any k ii ff (w1.heap.size + 1) sb n zs (by omega) HLn.out HO.out _ (At.new _ _ _ _ (by simp)) ((HA.out.alloc _).alloc _)).mono ?_); rintro e w2 ⟨rfl, hB2⟩; have hB3 := bnext (bal (bal HB.out _) _) hB2; have HB3 := Lib.hid hB3; clear hB2 hB3)))
  all_goals first
  | (go_ret; exact ⟨rfl, Below.refl _ _⟩)
  | skip
  go_loopg [12, 13] n (fun g sn_ i wr => ∃ j : Nat, g = n - j ∧ j ≤ n ∧ i = .int .i64 j ∧ sn_ = .int .u64 (sn (zs.take j)) ∧ wr = w2)
  case atStart => exact ⟨0, by simp, Nat.zero_le _, rfl, by simp [sn], rfl⟩
  case round =>
    obtain ⟨j, hg, hj, rfl, rfl, rfl⟩ := hrel
    have HG := Lib.hid hg
    clear hg
    by_cases c1 : j < n
    · obtain ⟨a, ha, hc0⟩ := HR.out.2 j c1
      have hc := cell_bel HB3.out hc0
      have ho := HO.out j (by have := HR.out.1; omega)
      have hs := sn_take zs j (by have := HR.out.1; omega)
      have HS := Lib.hid hs
      subst ha
      have hz : zs.getD j 0 = 1 ∨ zs.getD j 0 = 2 ∨ zs.getD j 0 = 3 ∨ zs.getD j 0 = 4 ∨ zs.getD j 0 = 5 ∨ zs.getD j 0 = 6 ∨ zs.getD j 0 = 7 ∨ zs.getD j 0 = 8 := by omega
      obtain ⟨z, hze⟩ : ∃ z, zs.getD j 0 = z := ⟨_, rfl⟩
      rw [hze] at hz hc hs ho
      have HS := Lib.hid hs
      have hl := sn_le zs (fun i hi => HO.out i hi) j
      obtain ⟨b, hb⟩ : ∃ b, sn (zs.take j) = b := ⟨_, rfl⟩
      rw [hb] at HS hl
      rw [hb]
      clear hze hs ho hc0 hb
      rcases hz with rfl | rfl | rfl | rfl | rfl | rfl | rfl | rfl
      all_goals
        go_wp2
        go_roundg (n - (j + 1))
      all_goals try (show _ < _; have := HG.out; omega)
      all_goals exact ⟨j + 1, rfl, c1, by simp, orx (by omega) HS.out, rfl⟩
    · have e : j = n := by omega
      subst e
      have hb := sn_le zs (fun i hi => HO.out i hi) j
      have ht : zs.take j = zs := List.take_of_length_le (by have := HR.out.1; omega)
      go_wp2_with (go_at_call 15; ((with_reducible refine (hmask _ _ _ _).mono ?_); rintro e w' ⟨rfl, rfl⟩))
      go_ret
      exact ⟨congrArg (fun b => Ending.returned (.bool b)) (fin_law k ii ff zs (fun i hi => HO.out i hi)), HB3.out⟩
theorem walk (k : Int) (ii ff : Bool) (v : Value) (w : World) (_ : (Lit.int .u64 k).wf = true) (h : IntsIn w .i64 v) : Calls Tryz.prog 4 #[.int .u64 k, .bool ii, .bool ff, v] w fun e w' => e = .returned (.bool true) ∧ Below w.heap.size w w' := by
  obtain ⟨o, n, c, zs, rfl, hr⟩ := rd_of h
  exact walk0 k ii ff o n c zs w hr
end Go.Proofs.YtnjjndnnpkejlaaGreatFmt.fnIsAnyOfModel
