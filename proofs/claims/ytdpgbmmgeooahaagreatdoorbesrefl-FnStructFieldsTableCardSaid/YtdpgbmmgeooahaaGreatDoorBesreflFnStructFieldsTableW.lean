/-
  The walk of FnStructFieldsTable: StructFields lists exactly the six visible names with their classes. No condition.
-/
import Derived.Test.YtdpgbmmgeooahaaGreatDoorBesreflS84
import Derived.WalkSpells
namespace Go.Proofs.YtdpgbmmgeooahaaGreatDoorBesrefl.fnStructFieldsTable
open Go.RowKit
set_option maxRecDepth 100000
set_option maxHeartbeats 1000000
set_option linter.unusedVariables false
theorem zb (x0 : ByteArray) (w : World) : Calls Tryz.prog 10 #[.string x0] w fun e w' => ∃ b, e = .returned (.bool b) ∧ w = w' := by
  go_enter Tryz.func10, Tryz.ntmps10
  go_wp2
  all_goals
    go_ret
    exact ⟨_, rfl, rfl⟩
theorem spec_yes {H : ByteArray → Option Value} (hs : ∀ x v, H x = some v → ∃ E td', tab54 x = some E ∧ v = .agg (natc E.t E.k td' E.i E.f)) (hc : ∀ x, tab54 x ≠ none → H x ≠ none) {x : ByteArray} {E : Ent} (hE : tab54 x = some E) : ∃ td', H x = some (.agg (natc E.t E.k td' E.i E.f)) := by
  rcases spec hs hc x with ⟨E2, td', h1, h2⟩ | ⟨h1, h2⟩
  · rw [hE] at h1
    cases h1
    exact ⟨td', h2⟩
  · rw [hE] at h1
    cases h1
theorem spec_no {H : ByteArray → Option Value} (hs : ∀ x v, H x = some v → ∃ E td', tab54 x = some E ∧ v = .agg (natc E.t E.k td' E.i E.f)) (hc : ∀ x, tab54 x ≠ none → H x ≠ none) {x : ByteArray} (hE : tab54 x = none) : H x = none := by
  rcases spec hs hc x with ⟨E2, td', h1, h2⟩ | ⟨h1, h2⟩
  · rw [hE] at h1
    cases h1
  · exact h2
set_option maxHeartbeats 8000000 in
theorem walk_yes (name : ByteArray) (w : World) (w0 : name.size ≤ maxLen) (E : Ent) (cc : Int) (hc0 : ¬ cc = 0) (hc1 : (cc == 0) = false) (hc2 : (cc != 0) = true) (hT : tab54 name = some E) (hsc : ∀ w, Calls Tryz.prog 13 #[.string name] w fun e w' => e = .returned (.int .i64 cc) ∧ w = w') (hco : ∀ (td : Option Addr) (w : World), Calls Tryz.prog 14 #[.agg (natc E.t E.k td E.i E.f)] w fun e w' => e = .returned (.int .i64 cc) ∧ w.alloc (.cells (natc E.t E.k td E.i E.f) 48) = w') : Calls Tryz.prog 3 #[.string name] w fun e w' => e = .returned (.bool true) ∧ Below w.heap.size w w' := by
  have HTE := Lib.hid hT
  have HY := Lib.hid (And.intro hsc hco)
  clear hT hsc hco
  go_enter Tryz.func3, Tryz.ntmps3
  go_wp2_with (first | (go_at_call 10; ((with_reducible refine (zb _ _).mono ?_); rintro e w' ⟨b, rfl, rfl⟩; skip)) | (go_at_call 11; ((with_reducible refine (no_first _ w.heap.size w.heap.size _ (ca_new w) (Nat.le_refl _) (by simp)).mono ?_); rintro e w1 ⟨td, s, rfl, hf, h1, hT⟩; have hg : Fr w.heap.size w w1 := ((Fr.refl w.heap.size w (Nat.le_refl _)).alloc _).trans hf; have HA := Lib.hid (And.intro (hg) (And.intro (h1) (hT))); clear hf hT hg h1)) | (go_at_call 12; ((with_reducible refine (stf_v HA.out.2.1 (HA.out.2.2.alloc _)).mono ?_); rintro e w2 ⟨mt, H, rfl, hf, hM, hs, hc⟩; have hok := hM.ok; obtain ⟨td', hH⟩ := spec_yes hs hc HTE.out; have hlk := (hM.look name).trans hH; clear hH; have hlen : ∀ ty, (Builtin.len_ #[55] ty #[.map (some mt)]).run Tryz.prog w2 = .ok (.int .i64 6) w2 := (by obtain ⟨es2, cl2, hm2, hMI2, hfi2⟩ := hM; intro ty; rw [len_map _ _ _ _ _ hm2, size6 hMI2 hfi2 hs hc]; rfl); have HF := Lib.hid ((HA.out.1.alloc _).trans hf); clear hf hM hs hc)) | (go_at_call 13; ((with_reducible refine (HY.out.1 _).mono ?_); rintro e w' ⟨rfl, rfl⟩; skip)) | (go_at_call 14; ((with_reducible refine (HY.out.2 _ _).mono ?_); rintro e w3 ⟨rfl, rfl⟩; skip)))
  all_goals
    go_ret
    first | exact ⟨rfl, Below.refl _ _⟩ | exact ⟨rfl, ((HF.out.alloc _).alloc _).bel⟩ | exact ⟨rfl, (HF.out.alloc _).bel⟩ | exact ⟨rfl, HF.out.bel⟩
set_option maxHeartbeats 8000000 in
theorem walk_no (name : ByteArray) (w : World) (w0 : name.size ≤ maxLen) (hT : tab54 name = none) : Calls Tryz.prog 3 #[.string name] w fun e w' => e = .returned (.bool true) ∧ Below w.heap.size w w' := by
  have HTE := Lib.hid hT
  skip
  clear hT
  go_enter Tryz.func3, Tryz.ntmps3
  go_wp2_with (first | (go_at_call 10; ((with_reducible refine (zb _ _).mono ?_); rintro e w' ⟨b, rfl, rfl⟩; skip)) | (go_at_call 11; ((with_reducible refine (no_first _ w.heap.size w.heap.size _ (ca_new w) (Nat.le_refl _) (by simp)).mono ?_); rintro e w1 ⟨td, s, rfl, hf, h1, hT⟩; have hg : Fr w.heap.size w w1 := ((Fr.refl w.heap.size w (Nat.le_refl _)).alloc _).trans hf; have HA := Lib.hid (And.intro (hg) (And.intro (h1) (hT))); clear hf hT hg h1)) | (go_at_call 12; ((with_reducible refine (stf_v HA.out.2.1 (HA.out.2.2.alloc _)).mono ?_); rintro e w2 ⟨mt, H, rfl, hf, hM, hs, hc⟩; have hok := hM.ok; have hlk := (hM.look name).trans (spec_no hs hc HTE.out); have hlen : ∀ ty, (Builtin.len_ #[55] ty #[.map (some mt)]).run Tryz.prog w2 = .ok (.int .i64 6) w2 := (by obtain ⟨es2, cl2, hm2, hMI2, hfi2⟩ := hM; intro ty; rw [len_map _ _ _ _ _ hm2, size6 hMI2 hfi2 hs hc]; rfl); have HF := Lib.hid ((HA.out.1.alloc _).trans hf); clear hf hM hs hc)) | (go_at_call 13; ((with_reducible refine (sc_no name _ HTE.out).mono ?_); rintro e w' ⟨rfl, rfl⟩; skip)))
  all_goals
    go_ret
    first | exact ⟨rfl, Below.refl _ _⟩ | exact ⟨rfl, ((HF.out.alloc _).alloc _).bel⟩ | exact ⟨rfl, (HF.out.alloc _).bel⟩ | exact ⟨rfl, HF.out.bel⟩
theorem walk (name : ByteArray) (w : World) (w0 : name.size ≤ maxLen) : Calls Tryz.prog 3 #[.string name] w fun e w' => e = .returned (.bool true) ∧ Below w.heap.size w w' := by
  cases hT : tab54 name with
  | none => exact walk_no name w w0 hT
  | some E =>
    obtain ⟨cc, hc5, hsc, hco⟩ := sc_yes name E hT
    have hc0 : ¬ cc = 0 := by omega
    exact walk_yes name w w0 E cc hc0 (by simpa using hc0) (by simpa using hc0) hT hsc hco
end Go.Proofs.YtdpgbmmgeooahaaGreatDoorBesrefl.fnStructFieldsTable
