/-
  The walk of FnStructFieldsAgreesWithFieldByName: After a FieldByName lookup StructFields of the pointer type lists the same six names, and agrees with it. No condition.
-/
import Derived.Test.YtdpgbmmgeooahaaGreatDoorBesreflS84
import Derived.WalkSpells
namespace Go.Proofs.YtdpgbmmgeooahaaGreatDoorBesrefl.fnStructFieldsAgreesWithFieldByName
open Go.RowKit
set_option maxRecDepth 100000
set_option maxHeartbeats 1000000
set_option linter.unusedVariables false
theorem zb (x0 : ByteArray) (w : World) : Calls Tryz.prog 21 #[.string x0] w fun e w' => ∃ b, e = .returned (.bool b) ∧ w = w' := by
  go_enter Tryz.func21, Tryz.ntmps21
  go_wp2
  all_goals
    go_ret
    exact ⟨_, rfl, rfl⟩
theorem natAt_new (w : World) (T td : Nat) : NatAt (w.alloc (.cells (natc T 25 (pt td) false false) 48)) w.heap.size T td := heap_alloc_new w _
theorem spec_yes {H : ByteArray → Option Value} (hs : ∀ x v, H x = some v → ∃ E td', tab54 x = some E ∧ v = .agg (natc E.t E.k td' E.i E.f)) (hc : ∀ x, tab54 x ≠ none → H x ≠ none) {x : ByteArray} {E : Ent} (hE : tab54 x = some E) : ∃ td', H x = some (.agg (natc E.t E.k td' E.i E.f)) := by
  rcases spec hs hc x with ⟨E2, td', h1, h2⟩ | ⟨h1, h2⟩
  · rw [hE] at h1
    cases h1
    exact ⟨td', h2⟩
  · rw [hE] at h1
    cases h1
theorem spec_no {H : ByteArray → Option Value} (hs : ∀ x v, H x = some v → ∃ E td', tab54 x = some E ∧ v = .agg (natc E.t E.k td' E.i E.f)) (hc : ∀ x, tab54 x ≠ none → H x ≠ none) {x : ByteArray} (hE : tab54 x = none) : H x = none := by
  rcases spec hs hc x with ⟨E2, td', h1, h2⟩ | ⟨h1, h2⟩
  · rw [hE] at h1
    cases h1
  · exact h2
theorem fb_yes {B cb td s nb : Nat} {mo : Option Nat} {own : Nat} {an : Int} {ch : Option Addr} {ix : Value} {F : ByteArray → Option Value} {w : World} {x : ByteArray} (h1 : B ≤ s) (hN : NatAt w nb 54 td) (h : Top [] (fun _ => none) B cb td s 54 7 fs54 tab54 ks54 exT mo own an ch ix F w) {E : Ent} (hE : tab54 x = some E) : Calls Tryz.prog 22 #[.pointer (pt nb), .pointer (pt cb), .string x] w fun e w' => ∃ td2 m own' an' ch' ix' F', e = .returned (.tuple #[.agg (natc E.t E.k td2 E.i E.f), .bool true]) ∧ Fr B w w' ∧ Top [] (fun _ => none) B cb td s 54 7 fs54 tab54 ks54 exT (some m) own' an' ch' ix' F' w' := by
  refine (fbn top54 (exOk _ _) h1 x hN h).mono ?_
  rintro e w' ⟨m, own', an', ch', ix', F', hf, hT, ⟨E2, td2, h2, rfl⟩ | ⟨h2, rfl⟩⟩
  · rw [hE] at h2
    cases h2
    exact ⟨td2, m, own', an', ch', ix', F', rfl, hf, hT⟩
  · rw [hE] at h2
    cases h2
theorem fb_no {B cb td s nb : Nat} {mo : Option Nat} {own : Nat} {an : Int} {ch : Option Addr} {ix : Value} {F : ByteArray → Option Value} {w : World} {x : ByteArray} (h1 : B ≤ s) (hN : NatAt w nb 54 td) (h : Top [] (fun _ => none) B cb td s 54 7 fs54 tab54 ks54 exT mo own an ch ix F w) (hE : tab54 x = none) : Calls Tryz.prog 22 #[.pointer (pt nb), .pointer (pt cb), .string x] w fun e w' => ∃ m own' an' ch' ix' F', e = .returned (.tuple #[zeroN, .bool false]) ∧ Fr B w w' ∧ Top [] (fun _ => none) B cb td s 54 7 fs54 tab54 ks54 exT (some m) own' an' ch' ix' F' w' := by
  refine (fbn top54 (exOk _ _) h1 x hN h).mono ?_
  rintro e w' ⟨m, own', an', ch', ix', F', hf, hT, ⟨E2, td2, h2, rfl⟩ | ⟨h2, rfl⟩⟩
  · rw [hE] at h2
    cases h2
  · exact ⟨m, own', an', ch', ix', F', rfl, hf, hT⟩
set_option maxHeartbeats 8000000 in
theorem walk_yes (name : ByteArray) (w : World) (w0 : name.size ≤ maxLen) (E : Ent) (cc : Int) (hc0 : ¬ cc = 0) (hc1 : (cc == 0) = false) (hc2 : (cc != 0) = true) (hT : tab54 name = some E) (hsc : ∀ w, Calls Tryz.prog 13 #[.string name] w fun e w' => e = .returned (.int .i64 cc) ∧ w = w') (hco : ∀ (td : Option Addr) (w : World), Calls Tryz.prog 14 #[.agg (natc E.t E.k td E.i E.f)] w fun e w' => e = .returned (.int .i64 cc) ∧ w.alloc (.cells (natc E.t E.k td E.i E.f) 48) = w') : Calls Tryz.prog 5 #[.string name] w fun e w' => e = .returned (.bool true) ∧ Below w.heap.size w w' := by
  have HTE := Lib.hid hT
  have HY := Lib.hid (And.intro hsc hco)
  clear hT hsc hco
  go_enter Tryz.func5, Tryz.ntmps5
  go_wp2_with (first | (go_at_call 21; ((with_reducible refine (zb _ _).mono ?_); rintro e w' ⟨b, rfl, rfl⟩; skip)) | (go_at_call 12; ((with_reducible refine (stf_p HA.out.2.1 (HC.out.2.1.alloc _)).mono ?_); rintro e w4 ⟨mt, H, rfl, hf, hM, hs, hc⟩; have hok := hM.ok; obtain ⟨td', hH⟩ := spec_yes hs hc HTE.out; have hlk := (hM.look name).trans hH; clear hH; have hlen : ∀ ty, (Builtin.len_ #[55] ty #[.map (some mt)]).run Tryz.prog w4 = .ok (.int .i64 6) w4 := (by obtain ⟨es2, cl2, hm2, hMI2, hfi2⟩ := hM; intro ty; rw [len_map _ _ _ _ _ hm2, size6 hMI2 hfi2 hs hc]; rfl); have k4 := hf.kept w2.heap.size _ ((Below.heap_alloc _ _ _ (Array.getElem?_eq_some_iff.1 HC.out.2.2).1).trans HC.out.2.2) rfl; have fbp : Plain w4 w2.heap.size := ⟨_, _, k4⟩; have fbc := cellsAt_of k4; have fbl := fbp.lt; have fbz : (cellsAt w4 w2.heap.size).size = 9 := (by rw [fbc]; rfl); obtain ⟨fb1, fb2, fb3, fb4⟩ := szs fbl; clear k4; have HF := Lib.hid ((HC.out.1.alloc _).trans hf); clear hf hM hs hc)) | (go_at_call 11; ((with_reducible refine (nop _ _ _).mono ?_); rintro e w3 ⟨rfl, hf⟩; have k2 := hf.kept w2.heap.size _ (by first | exact heap_alloc_new w2 _ | exact (Below.heap_alloc _ _ _ (by simp)).trans (heap_alloc_new w2 _)) rfl; have hg := ((HB.out.1.alloc _).alloc _).trans (hf.le ((HB.out.1.alloc _).alloc _).grow); have HC := Lib.hid (And.intro (hg) (And.intro (((HB.out.2.alloc _).alloc _).mv (hf.le ((HB.out.2.alloc _).alloc _).low) (fun b hb => hf.bel.block b hb)) (k2))); clear hf hg k2)) | (go_at_call 11; ((with_reducible refine (nop _ _ _).mono ?_); rintro e w3 ⟨rfl, hf⟩; have k2 := hf.kept w2.heap.size _ (by first | exact heap_alloc_new w2 _ | exact (Below.heap_alloc _ _ _ (by simp)).trans (heap_alloc_new w2 _)) rfl; have hg := (HB.out.1.alloc _).trans (hf.le (HB.out.1.alloc _).grow); have HC := Lib.hid (And.intro (hg) (And.intro ((HB.out.2.alloc _).mv (hf.le (HB.out.2.alloc _).low) (fun b hb => hf.bel.block b hb)) (k2))); clear hf hg k2)) | (go_at_call 11; ((with_reducible refine (no_first _ w.heap.size w.heap.size _ (ca_new w) (Nat.le_refl _) (by simp)).mono ?_); rintro e w1 ⟨td, s, rfl, hf, h1, hT⟩; have hg : Fr w.heap.size w w1 := ((Fr.refl w.heap.size w (Nat.le_refl _)).alloc _).trans hf; have HA := Lib.hid (And.intro (hg) (And.intro (h1) (hT))); clear hf hT hg h1)) | (go_at_call 22; ((with_reducible refine (fb_yes HA.out.2.1 (natAt_new w1 _ _) (HA.out.2.2.alloc _) HTE.out).mono ?_); rintro e w2 ⟨td2, m, own', an', ch', ix', F', rfl, hf, hT⟩; have hg := (HA.out.1.alloc _).trans hf; have HB := Lib.hid (And.intro (hg) (hT)); clear hf hT hg)) | (go_at_call 13; ((with_reducible refine (HY.out.1 _).mono ?_); rintro e w' ⟨rfl, rfl⟩; skip)))
  all_goals first
  | (go_ret; exact ⟨rfl, Below.refl _ _⟩)
  | skip
  go_region_with (first | (go_at_call 14; ((with_reducible refine (HY.out.2 _ _).mono ?_); rintro e w' ⟨rfl, rfl⟩)) | (go_at_call 13; ((with_reducible refine (HY.out.1 _).mono ?_); rintro e w' ⟨rfl, rfl⟩)))
  all_goals
    go_wp2
    go_ret
    refine ⟨rfl, Fr.bel (B := w.heap.size) ?_⟩
    repeat (first | with_reducible exact HF.out | with_reducible refine Fr.alloc ?_ _ | with_reducible refine Fr.drew ?_ | with_reducible refine Fr.drewN ?_ _)
set_option maxHeartbeats 8000000 in
theorem walk_no (name : ByteArray) (w : World) (w0 : name.size ≤ maxLen) (hT : tab54 name = none) : Calls Tryz.prog 5 #[.string name] w fun e w' => e = .returned (.bool true) ∧ Below w.heap.size w w' := by
  have HTE := Lib.hid hT
  skip
  clear hT
  go_enter Tryz.func5, Tryz.ntmps5
  go_wp2_with (first | (go_at_call 21; ((with_reducible refine (zb _ _).mono ?_); rintro e w' ⟨b, rfl, rfl⟩; skip)) | (go_at_call 12; ((with_reducible refine (stf_p HA.out.2.1 (HC.out.2.1.alloc _)).mono ?_); rintro e w4 ⟨mt, H, rfl, hf, hM, hs, hc⟩; have hok := hM.ok; have hlk := (hM.look name).trans (spec_no hs hc HTE.out); have hlen : ∀ ty, (Builtin.len_ #[55] ty #[.map (some mt)]).run Tryz.prog w4 = .ok (.int .i64 6) w4 := (by obtain ⟨es2, cl2, hm2, hMI2, hfi2⟩ := hM; intro ty; rw [len_map _ _ _ _ _ hm2, size6 hMI2 hfi2 hs hc]; rfl); have HF := Lib.hid ((HC.out.1.alloc _).trans hf); clear hf hM hs hc)) | (go_at_call 11; ((with_reducible refine (nop _ _ _).mono ?_); rintro e w3 ⟨rfl, hf⟩; have hg := ((HB.out.1.alloc _).alloc _).trans (hf.le ((HB.out.1.alloc _).alloc _).grow); have HC := Lib.hid (And.intro (hg) (And.intro (((HB.out.2.alloc _).alloc _).mv (hf.le ((HB.out.2.alloc _).alloc _).low) (fun b hb => hf.bel.block b hb)) (trivial))); clear hf hg)) | (go_at_call 11; ((with_reducible refine (nop _ _ _).mono ?_); rintro e w3 ⟨rfl, hf⟩; have hg := (HB.out.1.alloc _).trans (hf.le (HB.out.1.alloc _).grow); have HC := Lib.hid (And.intro (hg) (And.intro ((HB.out.2.alloc _).mv (hf.le (HB.out.2.alloc _).low) (fun b hb => hf.bel.block b hb)) (trivial))); clear hf hg)) | (go_at_call 11; ((with_reducible refine (no_first _ w.heap.size w.heap.size _ (ca_new w) (Nat.le_refl _) (by simp)).mono ?_); rintro e w1 ⟨td, s, rfl, hf, h1, hT⟩; have hg : Fr w.heap.size w w1 := ((Fr.refl w.heap.size w (Nat.le_refl _)).alloc _).trans hf; have HA := Lib.hid (And.intro (hg) (And.intro (h1) (hT))); clear hf hT hg h1)) | (go_at_call 22; ((with_reducible refine (fb_no HA.out.2.1 (natAt_new w1 _ _) (HA.out.2.2.alloc _) HTE.out).mono ?_); rintro e w2 ⟨m, own', an', ch', ix', F', rfl, hf, hT⟩; have hg := (HA.out.1.alloc _).trans hf; have HB := Lib.hid (And.intro (hg) (hT)); clear hf hT hg)) | (go_at_call 13; ((with_reducible refine (sc_no name _ HTE.out).mono ?_); rintro e w' ⟨rfl, rfl⟩; skip)))
  all_goals
    go_ret
    first | exact ⟨rfl, Below.refl _ _⟩ | exact ⟨rfl, (HF.out.alloc _).bel⟩ | exact ⟨rfl, HF.out.bel⟩
theorem walk (name : ByteArray) (w : World) (w0 : name.size ≤ maxLen) : Calls Tryz.prog 5 #[.string name] w fun e w' => e = .returned (.bool true) ∧ Below w.heap.size w w' := by
  cases hT : tab54 name with
  | none => exact walk_no name w w0 hT
  | some E =>
    obtain ⟨cc, hc5, hsc, hco⟩ := sc_yes name E hT
    have hc0 : ¬ cc = 0 := by omega
    exact walk_yes name w w0 E cc hc0 (by simpa using hc0) (by simpa using hc0) hT hsc hco
end Go.Proofs.YtdpgbmmgeooahaaGreatDoorBesrefl.fnStructFieldsAgreesWithFieldByName
