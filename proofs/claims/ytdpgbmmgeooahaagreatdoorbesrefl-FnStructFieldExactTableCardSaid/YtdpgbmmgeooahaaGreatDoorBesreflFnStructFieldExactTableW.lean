/-
  The walk of FnStructFieldExactTable: One lookup on a fresh descriptor of zzOuter answers by the table; asking again returns the identical record. No condition.
-/
import Derived.Test.YtdpgbmmgeooahaaGreatDoorBesreflN107
import Derived.WalkSpells
namespace Go.Proofs.YtdpgbmmgeooahaaGreatDoorBesrefl.fnStructFieldExactTable
open Go.RowKit
set_option maxRecDepth 100000
set_option maxHeartbeats 1000000
set_option linter.unusedVariables false
theorem zb (x0 : ByteArray) (w : World) : Calls Tryz.prog 15 #[.string x0] w fun e w' => ∃ b, e = .returned (.bool b) ∧ w = w' := by
  go_enter Tryz.func15, Tryz.ntmps15
  go_wp2
  all_goals
    go_ret
    exact ⟨_, rfl, rfl⟩
theorem peq (a : Addr) (w : World) : (binOp .eql 62 (.pointer (some a)) (.pointer (some a))).run Tryz.prog w = .ok (.bool true) w := by
  obtain ⟨j, hj⟩ := Option.isSome_iff_exists.1 (by kernel_rfl : (Tryz.prog.info? 93).isSome = true)
  exact run_eql_ptr_same w a Tryz.underlying62 hj
set_option maxHeartbeats 8000000 in
theorem walk (name : ByteArray) (w : World) (w0 : name.size ≤ maxLen) : Calls Tryz.prog 4 #[.string name] w fun e w' => e = .returned (.bool true) ∧ Below w.heap.size w w' := by
  have hsl := sl_eq
  have hpe := peq
  go_enter Tryz.func4, Tryz.ntmps4
  go_wp2_with (first | (go_at_call 15; ((with_reducible refine (zb _ _).mono ?_); rintro e w' ⟨b, rfl, rfl⟩; skip)) | (go_at_call 16; ((with_reducible refine (zo_first w.heap.size w.heap.size _ (ca_new w) (Nat.le_refl _) (by simp)).mono ?_); rintro e w1 ⟨td, s, rfl, hf, h1, hT⟩; have hg : Fr w.heap.size w w1 := ((Fr.refl w.heap.size w (Nat.le_refl _)).alloc _).trans hf; have HA := Lib.hid (And.intro (hg) (And.intro (h1) (hT))); clear hf hT hg h1)) | (go_at_call 17; ((with_reducible refine (zsf_hit name HD.out.2.1 HD.out.2.2).mono ?_); rintro e w5 ⟨rfl, rfl⟩; skip)) | (go_at_call 17; ((with_reducible refine (zsf name HA.out.2.1 HA.out.2.2).mono ?_); rintro e w2 ⟨r, m, own', an', ch', ix', F', rfl, hf, hT, hor⟩; have hg := HA.out.1.trans hf; rcases hor with ⟨rfl, hE, _⟩ | ⟨p, td', E, rfl, hF, hE, hI, _⟩ <;> first | (have HY := Lib.hid (And.intro (hE) (And.intro (hg) (And.intro (hT) (And.intro (hF) (hI))))); clear hE hg hT hF hI hf) | (have HN := Lib.hid (And.intro (hE) (hg)); clear hE hg hT hf))) | (go_at_call 18; ((with_reducible refine (wo_yes name _ _ HY.out.1).mono ?_); rintro e w3 ⟨g, n, rfl, hf, hv⟩; have HC := Lib.hid (And.intro (HY.out.2.1.trans (hf.le HY.out.2.1.grow)) (And.intro (HY.out.2.2.1.mv (hf.le HY.out.2.2.1.low) (fun b hb => hf.bel.block b hb)) (And.intro (HY.out.2.2.2.1) (And.intro (HY.out.2.2.2.2.carry hf) (hv))))); clear hf hv)) | (go_at_call 18; ((with_reducible refine (wo_no name _ HN.out.1).mono ?_); rintro e w3 ⟨rfl, rfl⟩; skip)) | (go_at_call 20; ((with_reducible refine (zfi HC.out.2.2.2.1).mono ?_); rintro e w' ⟨v, rfl, hv, rfl⟩; have HV := Lib.hid (hv); clear hv)) | (go_at_call 19; ((with_reducible refine (eqi HV.out HC.out.2.2.2.2 (zs_le _ _ HY.out.1)).mono ?_); rintro e w4 ⟨rfl, hf⟩; have HD := Lib.hid (And.intro (HC.out.1.trans (hf.le HC.out.1.grow)) (And.intro (HC.out.2.1.mv (hf.le HC.out.2.1.low) (fun b hb => hf.bel.block b hb)) (HC.out.2.2.1))); clear hf)))
  all_goals
    go_ret
    first | exact ⟨rfl, Below.refl _ _⟩ | exact ⟨rfl, HD.out.1.bel⟩ | exact ⟨rfl, HN.out.2.bel⟩
end Go.Proofs.YtdpgbmmgeooahaaGreatDoorBesrefl.fnStructFieldExactTable
