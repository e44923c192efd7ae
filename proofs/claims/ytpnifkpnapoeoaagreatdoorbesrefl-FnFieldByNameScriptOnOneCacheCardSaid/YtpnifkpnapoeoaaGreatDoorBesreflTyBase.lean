/-
  What the facts on struct types stand on. No condition.
-/
import Derived.Test.YtpnifkpnapoeoaaGreatDoorBesreflG5
import Derived.Test.YtpnifkpnapoeoaaGreatDoorBesreflTyp
import Derived.Test.YtpnifkpnapoeoaaGreatDoorBesreflTags
import Derived.StillTailTactics
import Derived.Deep.RegionHeld3
import Derived.Deep.RegionLaw
import Derived.Deep.RegionLawGrows
import Derived.Deep.AppendLies
import Derived.Deep.Cut
import Derived.Deep.CutRange
import Derived.Deep.RegionWith
import Derived.Lib.Hide
import Derived.Deep.LoopGhost
import Derived.Deep.DeepCutAuto
namespace Go.Proofs.YtpnifkpnapoeoaaGreatDoorBesrefl
open Go.RowKit
set_option maxRecDepth 100000
set_option maxHeartbeats 1000000
set_option linter.unusedVariables false
theorem keyne {l : List UInt8} (h : l.isEmpty = false) : (⟨l.toArray⟩ : ByteArray).toList.isEmpty = false := by
  rw [ByteArray.toList_mk]
  exact h
theorem fn_plain (name : ByteArray) (w : World) : Calls Tryz.prog 45 #[.string name, .string ⟨#[]⟩] w fun e w' => e = .returned (.tuple #[.string name, .bool true]) ∧ w = w' := by
  go_enter Tryz.func45, Tryz.ntmps45
  go_wp2
  refine wp_loop_rounds 1 ?_
  rw [rounds_succ]
  go_wp2
  go_ret2
  exact ⟨rfl, rfl⟩
end Go.Proofs.YtpnifkpnapoeoaaGreatDoorBesrefl
