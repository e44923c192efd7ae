/-
  What the facts on struct types stand on. No condition.
-/
import Derived.Test.YtdpgbmmgeooahaaGreatDoorBesreflG5
import Derived.Test.YtdpgbmmgeooahaaGreatDoorBesreflTyp
import Derived.Test.YtdpgbmmgeooahaaGreatDoorBesreflTags
import Derived.StillTailTactics
import Derived.Deep.RegionHeld3
import Derived.Deep.RegionLaw
import Derived.Deep.RegionLawGrows
import Derived.Deep.AppendLies
import Derived.Deep.Cut
import Derived.Deep.CutRange
import Derived.Deep.RegionWith
import Derived.Lib.Hide
import Derived.Deep.LoopGhost
import Derived.Deep.DeepCutAuto
namespace Go.Proofs.YtdpgbmmgeooahaaGreatDoorBesrefl
open Go.RowKit
set_option maxRecDepth 100000
set_option maxHeartbeats 1000000
set_option linter.unusedVariables false
theorem keyne {l : List UInt8} (h : l.isEmpty = false) : (⟨l.toArray⟩ : ByteArray).toList.isEmpty = false := by
  rw [ByteArray.toList_mk]
  exact h
theorem fn_plain (name : ByteArray) (w : World) : Calls Tryz.prog 52 #[.string name, .string ⟨#[]⟩] w fun e w' => e = .returned (.tuple #[.string name, .bool true]) ∧ w = w' := by
  go_enter Tryz.func52, Tryz.ntmps52
  go_wp2
  refine wp_loop_rounds 1 ?_
  rw [rounds_succ]
  go_wp2
  go_ret2
  exact ⟨rfl, rfl⟩
end Go.Proofs.YtdpgbmmgeooahaaGreatDoorBesrefl
