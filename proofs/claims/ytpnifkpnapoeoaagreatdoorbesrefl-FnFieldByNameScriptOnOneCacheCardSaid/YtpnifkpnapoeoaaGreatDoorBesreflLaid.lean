/-
  A start at which the listed package variables read as listed, for the laws' frames. No condition.
-/
import Derived.Test.YtpnifkpnapoeoaaGreatDoorBesreflRows
import Derived.Lay
import Derived.LaidMore
import Derived.LaidOnce
import Derived.WalkKit
import Derived.ProofKit
namespace Go.Proofs.YtpnifkpnapoeoaaGreatDoorBesrefl.Laid
open Go.ChangeShapes Go.WideShapes Go.ChangeAt
set_option maxRecDepth 100000
noncomputable def wit (os : Os) : World := World.laidAll Tryz.prog os Rows.fnFieldByNameStructFieldTableRow.laid
theorem wit_os (os : Os) : (wit os).os = os := World.laidAll_os _ _ _
theorem wit_shaped (os : Os) : (wit os).Shaped Tryz.prog := World.shaped_of_ZipB (by kernel_rfl) (by kernel_rfl)
theorem wit_met (os : Os) (args : Array Value) : laidMetH Tryz.prog Rows.fnFieldByNameStructFieldTableRow.laid ((wit os).forCall (fun _ _ => 0) ⟨#[], args, []⟩).memory := by
  rw [MakeChecks.laidMetH_plain _ _ _ (by kernel_rfl)]
  exact laidMet_laidAll _ (by kernel_rfl) (by kernel_rfl)
end Go.Proofs.YtpnifkpnapoeoaaGreatDoorBesrefl.Laid
