/-
  Two closed facts on the program alone, for the cards: what its main's sum is, and that its bodies look at types. No condition.
-/
import Derived.Test.YtdpgbmmgeooahaaGreatDoorBesreflClosed
import Derived.SevenTiedAt
namespace Go.Proofs.YtdpgbmmgeooahaaGreatDoorBesrefl.Shut2
set_option maxRecDepth 100000
theorem mainIs : Tryz.prog.mainIs = some (true, "5853a4a9dd65e3c9d81e373bdbfbaccad06ee0e14262f34a1a47b7213fabe8f8".toList) := by
  unfold Program.mainIs
  rw [Shut.signs]
  kernel_rfl
theorem looks0 : true = Tryz.prog.looks [] := by kernel_rfl
end Go.Proofs.YtdpgbmmgeooahaaGreatDoorBesrefl.Shut2
