/-
  DERIVED. GIVEN WITH THE SEED: THE CARDS: each row of YtnjjndnnpkejlaaGreatFmtRows.lean that lists a variable, with what it lists TIED to the program's text (the seventh form; the later family's looks); each row that meets fmt, with fmt's text TOLD by the authors' own Lean function (tested against real Go, not proved from fmt's source: count such statements apart). THE CARD IS WHAT COUNTS. Prove the row's statement (the work); the ties are given (YtnjjndnnpkejlaaGreatFmtTie.lean); close each card by the builder's one call (the guide's Derived/Test/ToyasCard.lean, 'card_holds'). Laid BY PROGRAM, IN A SANDBOX (cutbox-door.mjs). By AI agents, Wed Nov 11 2026. No macro, syntax, notation, axiom, sorry.
-/
import Derived.Test.YtnjjndnnpkejlaaGreatFmtRows
import GoSem.ClaimSeven
namespace Go.Proofs.YtnjjndnnpkejlaaGreatFmt
namespace Rows

/-- THE TOLD CARD OF 'n003_97.FnIsNumberCaseTable'. -/
def fnIsNumberCaseTableCard : Claim7 := { stood := { row := fnIsNumberCaseTableRow, standIns := [], harness := (true, "02cbce203ebdc449d72effe733b65205583ff69fb6207ef0fd3168729b02d8ff"), looks := true }, told := true, goes := false }
def FnIsNumberCaseTableToldSaid : Prop := Claim7.holds Tryz.pinned (.plain (OpenSpec.ofChange fnIsNumberCaseTableSpec)) fnIsNumberCaseTableCard
/-- ITS FALSE NEIGHBOUR. Refute it at one input. -/
def FnIsNumberCaseTableToldWrongFalsely : Prop := Claim7.holds Tryz.pinned (.plain (OpenSpec.ofChange fnIsNumberCaseTableWrong)) fnIsNumberCaseTableCard

/-- THE TOLD CARD OF 'n003_51.FnIsAnyOfModel'. -/
def fnIsAnyOfModelCard : Claim7 := { stood := { row := fnIsAnyOfModelRow, standIns := [], harness := (true, "02cbce203ebdc449d72effe733b65205583ff69fb6207ef0fd3168729b02d8ff"), looks := true }, told := true, goes := false }
def FnIsAnyOfModelToldSaid : Prop := Claim7.holds Tryz.pinned (.plain (OpenSpec.ofChange fnIsAnyOfModelSpec)) fnIsAnyOfModelCard
/-- ITS FALSE NEIGHBOUR. Refute it at one input. -/
def FnIsAnyOfModelToldWrongFalsely : Prop := Claim7.holds Tryz.pinned (.plain (OpenSpec.ofChange fnIsAnyOfModelWrong)) fnIsAnyOfModelCard

/-- THE TOLD CARD OF 'n003_51.FnIsAnyOfUnionOrderFree'. -/
def fnIsAnyOfUnionOrderFreeCard : Claim7 := { stood := { row := fnIsAnyOfUnionOrderFreeRow, standIns := [], harness := (true, "02cbce203ebdc449d72effe733b65205583ff69fb6207ef0fd3168729b02d8ff"), looks := true }, told := true, goes := false }
def FnIsAnyOfUnionOrderFreeToldSaid : Prop := Claim7.holds Tryz.pinned (.plain (OpenSpec.ofChange fnIsAnyOfUnionOrderFreeSpec)) fnIsAnyOfUnionOrderFreeCard
/-- ITS FALSE NEIGHBOUR. Refute it at one input. -/
def FnIsAnyOfUnionOrderFreeToldWrongFalsely : Prop := Claim7.holds Tryz.pinned (.plain (OpenSpec.ofChange fnIsAnyOfUnionOrderFreeWrong)) fnIsAnyOfUnionOrderFreeCard
end Rows
end Go.Proofs.YtnjjndnnpkejlaaGreatFmt
