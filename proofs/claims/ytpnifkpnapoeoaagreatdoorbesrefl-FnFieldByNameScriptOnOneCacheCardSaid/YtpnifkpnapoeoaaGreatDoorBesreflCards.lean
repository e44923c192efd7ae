/-
  DERIVED. GIVEN WITH THE SEED: THE CARDS: each row of YtpnifkpnapoeoaaGreatDoorBesreflRows.lean that lists a variable, with what it lists TIED to the program's text (the seventh form; the later family's looks); each row that meets fmt, with fmt's text TOLD by the authors' own Lean function (tested against real Go, not proved from fmt's source: count such statements apart). THE CARD IS WHAT COUNTS. Prove the row's statement (the work); the ties are given (YtpnifkpnapoeoaaGreatDoorBesreflTie.lean); close each card by the builder's one call (the guide's Derived/Test/ToyasCard.lean, 'card_holds'). Laid BY PROGRAM, IN A SANDBOX (cutbox-door.mjs). By AI agents, Wed Nov 11 2026. No macro, syntax, notation, axiom, sorry.
-/
import Derived.Test.YtpnifkpnapoeoaaGreatDoorBesreflRows
import GoSem.ClaimSeven
namespace Go.Proofs.YtpnifkpnapoeoaaGreatDoorBesrefl
namespace Rows

/-- THE TIED CARD OF 'n003_96.FnFieldByNameStructFieldTable'. -/
def fnFieldByNameStructFieldTableCard : Claim7 := { stood := { row := fnFieldByNameStructFieldTableRow, standIns := [], harness := (true, "c69ebd19879ed19a041b3206575db5e3cce8c73128bc52d22ffd255831fbbdc3"), looks := true }, kinds := [], alts := [], laidByText := true, laidKinds := [.data, .called, .pinned], laidTests := true, laidLooks := .later }
def FnFieldByNameStructFieldTableCardSaid : Prop := Claim7.holds Tryz.pinned (.plain (OpenSpec.ofChange fnFieldByNameStructFieldTableSpec)) fnFieldByNameStructFieldTableCard

/-- THE TIED CARD OF 'n003_97.FnFieldIndexTable'. -/
def fnFieldIndexTableCard : Claim7 := { stood := { row := fnFieldIndexTableRow, standIns := [], harness := (true, "c69ebd19879ed19a041b3206575db5e3cce8c73128bc52d22ffd255831fbbdc3"), looks := true }, kinds := [], alts := [], laidByText := true, laidKinds := [.data, .called, .pinned], laidTests := true, laidLooks := .later }
def FnFieldIndexTableCardSaid : Prop := Claim7.holds Tryz.pinned (.plain (OpenSpec.ofChange fnFieldIndexTableSpec)) fnFieldIndexTableCard

/-- THE TIED CARD OF 'n003_97.FnFieldIndexScript'. -/
def fnFieldIndexScriptCard : Claim7 := { stood := { row := fnFieldIndexScriptRow, standIns := [], harness := (true, "c69ebd19879ed19a041b3206575db5e3cce8c73128bc52d22ffd255831fbbdc3"), looks := true }, kinds := [], alts := [], laidByText := true, laidKinds := [.data, .called, .pinned], laidTests := true, laidLooks := .later }
def FnFieldIndexScriptCardSaid : Prop := Claim7.holds Tryz.pinned (.plain (OpenSpec.ofChange fnFieldIndexScriptSpec)) fnFieldIndexScriptCard

/-- THE TIED CARD OF 'n003_96.FnFieldByNameScriptOnOneCache'. -/
def fnFieldByNameScriptOnOneCacheCard : Claim7 := { stood := { row := fnFieldByNameScriptOnOneCacheRow, standIns := [], harness := (true, "c69ebd19879ed19a041b3206575db5e3cce8c73128bc52d22ffd255831fbbdc3"), looks := true }, kinds := [], alts := [], laidByText := true, laidKinds := [.data, .called, .pinned], laidTests := true, laidLooks := .later }
def FnFieldByNameScriptOnOneCacheCardSaid : Prop := Claim7.holds Tryz.pinned (.plain (OpenSpec.ofChange fnFieldByNameScriptOnOneCacheSpec)) fnFieldByNameScriptOnOneCacheCard

/-- THE TIED CARD OF 'n003_24.FnGetStructFieldByName'. -/
def fnGetStructFieldByNameCard : Claim7 := { stood := { row := fnGetStructFieldByNameRow, standIns := [], harness := (true, "c69ebd19879ed19a041b3206575db5e3cce8c73128bc52d22ffd255831fbbdc3"), looks := true }, kinds := [], alts := [], laidByText := true, laidKinds := [.data, .called, .pinned], laidTests := true, laidLooks := .later }
def FnGetStructFieldByNameCardSaid : Prop := Claim7.holds Tryz.pinned (.plain (OpenSpec.ofChange fnGetStructFieldByNameSpec)) fnGetStructFieldByNameCard

/-- THE SECOND FORM's CARD OF 'n003_96.FnFieldByNameStructFieldTable'. -/
def fnFieldByNameStructFieldTableUptoCard : Claim7 := { stood := { row := fnFieldByNameStructFieldTableUptoRow, standIns := [], harness := (true, "c69ebd19879ed19a041b3206575db5e3cce8c73128bc52d22ffd255831fbbdc3"), looks := true }, kinds := [], alts := [], laidByText := true, laidKinds := [.data, .called, .pinned], laidTests := true, laidLooks := .later }
def FnFieldByNameStructFieldTableUptoCardSaid : Prop := Claim7.holds Tryz.pinned (.plain (OpenSpec.upto fnFieldByNameStructFieldTableSpec)) fnFieldByNameStructFieldTableUptoCard

/-- THE SECOND FORM's CARD OF 'n003_97.FnFieldIndexTable'. -/
def fnFieldIndexTableUptoCard : Claim7 := { stood := { row := fnFieldIndexTableUptoRow, standIns := [], harness := (true, "c69ebd19879ed19a041b3206575db5e3cce8c73128bc52d22ffd255831fbbdc3"), looks := true }, kinds := [], alts := [], laidByText := true, laidKinds := [.data, .called, .pinned], laidTests := true, laidLooks := .later }
def FnFieldIndexTableUptoCardSaid : Prop := Claim7.holds Tryz.pinned (.plain (OpenSpec.upto fnFieldIndexTableSpec)) fnFieldIndexTableUptoCard

/-- THE SECOND FORM's CARD OF 'n003_97.FnFieldIndexScript'. -/
def fnFieldIndexScriptUptoCard : Claim7 := { stood := { row := fnFieldIndexScriptUptoRow, standIns := [], harness := (true, "c69ebd19879ed19a041b3206575db5e3cce8c73128bc52d22ffd255831fbbdc3"), looks := true }, kinds := [], alts := [], laidByText := true, laidKinds := [.data, .called, .pinned], laidTests := true, laidLooks := .later }
def FnFieldIndexScriptUptoCardSaid : Prop := Claim7.holds Tryz.pinned (.plain (OpenSpec.upto fnFieldIndexScriptSpec)) fnFieldIndexScriptUptoCard

/-- THE SECOND FORM's CARD OF 'n003_96.FnFieldByNameScriptOnOneCache'. -/
def fnFieldByNameScriptOnOneCacheUptoCard : Claim7 := { stood := { row := fnFieldByNameScriptOnOneCacheUptoRow, standIns := [], harness := (true, "c69ebd19879ed19a041b3206575db5e3cce8c73128bc52d22ffd255831fbbdc3"), looks := true }, kinds := [], alts := [], laidByText := true, laidKinds := [.data, .called, .pinned], laidTests := true, laidLooks := .later }
def FnFieldByNameScriptOnOneCacheUptoCardSaid : Prop := Claim7.holds Tryz.pinned (.plain (OpenSpec.upto fnFieldByNameScriptOnOneCacheSpec)) fnFieldByNameScriptOnOneCacheUptoCard

/-- THE SECOND FORM's CARD OF 'n003_24.FnGetStructFieldByName'. -/
def fnGetStructFieldByNameUptoCard : Claim7 := { stood := { row := fnGetStructFieldByNameUptoRow, standIns := [], harness := (true, "c69ebd19879ed19a041b3206575db5e3cce8c73128bc52d22ffd255831fbbdc3"), looks := true }, kinds := [], alts := [], laidByText := true, laidKinds := [.data, .called, .pinned], laidTests := true, laidLooks := .later }
def FnGetStructFieldByNameUptoCardSaid : Prop := Claim7.holds Tryz.pinned (.plain (OpenSpec.upto fnGetStructFieldByNameSpec)) fnGetStructFieldByNameUptoCard
end Rows
end Go.Proofs.YtpnifkpnapoeoaaGreatDoorBesrefl
