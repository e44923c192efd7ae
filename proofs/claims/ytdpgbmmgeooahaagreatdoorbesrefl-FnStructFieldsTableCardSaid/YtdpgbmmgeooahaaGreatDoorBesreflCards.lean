/-
  DERIVED. GIVEN WITH THE SEED: THE CARDS: each row of YtdpgbmmgeooahaaGreatDoorBesreflRows.lean that lists a variable, with what it lists TIED to the program's text (the seventh form; the later family's looks); each row that meets fmt, with fmt's text TOLD by the authors' own Lean function (tested against real Go, not proved from fmt's source: count such statements apart). THE CARD IS WHAT COUNTS. Prove the row's statement (the work); the ties are given (YtdpgbmmgeooahaaGreatDoorBesreflTie.lean); close each card by the builder's one call (the guide's Derived/Test/ToyasCard.lean, 'card_holds'). Laid BY PROGRAM, IN A SANDBOX (cutbox-door.mjs). By AI agents, Wed Nov 11 2026. No macro, syntax, notation, axiom, sorry.
-/
import Derived.Test.YtdpgbmmgeooahaaGreatDoorBesreflRows
import GoSem.ClaimSeven
namespace Go.Proofs.YtdpgbmmgeooahaaGreatDoorBesrefl
namespace Rows

/-- THE TIED CARD OF 'n003_84.FnStructFieldsTable'. -/
def fnStructFieldsTableCard : Claim7 := { stood := { row := fnStructFieldsTableRow, standIns := [], harness := (true, "5853a4a9dd65e3c9d81e373bdbfbaccad06ee0e14262f34a1a47b7213fabe8f8"), looks := true }, kinds := [], alts := [], laidByText := true, laidKinds := [.data, .called, .pinned], laidTests := true, laidLooks := .later }
def FnStructFieldsTableCardSaid : Prop := Claim7.holds Tryz.pinned (.plain (OpenSpec.ofChange fnStructFieldsTableSpec)) fnStructFieldsTableCard

/-- THE TIED CARD OF 'n003_107.FnStructFieldExactTable'. -/
def fnStructFieldExactTableCard : Claim7 := { stood := { row := fnStructFieldExactTableRow, standIns := [], harness := (true, "5853a4a9dd65e3c9d81e373bdbfbaccad06ee0e14262f34a1a47b7213fabe8f8"), looks := true }, kinds := [], alts := [], laidByText := true, laidKinds := [.data, .called, .pinned], laidTests := true, laidLooks := .later }
def FnStructFieldExactTableCardSaid : Prop := Claim7.holds Tryz.pinned (.plain (OpenSpec.ofChange fnStructFieldExactTableSpec)) fnStructFieldExactTableCard

/-- THE TIED CARD OF 'n003_84.FnStructFieldsAgreesWithFieldByName'. -/
def fnStructFieldsAgreesWithFieldByNameCard : Claim7 := { stood := { row := fnStructFieldsAgreesWithFieldByNameRow, standIns := [], harness := (true, "5853a4a9dd65e3c9d81e373bdbfbaccad06ee0e14262f34a1a47b7213fabe8f8"), looks := true }, kinds := [], alts := [], laidByText := true, laidKinds := [.data, .called, .pinned], laidTests := true, laidLooks := .later }
def FnStructFieldsAgreesWithFieldByNameCardSaid : Prop := Claim7.holds Tryz.pinned (.plain (OpenSpec.ofChange fnStructFieldsAgreesWithFieldByNameSpec)) fnStructFieldsAgreesWithFieldByNameCard

/-- THE TIED CARD OF 'n003_107.FnFindInEmbeddedExactTable'. -/
def fnFindInEmbeddedExactTableCard : Claim7 := { stood := { row := fnFindInEmbeddedExactTableRow, standIns := [], harness := (true, "5853a4a9dd65e3c9d81e373bdbfbaccad06ee0e14262f34a1a47b7213fabe8f8"), looks := true }, kinds := [], alts := [], laidByText := true, laidKinds := [.data, .called, .pinned], laidTests := true, laidLooks := .later }
def FnFindInEmbeddedExactTableCardSaid : Prop := Claim7.holds Tryz.pinned (.plain (OpenSpec.ofChange fnFindInEmbeddedExactTableSpec)) fnFindInEmbeddedExactTableCard

/-- THE TIED CARD OF 'n003_107.FnStructFieldAnyOrder'. -/
def fnStructFieldAnyOrderCard : Claim7 := { stood := { row := fnStructFieldAnyOrderRow, standIns := [], harness := (true, "5853a4a9dd65e3c9d81e373bdbfbaccad06ee0e14262f34a1a47b7213fabe8f8"), looks := true }, kinds := [], alts := [], laidByText := true, laidKinds := [.data, .called, .pinned], laidTests := true, laidLooks := .later }
def FnStructFieldAnyOrderCardSaid : Prop := Claim7.holds Tryz.pinned (.plain (OpenSpec.ofChange fnStructFieldAnyOrderSpec)) fnStructFieldAnyOrderCard

/-- THE TIED CARD OF 'n003_107.FnFindInEmbeddedScript'. -/
def fnFindInEmbeddedScriptCard : Claim7 := { stood := { row := fnFindInEmbeddedScriptRow, standIns := [], harness := (true, "5853a4a9dd65e3c9d81e373bdbfbaccad06ee0e14262f34a1a47b7213fabe8f8"), looks := true }, kinds := [], alts := [], laidByText := true, laidKinds := [.data, .called, .pinned], laidTests := true, laidLooks := .later }
def FnFindInEmbeddedScriptCardSaid : Prop := Claim7.holds Tryz.pinned (.plain (OpenSpec.ofChange fnFindInEmbeddedScriptSpec)) fnFindInEmbeddedScriptCard

/-- THE TIED CARD OF 'n003_107.FnFinishedAfterLookups'. -/
def fnFinishedAfterLookupsCard : Claim7 := { stood := { row := fnFinishedAfterLookupsRow, standIns := [], harness := (true, "5853a4a9dd65e3c9d81e373bdbfbaccad06ee0e14262f34a1a47b7213fabe8f8"), looks := true }, kinds := [], alts := [], laidByText := true, laidKinds := [.data, .called, .pinned], laidTests := true, laidLooks := .later }
def FnFinishedAfterLookupsCardSaid : Prop := Claim7.holds Tryz.pinned (.plain (OpenSpec.ofChange fnFinishedAfterLookupsSpec)) fnFinishedAfterLookupsCard

/-- THE SECOND FORM's CARD OF 'n003_84.FnStructFieldsTable'. -/
def fnStructFieldsTableUptoCard : Claim7 := { stood := { row := fnStructFieldsTableUptoRow, standIns := [], harness := (true, "5853a4a9dd65e3c9d81e373bdbfbaccad06ee0e14262f34a1a47b7213fabe8f8"), looks := true }, kinds := [], alts := [], laidByText := true, laidKinds := [.data, .called, .pinned], laidTests := true, laidLooks := .later }
def FnStructFieldsTableUptoCardSaid : Prop := Claim7.holds Tryz.pinned (.plain (OpenSpec.upto fnStructFieldsTableSpec)) fnStructFieldsTableUptoCard

/-- THE SECOND FORM's CARD OF 'n003_107.FnStructFieldExactTable'. -/
def fnStructFieldExactTableUptoCard : Claim7 := { stood := { row := fnStructFieldExactTableUptoRow, standIns := [], harness := (true, "5853a4a9dd65e3c9d81e373bdbfbaccad06ee0e14262f34a1a47b7213fabe8f8"), looks := true }, kinds := [], alts := [], laidByText := true, laidKinds := [.data, .called, .pinned], laidTests := true, laidLooks := .later }
def FnStructFieldExactTableUptoCardSaid : Prop := Claim7.holds Tryz.pinned (.plain (OpenSpec.upto fnStructFieldExactTableSpec)) fnStructFieldExactTableUptoCard

/-- THE SECOND FORM's CARD OF 'n003_84.FnStructFieldsAgreesWithFieldByName'. -/
def fnStructFieldsAgreesWithFieldByNameUptoCard : Claim7 := { stood := { row := fnStructFieldsAgreesWithFieldByNameUptoRow, standIns := [], harness := (true, "5853a4a9dd65e3c9d81e373bdbfbaccad06ee0e14262f34a1a47b7213fabe8f8"), looks := true }, kinds := [], alts := [], laidByText := true, laidKinds := [.data, .called, .pinned], laidTests := true, laidLooks := .later }
def FnStructFieldsAgreesWithFieldByNameUptoCardSaid : Prop := Claim7.holds Tryz.pinned (.plain (OpenSpec.upto fnStructFieldsAgreesWithFieldByNameSpec)) fnStructFieldsAgreesWithFieldByNameUptoCard

/-- THE SECOND FORM's CARD OF 'n003_107.FnFindInEmbeddedExactTable'. -/
def fnFindInEmbeddedExactTableUptoCard : Claim7 := { stood := { row := fnFindInEmbeddedExactTableUptoRow, standIns := [], harness := (true, "5853a4a9dd65e3c9d81e373bdbfbaccad06ee0e14262f34a1a47b7213fabe8f8"), looks := true }, kinds := [], alts := [], laidByText := true, laidKinds := [.data, .called, .pinned], laidTests := true, laidLooks := .later }
def FnFindInEmbeddedExactTableUptoCardSaid : Prop := Claim7.holds Tryz.pinned (.plain (OpenSpec.upto fnFindInEmbeddedExactTableSpec)) fnFindInEmbeddedExactTableUptoCard

/-- THE SECOND FORM's CARD OF 'n003_107.FnStructFieldAnyOrder'. -/
def fnStructFieldAnyOrderUptoCard : Claim7 := { stood := { row := fnStructFieldAnyOrderUptoRow, standIns := [], harness := (true, "5853a4a9dd65e3c9d81e373bdbfbaccad06ee0e14262f34a1a47b7213fabe8f8"), looks := true }, kinds := [], alts := [], laidByText := true, laidKinds := [.data, .called, .pinned], laidTests := true, laidLooks := .later }
def FnStructFieldAnyOrderUptoCardSaid : Prop := Claim7.holds Tryz.pinned (.plain (OpenSpec.upto fnStructFieldAnyOrderSpec)) fnStructFieldAnyOrderUptoCard

/-- THE SECOND FORM's CARD OF 'n003_107.FnFindInEmbeddedScript'. -/
def fnFindInEmbeddedScriptUptoCard : Claim7 := { stood := { row := fnFindInEmbeddedScriptUptoRow, standIns := [], harness := (true, "5853a4a9dd65e3c9d81e373bdbfbaccad06ee0e14262f34a1a47b7213fabe8f8"), looks := true }, kinds := [], alts := [], laidByText := true, laidKinds := [.data, .called, .pinned], laidTests := true, laidLooks := .later }
def FnFindInEmbeddedScriptUptoCardSaid : Prop := Claim7.holds Tryz.pinned (.plain (OpenSpec.upto fnFindInEmbeddedScriptSpec)) fnFindInEmbeddedScriptUptoCard

/-- THE SECOND FORM's CARD OF 'n003_107.FnFinishedAfterLookups'. -/
def fnFinishedAfterLookupsUptoCard : Claim7 := { stood := { row := fnFinishedAfterLookupsUptoRow, standIns := [], harness := (true, "5853a4a9dd65e3c9d81e373bdbfbaccad06ee0e14262f34a1a47b7213fabe8f8"), looks := true }, kinds := [], alts := [], laidByText := true, laidKinds := [.data, .called, .pinned], laidTests := true, laidLooks := .later }
def FnFinishedAfterLookupsUptoCardSaid : Prop := Claim7.holds Tryz.pinned (.plain (OpenSpec.upto fnFinishedAfterLookupsSpec)) fnFinishedAfterLookupsUptoCard
end Rows
end Go.Proofs.YtdpgbmmgeooahaaGreatDoorBesrefl
