/-
  NARROWER THAN 'FOR EVERY INPUT', by the rows' own cells (each row's printed sentence says how): FnStructFieldsTable: laid · FnStructFieldExactTable: laid · FnStructFieldsAgreesWithFieldByName: laid · FnFindInEmbeddedExactTable: laid · FnStructFieldAnyOrder: laid · FnFindInEmbeddedScript: laid · FnFinishedAfterLookups: laid.
  DERIVED. THE GIVEN ROWS OF THIS SEAT. 7 by the template 'for every input the law returns true; each argument reads behind the call as it read before'; 0 by the template 'total and deterministic' (their statements: YtdpgbmmgeooahaaGreatDoorBesreflTotals.lean).
  GIVEN WITH THE SEED: the statements are not yours to turn. If you find one false, say at which input.
  Laid BY PROGRAM, IN A SANDBOX (cutbox-rows.mjs): the forced cells as the released guide's own fill.sh prints them over the translation 23b471adc2902800… (all of the seat's roots in one cut). By AI agents, Wed Nov 11 2026. No macro, syntax, notation, axiom, sorry.
-/
import Derived.Test.YtdpgbmmgeooahaaGreatDoorBesreflChecked
import GoSem.PinnedTables
import GoSem.Claim
import GoSem.ClaimJoined
import GoSem.ClaimMapViews
import Derived.JoinedTies
import Derived.KernelRfl
namespace Go.Proofs.YtdpgbmmgeooahaaGreatDoorBesrefl
/- THE CELL 'sum', in the pinned program and in every row, IS THE sha256 OF THE DUMP (.gsa) THAT YtdpgbmmgeooahaaGreatDoorBesreflProg.lean LOADS. Nothing in Lean hashes anything: it is a label: what it is worth is what the hold of that sum in a sandbox is worth. -/
noncomputable def Tryz.pinned : Pinned := { name := "ytdpgbmmgeooahaagreatdoorbesrefl", sum := "23b471adc2902800be7157237e505f0e2564d962702c87bac5950e81d88c89ca", checked := Tryz.checked }
namespace Rows
def none {H : Type} : Left H := { results := [], args := [] }

/- WHAT THE LISTED PACKAGE-LEVEL VARIABLES READ AS WHEN THE CALL BEGINS. Each datum BY PROGRAM (the guide's laid-datum.mjs) off the statement by which the dump's own 'gosem.cut.vars' lays the variable. In a bare row this is a premise. The card (YtdpgbmmgeooahaaGreatDoorBesreflCards.lean) ties it to the program's text. -/
def laid_unicode_utf8_acceptRanges {H : Type} : DataW H := .agg [.agg [.lit (.int .u8 128), .lit (.int .u8 191)], .agg [.lit (.int .u8 160), .lit (.int .u8 191)], .agg [.lit (.int .u8 128), .lit (.int .u8 159)], .agg [.lit (.int .u8 144), .lit (.int .u8 191)], .agg [.lit (.int .u8 128), .lit (.int .u8 143)], .agg [.lit (.int .u8 0), .lit (.int .u8 0)], .agg [.lit (.int .u8 0), .lit (.int .u8 0)], .agg [.lit (.int .u8 0), .lit (.int .u8 0)], .agg [.lit (.int .u8 0), .lit (.int .u8 0)], .agg [.lit (.int .u8 0), .lit (.int .u8 0)], .agg [.lit (.int .u8 0), .lit (.int .u8 0)], .agg [.lit (.int .u8 0), .lit (.int .u8 0)], .agg [.lit (.int .u8 0), .lit (.int .u8 0)], .agg [.lit (.int .u8 0), .lit (.int .u8 0)], .agg [.lit (.int .u8 0), .lit (.int .u8 0)], .agg [.lit (.int .u8 0), .lit (.int .u8 0)]]
def laid_strconv_ErrSyntax {H : Type} : DataW H := .iface "*errors.errorString" (.ptr (.agg [.lit (.string [105, 110, 118, 97, 108, 105, 100, 32, 115, 121, 110, 116, 97, 120])]))
/-- One of Go's own tables, pinned by name: the form's constant. -/
def laid_unicode_utf8_first : DataW Unit := Go.Pinned.utf8First

/-- 'n003_84.FnStructFieldsTable': WHATEVER THE INPUT: true; the input reads as it did. -/
def fnStructFieldsTableSpec : ChangeSpec := { name := "fnStructFieldsTable", fn := fun _ => fun
  | [d] => { results := [.lit (.bool true)], args := [d] }
  | _ => none }
def fnStructFieldsTableRow : OpenClaim := { program := "ytdpgbmmgeooahaagreatdoorbesrefl", sum := "23b471adc2902800be7157237e505f0e2564d962702c87bac5950e81d88c89ca", func := "github.com/expr-lang/expr/n003_84.FnStructFieldsTable", spec := "fnStructFieldsTable", inPlace := ["reflect.TypeOf", "(reflect.StructField).IsExported", "internal/bytealg.IndexByteString"], unfollowed := true, recurses := true, named := ["strconv.ErrSyntax", "unicode/utf8.first", "unicode/utf8.acceptRanges"], make := .lifted ["reflectrows", "leanrows", "reflbeside"], apart := false, laid := [("unicode/utf8.acceptRanges", laid_unicode_utf8_acceptRanges), ("strconv.ErrSyntax", laid_strconv_ErrSyntax), ("unicode/utf8.first", laid_unicode_utf8_first)] }
def FnStructFieldsTableSaid : Prop := fnStructFieldsTableRow.holds Tryz.pinned (OpenSpec.ofChange fnStructFieldsTableSpec)

/-- ITS FALSE NEIGHBOUR: 'it returns false'. Refute it at one input. -/
def fnStructFieldsTableWrong : ChangeSpec := { name := "fnStructFieldsTable", fn := fun _ => fun
  | [d] => { results := [.lit (.bool false)], args := [d] }
  | _ => none }
def FnStructFieldsTableWrongFalsely : Prop := fnStructFieldsTableRow.holds Tryz.pinned (OpenSpec.ofChange fnStructFieldsTableWrong)

/-- 'n003_107.FnStructFieldExactTable': WHATEVER THE INPUT: true; the input reads as it did. -/
def fnStructFieldExactTableSpec : ChangeSpec := { name := "fnStructFieldExactTable", fn := fun _ => fun
  | [d] => { results := [.lit (.bool true)], args := [d] }
  | _ => none }
def fnStructFieldExactTableRow : OpenClaim := { program := "ytdpgbmmgeooahaagreatdoorbesrefl", sum := "23b471adc2902800be7157237e505f0e2564d962702c87bac5950e81d88c89ca", func := "github.com/expr-lang/expr/n003_107.FnStructFieldExactTable", spec := "fnStructFieldExactTable", inPlace := ["reflect.TypeOf", "(reflect.StructField).IsExported", "internal/bytealg.IndexByteString"], unfollowed := true, recurses := true, named := ["strconv.ErrSyntax", "unicode/utf8.first", "unicode/utf8.acceptRanges"], make := .lifted ["reflectrows", "leanrows", "reflbeside"], apart := false, laid := [("unicode/utf8.acceptRanges", laid_unicode_utf8_acceptRanges), ("strconv.ErrSyntax", laid_strconv_ErrSyntax), ("unicode/utf8.first", laid_unicode_utf8_first)] }
def FnStructFieldExactTableSaid : Prop := fnStructFieldExactTableRow.holds Tryz.pinned (OpenSpec.ofChange fnStructFieldExactTableSpec)

/-- ITS FALSE NEIGHBOUR: 'it returns false'. Refute it at one input. -/
def fnStructFieldExactTableWrong : ChangeSpec := { name := "fnStructFieldExactTable", fn := fun _ => fun
  | [d] => { results := [.lit (.bool false)], args := [d] }
  | _ => none }
def FnStructFieldExactTableWrongFalsely : Prop := fnStructFieldExactTableRow.holds Tryz.pinned (OpenSpec.ofChange fnStructFieldExactTableWrong)

/-- 'n003_84.FnStructFieldsAgreesWithFieldByName': WHATEVER THE INPUT: true; the input reads as it did. -/
def fnStructFieldsAgreesWithFieldByNameSpec : ChangeSpec := { name := "fnStructFieldsAgreesWithFieldByName", fn := fun _ => fun
  | [d] => { results := [.lit (.bool true)], args := [d] }
  | _ => none }
def fnStructFieldsAgreesWithFieldByNameRow : OpenClaim := { program := "ytdpgbmmgeooahaagreatdoorbesrefl", sum := "23b471adc2902800be7157237e505f0e2564d962702c87bac5950e81d88c89ca", func := "github.com/expr-lang/expr/n003_84.FnStructFieldsAgreesWithFieldByName", spec := "fnStructFieldsAgreesWithFieldByName", inPlace := ["reflect.TypeOf", "(reflect.StructField).IsExported", "internal/bytealg.IndexByteString"], unfollowed := true, recurses := true, named := ["strconv.ErrSyntax", "unicode/utf8.first", "unicode/utf8.acceptRanges"], make := .lifted ["reflectrows", "leanrows", "reflbeside"], apart := false, laid := [("unicode/utf8.acceptRanges", laid_unicode_utf8_acceptRanges), ("strconv.ErrSyntax", laid_strconv_ErrSyntax), ("unicode/utf8.first", laid_unicode_utf8_first)] }
def FnStructFieldsAgreesWithFieldByNameSaid : Prop := fnStructFieldsAgreesWithFieldByNameRow.holds Tryz.pinned (OpenSpec.ofChange fnStructFieldsAgreesWithFieldByNameSpec)

/-- ITS FALSE NEIGHBOUR: 'it returns false'. Refute it at one input. -/
def fnStructFieldsAgreesWithFieldByNameWrong : ChangeSpec := { name := "fnStructFieldsAgreesWithFieldByName", fn := fun _ => fun
  | [d] => { results := [.lit (.bool false)], args := [d] }
  | _ => none }
def FnStructFieldsAgreesWithFieldByNameWrongFalsely : Prop := fnStructFieldsAgreesWithFieldByNameRow.holds Tryz.pinned (OpenSpec.ofChange fnStructFieldsAgreesWithFieldByNameWrong)

/-- 'n003_107.FnFindInEmbeddedExactTable': WHATEVER THE INPUT: true; the input reads as it did. -/
def fnFindInEmbeddedExactTableSpec : ChangeSpec := { name := "fnFindInEmbeddedExactTable", fn := fun _ => fun
  | [d1, d2] => { results := [.lit (.bool true)], args := [d1, d2] }
  | _ => none }
def fnFindInEmbeddedExactTableRow : OpenClaim := { program := "ytdpgbmmgeooahaagreatdoorbesrefl", sum := "23b471adc2902800be7157237e505f0e2564d962702c87bac5950e81d88c89ca", func := "github.com/expr-lang/expr/n003_107.FnFindInEmbeddedExactTable", spec := "fnFindInEmbeddedExactTable", inPlace := ["reflect.TypeOf", "(reflect.StructField).IsExported", "internal/bytealg.IndexByteString"], unfollowed := true, recurses := true, named := ["strconv.ErrSyntax", "unicode/utf8.first", "unicode/utf8.acceptRanges"], make := .lifted ["reflectrows", "leanrows", "reflbeside"], apart := false, laid := [("unicode/utf8.acceptRanges", laid_unicode_utf8_acceptRanges), ("strconv.ErrSyntax", laid_strconv_ErrSyntax), ("unicode/utf8.first", laid_unicode_utf8_first)] }
def FnFindInEmbeddedExactTableSaid : Prop := fnFindInEmbeddedExactTableRow.holds Tryz.pinned (OpenSpec.ofChange fnFindInEmbeddedExactTableSpec)

/-- ITS FALSE NEIGHBOUR: 'it returns false'. Refute it at one input. -/
def fnFindInEmbeddedExactTableWrong : ChangeSpec := { name := "fnFindInEmbeddedExactTable", fn := fun _ => fun
  | [d1, d2] => { results := [.lit (.bool false)], args := [d1, d2] }
  | _ => none }
def FnFindInEmbeddedExactTableWrongFalsely : Prop := fnFindInEmbeddedExactTableRow.holds Tryz.pinned (OpenSpec.ofChange fnFindInEmbeddedExactTableWrong)

/-- 'n003_107.FnStructFieldAnyOrder': WHATEVER THE INPUT: true; the input reads as it did. -/
def fnStructFieldAnyOrderSpec : ChangeSpec := { name := "fnStructFieldAnyOrder", fn := fun _ => fun
  | [d] => { results := [.lit (.bool true)], args := [d] }
  | _ => none }
def fnStructFieldAnyOrderRow : OpenClaim := { program := "ytdpgbmmgeooahaagreatdoorbesrefl", sum := "23b471adc2902800be7157237e505f0e2564d962702c87bac5950e81d88c89ca", func := "github.com/expr-lang/expr/n003_107.FnStructFieldAnyOrder", spec := "fnStructFieldAnyOrder", inPlace := ["reflect.TypeOf", "(reflect.StructField).IsExported", "internal/bytealg.IndexByteString"], unfollowed := true, recurses := true, named := ["strconv.ErrSyntax", "unicode/utf8.first", "unicode/utf8.acceptRanges"], make := .lifted ["reflectrows", "leanrows", "reflbeside"], apart := false, laid := [("unicode/utf8.acceptRanges", laid_unicode_utf8_acceptRanges), ("strconv.ErrSyntax", laid_strconv_ErrSyntax), ("unicode/utf8.first", laid_unicode_utf8_first)] }
def FnStructFieldAnyOrderSaid : Prop := fnStructFieldAnyOrderRow.holds Tryz.pinned (OpenSpec.ofChange fnStructFieldAnyOrderSpec)

/-- ITS FALSE NEIGHBOUR: 'it returns false'. Refute it at one input. -/
def fnStructFieldAnyOrderWrong : ChangeSpec := { name := "fnStructFieldAnyOrder", fn := fun _ => fun
  | [d] => { results := [.lit (.bool false)], args := [d] }
  | _ => none }
def FnStructFieldAnyOrderWrongFalsely : Prop := fnStructFieldAnyOrderRow.holds Tryz.pinned (OpenSpec.ofChange fnStructFieldAnyOrderWrong)

/-- 'n003_107.FnFindInEmbeddedScript': WHATEVER THE INPUT: true; the input reads as it did. -/
def fnFindInEmbeddedScriptSpec : ChangeSpec := { name := "fnFindInEmbeddedScript", fn := fun _ => fun
  | [d1, d2] => { results := [.lit (.bool true)], args := [d1, d2] }
  | _ => none }
def fnFindInEmbeddedScriptRow : OpenClaim := { program := "ytdpgbmmgeooahaagreatdoorbesrefl", sum := "23b471adc2902800be7157237e505f0e2564d962702c87bac5950e81d88c89ca", func := "github.com/expr-lang/expr/n003_107.FnFindInEmbeddedScript", spec := "fnFindInEmbeddedScript", inPlace := ["reflect.TypeOf", "(reflect.StructField).IsExported", "internal/bytealg.IndexByteString"], unfollowed := true, recurses := true, named := ["strconv.ErrSyntax", "unicode/utf8.first", "unicode/utf8.acceptRanges"], make := .lifted ["reflectrows", "leanrows", "reflbeside"], apart := false, laid := [("unicode/utf8.acceptRanges", laid_unicode_utf8_acceptRanges), ("strconv.ErrSyntax", laid_strconv_ErrSyntax), ("unicode/utf8.first", laid_unicode_utf8_first)] }
def FnFindInEmbeddedScriptSaid : Prop := fnFindInEmbeddedScriptRow.holds Tryz.pinned (OpenSpec.ofChange fnFindInEmbeddedScriptSpec)

/-- ITS FALSE NEIGHBOUR: 'it returns false'. Refute it at one input. -/
def fnFindInEmbeddedScriptWrong : ChangeSpec := { name := "fnFindInEmbeddedScript", fn := fun _ => fun
  | [d1, d2] => { results := [.lit (.bool false)], args := [d1, d2] }
  | _ => none }
def FnFindInEmbeddedScriptWrongFalsely : Prop := fnFindInEmbeddedScriptRow.holds Tryz.pinned (OpenSpec.ofChange fnFindInEmbeddedScriptWrong)

/-- 'n003_107.FnFinishedAfterLookups': WHATEVER THE INPUT: true; the input reads as it did. -/
def fnFinishedAfterLookupsSpec : ChangeSpec := { name := "fnFinishedAfterLookups", fn := fun _ => fun
  | [d] => { results := [.lit (.bool true)], args := [d] }
  | _ => none }
def fnFinishedAfterLookupsRow : OpenClaim := { program := "ytdpgbmmgeooahaagreatdoorbesrefl", sum := "23b471adc2902800be7157237e505f0e2564d962702c87bac5950e81d88c89ca", func := "github.com/expr-lang/expr/n003_107.FnFinishedAfterLookups", spec := "fnFinishedAfterLookups", inPlace := ["reflect.TypeOf", "(reflect.StructField).IsExported", "internal/bytealg.IndexByteString"], unfollowed := true, recurses := true, named := ["strconv.ErrSyntax", "unicode/utf8.first", "unicode/utf8.acceptRanges"], make := .lifted ["reflectrows", "leanrows", "reflbeside"], apart := false, laid := [("unicode/utf8.acceptRanges", laid_unicode_utf8_acceptRanges), ("strconv.ErrSyntax", laid_strconv_ErrSyntax), ("unicode/utf8.first", laid_unicode_utf8_first)] }
def FnFinishedAfterLookupsSaid : Prop := fnFinishedAfterLookupsRow.holds Tryz.pinned (OpenSpec.ofChange fnFinishedAfterLookupsSpec)

/-- ITS FALSE NEIGHBOUR: 'it returns false'. Refute it at one input. -/
def fnFinishedAfterLookupsWrong : ChangeSpec := { name := "fnFinishedAfterLookups", fn := fun _ => fun
  | [d] => { results := [.lit (.bool false)], args := [d] }
  | _ => none }
def FnFinishedAfterLookupsWrongFalsely : Prop := fnFinishedAfterLookupsRow.holds Tryz.pinned (OpenSpec.ofChange fnFinishedAfterLookupsWrong)

/- THE SECOND FORM. 'bulk': how many values and letters a reading holds, each counted each time it is reached (what is shared counts as often as it is met; a slice's spare places count too). A statement '..UptoSaid' is the law's where the arguments, and the package variables that the reading takes, are together of bulk at most 1048576: NARROWER than '..Said'. Prove '..Said' where nothing that the law and all that it calls make is longer than what came in: it says more and counts as full. Else prove '..UptoSaid'. A law counts once. -/
mutual
def uptoBulk {H : Type} : DataW H → Nat
  | .lit (.string bytes) => bytes.length + 1
  | .lit _ => 1
  | .nil => 1
  | .ptr d => uptoBulk d + 1
  | .slice elems spare => uptoBulkAll elems + uptoBulkAll spare + 1
  | .agg parts => uptoBulkAll parts + 1
  | .iface _ d => uptoBulk d + 1
  | .map entries => uptoBulkEntries entries + 1
  | .held _ => 1
def uptoBulkAll {H : Type} : List (DataW H) → Nat
  | [] => 0
  | d :: r => uptoBulk d + uptoBulkAll r
def uptoBulkEntries {H : Type} : List (Lit × DataW H) → Nat
  | [] => 0
  | x :: r => uptoBulkEntry x + uptoBulkEntries r
def uptoBulkEntry {H : Type} : Lit × DataW H → Nat
  | (.string bytes, d) => bytes.length + uptoBulk d + 1
  | (_, d) => uptoBulk d + 1
 end
def uptoSmall : (H : Type) → List (DataW H) → Bool := fun _ ds => decide (uptoBulkAll ds ≤ 1048576)
def OpenSpec.upto (s : _root_.Go.ChangeSpec) : _root_.Go.OpenSpec := { _root_.Go.OpenSpec.ofChange s with cond := some uptoSmall }

/-- 'n003_84.FnStructFieldsTable', WHERE WHAT IT READS IS OF BULK AT MOST 1048576: true; the input reads as it did. -/
def fnStructFieldsTableUptoRow : OpenClaim := { program := "ytdpgbmmgeooahaagreatdoorbesrefl", sum := "23b471adc2902800be7157237e505f0e2564d962702c87bac5950e81d88c89ca", func := "github.com/expr-lang/expr/n003_84.FnStructFieldsTable", spec := "fnStructFieldsTable", inPlace := ["reflect.TypeOf", "(reflect.StructField).IsExported", "internal/bytealg.IndexByteString"], unfollowed := true, recurses := true, named := ["strconv.ErrSyntax", "unicode/utf8.first", "unicode/utf8.acceptRanges"], make := .lifted ["reflectrows", "leanrows", "reflbeside"], apart := false, laid := [("unicode/utf8.acceptRanges", laid_unicode_utf8_acceptRanges), ("strconv.ErrSyntax", laid_strconv_ErrSyntax), ("unicode/utf8.first", laid_unicode_utf8_first)], narrowed := true }
def FnStructFieldsTableUptoSaid : Prop := fnStructFieldsTableUptoRow.holds Tryz.pinned (OpenSpec.upto fnStructFieldsTableSpec)

/-- 'n003_107.FnStructFieldExactTable', WHERE WHAT IT READS IS OF BULK AT MOST 1048576: true; the input reads as it did. -/
def fnStructFieldExactTableUptoRow : OpenClaim := { program := "ytdpgbmmgeooahaagreatdoorbesrefl", sum := "23b471adc2902800be7157237e505f0e2564d962702c87bac5950e81d88c89ca", func := "github.com/expr-lang/expr/n003_107.FnStructFieldExactTable", spec := "fnStructFieldExactTable", inPlace := ["reflect.TypeOf", "(reflect.StructField).IsExported", "internal/bytealg.IndexByteString"], unfollowed := true, recurses := true, named := ["strconv.ErrSyntax", "unicode/utf8.first", "unicode/utf8.acceptRanges"], make := .lifted ["reflectrows", "leanrows", "reflbeside"], apart := false, laid := [("unicode/utf8.acceptRanges", laid_unicode_utf8_acceptRanges), ("strconv.ErrSyntax", laid_strconv_ErrSyntax), ("unicode/utf8.first", laid_unicode_utf8_first)], narrowed := true }
def FnStructFieldExactTableUptoSaid : Prop := fnStructFieldExactTableUptoRow.holds Tryz.pinned (OpenSpec.upto fnStructFieldExactTableSpec)

/-- 'n003_84.FnStructFieldsAgreesWithFieldByName', WHERE WHAT IT READS IS OF BULK AT MOST 1048576: true; the input reads as it did. -/
def fnStructFieldsAgreesWithFieldByNameUptoRow : OpenClaim := { program := "ytdpgbmmgeooahaagreatdoorbesrefl", sum := "23b471adc2902800be7157237e505f0e2564d962702c87bac5950e81d88c89ca", func := "github.com/expr-lang/expr/n003_84.FnStructFieldsAgreesWithFieldByName", spec := "fnStructFieldsAgreesWithFieldByName", inPlace := ["reflect.TypeOf", "(reflect.StructField).IsExported", "internal/bytealg.IndexByteString"], unfollowed := true, recurses := true, named := ["strconv.ErrSyntax", "unicode/utf8.first", "unicode/utf8.acceptRanges"], make := .lifted ["reflectrows", "leanrows", "reflbeside"], apart := false, laid := [("unicode/utf8.acceptRanges", laid_unicode_utf8_acceptRanges), ("strconv.ErrSyntax", laid_strconv_ErrSyntax), ("unicode/utf8.first", laid_unicode_utf8_first)], narrowed := true }
def FnStructFieldsAgreesWithFieldByNameUptoSaid : Prop := fnStructFieldsAgreesWithFieldByNameUptoRow.holds Tryz.pinned (OpenSpec.upto fnStructFieldsAgreesWithFieldByNameSpec)

/-- 'n003_107.FnFindInEmbeddedExactTable', WHERE WHAT IT READS IS OF BULK AT MOST 1048576: true; the input reads as it did. -/
def fnFindInEmbeddedExactTableUptoRow : OpenClaim := { program := "ytdpgbmmgeooahaagreatdoorbesrefl", sum := "23b471adc2902800be7157237e505f0e2564d962702c87bac5950e81d88c89ca", func := "github.com/expr-lang/expr/n003_107.FnFindInEmbeddedExactTable", spec := "fnFindInEmbeddedExactTable", inPlace := ["reflect.TypeOf", "(reflect.StructField).IsExported", "internal/bytealg.IndexByteString"], unfollowed := true, recurses := true, named := ["strconv.ErrSyntax", "unicode/utf8.first", "unicode/utf8.acceptRanges"], make := .lifted ["reflectrows", "leanrows", "reflbeside"], apart := false, laid := [("unicode/utf8.acceptRanges", laid_unicode_utf8_acceptRanges), ("strconv.ErrSyntax", laid_strconv_ErrSyntax), ("unicode/utf8.first", laid_unicode_utf8_first)], narrowed := true }
def FnFindInEmbeddedExactTableUptoSaid : Prop := fnFindInEmbeddedExactTableUptoRow.holds Tryz.pinned (OpenSpec.upto fnFindInEmbeddedExactTableSpec)

/-- 'n003_107.FnStructFieldAnyOrder', WHERE WHAT IT READS IS OF BULK AT MOST 1048576: true; the input reads as it did. -/
def fnStructFieldAnyOrderUptoRow : OpenClaim := { program := "ytdpgbmmgeooahaagreatdoorbesrefl", sum := "23b471adc2902800be7157237e505f0e2564d962702c87bac5950e81d88c89ca", func := "github.com/expr-lang/expr/n003_107.FnStructFieldAnyOrder", spec := "fnStructFieldAnyOrder", inPlace := ["reflect.TypeOf", "(reflect.StructField).IsExported", "internal/bytealg.IndexByteString"], unfollowed := true, recurses := true, named := ["strconv.ErrSyntax", "unicode/utf8.first", "unicode/utf8.acceptRanges"], make := .lifted ["reflectrows", "leanrows", "reflbeside"], apart := false, laid := [("unicode/utf8.acceptRanges", laid_unicode_utf8_acceptRanges), ("strconv.ErrSyntax", laid_strconv_ErrSyntax), ("unicode/utf8.first", laid_unicode_utf8_first)], narrowed := true }
def FnStructFieldAnyOrderUptoSaid : Prop := fnStructFieldAnyOrderUptoRow.holds Tryz.pinned (OpenSpec.upto fnStructFieldAnyOrderSpec)

/-- 'n003_107.FnFindInEmbeddedScript', WHERE WHAT IT READS IS OF BULK AT MOST 1048576: true; the input reads as it did. -/
def fnFindInEmbeddedScriptUptoRow : OpenClaim := { program := "ytdpgbmmgeooahaagreatdoorbesrefl", sum := "23b471adc2902800be7157237e505f0e2564d962702c87bac5950e81d88c89ca", func := "github.com/expr-lang/expr/n003_107.FnFindInEmbeddedScript", spec := "fnFindInEmbeddedScript", inPlace := ["reflect.TypeOf", "(reflect.StructField).IsExported", "internal/bytealg.IndexByteString"], unfollowed := true, recurses := true, named := ["strconv.ErrSyntax", "unicode/utf8.first", "unicode/utf8.acceptRanges"], make := .lifted ["reflectrows", "leanrows", "reflbeside"], apart := false, laid := [("unicode/utf8.acceptRanges", laid_unicode_utf8_acceptRanges), ("strconv.ErrSyntax", laid_strconv_ErrSyntax), ("unicode/utf8.first", laid_unicode_utf8_first)], narrowed := true }
def FnFindInEmbeddedScriptUptoSaid : Prop := fnFindInEmbeddedScriptUptoRow.holds Tryz.pinned (OpenSpec.upto fnFindInEmbeddedScriptSpec)

/-- 'n003_107.FnFinishedAfterLookups', WHERE WHAT IT READS IS OF BULK AT MOST 1048576: true; the input reads as it did. -/
def fnFinishedAfterLookupsUptoRow : OpenClaim := { program := "ytdpgbmmgeooahaagreatdoorbesrefl", sum := "23b471adc2902800be7157237e505f0e2564d962702c87bac5950e81d88c89ca", func := "github.com/expr-lang/expr/n003_107.FnFinishedAfterLookups", spec := "fnFinishedAfterLookups", inPlace := ["reflect.TypeOf", "(reflect.StructField).IsExported", "internal/bytealg.IndexByteString"], unfollowed := true, recurses := true, named := ["strconv.ErrSyntax", "unicode/utf8.first", "unicode/utf8.acceptRanges"], make := .lifted ["reflectrows", "leanrows", "reflbeside"], apart := false, laid := [("unicode/utf8.acceptRanges", laid_unicode_utf8_acceptRanges), ("strconv.ErrSyntax", laid_strconv_ErrSyntax), ("unicode/utf8.first", laid_unicode_utf8_first)], narrowed := true }
def FnFinishedAfterLookupsUptoSaid : Prop := fnFinishedAfterLookupsUptoRow.holds Tryz.pinned (OpenSpec.upto fnFinishedAfterLookupsSpec)

end Rows
end Go.Proofs.YtdpgbmmgeooahaaGreatDoorBesrefl
