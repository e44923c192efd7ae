/-
  NARROWER THAN 'FOR EVERY INPUT', by the rows' own cells (each row's printed sentence says how): FnFieldByNameStructFieldTable: laid · FnFieldIndexTable: laid · FnFieldIndexScript: laid · FnFieldByNameScriptOnOneCache: laid · FnGetStructFieldByName: laid.
  DERIVED. THE GIVEN ROWS OF THIS SEAT. 5 by the template 'for every input the law returns true; each argument reads behind the call as it read before'; 0 by the template 'total and deterministic' (their statements: YtpnifkpnapoeoaaGreatDoorBesreflTotals.lean).
  GIVEN WITH THE SEED: the statements are not yours to turn. If you find one false, say at which input.
  Laid BY PROGRAM, IN A SANDBOX (cutbox-rows.mjs): the forced cells as the released guide's own fill.sh prints them over the translation 71b6f2fe423cfe93… (all of the seat's roots in one cut). By AI agents, Wed Nov 11 2026. No macro, syntax, notation, axiom, sorry.
-/
import Derived.Test.YtpnifkpnapoeoaaGreatDoorBesreflChecked
import GoSem.PinnedTables
import GoSem.Claim
import GoSem.ClaimJoined
import GoSem.ClaimMapViews
import Derived.JoinedTies
import Derived.KernelRfl
namespace Go.Proofs.YtpnifkpnapoeoaaGreatDoorBesrefl
/- THE CELL 'sum', in the pinned program and in every row, IS THE sha256 OF THE DUMP (.gsa) THAT YtpnifkpnapoeoaaGreatDoorBesreflProg.lean LOADS. Nothing in Lean hashes anything: it is a label: what it is worth is what the hold of that sum in a sandbox is worth. -/
noncomputable def Tryz.pinned : Pinned := { name := "ytpnifkpnapoeoaagreatdoorbesrefl", sum := "71b6f2fe423cfe9320104fa66e33071a0cd3d88e4b22d6e0f81256362d7273aa", checked := Tryz.checked }
namespace Rows
def none {H : Type} : Left H := { results := [], args := [] }

/- WHAT THE LISTED PACKAGE-LEVEL VARIABLES READ AS WHEN THE CALL BEGINS. Each datum BY PROGRAM (the guide's laid-datum.mjs) off the statement by which the dump's own 'gosem.cut.vars' lays the variable. In a bare row this is a premise. The card (YtpnifkpnapoeoaaGreatDoorBesreflCards.lean) ties it to the program's text. -/
def laid_unicode_utf8_acceptRanges {H : Type} : DataW H := .agg [.agg [.lit (.int .u8 128), .lit (.int .u8 191)], .agg [.lit (.int .u8 160), .lit (.int .u8 191)], .agg [.lit (.int .u8 128), .lit (.int .u8 159)], .agg [.lit (.int .u8 144), .lit (.int .u8 191)], .agg [.lit (.int .u8 128), .lit (.int .u8 143)], .agg [.lit (.int .u8 0), .lit (.int .u8 0)], .agg [.lit (.int .u8 0), .lit (.int .u8 0)], .agg [.lit (.int .u8 0), .lit (.int .u8 0)], .agg [.lit (.int .u8 0), .lit (.int .u8 0)], .agg [.lit (.int .u8 0), .lit (.int .u8 0)], .agg [.lit (.int .u8 0), .lit (.int .u8 0)], .agg [.lit (.int .u8 0), .lit (.int .u8 0)], .agg [.lit (.int .u8 0), .lit (.int .u8 0)], .agg [.lit (.int .u8 0), .lit (.int .u8 0)], .agg [.lit (.int .u8 0), .lit (.int .u8 0)], .agg [.lit (.int .u8 0), .lit (.int .u8 0)]]
def laid_strconv_ErrSyntax {H : Type} : DataW H := .iface "*errors.errorString" (.ptr (.agg [.lit (.string [105, 110, 118, 97, 108, 105, 100, 32, 115, 121, 110, 116, 97, 120])]))
/-- One of Go's own tables, pinned by name: the form's constant. -/
def laid_unicode_utf8_first : DataW Unit := Go.Pinned.utf8First

/-- 'n003_96.FnFieldByNameStructFieldTable': WHATEVER THE INPUT: true; the input reads as it did. -/
def fnFieldByNameStructFieldTableSpec : ChangeSpec := { name := "fnFieldByNameStructFieldTable", fn := fun _ => fun
  | [d] => { results := [.lit (.bool true)], args := [d] }
  | _ => none }
def fnFieldByNameStructFieldTableRow : OpenClaim := { program := "ytpnifkpnapoeoaagreatdoorbesrefl", sum := "71b6f2fe423cfe9320104fa66e33071a0cd3d88e4b22d6e0f81256362d7273aa", func := "github.com/expr-lang/expr/n003_96.FnFieldByNameStructFieldTable", spec := "fnFieldByNameStructFieldTable", inPlace := ["reflect.TypeOf", "(reflect.StructField).IsExported", "internal/bytealg.IndexByteString"], unfollowed := true, recurses := true, named := ["strconv.ErrSyntax", "unicode/utf8.first", "unicode/utf8.acceptRanges"], make := .lifted ["reflectrows", "leanrows", "reflbeside"], apart := false, laid := [("unicode/utf8.acceptRanges", laid_unicode_utf8_acceptRanges), ("strconv.ErrSyntax", laid_strconv_ErrSyntax), ("unicode/utf8.first", laid_unicode_utf8_first)] }
def FnFieldByNameStructFieldTableSaid : Prop := fnFieldByNameStructFieldTableRow.holds Tryz.pinned (OpenSpec.ofChange fnFieldByNameStructFieldTableSpec)

/-- ITS FALSE NEIGHBOUR: 'it returns false'. Refute it at one input. -/
def fnFieldByNameStructFieldTableWrong : ChangeSpec := { name := "fnFieldByNameStructFieldTable", fn := fun _ => fun
  | [d] => { results := [.lit (.bool false)], args := [d] }
  | _ => none }
def FnFieldByNameStructFieldTableWrongFalsely : Prop := fnFieldByNameStructFieldTableRow.holds Tryz.pinned (OpenSpec.ofChange fnFieldByNameStructFieldTableWrong)

/-- 'n003_97.FnFieldIndexTable': WHATEVER THE INPUT: true; the input reads as it did. -/
def fnFieldIndexTableSpec : ChangeSpec := { name := "fnFieldIndexTable", fn := fun _ => fun
  | [d] => { results := [.lit (.bool true)], args := [d] }
  | _ => none }
def fnFieldIndexTableRow : OpenClaim := { program := "ytpnifkpnapoeoaagreatdoorbesrefl", sum := "71b6f2fe423cfe9320104fa66e33071a0cd3d88e4b22d6e0f81256362d7273aa", func := "github.com/expr-lang/expr/n003_97.FnFieldIndexTable", spec := "fnFieldIndexTable", inPlace := ["reflect.TypeOf", "(reflect.StructField).IsExported", "internal/bytealg.IndexByteString"], unfollowed := true, recurses := true, named := ["strconv.ErrSyntax", "unicode/utf8.first", "unicode/utf8.acceptRanges"], make := .lifted ["reflectrows", "leanrows", "reflbeside"], apart := false, laid := [("unicode/utf8.acceptRanges", laid_unicode_utf8_acceptRanges), ("strconv.ErrSyntax", laid_strconv_ErrSyntax), ("unicode/utf8.first", laid_unicode_utf8_first)] }
def FnFieldIndexTableSaid : Prop := fnFieldIndexTableRow.holds Tryz.pinned (OpenSpec.ofChange fnFieldIndexTableSpec)

/-- ITS FALSE NEIGHBOUR: 'it returns false'. Refute it at one input. -/
def fnFieldIndexTableWrong : ChangeSpec := { name := "fnFieldIndexTable", fn := fun _ => fun
  | [d] => { results := [.lit (.bool false)], args := [d] }
  | _ => none }
def FnFieldIndexTableWrongFalsely : Prop := fnFieldIndexTableRow.holds Tryz.pinned (OpenSpec.ofChange fnFieldIndexTableWrong)

/-- 'n003_97.FnFieldIndexScript': WHATEVER THE INPUT: true; the input reads as it did. -/
def fnFieldIndexScriptSpec : ChangeSpec := { name := "fnFieldIndexScript", fn := fun _ => fun
  | [d1, d2] => { results := [.lit (.bool true)], args := [d1, d2] }
  | _ => none }
def fnFieldIndexScriptRow : OpenClaim := { program := "ytpnifkpnapoeoaagreatdoorbesrefl", sum := "71b6f2fe423cfe9320104fa66e33071a0cd3d88e4b22d6e0f81256362d7273aa", func := "github.com/expr-lang/expr/n003_97.FnFieldIndexScript", spec := "fnFieldIndexScript", inPlace := ["reflect.TypeOf", "(reflect.StructField).IsExported", "internal/bytealg.IndexByteString"], unfollowed := true, recurses := true, named := ["strconv.ErrSyntax", "unicode/utf8.first", "unicode/utf8.acceptRanges"], make := .lifted ["reflectrows", "leanrows", "reflbeside"], apart := false, laid := [("unicode/utf8.acceptRanges", laid_unicode_utf8_acceptRanges), ("strconv.ErrSyntax", laid_strconv_ErrSyntax), ("unicode/utf8.first", laid_unicode_utf8_first)] }
def FnFieldIndexScriptSaid : Prop := fnFieldIndexScriptRow.holds Tryz.pinned (OpenSpec.ofChange fnFieldIndexScriptSpec)

/-- ITS FALSE NEIGHBOUR: 'it returns false'. Refute it at one input. -/
def fnFieldIndexScriptWrong : ChangeSpec := { name := "fnFieldIndexScript", fn := fun _ => fun
  | [d1, d2] => { results := [.lit (.bool false)], args := [d1, d2] }
  | _ => none }
def FnFieldIndexScriptWrongFalsely : Prop := fnFieldIndexScriptRow.holds Tryz.pinned (OpenSpec.ofChange fnFieldIndexScriptWrong)

/-- 'n003_96.FnFieldByNameScriptOnOneCache': WHATEVER THE INPUT: true; the input reads as it did. -/
def fnFieldByNameScriptOnOneCacheSpec : ChangeSpec := { name := "fnFieldByNameScriptOnOneCache", fn := fun _ => fun
  | [d] => { results := [.lit (.bool true)], args := [d] }
  | _ => none }
def fnFieldByNameScriptOnOneCacheRow : OpenClaim := { program := "ytpnifkpnapoeoaagreatdoorbesrefl", sum := "71b6f2fe423cfe9320104fa66e33071a0cd3d88e4b22d6e0f81256362d7273aa", func := "github.com/expr-lang/expr/n003_96.FnFieldByNameScriptOnOneCache", spec := "fnFieldByNameScriptOnOneCache", inPlace := ["reflect.TypeOf", "(reflect.StructField).IsExported", "internal/bytealg.IndexByteString"], unfollowed := true, recurses := true, named := ["strconv.ErrSyntax", "unicode/utf8.first", "unicode/utf8.acceptRanges"], make := .lifted ["reflectrows", "leanrows", "reflbeside"], apart := false, laid := [("unicode/utf8.acceptRanges", laid_unicode_utf8_acceptRanges), ("strconv.ErrSyntax", laid_strconv_ErrSyntax), ("unicode/utf8.first", laid_unicode_utf8_first)] }
def FnFieldByNameScriptOnOneCacheSaid : Prop := fnFieldByNameScriptOnOneCacheRow.holds Tryz.pinned (OpenSpec.ofChange fnFieldByNameScriptOnOneCacheSpec)

/-- ITS FALSE NEIGHBOUR: 'it returns false'. Refute it at one input. -/
def fnFieldByNameScriptOnOneCacheWrong : ChangeSpec := { name := "fnFieldByNameScriptOnOneCache", fn := fun _ => fun
  | [d] => { results := [.lit (.bool false)], args := [d] }
  | _ => none }
def FnFieldByNameScriptOnOneCacheWrongFalsely : Prop := fnFieldByNameScriptOnOneCacheRow.holds Tryz.pinned (OpenSpec.ofChange fnFieldByNameScriptOnOneCacheWrong)

/-- 'n003_24.FnGetStructFieldByName': WHATEVER THE INPUT: true; the input reads as it did. -/
def fnGetStructFieldByNameSpec : ChangeSpec := { name := "fnGetStructFieldByName", fn := fun _ => fun
  | [d1, d2] => { results := [.lit (.bool true)], args := [d1, d2] }
  | _ => none }
def fnGetStructFieldByNameRow : OpenClaim := { program := "ytpnifkpnapoeoaagreatdoorbesrefl", sum := "71b6f2fe423cfe9320104fa66e33071a0cd3d88e4b22d6e0f81256362d7273aa", func := "github.com/expr-lang/expr/n003_24.FnGetStructFieldByName", spec := "fnGetStructFieldByName", inPlace := ["reflect.TypeOf", "(reflect.StructField).IsExported", "internal/bytealg.IndexByteString"], unfollowed := true, recurses := true, named := ["strconv.ErrSyntax", "unicode/utf8.first", "unicode/utf8.acceptRanges"], make := .lifted ["reflectrows", "leanrows", "reflbeside"], apart := false, laid := [("unicode/utf8.acceptRanges", laid_unicode_utf8_acceptRanges), ("strconv.ErrSyntax", laid_strconv_ErrSyntax), ("unicode/utf8.first", laid_unicode_utf8_first)] }
def FnGetStructFieldByNameSaid : Prop := fnGetStructFieldByNameRow.holds Tryz.pinned (OpenSpec.ofChange fnGetStructFieldByNameSpec)

/-- ITS FALSE NEIGHBOUR: 'it returns false'. Refute it at one input. -/
def fnGetStructFieldByNameWrong : ChangeSpec := { name := "fnGetStructFieldByName", fn := fun _ => fun
  | [d1, d2] => { results := [.lit (.bool false)], args := [d1, d2] }
  | _ => none }
def FnGetStructFieldByNameWrongFalsely : Prop := fnGetStructFieldByNameRow.holds Tryz.pinned (OpenSpec.ofChange fnGetStructFieldByNameWrong)

/- THE SECOND FORM. 'bulk': how many values and letters a reading holds, each counted each time it is reached (what is shared counts as often as it is met; a slice's spare places count too). A statement '..UptoSaid' is the law's where the arguments, and the package variables that the reading takes, are together of bulk at most 1048576: NARROWER than '..Said'. Prove '..Said' where nothing that the law and all that it calls make is longer than what came in: it says more and counts as full. Else prove '..UptoSaid'. A law counts once. -/
mutual
def uptoBulk {H : Type} : DataW H → Nat
  | .lit (.string bytes) => bytes.length + 1
  | .lit _ => 1
  | .nil => 1
  | .ptr d => uptoBulk d + 1
  | .slice elems spare => uptoBulkAll elems + uptoBulkAll spare + 1
  | .agg parts => uptoBulkAll parts + 1
  | .iface _ d => uptoBulk d + 1
  | .map entries => uptoBulkEntries entries + 1
  | .held _ => 1
def uptoBulkAll {H : Type} : List (DataW H) → Nat
  | [] => 0
  | d :: r => uptoBulk d + uptoBulkAll r
def uptoBulkEntries {H : Type} : List (Lit × DataW H) → Nat
  | [] => 0
  | x :: r => uptoBulkEntry x + uptoBulkEntries r
def uptoBulkEntry {H : Type} : Lit × DataW H → Nat
  | (.string bytes, d) => bytes.length + uptoBulk d + 1
  | (_, d) => uptoBulk d + 1
 end
def uptoSmall : (H : Type) → List (DataW H) → Bool := fun _ ds => decide (uptoBulkAll ds ≤ 1048576)
def OpenSpec.upto (s : _root_.Go.ChangeSpec) : _root_.Go.OpenSpec := { _root_.Go.OpenSpec.ofChange s with cond := some uptoSmall }

/-- 'n003_96.FnFieldByNameStructFieldTable', WHERE WHAT IT READS IS OF BULK AT MOST 1048576: true; the input reads as it did. -/
def fnFieldByNameStructFieldTableUptoRow : OpenClaim := { program := "ytpnifkpnapoeoaagreatdoorbesrefl", sum := "71b6f2fe423cfe9320104fa66e33071a0cd3d88e4b22d6e0f81256362d7273aa", func := "github.com/expr-lang/expr/n003_96.FnFieldByNameStructFieldTable", spec := "fnFieldByNameStructFieldTable", inPlace := ["reflect.TypeOf", "(reflect.StructField).IsExported", "internal/bytealg.IndexByteString"], unfollowed := true, recurses := true, named := ["strconv.ErrSyntax", "unicode/utf8.first", "unicode/utf8.acceptRanges"], make := .lifted ["reflectrows", "leanrows", "reflbeside"], apart := false, laid := [("unicode/utf8.acceptRanges", laid_unicode_utf8_acceptRanges), ("strconv.ErrSyntax", laid_strconv_ErrSyntax), ("unicode/utf8.first", laid_unicode_utf8_first)], narrowed := true }
def FnFieldByNameStructFieldTableUptoSaid : Prop := fnFieldByNameStructFieldTableUptoRow.holds Tryz.pinned (OpenSpec.upto fnFieldByNameStructFieldTableSpec)

/-- 'n003_97.FnFieldIndexTable', WHERE WHAT IT READS IS OF BULK AT MOST 1048576: true; the input reads as it did. -/
def fnFieldIndexTableUptoRow : OpenClaim := { program := "ytpnifkpnapoeoaagreatdoorbesrefl", sum := "71b6f2fe423cfe9320104fa66e33071a0cd3d88e4b22d6e0f81256362d7273aa", func := "github.com/expr-lang/expr/n003_97.FnFieldIndexTable", spec := "fnFieldIndexTable", inPlace := ["reflect.TypeOf", "(reflect.StructField).IsExported", "internal/bytealg.IndexByteString"], unfollowed := true, recurses := true, named := ["strconv.ErrSyntax", "unicode/utf8.first", "unicode/utf8.acceptRanges"], make := .lifted ["reflectrows", "leanrows", "reflbeside"], apart := false, laid := [("unicode/utf8.acceptRanges", laid_unicode_utf8_acceptRanges), ("strconv.ErrSyntax", laid_strconv_ErrSyntax), ("unicode/utf8.first", laid_unicode_utf8_first)], narrowed := true }
def FnFieldIndexTableUptoSaid : Prop := fnFieldIndexTableUptoRow.holds Tryz.pinned (OpenSpec.upto fnFieldIndexTableSpec)

/-- 'n003_97.FnFieldIndexScript', WHERE WHAT IT READS IS OF BULK AT MOST 1048576: true; the input reads as it did. -/
def fnFieldIndexScriptUptoRow : OpenClaim := { program := "ytpnifkpnapoeoaagreatdoorbesrefl", sum := "71b6f2fe423cfe9320104fa66e33071a0cd3d88e4b22d6e0f81256362d7273aa", func := "github.com/expr-lang/expr/n003_97.FnFieldIndexScript", spec := "fnFieldIndexScript", inPlace := ["reflect.TypeOf", "(reflect.StructField).IsExported", "internal/bytealg.IndexByteString"], unfollowed := true, recurses := true, named := ["strconv.ErrSyntax", "unicode/utf8.first", "unicode/utf8.acceptRanges"], make := .lifted ["reflectrows", "leanrows", "reflbeside"], apart := false, laid := [("unicode/utf8.acceptRanges", laid_unicode_utf8_acceptRanges), ("strconv.ErrSyntax", laid_strconv_ErrSyntax), ("unicode/utf8.first", laid_unicode_utf8_first)], narrowed := true }
def FnFieldIndexScriptUptoSaid : Prop := fnFieldIndexScriptUptoRow.holds Tryz.pinned (OpenSpec.upto fnFieldIndexScriptSpec)

/-- 'n003_96.FnFieldByNameScriptOnOneCache', WHERE WHAT IT READS IS OF BULK AT MOST 1048576: true; the input reads as it did. -/
def fnFieldByNameScriptOnOneCacheUptoRow : OpenClaim := { program := "ytpnifkpnapoeoaagreatdoorbesrefl", sum := "71b6f2fe423cfe9320104fa66e33071a0cd3d88e4b22d6e0f81256362d7273aa", func := "github.com/expr-lang/expr/n003_96.FnFieldByNameScriptOnOneCache", spec := "fnFieldByNameScriptOnOneCache", inPlace := ["reflect.TypeOf", "(reflect.StructField).IsExported", "internal/bytealg.IndexByteString"], unfollowed := true, recurses := true, named := ["strconv.ErrSyntax", "unicode/utf8.first", "unicode/utf8.acceptRanges"], make := .lifted ["reflectrows", "leanrows", "reflbeside"], apart := false, laid := [("unicode/utf8.acceptRanges", laid_unicode_utf8_acceptRanges), ("strconv.ErrSyntax", laid_strconv_ErrSyntax), ("unicode/utf8.first", laid_unicode_utf8_first)], narrowed := true }
def FnFieldByNameScriptOnOneCacheUptoSaid : Prop := fnFieldByNameScriptOnOneCacheUptoRow.holds Tryz.pinned (OpenSpec.upto fnFieldByNameScriptOnOneCacheSpec)

/-- 'n003_24.FnGetStructFieldByName', WHERE WHAT IT READS IS OF BULK AT MOST 1048576: true; the input reads as it did. -/
def fnGetStructFieldByNameUptoRow : OpenClaim := { program := "ytpnifkpnapoeoaagreatdoorbesrefl", sum := "71b6f2fe423cfe9320104fa66e33071a0cd3d88e4b22d6e0f81256362d7273aa", func := "github.com/expr-lang/expr/n003_24.FnGetStructFieldByName", spec := "fnGetStructFieldByName", inPlace := ["reflect.TypeOf", "(reflect.StructField).IsExported", "internal/bytealg.IndexByteString"], unfollowed := true, recurses := true, named := ["strconv.ErrSyntax", "unicode/utf8.first", "unicode/utf8.acceptRanges"], make := .lifted ["reflectrows", "leanrows", "reflbeside"], apart := false, laid := [("unicode/utf8.acceptRanges", laid_unicode_utf8_acceptRanges), ("strconv.ErrSyntax", laid_strconv_ErrSyntax), ("unicode/utf8.first", laid_unicode_utf8_first)], narrowed := true }
def FnGetStructFieldByNameUptoSaid : Prop := fnGetStructFieldByNameUptoRow.holds Tryz.pinned (OpenSpec.upto fnGetStructFieldByNameSpec)

end Rows
end Go.Proofs.YtpnifkpnapoeoaaGreatDoorBesrefl
