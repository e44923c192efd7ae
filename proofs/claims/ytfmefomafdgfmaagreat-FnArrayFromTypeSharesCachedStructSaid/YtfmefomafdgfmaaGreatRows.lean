/-
  No cell of these rows narrows 'for every input' (looked for: loops, veiled, ifaces, maps, wideKeys, modest, calm, conditions, laid).
  DERIVED. THE GIVEN ROWS OF THIS SEAT. 11 by the template 'for every input the law returns true; each argument reads behind the call as it read before'; 0 by the template 'total and deterministic' (their statements: YtfmefomafdgfmaaGreatTotals.lean).
  GIVEN WITH THE SEED: the statements are not yours to turn. If you find one false, say at which input.
  Laid BY PROGRAM, IN A SANDBOX (cutbox-rows.mjs): the forced cells as the released guide's own fill.sh prints them over the translation 9aa7acc12455664c… (all of the seat's roots in one cut). By AI agents, Wed Nov 11 2026. No macro, syntax, notation, axiom, sorry.
-/
import Derived.Test.YtfmefomafdgfmaaGreatChecked
import GoSem.Claim
import GoSem.ClaimJoined
import GoSem.ClaimMapViews
import Derived.JoinedTies
import Derived.KernelRfl
namespace Go.Proofs.YtfmefomafdgfmaaGreat
/- THE CELL 'sum', in the pinned program and in every row, IS THE sha256 OF THE DUMP (.gsa) THAT YtfmefomafdgfmaaGreatProg.lean LOADS. Nothing in Lean hashes anything: it is a label: what it is worth is what the hold of that sum in a sandbox is worth. -/
noncomputable def Tryz.pinned : Pinned := { name := "ytfmefomafdgfmaagreat", sum := "9aa7acc12455664c4052cdb2b3820d8b26fd39eb2cd2230822f778fc2ab95b83", checked := Tryz.checked }
namespace Rows
def none {H : Type} : Left H := { results := [], args := [] }

/-- 'n003_48.FnArrayFromTypeElemAgrees': WHATEVER THE INPUT: true; the input reads as it did. -/
def fnArrayFromTypeElemAgreesSpec : ChangeSpec := { name := "fnArrayFromTypeElemAgrees", fn := fun _ => fun
  | [d1, d2] => { results := [.lit (.bool true)], args := [d1, d2] }
  | _ => none }
def fnArrayFromTypeElemAgreesRow : OpenClaim := { program := "ytfmefomafdgfmaagreat", sum := "9aa7acc12455664c4052cdb2b3820d8b26fd39eb2cd2230822f778fc2ab95b83", func := "github.com/expr-lang/expr/n003_48.FnArrayFromTypeElemAgrees", spec := "fnArrayFromTypeElemAgrees", inPlace := ["reflect.TypeOf"], unfollowed := true, recurses := true, make := .lifted ["reflectrows", "leanrows"], apart := false }
def FnArrayFromTypeElemAgreesSaid : Prop := fnArrayFromTypeElemAgreesRow.holds Tryz.pinned (OpenSpec.ofChange fnArrayFromTypeElemAgreesSpec)

/-- ITS FALSE NEIGHBOUR: 'it returns false'. Refute it at one input. -/
def fnArrayFromTypeElemAgreesWrong : ChangeSpec := { name := "fnArrayFromTypeElemAgrees", fn := fun _ => fun
  | [d1, d2] => { results := [.lit (.bool false)], args := [d1, d2] }
  | _ => none }
def FnArrayFromTypeElemAgreesWrongFalsely : Prop := fnArrayFromTypeElemAgreesRow.holds Tryz.pinned (OpenSpec.ofChange fnArrayFromTypeElemAgreesWrong)

/-- 'n003_68.FnNumInIsParameterCount': WHATEVER THE INPUT: true; the input reads as it did. -/
def fnNumInIsParameterCountSpec : ChangeSpec := { name := "fnNumInIsParameterCount", fn := fun _ => fun
  | [d1, d2, d3, d4] => { results := [.lit (.bool true)], args := [d1, d2, d3, d4] }
  | _ => none }
def fnNumInIsParameterCountRow : OpenClaim := { program := "ytfmefomafdgfmaagreat", sum := "9aa7acc12455664c4052cdb2b3820d8b26fd39eb2cd2230822f778fc2ab95b83", func := "github.com/expr-lang/expr/n003_68.FnNumInIsParameterCount", spec := "fnNumInIsParameterCount", inPlace := ["reflect.TypeOf", "reflect.FuncOf"], unfollowed := true, recurses := true, make := .lifted ["reflectrows", "leanrows"], apart := false }
def FnNumInIsParameterCountSaid : Prop := fnNumInIsParameterCountRow.holds Tryz.pinned (OpenSpec.ofChange fnNumInIsParameterCountSpec)

/-- ITS FALSE NEIGHBOUR: 'it returns false'. Refute it at one input. -/
def fnNumInIsParameterCountWrong : ChangeSpec := { name := "fnNumInIsParameterCount", fn := fun _ => fun
  | [d1, d2, d3, d4] => { results := [.lit (.bool false)], args := [d1, d2, d3, d4] }
  | _ => none }
def FnNumInIsParameterCountWrongFalsely : Prop := fnNumInIsParameterCountRow.holds Tryz.pinned (OpenSpec.ofChange fnNumInIsParameterCountWrong)

/-- 'n003_68.FnInElemKeepsFirstAnswer': WHATEVER THE INPUT: true; the input reads as it did. -/
def fnInElemKeepsFirstAnswerSpec : ChangeSpec := { name := "fnInElemKeepsFirstAnswer", fn := fun _ => fun
  | [d1, d2, d3, d4, d5] => { results := [.lit (.bool true)], args := [d1, d2, d3, d4, d5] }
  | _ => none }
def fnInElemKeepsFirstAnswerRow : OpenClaim := { program := "ytfmefomafdgfmaagreat", sum := "9aa7acc12455664c4052cdb2b3820d8b26fd39eb2cd2230822f778fc2ab95b83", func := "github.com/expr-lang/expr/n003_68.FnInElemKeepsFirstAnswer", spec := "fnInElemKeepsFirstAnswer", inPlace := ["reflect.TypeOf", "reflect.FuncOf"], unfollowed := true, recurses := true, make := .lifted ["reflectrows", "leanrows"], apart := false }
def FnInElemKeepsFirstAnswerSaid : Prop := fnInElemKeepsFirstAnswerRow.holds Tryz.pinned (OpenSpec.ofChange fnInElemKeepsFirstAnswerSpec)

/-- ITS FALSE NEIGHBOUR: 'it returns false'. Refute it at one input. -/
def fnInElemKeepsFirstAnswerWrong : ChangeSpec := { name := "fnInElemKeepsFirstAnswer", fn := fun _ => fun
  | [d1, d2, d3, d4, d5] => { results := [.lit (.bool false)], args := [d1, d2, d3, d4, d5] }
  | _ => none }
def FnInElemKeepsFirstAnswerWrongFalsely : Prop := fnInElemKeepsFirstAnswerRow.holds Tryz.pinned (OpenSpec.ofChange fnInElemKeepsFirstAnswerWrong)

/-- 'n003_103.FnElemSampleTable': WHATEVER THE INPUT: true; the input reads as it did. -/
def fnElemSampleTableSpec : ChangeSpec := { name := "fnElemSampleTable", fn := fun _ => fun
  | [d1, d2] => { results := [.lit (.bool true)], args := [d1, d2] }
  | _ => none }
def fnElemSampleTableRow : OpenClaim := { program := "ytfmefomafdgfmaagreat", sum := "9aa7acc12455664c4052cdb2b3820d8b26fd39eb2cd2230822f778fc2ab95b83", func := "github.com/expr-lang/expr/n003_103.FnElemSampleTable", spec := "fnElemSampleTable", inPlace := ["reflect.TypeOf"], unfollowed := true, recurses := true, make := .lifted ["reflectrows", "leanrows"], apart := false }
def FnElemSampleTableSaid : Prop := fnElemSampleTableRow.holds Tryz.pinned (OpenSpec.ofChange fnElemSampleTableSpec)

/-- ITS FALSE NEIGHBOUR: 'it returns false'. Refute it at one input. -/
def fnElemSampleTableWrong : ChangeSpec := { name := "fnElemSampleTable", fn := fun _ => fun
  | [d1, d2] => { results := [.lit (.bool false)], args := [d1, d2] }
  | _ => none }
def FnElemSampleTableWrongFalsely : Prop := fnElemSampleTableRow.holds Tryz.pinned (OpenSpec.ofChange fnElemSampleTableWrong)

/-- 'n003_103.FnElemInvertsMakeArrayOf': WHATEVER THE INPUT: true; the input reads as it did. -/
def fnElemInvertsMakeArrayOfSpec : ChangeSpec := { name := "fnElemInvertsMakeArrayOf", fn := fun _ => fun
  | [d1, d2, d3, d4, d5, d6, d7, d8] => { results := [.lit (.bool true)], args := [d1, d2, d3, d4, d5, d6, d7, d8] }
  | _ => none }
def fnElemInvertsMakeArrayOfRow : OpenClaim := { program := "ytfmefomafdgfmaagreat", sum := "9aa7acc12455664c4052cdb2b3820d8b26fd39eb2cd2230822f778fc2ab95b83", func := "github.com/expr-lang/expr/n003_103.FnElemInvertsMakeArrayOf", spec := "fnElemInvertsMakeArrayOf", inPlace := ["reflect.TypeOf"], unfollowed := true, recurses := true, make := .lifted ["reflectrows", "leanrows"], apart := false }
def FnElemInvertsMakeArrayOfSaid : Prop := fnElemInvertsMakeArrayOfRow.holds Tryz.pinned (OpenSpec.ofChange fnElemInvertsMakeArrayOfSpec)

/-- ITS FALSE NEIGHBOUR: 'it returns false'. Refute it at one input. -/
def fnElemInvertsMakeArrayOfWrong : ChangeSpec := { name := "fnElemInvertsMakeArrayOf", fn := fun _ => fun
  | [d1, d2, d3, d4, d5, d6, d7, d8] => { results := [.lit (.bool false)], args := [d1, d2, d3, d4, d5, d6, d7, d8] }
  | _ => none }
def FnElemInvertsMakeArrayOfWrongFalsely : Prop := fnElemInvertsMakeArrayOfRow.holds Tryz.pinned (OpenSpec.ofChange fnElemInvertsMakeArrayOfWrong)

/-- 'n003_24.FnNatureOfTable': WHATEVER THE INPUT: true; the input reads as it did. -/
def fnNatureOfTableSpec : ChangeSpec := { name := "fnNatureOfTable", fn := fun _ => fun
  | [d1, d2, d3, d4, d5, d6] => { results := [.lit (.bool true)], args := [d1, d2, d3, d4, d5, d6] }
  | _ => none }
def fnNatureOfTableRow : OpenClaim := { program := "ytfmefomafdgfmaagreat", sum := "9aa7acc12455664c4052cdb2b3820d8b26fd39eb2cd2230822f778fc2ab95b83", func := "github.com/expr-lang/expr/n003_24.FnNatureOfTable", spec := "fnNatureOfTable", inPlace := ["reflect.TypeOf"], unfollowed := true, recurses := true, make := .lifted ["reflectrows", "leanrows"], apart := false }
def FnNatureOfTableSaid : Prop := fnNatureOfTableRow.holds Tryz.pinned (OpenSpec.ofChange fnNatureOfTableSpec)

/-- ITS FALSE NEIGHBOUR: 'it returns false'. Refute it at one input. -/
def fnNatureOfTableWrong : ChangeSpec := { name := "fnNatureOfTable", fn := fun _ => fun
  | [d1, d2, d3, d4, d5, d6] => { results := [.lit (.bool false)], args := [d1, d2, d3, d4, d5, d6] }
  | _ => none }
def FnNatureOfTableWrongFalsely : Prop := fnNatureOfTableRow.holds Tryz.pinned (OpenSpec.ofChange fnNatureOfTableWrong)

/-- 'n003_68.FnInClassifiesEachParameter': WHATEVER THE INPUT: true; the input reads as it did. -/
def fnInClassifiesEachParameterSpec : ChangeSpec := { name := "fnInClassifiesEachParameter", fn := fun _ => fun
  | [d1, d2, d3, d4] => { results := [.lit (.bool true)], args := [d1, d2, d3, d4] }
  | _ => none }
def fnInClassifiesEachParameterRow : OpenClaim := { program := "ytfmefomafdgfmaagreat", sum := "9aa7acc12455664c4052cdb2b3820d8b26fd39eb2cd2230822f778fc2ab95b83", func := "github.com/expr-lang/expr/n003_68.FnInClassifiesEachParameter", spec := "fnInClassifiesEachParameter", inPlace := ["reflect.TypeOf", "reflect.FuncOf"], unfollowed := true, recurses := true, make := .lifted ["reflectrows", "leanrows"], apart := false }
def FnInClassifiesEachParameterSaid : Prop := fnInClassifiesEachParameterRow.holds Tryz.pinned (OpenSpec.ofChange fnInClassifiesEachParameterSpec)

/-- ITS FALSE NEIGHBOUR: 'it returns false'. Refute it at one input. -/
def fnInClassifiesEachParameterWrong : ChangeSpec := { name := "fnInClassifiesEachParameter", fn := fun _ => fun
  | [d1, d2, d3, d4] => { results := [.lit (.bool false)], args := [d1, d2, d3, d4] }
  | _ => none }
def FnInClassifiesEachParameterWrongFalsely : Prop := fnInClassifiesEachParameterRow.holds Tryz.pinned (OpenSpec.ofChange fnInClassifiesEachParameterWrong)

/-- 'n003_68.FnNumInStableAcrossScript': WHATEVER THE INPUT: true; the input reads as it did. -/
def fnNumInStableAcrossScriptSpec : ChangeSpec := { name := "fnNumInStableAcrossScript", fn := fun _ => fun
  | [d1, d2, d3, d4] => { results := [.lit (.bool true)], args := [d1, d2, d3, d4] }
  | _ => none }
def fnNumInStableAcrossScriptRow : OpenClaim := { program := "ytfmefomafdgfmaagreat", sum := "9aa7acc12455664c4052cdb2b3820d8b26fd39eb2cd2230822f778fc2ab95b83", func := "github.com/expr-lang/expr/n003_68.FnNumInStableAcrossScript", spec := "fnNumInStableAcrossScript", inPlace := ["reflect.TypeOf", "reflect.FuncOf"], unfollowed := true, recurses := true, make := .lifted ["reflectrows", "leanrows"], apart := false }
def FnNumInStableAcrossScriptSaid : Prop := fnNumInStableAcrossScriptRow.holds Tryz.pinned (OpenSpec.ofChange fnNumInStableAcrossScriptSpec)

/-- ITS FALSE NEIGHBOUR: 'it returns false'. Refute it at one input. -/
def fnNumInStableAcrossScriptWrong : ChangeSpec := { name := "fnNumInStableAcrossScript", fn := fun _ => fun
  | [d1, d2, d3, d4] => { results := [.lit (.bool false)], args := [d1, d2, d3, d4] }
  | _ => none }
def FnNumInStableAcrossScriptWrongFalsely : Prop := fnNumInStableAcrossScriptRow.holds Tryz.pinned (OpenSpec.ofChange fnNumInStableAcrossScriptWrong)

/-- 'n003_24.FnFromTypeStructSharing': WHATEVER THE INPUT: true; the input reads as it did. -/
def fnFromTypeStructSharingSpec : ChangeSpec := { name := "fnFromTypeStructSharing", fn := fun _ => fun
  | [d] => { results := [.lit (.bool true)], args := [d] }
  | _ => none }
def fnFromTypeStructSharingRow : OpenClaim := { program := "ytfmefomafdgfmaagreat", sum := "9aa7acc12455664c4052cdb2b3820d8b26fd39eb2cd2230822f778fc2ab95b83", func := "github.com/expr-lang/expr/n003_24.FnFromTypeStructSharing", spec := "fnFromTypeStructSharing", inPlace := ["reflect.TypeOf"], unfollowed := true, recurses := true, make := .lifted ["reflectrows", "leanrows"], apart := false }
def FnFromTypeStructSharingSaid : Prop := fnFromTypeStructSharingRow.holds Tryz.pinned (OpenSpec.ofChange fnFromTypeStructSharingSpec)

/-- ITS FALSE NEIGHBOUR: 'it returns false'. Refute it at one input. -/
def fnFromTypeStructSharingWrong : ChangeSpec := { name := "fnFromTypeStructSharing", fn := fun _ => fun
  | [d] => { results := [.lit (.bool false)], args := [d] }
  | _ => none }
def FnFromTypeStructSharingWrongFalsely : Prop := fnFromTypeStructSharingRow.holds Tryz.pinned (OpenSpec.ofChange fnFromTypeStructSharingWrong)

/-- 'n003_48.FnArrayFromTypeSharesCachedStruct': WHATEVER THE INPUT: true; the input reads as it did. -/
def fnArrayFromTypeSharesCachedStructSpec : ChangeSpec := { name := "fnArrayFromTypeSharesCachedStruct", fn := fun _ => fun
  | [d] => { results := [.lit (.bool true)], args := [d] }
  | _ => none }
def fnArrayFromTypeSharesCachedStructRow : OpenClaim := { program := "ytfmefomafdgfmaagreat", sum := "9aa7acc12455664c4052cdb2b3820d8b26fd39eb2cd2230822f778fc2ab95b83", func := "github.com/expr-lang/expr/n003_48.FnArrayFromTypeSharesCachedStruct", spec := "fnArrayFromTypeSharesCachedStruct", inPlace := ["reflect.TypeOf"], unfollowed := true, recurses := true, make := .lifted ["reflectrows", "leanrows"], apart := false }
def FnArrayFromTypeSharesCachedStructSaid : Prop := fnArrayFromTypeSharesCachedStructRow.holds Tryz.pinned (OpenSpec.ofChange fnArrayFromTypeSharesCachedStructSpec)

/-- ITS FALSE NEIGHBOUR: 'it returns false'. Refute it at one input. -/
def fnArrayFromTypeSharesCachedStructWrong : ChangeSpec := { name := "fnArrayFromTypeSharesCachedStruct", fn := fun _ => fun
  | [d] => { results := [.lit (.bool false)], args := [d] }
  | _ => none }
def FnArrayFromTypeSharesCachedStructWrongFalsely : Prop := fnArrayFromTypeSharesCachedStructRow.holds Tryz.pinned (OpenSpec.ofChange fnArrayFromTypeSharesCachedStructWrong)

/-- 'n003_24.FnGetStructMemoTable': WHATEVER THE INPUT: true; the input reads as it did. -/
def fnGetStructMemoTableSpec : ChangeSpec := { name := "fnGetStructMemoTable", fn := fun _ => fun
  | [d] => { results := [.lit (.bool true)], args := [d] }
  | _ => none }
def fnGetStructMemoTableRow : OpenClaim := { program := "ytfmefomafdgfmaagreat", sum := "9aa7acc12455664c4052cdb2b3820d8b26fd39eb2cd2230822f778fc2ab95b83", func := "github.com/expr-lang/expr/n003_24.FnGetStructMemoTable", spec := "fnGetStructMemoTable", inPlace := ["reflect.TypeOf"], unfollowed := true, recurses := true, make := .lifted ["reflectrows", "leanrows"], apart := false }
def FnGetStructMemoTableSaid : Prop := fnGetStructMemoTableRow.holds Tryz.pinned (OpenSpec.ofChange fnGetStructMemoTableSpec)

/-- ITS FALSE NEIGHBOUR: 'it returns false'. Refute it at one input. -/
def fnGetStructMemoTableWrong : ChangeSpec := { name := "fnGetStructMemoTable", fn := fun _ => fun
  | [d] => { results := [.lit (.bool false)], args := [d] }
  | _ => none }
def FnGetStructMemoTableWrongFalsely : Prop := fnGetStructMemoTableRow.holds Tryz.pinned (OpenSpec.ofChange fnGetStructMemoTableWrong)

/- THE SECOND FORM. 'bulk': how many values and letters a reading holds, each counted each time it is reached (what is shared counts as often as it is met; a slice's spare places count too). A statement '..UptoSaid' is the law's where the arguments, and the package variables that the reading takes, are together of bulk at most 1048576: NARROWER than '..Said'. Prove '..Said' where nothing that the law and all that it calls make is longer than what came in: it says more and counts as full. Else prove '..UptoSaid'. A law counts once. -/
mutual
def uptoBulk {H : Type} : DataW H → Nat
  | .lit (.string bytes) => bytes.length + 1
  | .lit _ => 1
  | .nil => 1
  | .ptr d => uptoBulk d + 1
  | .slice elems spare => uptoBulkAll elems + uptoBulkAll spare + 1
  | .agg parts => uptoBulkAll parts + 1
  | .iface _ d => uptoBulk d + 1
  | .map entries => uptoBulkEntries entries + 1
  | .held _ => 1
def uptoBulkAll {H : Type} : List (DataW H) → Nat
  | [] => 0
  | d :: r => uptoBulk d + uptoBulkAll r
def uptoBulkEntries {H : Type} : List (Lit × DataW H) → Nat
  | [] => 0
  | x :: r => uptoBulkEntry x + uptoBulkEntries r
def uptoBulkEntry {H : Type} : Lit × DataW H → Nat
  | (.string bytes, d) => bytes.length + uptoBulk d + 1
  | (_, d) => uptoBulk d + 1
 end
def uptoSmall : (H : Type) → List (DataW H) → Bool := fun _ ds => decide (uptoBulkAll ds ≤ 1048576)
def OpenSpec.upto (s : _root_.Go.ChangeSpec) : _root_.Go.OpenSpec := { _root_.Go.OpenSpec.ofChange s with cond := some uptoSmall }

/-- 'n003_48.FnArrayFromTypeElemAgrees', WHERE WHAT IT READS IS OF BULK AT MOST 1048576: true; the input reads as it did. -/
def fnArrayFromTypeElemAgreesUptoRow : OpenClaim := { program := "ytfmefomafdgfmaagreat", sum := "9aa7acc12455664c4052cdb2b3820d8b26fd39eb2cd2230822f778fc2ab95b83", func := "github.com/expr-lang/expr/n003_48.FnArrayFromTypeElemAgrees", spec := "fnArrayFromTypeElemAgrees", inPlace := ["reflect.TypeOf"], unfollowed := true, recurses := true, make := .lifted ["reflectrows", "leanrows"], apart := false, narrowed := true }
def FnArrayFromTypeElemAgreesUptoSaid : Prop := fnArrayFromTypeElemAgreesUptoRow.holds Tryz.pinned (OpenSpec.upto fnArrayFromTypeElemAgreesSpec)

/-- 'n003_68.FnNumInIsParameterCount', WHERE WHAT IT READS IS OF BULK AT MOST 1048576: true; the input reads as it did. -/
def fnNumInIsParameterCountUptoRow : OpenClaim := { program := "ytfmefomafdgfmaagreat", sum := "9aa7acc12455664c4052cdb2b3820d8b26fd39eb2cd2230822f778fc2ab95b83", func := "github.com/expr-lang/expr/n003_68.FnNumInIsParameterCount", spec := "fnNumInIsParameterCount", inPlace := ["reflect.TypeOf", "reflect.FuncOf"], unfollowed := true, recurses := true, make := .lifted ["reflectrows", "leanrows"], apart := false, narrowed := true }
def FnNumInIsParameterCountUptoSaid : Prop := fnNumInIsParameterCountUptoRow.holds Tryz.pinned (OpenSpec.upto fnNumInIsParameterCountSpec)

/-- 'n003_68.FnInElemKeepsFirstAnswer', WHERE WHAT IT READS IS OF BULK AT MOST 1048576: true; the input reads as it did. -/
def fnInElemKeepsFirstAnswerUptoRow : OpenClaim := { program := "ytfmefomafdgfmaagreat", sum := "9aa7acc12455664c4052cdb2b3820d8b26fd39eb2cd2230822f778fc2ab95b83", func := "github.com/expr-lang/expr/n003_68.FnInElemKeepsFirstAnswer", spec := "fnInElemKeepsFirstAnswer", inPlace := ["reflect.TypeOf", "reflect.FuncOf"], unfollowed := true, recurses := true, make := .lifted ["reflectrows", "leanrows"], apart := false, narrowed := true }
def FnInElemKeepsFirstAnswerUptoSaid : Prop := fnInElemKeepsFirstAnswerUptoRow.holds Tryz.pinned (OpenSpec.upto fnInElemKeepsFirstAnswerSpec)

/-- 'n003_103.FnElemSampleTable', WHERE WHAT IT READS IS OF BULK AT MOST 1048576: true; the input reads as it did. -/
def fnElemSampleTableUptoRow : OpenClaim := { program := "ytfmefomafdgfmaagreat", sum := "9aa7acc12455664c4052cdb2b3820d8b26fd39eb2cd2230822f778fc2ab95b83", func := "github.com/expr-lang/expr/n003_103.FnElemSampleTable", spec := "fnElemSampleTable", inPlace := ["reflect.TypeOf"], unfollowed := true, recurses := true, make := .lifted ["reflectrows", "leanrows"], apart := false, narrowed := true }
def FnElemSampleTableUptoSaid : Prop := fnElemSampleTableUptoRow.holds Tryz.pinned (OpenSpec.upto fnElemSampleTableSpec)

/-- 'n003_103.FnElemInvertsMakeArrayOf', WHERE WHAT IT READS IS OF BULK AT MOST 1048576: true; the input reads as it did. -/
def fnElemInvertsMakeArrayOfUptoRow : OpenClaim := { program := "ytfmefomafdgfmaagreat", sum := "9aa7acc12455664c4052cdb2b3820d8b26fd39eb2cd2230822f778fc2ab95b83", func := "github.com/expr-lang/expr/n003_103.FnElemInvertsMakeArrayOf", spec := "fnElemInvertsMakeArrayOf", inPlace := ["reflect.TypeOf"], unfollowed := true, recurses := true, make := .lifted ["reflectrows", "leanrows"], apart := false, narrowed := true }
def FnElemInvertsMakeArrayOfUptoSaid : Prop := fnElemInvertsMakeArrayOfUptoRow.holds Tryz.pinned (OpenSpec.upto fnElemInvertsMakeArrayOfSpec)

/-- 'n003_24.FnNatureOfTable', WHERE WHAT IT READS IS OF BULK AT MOST 1048576: true; the input reads as it did. -/
def fnNatureOfTableUptoRow : OpenClaim := { program := "ytfmefomafdgfmaagreat", sum := "9aa7acc12455664c4052cdb2b3820d8b26fd39eb2cd2230822f778fc2ab95b83", func := "github.com/expr-lang/expr/n003_24.FnNatureOfTable", spec := "fnNatureOfTable", inPlace := ["reflect.TypeOf"], unfollowed := true, recurses := true, make := .lifted ["reflectrows", "leanrows"], apart := false, narrowed := true }
def FnNatureOfTableUptoSaid : Prop := fnNatureOfTableUptoRow.holds Tryz.pinned (OpenSpec.upto fnNatureOfTableSpec)

/-- 'n003_68.FnInClassifiesEachParameter', WHERE WHAT IT READS IS OF BULK AT MOST 1048576: true; the input reads as it did. -/
def fnInClassifiesEachParameterUptoRow : OpenClaim := { program := "ytfmefomafdgfmaagreat", sum := "9aa7acc12455664c4052cdb2b3820d8b26fd39eb2cd2230822f778fc2ab95b83", func := "github.com/expr-lang/expr/n003_68.FnInClassifiesEachParameter", spec := "fnInClassifiesEachParameter", inPlace := ["reflect.TypeOf", "reflect.FuncOf"], unfollowed := true, recurses := true, make := .lifted ["reflectrows", "leanrows"], apart := false, narrowed := true }
def FnInClassifiesEachParameterUptoSaid : Prop := fnInClassifiesEachParameterUptoRow.holds Tryz.pinned (OpenSpec.upto fnInClassifiesEachParameterSpec)

/-- 'n003_68.FnNumInStableAcrossScript', WHERE WHAT IT READS IS OF BULK AT MOST 1048576: true; the input reads as it did. -/
def fnNumInStableAcrossScriptUptoRow : OpenClaim := { program := "ytfmefomafdgfmaagreat", sum := "9aa7acc12455664c4052cdb2b3820d8b26fd39eb2cd2230822f778fc2ab95b83", func := "github.com/expr-lang/expr/n003_68.FnNumInStableAcrossScript", spec := "fnNumInStableAcrossScript", inPlace := ["reflect.TypeOf", "reflect.FuncOf"], unfollowed := true, recurses := true, make := .lifted ["reflectrows", "leanrows"], apart := false, narrowed := true }
def FnNumInStableAcrossScriptUptoSaid : Prop := fnNumInStableAcrossScriptUptoRow.holds Tryz.pinned (OpenSpec.upto fnNumInStableAcrossScriptSpec)

/-- 'n003_24.FnFromTypeStructSharing', WHERE WHAT IT READS IS OF BULK AT MOST 1048576: true; the input reads as it did. -/
def fnFromTypeStructSharingUptoRow : OpenClaim := { program := "ytfmefomafdgfmaagreat", sum := "9aa7acc12455664c4052cdb2b3820d8b26fd39eb2cd2230822f778fc2ab95b83", func := "github.com/expr-lang/expr/n003_24.FnFromTypeStructSharing", spec := "fnFromTypeStructSharing", inPlace := ["reflect.TypeOf"], unfollowed := true, recurses := true, make := .lifted ["reflectrows", "leanrows"], apart := false, narrowed := true }
def FnFromTypeStructSharingUptoSaid : Prop := fnFromTypeStructSharingUptoRow.holds Tryz.pinned (OpenSpec.upto fnFromTypeStructSharingSpec)

/-- 'n003_48.FnArrayFromTypeSharesCachedStruct', WHERE WHAT IT READS IS OF BULK AT MOST 1048576: true; the input reads as it did. -/
def fnArrayFromTypeSharesCachedStructUptoRow : OpenClaim := { program := "ytfmefomafdgfmaagreat", sum := "9aa7acc12455664c4052cdb2b3820d8b26fd39eb2cd2230822f778fc2ab95b83", func := "github.com/expr-lang/expr/n003_48.FnArrayFromTypeSharesCachedStruct", spec := "fnArrayFromTypeSharesCachedStruct", inPlace := ["reflect.TypeOf"], unfollowed := true, recurses := true, make := .lifted ["reflectrows", "leanrows"], apart := false, narrowed := true }
def FnArrayFromTypeSharesCachedStructUptoSaid : Prop := fnArrayFromTypeSharesCachedStructUptoRow.holds Tryz.pinned (OpenSpec.upto fnArrayFromTypeSharesCachedStructSpec)

/-- 'n003_24.FnGetStructMemoTable', WHERE WHAT IT READS IS OF BULK AT MOST 1048576: true; the input reads as it did. -/
def fnGetStructMemoTableUptoRow : OpenClaim := { program := "ytfmefomafdgfmaagreat", sum := "9aa7acc12455664c4052cdb2b3820d8b26fd39eb2cd2230822f778fc2ab95b83", func := "github.com/expr-lang/expr/n003_24.FnGetStructMemoTable", spec := "fnGetStructMemoTable", inPlace := ["reflect.TypeOf"], unfollowed := true, recurses := true, make := .lifted ["reflectrows", "leanrows"], apart := false, narrowed := true }
def FnGetStructMemoTableUptoSaid : Prop := fnGetStructMemoTableUptoRow.holds Tryz.pinned (OpenSpec.upto fnGetStructMemoTableSpec)

end Rows
end Go.Proofs.YtfmefomafdgfmaaGreat
