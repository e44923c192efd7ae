/-
  No cell of these rows narrows 'for every input' (looked for: loops, veiled, ifaces, maps, wideKeys, modest, calm, conditions, laid).
  DERIVED. THE GIVEN ROWS OF THIS SEAT. 11 by the template 'for every input the law returns true; each argument reads behind the call as it read before'; 0 by the template 'total and deterministic' (their statements: YtihjnbfmcemmjaaGreatTotals.lean).
  GIVEN WITH THE SEED: the statements are not yours to turn. If you find one false, say at which input.
  Laid BY PROGRAM, IN A SANDBOX (cutbox-rows.mjs): the forced cells as the released guide's own fill.sh prints them over the translation eaa601efe7d15382… (all of the seat's roots in one cut). By AI agents, Wed Nov 11 2026. No macro, syntax, notation, axiom, sorry.
-/
import Derived.Test.YtihjnbfmcemmjaaGreatChecked
import GoSem.Claim
import GoSem.ClaimJoined
import GoSem.ClaimMapViews
import Derived.JoinedTies
import Derived.KernelRfl
namespace Go.Proofs.YtihjnbfmcemmjaaGreat
/- THE CELL 'sum', in the pinned program and in every row, IS THE sha256 OF THE DUMP (.gsa) THAT YtihjnbfmcemmjaaGreatProg.lean LOADS. Nothing in Lean hashes anything: it is a label: what it is worth is what the hold of that sum in a sandbox is worth. -/
noncomputable def Tryz.pinned : Pinned := { name := "ytihjnbfmcemmjaagreat", sum := "eaa601efe7d153821b008825cf02284ee4a1d3173c2733ff34b072b88223961e", checked := Tryz.checked }
namespace Rows
def none {H : Type} : Left H := { results := [], args := [] }

/-- 'n003_96.FnIsFastMapCaseTable': WHATEVER THE INPUT: true; the input reads as it did. -/
def fnIsFastMapCaseTableSpec : ChangeSpec := { name := "fnIsFastMapCaseTable", fn := fun _ => fun
  | [d] => { results := [.lit (.bool true)], args := [d] }
  | _ => none }
def fnIsFastMapCaseTableRow : OpenClaim := { program := "ytihjnbfmcemmjaagreat", sum := "eaa601efe7d153821b008825cf02284ee4a1d3173c2733ff34b072b88223961e", func := "github.com/expr-lang/expr/n003_96.FnIsFastMapCaseTable", spec := "fnIsFastMapCaseTable", inPlace := ["reflect.TypeOf"], unfollowed := true, recurses := true, make := .lifted ["reflectrows", "leanrows"], apart := false }
def FnIsFastMapCaseTableSaid : Prop := fnIsFastMapCaseTableRow.holds Tryz.pinned (OpenSpec.ofChange fnIsFastMapCaseTableSpec)

/-- ITS FALSE NEIGHBOUR: 'it returns false'. Refute it at one input. -/
def fnIsFastMapCaseTableWrong : ChangeSpec := { name := "fnIsFastMapCaseTable", fn := fun _ => fun
  | [d] => { results := [.lit (.bool false)], args := [d] }
  | _ => none }
def FnIsFastMapCaseTableWrongFalsely : Prop := fnIsFastMapCaseTableRow.holds Tryz.pinned (OpenSpec.ofChange fnIsFastMapCaseTableWrong)

/-- 'n003_96.FnIsVariadicCaseTable': WHATEVER THE INPUT: true; the input reads as it did. -/
def fnIsVariadicCaseTableSpec : ChangeSpec := { name := "fnIsVariadicCaseTable", fn := fun _ => fun
  | [d] => { results := [.lit (.bool true)], args := [d] }
  | _ => none }
def fnIsVariadicCaseTableRow : OpenClaim := { program := "ytihjnbfmcemmjaagreat", sum := "eaa601efe7d153821b008825cf02284ee4a1d3173c2733ff34b072b88223961e", func := "github.com/expr-lang/expr/n003_96.FnIsVariadicCaseTable", spec := "fnIsVariadicCaseTable", inPlace := ["reflect.TypeOf"], unfollowed := true, recurses := true, make := .lifted ["reflectrows", "leanrows"], apart := false }
def FnIsVariadicCaseTableSaid : Prop := fnIsVariadicCaseTableRow.holds Tryz.pinned (OpenSpec.ofChange fnIsVariadicCaseTableSpec)

/-- ITS FALSE NEIGHBOUR: 'it returns false'. Refute it at one input. -/
def fnIsVariadicCaseTableWrong : ChangeSpec := { name := "fnIsVariadicCaseTable", fn := fun _ => fun
  | [d] => { results := [.lit (.bool false)], args := [d] }
  | _ => none }
def FnIsVariadicCaseTableWrongFalsely : Prop := fnIsVariadicCaseTableRow.holds Tryz.pinned (OpenSpec.ofChange fnIsVariadicCaseTableWrong)

/-- 'n003_19.FnStringCaseTable': WHATEVER THE INPUT: true; the input reads as it did. -/
def fnStringCaseTableSpec : ChangeSpec := { name := "fnStringCaseTable", fn := fun _ => fun
  | [d] => { results := [.lit (.bool true)], args := [d] }
  | _ => none }
def fnStringCaseTableRow : OpenClaim := { program := "ytihjnbfmcemmjaagreat", sum := "eaa601efe7d153821b008825cf02284ee4a1d3173c2733ff34b072b88223961e", func := "github.com/expr-lang/expr/n003_19.FnStringCaseTable", spec := "fnStringCaseTable", inPlace := ["reflect.TypeOf"], unfollowed := true, recurses := true, make := .lifted ["reflectrows", "leanrows"], apart := false }
def FnStringCaseTableSaid : Prop := fnStringCaseTableRow.holds Tryz.pinned (OpenSpec.ofChange fnStringCaseTableSpec)

/-- ITS FALSE NEIGHBOUR: 'it returns false'. Refute it at one input. -/
def fnStringCaseTableWrong : ChangeSpec := { name := "fnStringCaseTable", fn := fun _ => fun
  | [d] => { results := [.lit (.bool false)], args := [d] }
  | _ => none }
def FnStringCaseTableWrongFalsely : Prop := fnStringCaseTableRow.holds Tryz.pinned (OpenSpec.ofChange fnStringCaseTableWrong)

/-- 'n003_103.FnAssignableToSampleTable': WHATEVER THE INPUT: true; the input reads as it did. -/
def fnAssignableToSampleTableSpec : ChangeSpec := { name := "fnAssignableToSampleTable", fn := fun _ => fun
  | [d1, d2] => { results := [.lit (.bool true)], args := [d1, d2] }
  | _ => none }
def fnAssignableToSampleTableRow : OpenClaim := { program := "ytihjnbfmcemmjaagreat", sum := "eaa601efe7d153821b008825cf02284ee4a1d3173c2733ff34b072b88223961e", func := "github.com/expr-lang/expr/n003_103.FnAssignableToSampleTable", spec := "fnAssignableToSampleTable", inPlace := ["reflect.TypeOf"], unfollowed := true, recurses := true, make := .lifted ["reflectrows", "leanrows"], apart := false }
def FnAssignableToSampleTableSaid : Prop := fnAssignableToSampleTableRow.holds Tryz.pinned (OpenSpec.ofChange fnAssignableToSampleTableSpec)

/-- ITS FALSE NEIGHBOUR: 'it returns false'. Refute it at one input. -/
def fnAssignableToSampleTableWrong : ChangeSpec := { name := "fnAssignableToSampleTable", fn := fun _ => fun
  | [d1, d2] => { results := [.lit (.bool false)], args := [d1, d2] }
  | _ => none }
def FnAssignableToSampleTableWrongFalsely : Prop := fnAssignableToSampleTableRow.holds Tryz.pinned (OpenSpec.ofChange fnAssignableToSampleTableWrong)

/-- 'n003_15.FnNumOutMatchesSignatureTable': WHATEVER THE INPUT: true; the input reads as it did. -/
def fnNumOutMatchesSignatureTableSpec : ChangeSpec := { name := "fnNumOutMatchesSignatureTable", fn := fun _ => fun
  | [d] => { results := [.lit (.bool true)], args := [d] }
  | _ => none }
def fnNumOutMatchesSignatureTableRow : OpenClaim := { program := "ytihjnbfmcemmjaagreat", sum := "eaa601efe7d153821b008825cf02284ee4a1d3173c2733ff34b072b88223961e", func := "github.com/expr-lang/expr/n003_15.FnNumOutMatchesSignatureTable", spec := "fnNumOutMatchesSignatureTable", inPlace := ["reflect.TypeOf"], unfollowed := true, recurses := true, make := .lifted ["reflectrows", "leanrows"], apart := false }
def FnNumOutMatchesSignatureTableSaid : Prop := fnNumOutMatchesSignatureTableRow.holds Tryz.pinned (OpenSpec.ofChange fnNumOutMatchesSignatureTableSpec)

/-- ITS FALSE NEIGHBOUR: 'it returns false'. Refute it at one input. -/
def fnNumOutMatchesSignatureTableWrong : ChangeSpec := { name := "fnNumOutMatchesSignatureTable", fn := fun _ => fun
  | [d] => { results := [.lit (.bool false)], args := [d] }
  | _ => none }
def FnNumOutMatchesSignatureTableWrongFalsely : Prop := fnNumOutMatchesSignatureTableRow.holds Tryz.pinned (OpenSpec.ofChange fnNumOutMatchesSignatureTableWrong)

/-- 'n003_48.FnArrayFromTypeElemAgrees': WHATEVER THE INPUT: true; the input reads as it did. -/
def fnArrayFromTypeElemAgreesSpec : ChangeSpec := { name := "fnArrayFromTypeElemAgrees", fn := fun _ => fun
  | [d1, d2] => { results := [.lit (.bool true)], args := [d1, d2] }
  | _ => none }
def fnArrayFromTypeElemAgreesRow : OpenClaim := { program := "ytihjnbfmcemmjaagreat", sum := "eaa601efe7d153821b008825cf02284ee4a1d3173c2733ff34b072b88223961e", func := "github.com/expr-lang/expr/n003_48.FnArrayFromTypeElemAgrees", spec := "fnArrayFromTypeElemAgrees", inPlace := ["reflect.TypeOf"], unfollowed := true, recurses := true, make := .lifted ["reflectrows", "leanrows"], apart := false }
def FnArrayFromTypeElemAgreesSaid : Prop := fnArrayFromTypeElemAgreesRow.holds Tryz.pinned (OpenSpec.ofChange fnArrayFromTypeElemAgreesSpec)

/-- ITS FALSE NEIGHBOUR: 'it returns false'. Refute it at one input. -/
def fnArrayFromTypeElemAgreesWrong : ChangeSpec := { name := "fnArrayFromTypeElemAgrees", fn := fun _ => fun
  | [d1, d2] => { results := [.lit (.bool false)], args := [d1, d2] }
  | _ => none }
def FnArrayFromTypeElemAgreesWrongFalsely : Prop := fnArrayFromTypeElemAgreesRow.holds Tryz.pinned (OpenSpec.ofChange fnArrayFromTypeElemAgreesWrong)

/-- 'n003_68.FnNumInIsParameterCount': WHATEVER THE INPUT: true; the input reads as it did. -/
def fnNumInIsParameterCountSpec : ChangeSpec := { name := "fnNumInIsParameterCount", fn := fun _ => fun
  | [d1, d2, d3, d4] => { results := [.lit (.bool true)], args := [d1, d2, d3, d4] }
  | _ => none }
def fnNumInIsParameterCountRow : OpenClaim := { program := "ytihjnbfmcemmjaagreat", sum := "eaa601efe7d153821b008825cf02284ee4a1d3173c2733ff34b072b88223961e", func := "github.com/expr-lang/expr/n003_68.FnNumInIsParameterCount", spec := "fnNumInIsParameterCount", inPlace := ["reflect.TypeOf", "reflect.FuncOf"], unfollowed := true, recurses := true, make := .lifted ["reflectrows", "leanrows"], apart := false }
def FnNumInIsParameterCountSaid : Prop := fnNumInIsParameterCountRow.holds Tryz.pinned (OpenSpec.ofChange fnNumInIsParameterCountSpec)

/-- ITS FALSE NEIGHBOUR: 'it returns false'. Refute it at one input. -/
def fnNumInIsParameterCountWrong : ChangeSpec := { name := "fnNumInIsParameterCount", fn := fun _ => fun
  | [d1, d2, d3, d4] => { results := [.lit (.bool false)], args := [d1, d2, d3, d4] }
  | _ => none }
def FnNumInIsParameterCountWrongFalsely : Prop := fnNumInIsParameterCountRow.holds Tryz.pinned (OpenSpec.ofChange fnNumInIsParameterCountWrong)

/-- 'n003_80.FnIsMapOnSampleTypes': WHATEVER THE INPUT: true; the input reads as it did. -/
def fnIsMapOnSampleTypesSpec : ChangeSpec := { name := "fnIsMapOnSampleTypes", fn := fun _ => fun
  | [] => { results := [.lit (.bool true)], args := [] }
  | _ => none }
def fnIsMapOnSampleTypesRow : OpenClaim := { program := "ytihjnbfmcemmjaagreat", sum := "eaa601efe7d153821b008825cf02284ee4a1d3173c2733ff34b072b88223961e", func := "github.com/expr-lang/expr/n003_80.FnIsMapOnSampleTypes", spec := "fnIsMapOnSampleTypes", inPlace := ["reflect.TypeOf"], unfollowed := true, recurses := true, make := .lifted ["reflectrows", "leanrows"], apart := false }
def FnIsMapOnSampleTypesSaid : Prop := fnIsMapOnSampleTypesRow.holds Tryz.pinned (OpenSpec.ofChange fnIsMapOnSampleTypesSpec)

/-- ITS FALSE NEIGHBOUR: 'it returns false'. Refute it at one input. -/
def fnIsMapOnSampleTypesWrong : ChangeSpec := { name := "fnIsMapOnSampleTypes", fn := fun _ => fun
  | [] => { results := [.lit (.bool false)], args := [] }
  | _ => none }
def FnIsMapOnSampleTypesWrongFalsely : Prop := fnIsMapOnSampleTypesRow.holds Tryz.pinned (OpenSpec.ofChange fnIsMapOnSampleTypesWrong)

/-- 'n003_80.FnIsStringOnSampleTypes': WHATEVER THE INPUT: true; the input reads as it did. -/
def fnIsStringOnSampleTypesSpec : ChangeSpec := { name := "fnIsStringOnSampleTypes", fn := fun _ => fun
  | [] => { results := [.lit (.bool true)], args := [] }
  | _ => none }
def fnIsStringOnSampleTypesRow : OpenClaim := { program := "ytihjnbfmcemmjaagreat", sum := "eaa601efe7d153821b008825cf02284ee4a1d3173c2733ff34b072b88223961e", func := "github.com/expr-lang/expr/n003_80.FnIsStringOnSampleTypes", spec := "fnIsStringOnSampleTypes", inPlace := ["reflect.TypeOf"], unfollowed := true, recurses := true, make := .lifted ["reflectrows", "leanrows"], apart := false }
def FnIsStringOnSampleTypesSaid : Prop := fnIsStringOnSampleTypesRow.holds Tryz.pinned (OpenSpec.ofChange fnIsStringOnSampleTypesSpec)

/-- ITS FALSE NEIGHBOUR: 'it returns false'. Refute it at one input. -/
def fnIsStringOnSampleTypesWrong : ChangeSpec := { name := "fnIsStringOnSampleTypes", fn := fun _ => fun
  | [] => { results := [.lit (.bool false)], args := [] }
  | _ => none }
def FnIsStringOnSampleTypesWrongFalsely : Prop := fnIsStringOnSampleTypesRow.holds Tryz.pinned (OpenSpec.ofChange fnIsStringOnSampleTypesWrong)

/-- 'n003_15.FnPrivateOutMatchesSignatureTable': WHATEVER THE INPUT: true; the input reads as it did. -/
def fnPrivateOutMatchesSignatureTableSpec : ChangeSpec := { name := "fnPrivateOutMatchesSignatureTable", fn := fun _ => fun
  | [d1, d2, d3] => { results := [.lit (.bool true)], args := [d1, d2, d3] }
  | _ => none }
def fnPrivateOutMatchesSignatureTableRow : OpenClaim := { program := "ytihjnbfmcemmjaagreat", sum := "eaa601efe7d153821b008825cf02284ee4a1d3173c2733ff34b072b88223961e", func := "github.com/expr-lang/expr/n003_15.FnPrivateOutMatchesSignatureTable", spec := "fnPrivateOutMatchesSignatureTable", inPlace := ["reflect.TypeOf"], unfollowed := true, recurses := true, make := .lifted ["reflectrows", "leanrows"], apart := false }
def FnPrivateOutMatchesSignatureTableSaid : Prop := fnPrivateOutMatchesSignatureTableRow.holds Tryz.pinned (OpenSpec.ofChange fnPrivateOutMatchesSignatureTableSpec)

/-- ITS FALSE NEIGHBOUR: 'it returns false'. Refute it at one input. -/
def fnPrivateOutMatchesSignatureTableWrong : ChangeSpec := { name := "fnPrivateOutMatchesSignatureTable", fn := fun _ => fun
  | [d1, d2, d3] => { results := [.lit (.bool false)], args := [d1, d2, d3] }
  | _ => none }
def FnPrivateOutMatchesSignatureTableWrongFalsely : Prop := fnPrivateOutMatchesSignatureTableRow.holds Tryz.pinned (OpenSpec.ofChange fnPrivateOutMatchesSignatureTableWrong)

/-- 'n003_96.FnIsFastMapReadsTypeNotFlags': WHATEVER THE INPUT: true; the input reads as it did. -/
def fnIsFastMapReadsTypeNotFlagsSpec : ChangeSpec := { name := "fnIsFastMapReadsTypeNotFlags", fn := fun _ => fun
  | [d1, d2, d3, d4, d5, d6] => { results := [.lit (.bool true)], args := [d1, d2, d3, d4, d5, d6] }
  | _ => none }
def fnIsFastMapReadsTypeNotFlagsRow : OpenClaim := { program := "ytihjnbfmcemmjaagreat", sum := "eaa601efe7d153821b008825cf02284ee4a1d3173c2733ff34b072b88223961e", func := "github.com/expr-lang/expr/n003_96.FnIsFastMapReadsTypeNotFlags", spec := "fnIsFastMapReadsTypeNotFlags", inPlace := ["reflect.TypeOf"], unfollowed := true, recurses := true, make := .lifted ["reflectrows", "leanrows"], apart := false }
def FnIsFastMapReadsTypeNotFlagsSaid : Prop := fnIsFastMapReadsTypeNotFlagsRow.holds Tryz.pinned (OpenSpec.ofChange fnIsFastMapReadsTypeNotFlagsSpec)

/-- ITS FALSE NEIGHBOUR: 'it returns false'. Refute it at one input. -/
def fnIsFastMapReadsTypeNotFlagsWrong : ChangeSpec := { name := "fnIsFastMapReadsTypeNotFlags", fn := fun _ => fun
  | [d1, d2, d3, d4, d5, d6] => { results := [.lit (.bool false)], args := [d1, d2, d3, d4, d5, d6] }
  | _ => none }
def FnIsFastMapReadsTypeNotFlagsWrongFalsely : Prop := fnIsFastMapReadsTypeNotFlagsRow.holds Tryz.pinned (OpenSpec.ofChange fnIsFastMapReadsTypeNotFlagsWrong)

/- THE SECOND FORM. 'bulk': how many values and letters a reading holds, each counted each time it is reached (what is shared counts as often as it is met; a slice's spare places count too). A statement '..UptoSaid' is the law's where the arguments, and the package variables that the reading takes, are together of bulk at most 1048576: NARROWER than '..Said'. Prove '..Said' where nothing that the law and all that it calls make is longer than what came in: it says more and counts as full. Else prove '..UptoSaid'. A law counts once. -/
mutual
def uptoBulk {H : Type} : DataW H → Nat
  | .lit (.string bytes) => bytes.length + 1
  | .lit _ => 1
  | .nil => 1
  | .ptr d => uptoBulk d + 1
  | .slice elems spare => uptoBulkAll elems + uptoBulkAll spare + 1
  | .agg parts => uptoBulkAll parts + 1
  | .iface _ d => uptoBulk d + 1
  | .map entries => uptoBulkEntries entries + 1
  | .held _ => 1
def uptoBulkAll {H : Type} : List (DataW H) → Nat
  | [] => 0
  | d :: r => uptoBulk d + uptoBulkAll r
def uptoBulkEntries {H : Type} : List (Lit × DataW H) → Nat
  | [] => 0
  | x :: r => uptoBulkEntry x + uptoBulkEntries r
def uptoBulkEntry {H : Type} : Lit × DataW H → Nat
  | (.string bytes, d) => bytes.length + uptoBulk d + 1
  | (_, d) => uptoBulk d + 1
 end
def uptoSmall : (H : Type) → List (DataW H) → Bool := fun _ ds => decide (uptoBulkAll ds ≤ 1048576)
def OpenSpec.upto (s : _root_.Go.ChangeSpec) : _root_.Go.OpenSpec := { _root_.Go.OpenSpec.ofChange s with cond := some uptoSmall }

/-- 'n003_96.FnIsFastMapCaseTable', WHERE WHAT IT READS IS OF BULK AT MOST 1048576: true; the input reads as it did. -/
def fnIsFastMapCaseTableUptoRow : OpenClaim := { program := "ytihjnbfmcemmjaagreat", sum := "eaa601efe7d153821b008825cf02284ee4a1d3173c2733ff34b072b88223961e", func := "github.com/expr-lang/expr/n003_96.FnIsFastMapCaseTable", spec := "fnIsFastMapCaseTable", inPlace := ["reflect.TypeOf"], unfollowed := true, recurses := true, make := .lifted ["reflectrows", "leanrows"], apart := false, narrowed := true }
def FnIsFastMapCaseTableUptoSaid : Prop := fnIsFastMapCaseTableUptoRow.holds Tryz.pinned (OpenSpec.upto fnIsFastMapCaseTableSpec)

/-- 'n003_96.FnIsVariadicCaseTable', WHERE WHAT IT READS IS OF BULK AT MOST 1048576: true; the input reads as it did. -/
def fnIsVariadicCaseTableUptoRow : OpenClaim := { program := "ytihjnbfmcemmjaagreat", sum := "eaa601efe7d153821b008825cf02284ee4a1d3173c2733ff34b072b88223961e", func := "github.com/expr-lang/expr/n003_96.FnIsVariadicCaseTable", spec := "fnIsVariadicCaseTable", inPlace := ["reflect.TypeOf"], unfollowed := true, recurses := true, make := .lifted ["reflectrows", "leanrows"], apart := false, narrowed := true }
def FnIsVariadicCaseTableUptoSaid : Prop := fnIsVariadicCaseTableUptoRow.holds Tryz.pinned (OpenSpec.upto fnIsVariadicCaseTableSpec)

/-- 'n003_19.FnStringCaseTable', WHERE WHAT IT READS IS OF BULK AT MOST 1048576: true; the input reads as it did. -/
def fnStringCaseTableUptoRow : OpenClaim := { program := "ytihjnbfmcemmjaagreat", sum := "eaa601efe7d153821b008825cf02284ee4a1d3173c2733ff34b072b88223961e", func := "github.com/expr-lang/expr/n003_19.FnStringCaseTable", spec := "fnStringCaseTable", inPlace := ["reflect.TypeOf"], unfollowed := true, recurses := true, make := .lifted ["reflectrows", "leanrows"], apart := false, narrowed := true }
def FnStringCaseTableUptoSaid : Prop := fnStringCaseTableUptoRow.holds Tryz.pinned (OpenSpec.upto fnStringCaseTableSpec)

/-- 'n003_103.FnAssignableToSampleTable', WHERE WHAT IT READS IS OF BULK AT MOST 1048576: true; the input reads as it did. -/
def fnAssignableToSampleTableUptoRow : OpenClaim := { program := "ytihjnbfmcemmjaagreat", sum := "eaa601efe7d153821b008825cf02284ee4a1d3173c2733ff34b072b88223961e", func := "github.com/expr-lang/expr/n003_103.FnAssignableToSampleTable", spec := "fnAssignableToSampleTable", inPlace := ["reflect.TypeOf"], unfollowed := true, recurses := true, make := .lifted ["reflectrows", "leanrows"], apart := false, narrowed := true }
def FnAssignableToSampleTableUptoSaid : Prop := fnAssignableToSampleTableUptoRow.holds Tryz.pinned (OpenSpec.upto fnAssignableToSampleTableSpec)

/-- 'n003_15.FnNumOutMatchesSignatureTable', WHERE WHAT IT READS IS OF BULK AT MOST 1048576: true; the input reads as it did. -/
def fnNumOutMatchesSignatureTableUptoRow : OpenClaim := { program := "ytihjnbfmcemmjaagreat", sum := "eaa601efe7d153821b008825cf02284ee4a1d3173c2733ff34b072b88223961e", func := "github.com/expr-lang/expr/n003_15.FnNumOutMatchesSignatureTable", spec := "fnNumOutMatchesSignatureTable", inPlace := ["reflect.TypeOf"], unfollowed := true, recurses := true, make := .lifted ["reflectrows", "leanrows"], apart := false, narrowed := true }
def FnNumOutMatchesSignatureTableUptoSaid : Prop := fnNumOutMatchesSignatureTableUptoRow.holds Tryz.pinned (OpenSpec.upto fnNumOutMatchesSignatureTableSpec)

/-- 'n003_48.FnArrayFromTypeElemAgrees', WHERE WHAT IT READS IS OF BULK AT MOST 1048576: true; the input reads as it did. -/
def fnArrayFromTypeElemAgreesUptoRow : OpenClaim := { program := "ytihjnbfmcemmjaagreat", sum := "eaa601efe7d153821b008825cf02284ee4a1d3173c2733ff34b072b88223961e", func := "github.com/expr-lang/expr/n003_48.FnArrayFromTypeElemAgrees", spec := "fnArrayFromTypeElemAgrees", inPlace := ["reflect.TypeOf"], unfollowed := true, recurses := true, make := .lifted ["reflectrows", "leanrows"], apart := false, narrowed := true }
def FnArrayFromTypeElemAgreesUptoSaid : Prop := fnArrayFromTypeElemAgreesUptoRow.holds Tryz.pinned (OpenSpec.upto fnArrayFromTypeElemAgreesSpec)

/-- 'n003_68.FnNumInIsParameterCount', WHERE WHAT IT READS IS OF BULK AT MOST 1048576: true; the input reads as it did. -/
def fnNumInIsParameterCountUptoRow : OpenClaim := { program := "ytihjnbfmcemmjaagreat", sum := "eaa601efe7d153821b008825cf02284ee4a1d3173c2733ff34b072b88223961e", func := "github.com/expr-lang/expr/n003_68.FnNumInIsParameterCount", spec := "fnNumInIsParameterCount", inPlace := ["reflect.TypeOf", "reflect.FuncOf"], unfollowed := true, recurses := true, make := .lifted ["reflectrows", "leanrows"], apart := false, narrowed := true }
def FnNumInIsParameterCountUptoSaid : Prop := fnNumInIsParameterCountUptoRow.holds Tryz.pinned (OpenSpec.upto fnNumInIsParameterCountSpec)

/-- 'n003_80.FnIsMapOnSampleTypes', WHERE WHAT IT READS IS OF BULK AT MOST 1048576: true; the input reads as it did. -/
def fnIsMapOnSampleTypesUptoRow : OpenClaim := { program := "ytihjnbfmcemmjaagreat", sum := "eaa601efe7d153821b008825cf02284ee4a1d3173c2733ff34b072b88223961e", func := "github.com/expr-lang/expr/n003_80.FnIsMapOnSampleTypes", spec := "fnIsMapOnSampleTypes", inPlace := ["reflect.TypeOf"], unfollowed := true, recurses := true, make := .lifted ["reflectrows", "leanrows"], apart := false, narrowed := true }
def FnIsMapOnSampleTypesUptoSaid : Prop := fnIsMapOnSampleTypesUptoRow.holds Tryz.pinned (OpenSpec.upto fnIsMapOnSampleTypesSpec)

/-- 'n003_80.FnIsStringOnSampleTypes', WHERE WHAT IT READS IS OF BULK AT MOST 1048576: true; the input reads as it did. -/
def fnIsStringOnSampleTypesUptoRow : OpenClaim := { program := "ytihjnbfmcemmjaagreat", sum := "eaa601efe7d153821b008825cf02284ee4a1d3173c2733ff34b072b88223961e", func := "github.com/expr-lang/expr/n003_80.FnIsStringOnSampleTypes", spec := "fnIsStringOnSampleTypes", inPlace := ["reflect.TypeOf"], unfollowed := true, recurses := true, make := .lifted ["reflectrows", "leanrows"], apart := false, narrowed := true }
def FnIsStringOnSampleTypesUptoSaid : Prop := fnIsStringOnSampleTypesUptoRow.holds Tryz.pinned (OpenSpec.upto fnIsStringOnSampleTypesSpec)

/-- 'n003_15.FnPrivateOutMatchesSignatureTable', WHERE WHAT IT READS IS OF BULK AT MOST 1048576: true; the input reads as it did. -/
def fnPrivateOutMatchesSignatureTableUptoRow : OpenClaim := { program := "ytihjnbfmcemmjaagreat", sum := "eaa601efe7d153821b008825cf02284ee4a1d3173c2733ff34b072b88223961e", func := "github.com/expr-lang/expr/n003_15.FnPrivateOutMatchesSignatureTable", spec := "fnPrivateOutMatchesSignatureTable", inPlace := ["reflect.TypeOf"], unfollowed := true, recurses := true, make := .lifted ["reflectrows", "leanrows"], apart := false, narrowed := true }
def FnPrivateOutMatchesSignatureTableUptoSaid : Prop := fnPrivateOutMatchesSignatureTableUptoRow.holds Tryz.pinned (OpenSpec.upto fnPrivateOutMatchesSignatureTableSpec)

/-- 'n003_96.FnIsFastMapReadsTypeNotFlags', WHERE WHAT IT READS IS OF BULK AT MOST 1048576: true; the input reads as it did. -/
def fnIsFastMapReadsTypeNotFlagsUptoRow : OpenClaim := { program := "ytihjnbfmcemmjaagreat", sum := "eaa601efe7d153821b008825cf02284ee4a1d3173c2733ff34b072b88223961e", func := "github.com/expr-lang/expr/n003_96.FnIsFastMapReadsTypeNotFlags", spec := "fnIsFastMapReadsTypeNotFlags", inPlace := ["reflect.TypeOf"], unfollowed := true, recurses := true, make := .lifted ["reflectrows", "leanrows"], apart := false, narrowed := true }
def FnIsFastMapReadsTypeNotFlagsUptoSaid : Prop := fnIsFastMapReadsTypeNotFlagsUptoRow.holds Tryz.pinned (OpenSpec.upto fnIsFastMapReadsTypeNotFlagsSpec)

end Rows
end Go.Proofs.YtihjnbfmcemmjaaGreat
