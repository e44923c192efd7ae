/-
  No cell of these rows narrows 'for every input' (looked for: loops, veiled, ifaces, maps, wideKeys, modest, calm, conditions, laid).
  DERIVED. THE GIVEN ROWS OF THIS SEAT. 13 by the template 'for every input the law returns true; each argument reads behind the call as it read before'; 0 by the template 'total and deterministic' (their statements: YtjdnoaojjmejmaaGreatTotals.lean).
  GIVEN WITH THE SEED: the statements are not yours to turn. If you find one false, say at which input.
  Laid BY PROGRAM, IN A SANDBOX (cutbox-rows.mjs): the forced cells as the released guide's own fill.sh prints them over the translation aa6f24f8a771fa32… (all of the seat's roots in one cut). By AI agents, Wed Nov 11 2026. No macro, syntax, notation, axiom, sorry.
-/
import Derived.Test.YtjdnoaojjmejmaaGreatChecked
import GoSem.Claim
import GoSem.ClaimJoined
import GoSem.ClaimMapViews
import Derived.JoinedTies
import Derived.KernelRfl
namespace Go.Proofs.YtjdnoaojjmejmaaGreat
/- THE CELL 'sum', in the pinned program and in every row, IS THE sha256 OF THE DUMP (.gsa) THAT YtjdnoaojjmejmaaGreatProg.lean LOADS. Nothing in Lean hashes anything: it is a label: what it is worth is what the hold of that sum in a sandbox is worth. -/
noncomputable def Tryz.pinned : Pinned := { name := "ytjdnoaojjmejmaagreat", sum := "aa6f24f8a771fa3265d5377f2819a82dd09b5c4fa7743c2d6763c8d3a05ec775", checked := Tryz.checked }
namespace Rows
def none {H : Type} : Left H := { results := [], args := [] }

/-- 'n003_15.FnPrivateOutMatchesSignatureTable': WHATEVER THE INPUT: true; the input reads as it did. -/
def fnPrivateOutMatchesSignatureTableSpec : ChangeSpec := { name := "fnPrivateOutMatchesSignatureTable", fn := fun _ => fun
  | [d1, d2, d3] => { results := [.lit (.bool true)], args := [d1, d2, d3] }
  | _ => none }
def fnPrivateOutMatchesSignatureTableRow : OpenClaim := { program := "ytjdnoaojjmejmaagreat", sum := "aa6f24f8a771fa3265d5377f2819a82dd09b5c4fa7743c2d6763c8d3a05ec775", func := "github.com/expr-lang/expr/n003_15.FnPrivateOutMatchesSignatureTable", spec := "fnPrivateOutMatchesSignatureTable", inPlace := ["reflect.TypeOf"], unfollowed := true, recurses := true, make := .lifted ["reflectrows", "leanrows"], apart := false }
def FnPrivateOutMatchesSignatureTableSaid : Prop := fnPrivateOutMatchesSignatureTableRow.holds Tryz.pinned (OpenSpec.ofChange fnPrivateOutMatchesSignatureTableSpec)

/-- ITS FALSE NEIGHBOUR: 'it returns false'. Refute it at one input. -/
def fnPrivateOutMatchesSignatureTableWrong : ChangeSpec := { name := "fnPrivateOutMatchesSignatureTable", fn := fun _ => fun
  | [d1, d2, d3] => { results := [.lit (.bool false)], args := [d1, d2, d3] }
  | _ => none }
def FnPrivateOutMatchesSignatureTableWrongFalsely : Prop := fnPrivateOutMatchesSignatureTableRow.holds Tryz.pinned (OpenSpec.ofChange fnPrivateOutMatchesSignatureTableWrong)

/-- 'n003_48.FnNatureOfTypedValues': WHATEVER THE INPUT: true; the input reads as it did. -/
def fnNatureOfTypedValuesSpec : ChangeSpec := { name := "fnNatureOfTypedValues", fn := fun _ => fun
  | [d1, d2, d3, d4, d5, d6, d7, d8] => { results := [.lit (.bool true)], args := [d1, d2, d3, d4, d5, d6, d7, d8] }
  | _ => none }
def fnNatureOfTypedValuesRow : OpenClaim := { program := "ytjdnoaojjmejmaagreat", sum := "aa6f24f8a771fa3265d5377f2819a82dd09b5c4fa7743c2d6763c8d3a05ec775", func := "github.com/expr-lang/expr/n003_48.FnNatureOfTypedValues", spec := "fnNatureOfTypedValues", inPlace := ["reflect.TypeOf"], unfollowed := true, recurses := true, make := .lifted ["reflectrows", "leanrows"], apart := false }
def FnNatureOfTypedValuesSaid : Prop := fnNatureOfTypedValuesRow.holds Tryz.pinned (OpenSpec.ofChange fnNatureOfTypedValuesSpec)

/-- ITS FALSE NEIGHBOUR: 'it returns false'. Refute it at one input. -/
def fnNatureOfTypedValuesWrong : ChangeSpec := { name := "fnNatureOfTypedValues", fn := fun _ => fun
  | [d1, d2, d3, d4, d5, d6, d7, d8] => { results := [.lit (.bool false)], args := [d1, d2, d3, d4, d5, d6, d7, d8] }
  | _ => none }
def FnNatureOfTypedValuesWrongFalsely : Prop := fnNatureOfTypedValuesRow.holds Tryz.pinned (OpenSpec.ofChange fnNatureOfTypedValuesWrong)

/-- 'n003_80.FnIsByteSliceOnSampleTypes': WHATEVER THE INPUT: true; the input reads as it did. -/
def fnIsByteSliceOnSampleTypesSpec : ChangeSpec := { name := "fnIsByteSliceOnSampleTypes", fn := fun _ => fun
  | [] => { results := [.lit (.bool true)], args := [] }
  | _ => none }
def fnIsByteSliceOnSampleTypesRow : OpenClaim := { program := "ytjdnoaojjmejmaagreat", sum := "aa6f24f8a771fa3265d5377f2819a82dd09b5c4fa7743c2d6763c8d3a05ec775", func := "github.com/expr-lang/expr/n003_80.FnIsByteSliceOnSampleTypes", spec := "fnIsByteSliceOnSampleTypes", inPlace := ["reflect.TypeOf"], unfollowed := true, recurses := true, make := .lifted ["reflectrows", "leanrows"], apart := false }
def FnIsByteSliceOnSampleTypesSaid : Prop := fnIsByteSliceOnSampleTypesRow.holds Tryz.pinned (OpenSpec.ofChange fnIsByteSliceOnSampleTypesSpec)

/-- ITS FALSE NEIGHBOUR: 'it returns false'. Refute it at one input. -/
def fnIsByteSliceOnSampleTypesWrong : ChangeSpec := { name := "fnIsByteSliceOnSampleTypes", fn := fun _ => fun
  | [] => { results := [.lit (.bool false)], args := [] }
  | _ => none }
def FnIsByteSliceOnSampleTypesWrongFalsely : Prop := fnIsByteSliceOnSampleTypesRow.holds Tryz.pinned (OpenSpec.ofChange fnIsByteSliceOnSampleTypesWrong)

/-- 'n003_15.FnOutMatchesSignatureTable': WHATEVER THE INPUT: true; the input reads as it did. -/
def fnOutMatchesSignatureTableSpec : ChangeSpec := { name := "fnOutMatchesSignatureTable", fn := fun _ => fun
  | [d1, d2, d3] => { results := [.lit (.bool true)], args := [d1, d2, d3] }
  | _ => none }
def fnOutMatchesSignatureTableRow : OpenClaim := { program := "ytjdnoaojjmejmaagreat", sum := "aa6f24f8a771fa3265d5377f2819a82dd09b5c4fa7743c2d6763c8d3a05ec775", func := "github.com/expr-lang/expr/n003_15.FnOutMatchesSignatureTable", spec := "fnOutMatchesSignatureTable", inPlace := ["reflect.TypeOf"], unfollowed := true, recurses := true, make := .lifted ["reflectrows", "leanrows"], apart := false }
def FnOutMatchesSignatureTableSaid : Prop := fnOutMatchesSignatureTableRow.holds Tryz.pinned (OpenSpec.ofChange fnOutMatchesSignatureTableSpec)

/-- ITS FALSE NEIGHBOUR: 'it returns false'. Refute it at one input. -/
def fnOutMatchesSignatureTableWrong : ChangeSpec := { name := "fnOutMatchesSignatureTable", fn := fun _ => fun
  | [d1, d2, d3] => { results := [.lit (.bool false)], args := [d1, d2, d3] }
  | _ => none }
def FnOutMatchesSignatureTableWrongFalsely : Prop := fnOutMatchesSignatureTableRow.holds Tryz.pinned (OpenSpec.ofChange fnOutMatchesSignatureTableWrong)

/-- 'n003_48.FnFromTypeKindTable': WHATEVER THE INPUT: true; the input reads as it did. -/
def fnFromTypeKindTableSpec : ChangeSpec := { name := "fnFromTypeKindTable", fn := fun _ => fun
  | [d] => { results := [.lit (.bool true)], args := [d] }
  | _ => none }
def fnFromTypeKindTableRow : OpenClaim := { program := "ytjdnoaojjmejmaagreat", sum := "aa6f24f8a771fa3265d5377f2819a82dd09b5c4fa7743c2d6763c8d3a05ec775", func := "github.com/expr-lang/expr/n003_48.FnFromTypeKindTable", spec := "fnFromTypeKindTable", inPlace := ["reflect.TypeOf"], unfollowed := true, recurses := true, make := .lifted ["reflectrows", "leanrows"], apart := false }
def FnFromTypeKindTableSaid : Prop := fnFromTypeKindTableRow.holds Tryz.pinned (OpenSpec.ofChange fnFromTypeKindTableSpec)

/-- ITS FALSE NEIGHBOUR: 'it returns false'. Refute it at one input. -/
def fnFromTypeKindTableWrong : ChangeSpec := { name := "fnFromTypeKindTable", fn := fun _ => fun
  | [d] => { results := [.lit (.bool false)], args := [d] }
  | _ => none }
def FnFromTypeKindTableWrongFalsely : Prop := fnFromTypeKindTableRow.holds Tryz.pinned (OpenSpec.ofChange fnFromTypeKindTableWrong)

/-- 'n003_80.FnIsArrayOnSampleTypes': WHATEVER THE INPUT: true; the input reads as it did. -/
def fnIsArrayOnSampleTypesSpec : ChangeSpec := { name := "fnIsArrayOnSampleTypes", fn := fun _ => fun
  | [] => { results := [.lit (.bool true)], args := [] }
  | _ => none }
def fnIsArrayOnSampleTypesRow : OpenClaim := { program := "ytjdnoaojjmejmaagreat", sum := "aa6f24f8a771fa3265d5377f2819a82dd09b5c4fa7743c2d6763c8d3a05ec775", func := "github.com/expr-lang/expr/n003_80.FnIsArrayOnSampleTypes", spec := "fnIsArrayOnSampleTypes", inPlace := ["reflect.TypeOf"], unfollowed := true, recurses := true, make := .lifted ["reflectrows", "leanrows"], apart := false }
def FnIsArrayOnSampleTypesSaid : Prop := fnIsArrayOnSampleTypesRow.holds Tryz.pinned (OpenSpec.ofChange fnIsArrayOnSampleTypesSpec)

/-- ITS FALSE NEIGHBOUR: 'it returns false'. Refute it at one input. -/
def fnIsArrayOnSampleTypesWrong : ChangeSpec := { name := "fnIsArrayOnSampleTypes", fn := fun _ => fun
  | [] => { results := [.lit (.bool false)], args := [] }
  | _ => none }
def FnIsArrayOnSampleTypesWrongFalsely : Prop := fnIsArrayOnSampleTypesRow.holds Tryz.pinned (OpenSpec.ofChange fnIsArrayOnSampleTypesWrong)

/-- 'n003_15.FnOutAgreesWithPrivateOut': WHATEVER THE INPUT: true; the input reads as it did. -/
def fnOutAgreesWithPrivateOutSpec : ChangeSpec := { name := "fnOutAgreesWithPrivateOut", fn := fun _ => fun
  | [d1, d2, d3] => { results := [.lit (.bool true)], args := [d1, d2, d3] }
  | _ => none }
def fnOutAgreesWithPrivateOutRow : OpenClaim := { program := "ytjdnoaojjmejmaagreat", sum := "aa6f24f8a771fa3265d5377f2819a82dd09b5c4fa7743c2d6763c8d3a05ec775", func := "github.com/expr-lang/expr/n003_15.FnOutAgreesWithPrivateOut", spec := "fnOutAgreesWithPrivateOut", inPlace := ["reflect.TypeOf"], unfollowed := true, recurses := true, make := .lifted ["reflectrows", "leanrows"], apart := false }
def FnOutAgreesWithPrivateOutSaid : Prop := fnOutAgreesWithPrivateOutRow.holds Tryz.pinned (OpenSpec.ofChange fnOutAgreesWithPrivateOutSpec)

/-- ITS FALSE NEIGHBOUR: 'it returns false'. Refute it at one input. -/
def fnOutAgreesWithPrivateOutWrong : ChangeSpec := { name := "fnOutAgreesWithPrivateOut", fn := fun _ => fun
  | [d1, d2, d3] => { results := [.lit (.bool false)], args := [d1, d2, d3] }
  | _ => none }
def FnOutAgreesWithPrivateOutWrongFalsely : Prop := fnOutAgreesWithPrivateOutRow.holds Tryz.pinned (OpenSpec.ofChange fnOutAgreesWithPrivateOutWrong)

/-- 'n003_19.FnStringReadsTypeAlone': WHATEVER THE INPUT: true; the input reads as it did. -/
def fnStringReadsTypeAloneSpec : ChangeSpec := { name := "fnStringReadsTypeAlone", fn := fun _ => fun
  | [d1, d2, d3, d4, d5, d6, d7] => { results := [.lit (.bool true)], args := [d1, d2, d3, d4, d5, d6, d7] }
  | _ => none }
def fnStringReadsTypeAloneRow : OpenClaim := { program := "ytjdnoaojjmejmaagreat", sum := "aa6f24f8a771fa3265d5377f2819a82dd09b5c4fa7743c2d6763c8d3a05ec775", func := "github.com/expr-lang/expr/n003_19.FnStringReadsTypeAlone", spec := "fnStringReadsTypeAlone", inPlace := ["reflect.TypeOf"], unfollowed := true, recurses := true, make := .lifted ["reflectrows", "leanrows"], apart := false }
def FnStringReadsTypeAloneSaid : Prop := fnStringReadsTypeAloneRow.holds Tryz.pinned (OpenSpec.ofChange fnStringReadsTypeAloneSpec)

/-- ITS FALSE NEIGHBOUR: 'it returns false'. Refute it at one input. -/
def fnStringReadsTypeAloneWrong : ChangeSpec := { name := "fnStringReadsTypeAlone", fn := fun _ => fun
  | [d1, d2, d3, d4, d5, d6, d7] => { results := [.lit (.bool false)], args := [d1, d2, d3, d4, d5, d6, d7] }
  | _ => none }
def FnStringReadsTypeAloneWrongFalsely : Prop := fnStringReadsTypeAloneRow.holds Tryz.pinned (OpenSpec.ofChange fnStringReadsTypeAloneWrong)

/-- 'n003_96.FnIsVariadicStableAcrossCallsAndCopies': WHATEVER THE INPUT: true; the input reads as it did. -/
def fnIsVariadicStableAcrossCallsAndCopiesSpec : ChangeSpec := { name := "fnIsVariadicStableAcrossCallsAndCopies", fn := fun _ => fun
  | [d] => { results := [.lit (.bool true)], args := [d] }
  | _ => none }
def fnIsVariadicStableAcrossCallsAndCopiesRow : OpenClaim := { program := "ytjdnoaojjmejmaagreat", sum := "aa6f24f8a771fa3265d5377f2819a82dd09b5c4fa7743c2d6763c8d3a05ec775", func := "github.com/expr-lang/expr/n003_96.FnIsVariadicStableAcrossCallsAndCopies", spec := "fnIsVariadicStableAcrossCallsAndCopies", inPlace := ["reflect.TypeOf"], unfollowed := true, recurses := true, make := .lifted ["reflectrows", "leanrows"], apart := false }
def FnIsVariadicStableAcrossCallsAndCopiesSaid : Prop := fnIsVariadicStableAcrossCallsAndCopiesRow.holds Tryz.pinned (OpenSpec.ofChange fnIsVariadicStableAcrossCallsAndCopiesSpec)

/-- ITS FALSE NEIGHBOUR: 'it returns false'. Refute it at one input. -/
def fnIsVariadicStableAcrossCallsAndCopiesWrong : ChangeSpec := { name := "fnIsVariadicStableAcrossCallsAndCopies", fn := fun _ => fun
  | [d] => { results := [.lit (.bool false)], args := [d] }
  | _ => none }
def FnIsVariadicStableAcrossCallsAndCopiesWrongFalsely : Prop := fnIsVariadicStableAcrossCallsAndCopiesRow.holds Tryz.pinned (OpenSpec.ofChange fnIsVariadicStableAcrossCallsAndCopiesWrong)

/-- 'n003_19.FnDerefIdempotentStripsStars': WHATEVER THE INPUT: true; the input reads as it did. -/
def fnDerefIdempotentStripsStarsSpec : ChangeSpec := { name := "fnDerefIdempotentStripsStars", fn := fun _ => fun
  | [d1, d2] => { results := [.lit (.bool true)], args := [d1, d2] }
  | _ => none }
def fnDerefIdempotentStripsStarsRow : OpenClaim := { program := "ytjdnoaojjmejmaagreat", sum := "aa6f24f8a771fa3265d5377f2819a82dd09b5c4fa7743c2d6763c8d3a05ec775", func := "github.com/expr-lang/expr/n003_19.FnDerefIdempotentStripsStars", spec := "fnDerefIdempotentStripsStars", inPlace := ["reflect.TypeOf"], unfollowed := true, recurses := true, make := .lifted ["reflectrows", "leanrows"], apart := false }
def FnDerefIdempotentStripsStarsSaid : Prop := fnDerefIdempotentStripsStarsRow.holds Tryz.pinned (OpenSpec.ofChange fnDerefIdempotentStripsStarsSpec)

/-- ITS FALSE NEIGHBOUR: 'it returns false'. Refute it at one input. -/
def fnDerefIdempotentStripsStarsWrong : ChangeSpec := { name := "fnDerefIdempotentStripsStars", fn := fun _ => fun
  | [d1, d2] => { results := [.lit (.bool false)], args := [d1, d2] }
  | _ => none }
def FnDerefIdempotentStripsStarsWrongFalsely : Prop := fnDerefIdempotentStripsStarsRow.holds Tryz.pinned (OpenSpec.ofChange fnDerefIdempotentStripsStarsWrong)

/-- 'n003_48.FnFromTypeFreshTypeDataPerCall': WHATEVER THE INPUT: true; the input reads as it did. -/
def fnFromTypeFreshTypeDataPerCallSpec : ChangeSpec := { name := "fnFromTypeFreshTypeDataPerCall", fn := fun _ => fun
  | [d1, d2] => { results := [.lit (.bool true)], args := [d1, d2] }
  | _ => none }
def fnFromTypeFreshTypeDataPerCallRow : OpenClaim := { program := "ytjdnoaojjmejmaagreat", sum := "aa6f24f8a771fa3265d5377f2819a82dd09b5c4fa7743c2d6763c8d3a05ec775", func := "github.com/expr-lang/expr/n003_48.FnFromTypeFreshTypeDataPerCall", spec := "fnFromTypeFreshTypeDataPerCall", inPlace := ["reflect.TypeOf"], unfollowed := true, recurses := true, make := .lifted ["reflectrows", "leanrows"], apart := false }
def FnFromTypeFreshTypeDataPerCallSaid : Prop := fnFromTypeFreshTypeDataPerCallRow.holds Tryz.pinned (OpenSpec.ofChange fnFromTypeFreshTypeDataPerCallSpec)

/-- ITS FALSE NEIGHBOUR: 'it returns false'. Refute it at one input. -/
def fnFromTypeFreshTypeDataPerCallWrong : ChangeSpec := { name := "fnFromTypeFreshTypeDataPerCall", fn := fun _ => fun
  | [d1, d2] => { results := [.lit (.bool false)], args := [d1, d2] }
  | _ => none }
def FnFromTypeFreshTypeDataPerCallWrongFalsely : Prop := fnFromTypeFreshTypeDataPerCallRow.holds Tryz.pinned (OpenSpec.ofChange fnFromTypeFreshTypeDataPerCallWrong)

/-- 'n003_19.FnDerefCaseTable': WHATEVER THE INPUT: true; the input reads as it did. -/
def fnDerefCaseTableSpec : ChangeSpec := { name := "fnDerefCaseTable", fn := fun _ => fun
  | [d1, d2] => { results := [.lit (.bool true)], args := [d1, d2] }
  | _ => none }
def fnDerefCaseTableRow : OpenClaim := { program := "ytjdnoaojjmejmaagreat", sum := "aa6f24f8a771fa3265d5377f2819a82dd09b5c4fa7743c2d6763c8d3a05ec775", func := "github.com/expr-lang/expr/n003_19.FnDerefCaseTable", spec := "fnDerefCaseTable", inPlace := ["reflect.TypeOf"], unfollowed := true, recurses := true, make := .lifted ["reflectrows", "leanrows"], apart := false }
def FnDerefCaseTableSaid : Prop := fnDerefCaseTableRow.holds Tryz.pinned (OpenSpec.ofChange fnDerefCaseTableSpec)

/-- ITS FALSE NEIGHBOUR: 'it returns false'. Refute it at one input. -/
def fnDerefCaseTableWrong : ChangeSpec := { name := "fnDerefCaseTable", fn := fun _ => fun
  | [d1, d2] => { results := [.lit (.bool false)], args := [d1, d2] }
  | _ => none }
def FnDerefCaseTableWrongFalsely : Prop := fnDerefCaseTableRow.holds Tryz.pinned (OpenSpec.ofChange fnDerefCaseTableWrong)

/-- 'n003_48.FnNatureOfAgreesWithFromType': WHATEVER THE INPUT: true; the input reads as it did. -/
def fnNatureOfAgreesWithFromTypeSpec : ChangeSpec := { name := "fnNatureOfAgreesWithFromType", fn := fun _ => fun
  | [d1, d2, d3, d4, d5, d6, d7] => { results := [.lit (.bool true)], args := [d1, d2, d3, d4, d5, d6, d7] }
  | _ => none }
def fnNatureOfAgreesWithFromTypeRow : OpenClaim := { program := "ytjdnoaojjmejmaagreat", sum := "aa6f24f8a771fa3265d5377f2819a82dd09b5c4fa7743c2d6763c8d3a05ec775", func := "github.com/expr-lang/expr/n003_48.FnNatureOfAgreesWithFromType", spec := "fnNatureOfAgreesWithFromType", inPlace := ["reflect.TypeOf"], unfollowed := true, recurses := true, make := .lifted ["reflectrows", "leanrows"], apart := false }
def FnNatureOfAgreesWithFromTypeSaid : Prop := fnNatureOfAgreesWithFromTypeRow.holds Tryz.pinned (OpenSpec.ofChange fnNatureOfAgreesWithFromTypeSpec)

/-- ITS FALSE NEIGHBOUR: 'it returns false'. Refute it at one input. -/
def fnNatureOfAgreesWithFromTypeWrong : ChangeSpec := { name := "fnNatureOfAgreesWithFromType", fn := fun _ => fun
  | [d1, d2, d3, d4, d5, d6, d7] => { results := [.lit (.bool false)], args := [d1, d2, d3, d4, d5, d6, d7] }
  | _ => none }
def FnNatureOfAgreesWithFromTypeWrongFalsely : Prop := fnNatureOfAgreesWithFromTypeRow.holds Tryz.pinned (OpenSpec.ofChange fnNatureOfAgreesWithFromTypeWrong)

/- THE SECOND FORM. 'bulk': how many values and letters a reading holds, each counted each time it is reached (what is shared counts as often as it is met; a slice's spare places count too). A statement '..UptoSaid' is the law's where the arguments, and the package variables that the reading takes, are together of bulk at most 1048576: NARROWER than '..Said'. Prove '..Said' where nothing that the law and all that it calls make is longer than what came in: it says more and counts as full. Else prove '..UptoSaid'. A law counts once. -/
mutual
def uptoBulk {H : Type} : DataW H → Nat
  | .lit (.string bytes) => bytes.length + 1
  | .lit _ => 1
  | .nil => 1
  | .ptr d => uptoBulk d + 1
  | .slice elems spare => uptoBulkAll elems + uptoBulkAll spare + 1
  | .agg parts => uptoBulkAll parts + 1
  | .iface _ d => uptoBulk d + 1
  | .map entries => uptoBulkEntries entries + 1
  | .held _ => 1
def uptoBulkAll {H : Type} : List (DataW H) → Nat
  | [] => 0
  | d :: r => uptoBulk d + uptoBulkAll r
def uptoBulkEntries {H : Type} : List (Lit × DataW H) → Nat
  | [] => 0
  | x :: r => uptoBulkEntry x + uptoBulkEntries r
def uptoBulkEntry {H : Type} : Lit × DataW H → Nat
  | (.string bytes, d) => bytes.length + uptoBulk d + 1
  | (_, d) => uptoBulk d + 1
 end
def uptoSmall : (H : Type) → List (DataW H) → Bool := fun _ ds => decide (uptoBulkAll ds ≤ 1048576)
def OpenSpec.upto (s : _root_.Go.ChangeSpec) : _root_.Go.OpenSpec := { _root_.Go.OpenSpec.ofChange s with cond := some uptoSmall }

/-- 'n003_15.FnPrivateOutMatchesSignatureTable', WHERE WHAT IT READS IS OF BULK AT MOST 1048576: true; the input reads as it did. -/
def fnPrivateOutMatchesSignatureTableUptoRow : OpenClaim := { program := "ytjdnoaojjmejmaagreat", sum := "aa6f24f8a771fa3265d5377f2819a82dd09b5c4fa7743c2d6763c8d3a05ec775", func := "github.com/expr-lang/expr/n003_15.FnPrivateOutMatchesSignatureTable", spec := "fnPrivateOutMatchesSignatureTable", inPlace := ["reflect.TypeOf"], unfollowed := true, recurses := true, make := .lifted ["reflectrows", "leanrows"], apart := false, narrowed := true }
def FnPrivateOutMatchesSignatureTableUptoSaid : Prop := fnPrivateOutMatchesSignatureTableUptoRow.holds Tryz.pinned (OpenSpec.upto fnPrivateOutMatchesSignatureTableSpec)

/-- 'n003_48.FnNatureOfTypedValues', WHERE WHAT IT READS IS OF BULK AT MOST 1048576: true; the input reads as it did. -/
def fnNatureOfTypedValuesUptoRow : OpenClaim := { program := "ytjdnoaojjmejmaagreat", sum := "aa6f24f8a771fa3265d5377f2819a82dd09b5c4fa7743c2d6763c8d3a05ec775", func := "github.com/expr-lang/expr/n003_48.FnNatureOfTypedValues", spec := "fnNatureOfTypedValues", inPlace := ["reflect.TypeOf"], unfollowed := true, recurses := true, make := .lifted ["reflectrows", "leanrows"], apart := false, narrowed := true }
def FnNatureOfTypedValuesUptoSaid : Prop := fnNatureOfTypedValuesUptoRow.holds Tryz.pinned (OpenSpec.upto fnNatureOfTypedValuesSpec)

/-- 'n003_80.FnIsByteSliceOnSampleTypes', WHERE WHAT IT READS IS OF BULK AT MOST 1048576: true; the input reads as it did. -/
def fnIsByteSliceOnSampleTypesUptoRow : OpenClaim := { program := "ytjdnoaojjmejmaagreat", sum := "aa6f24f8a771fa3265d5377f2819a82dd09b5c4fa7743c2d6763c8d3a05ec775", func := "github.com/expr-lang/expr/n003_80.FnIsByteSliceOnSampleTypes", spec := "fnIsByteSliceOnSampleTypes", inPlace := ["reflect.TypeOf"], unfollowed := true, recurses := true, make := .lifted ["reflectrows", "leanrows"], apart := false, narrowed := true }
def FnIsByteSliceOnSampleTypesUptoSaid : Prop := fnIsByteSliceOnSampleTypesUptoRow.holds Tryz.pinned (OpenSpec.upto fnIsByteSliceOnSampleTypesSpec)

/-- 'n003_15.FnOutMatchesSignatureTable', WHERE WHAT IT READS IS OF BULK AT MOST 1048576: true; the input reads as it did. -/
def fnOutMatchesSignatureTableUptoRow : OpenClaim := { program := "ytjdnoaojjmejmaagreat", sum := "aa6f24f8a771fa3265d5377f2819a82dd09b5c4fa7743c2d6763c8d3a05ec775", func := "github.com/expr-lang/expr/n003_15.FnOutMatchesSignatureTable", spec := "fnOutMatchesSignatureTable", inPlace := ["reflect.TypeOf"], unfollowed := true, recurses := true, make := .lifted ["reflectrows", "leanrows"], apart := false, narrowed := true }
def FnOutMatchesSignatureTableUptoSaid : Prop := fnOutMatchesSignatureTableUptoRow.holds Tryz.pinned (OpenSpec.upto fnOutMatchesSignatureTableSpec)

/-- 'n003_48.FnFromTypeKindTable', WHERE WHAT IT READS IS OF BULK AT MOST 1048576: true; the input reads as it did. -/
def fnFromTypeKindTableUptoRow : OpenClaim := { program := "ytjdnoaojjmejmaagreat", sum := "aa6f24f8a771fa3265d5377f2819a82dd09b5c4fa7743c2d6763c8d3a05ec775", func := "github.com/expr-lang/expr/n003_48.FnFromTypeKindTable", spec := "fnFromTypeKindTable", inPlace := ["reflect.TypeOf"], unfollowed := true, recurses := true, make := .lifted ["reflectrows", "leanrows"], apart := false, narrowed := true }
def FnFromTypeKindTableUptoSaid : Prop := fnFromTypeKindTableUptoRow.holds Tryz.pinned (OpenSpec.upto fnFromTypeKindTableSpec)

/-- 'n003_80.FnIsArrayOnSampleTypes', WHERE WHAT IT READS IS OF BULK AT MOST 1048576: true; the input reads as it did. -/
def fnIsArrayOnSampleTypesUptoRow : OpenClaim := { program := "ytjdnoaojjmejmaagreat", sum := "aa6f24f8a771fa3265d5377f2819a82dd09b5c4fa7743c2d6763c8d3a05ec775", func := "github.com/expr-lang/expr/n003_80.FnIsArrayOnSampleTypes", spec := "fnIsArrayOnSampleTypes", inPlace := ["reflect.TypeOf"], unfollowed := true, recurses := true, make := .lifted ["reflectrows", "leanrows"], apart := false, narrowed := true }
def FnIsArrayOnSampleTypesUptoSaid : Prop := fnIsArrayOnSampleTypesUptoRow.holds Tryz.pinned (OpenSpec.upto fnIsArrayOnSampleTypesSpec)

/-- 'n003_15.FnOutAgreesWithPrivateOut', WHERE WHAT IT READS IS OF BULK AT MOST 1048576: true; the input reads as it did. -/
def fnOutAgreesWithPrivateOutUptoRow : OpenClaim := { program := "ytjdnoaojjmejmaagreat", sum := "aa6f24f8a771fa3265d5377f2819a82dd09b5c4fa7743c2d6763c8d3a05ec775", func := "github.com/expr-lang/expr/n003_15.FnOutAgreesWithPrivateOut", spec := "fnOutAgreesWithPrivateOut", inPlace := ["reflect.TypeOf"], unfollowed := true, recurses := true, make := .lifted ["reflectrows", "leanrows"], apart := false, narrowed := true }
def FnOutAgreesWithPrivateOutUptoSaid : Prop := fnOutAgreesWithPrivateOutUptoRow.holds Tryz.pinned (OpenSpec.upto fnOutAgreesWithPrivateOutSpec)

/-- 'n003_19.FnStringReadsTypeAlone', WHERE WHAT IT READS IS OF BULK AT MOST 1048576: true; the input reads as it did. -/
def fnStringReadsTypeAloneUptoRow : OpenClaim := { program := "ytjdnoaojjmejmaagreat", sum := "aa6f24f8a771fa3265d5377f2819a82dd09b5c4fa7743c2d6763c8d3a05ec775", func := "github.com/expr-lang/expr/n003_19.FnStringReadsTypeAlone", spec := "fnStringReadsTypeAlone", inPlace := ["reflect.TypeOf"], unfollowed := true, recurses := true, make := .lifted ["reflectrows", "leanrows"], apart := false, narrowed := true }
def FnStringReadsTypeAloneUptoSaid : Prop := fnStringReadsTypeAloneUptoRow.holds Tryz.pinned (OpenSpec.upto fnStringReadsTypeAloneSpec)

/-- 'n003_96.FnIsVariadicStableAcrossCallsAndCopies', WHERE WHAT IT READS IS OF BULK AT MOST 1048576: true; the input reads as it did. -/
def fnIsVariadicStableAcrossCallsAndCopiesUptoRow : OpenClaim := { program := "ytjdnoaojjmejmaagreat", sum := "aa6f24f8a771fa3265d5377f2819a82dd09b5c4fa7743c2d6763c8d3a05ec775", func := "github.com/expr-lang/expr/n003_96.FnIsVariadicStableAcrossCallsAndCopies", spec := "fnIsVariadicStableAcrossCallsAndCopies", inPlace := ["reflect.TypeOf"], unfollowed := true, recurses := true, make := .lifted ["reflectrows", "leanrows"], apart := false, narrowed := true }
def FnIsVariadicStableAcrossCallsAndCopiesUptoSaid : Prop := fnIsVariadicStableAcrossCallsAndCopiesUptoRow.holds Tryz.pinned (OpenSpec.upto fnIsVariadicStableAcrossCallsAndCopiesSpec)

/-- 'n003_19.FnDerefIdempotentStripsStars', WHERE WHAT IT READS IS OF BULK AT MOST 1048576: true; the input reads as it did. -/
def fnDerefIdempotentStripsStarsUptoRow : OpenClaim := { program := "ytjdnoaojjmejmaagreat", sum := "aa6f24f8a771fa3265d5377f2819a82dd09b5c4fa7743c2d6763c8d3a05ec775", func := "github.com/expr-lang/expr/n003_19.FnDerefIdempotentStripsStars", spec := "fnDerefIdempotentStripsStars", inPlace := ["reflect.TypeOf"], unfollowed := true, recurses := true, make := .lifted ["reflectrows", "leanrows"], apart := false, narrowed := true }
def FnDerefIdempotentStripsStarsUptoSaid : Prop := fnDerefIdempotentStripsStarsUptoRow.holds Tryz.pinned (OpenSpec.upto fnDerefIdempotentStripsStarsSpec)

/-- 'n003_48.FnFromTypeFreshTypeDataPerCall', WHERE WHAT IT READS IS OF BULK AT MOST 1048576: true; the input reads as it did. -/
def fnFromTypeFreshTypeDataPerCallUptoRow : OpenClaim := { program := "ytjdnoaojjmejmaagreat", sum := "aa6f24f8a771fa3265d5377f2819a82dd09b5c4fa7743c2d6763c8d3a05ec775", func := "github.com/expr-lang/expr/n003_48.FnFromTypeFreshTypeDataPerCall", spec := "fnFromTypeFreshTypeDataPerCall", inPlace := ["reflect.TypeOf"], unfollowed := true, recurses := true, make := .lifted ["reflectrows", "leanrows"], apart := false, narrowed := true }
def FnFromTypeFreshTypeDataPerCallUptoSaid : Prop := fnFromTypeFreshTypeDataPerCallUptoRow.holds Tryz.pinned (OpenSpec.upto fnFromTypeFreshTypeDataPerCallSpec)

/-- 'n003_19.FnDerefCaseTable', WHERE WHAT IT READS IS OF BULK AT MOST 1048576: true; the input reads as it did. -/
def fnDerefCaseTableUptoRow : OpenClaim := { program := "ytjdnoaojjmejmaagreat", sum := "aa6f24f8a771fa3265d5377f2819a82dd09b5c4fa7743c2d6763c8d3a05ec775", func := "github.com/expr-lang/expr/n003_19.FnDerefCaseTable", spec := "fnDerefCaseTable", inPlace := ["reflect.TypeOf"], unfollowed := true, recurses := true, make := .lifted ["reflectrows", "leanrows"], apart := false, narrowed := true }
def FnDerefCaseTableUptoSaid : Prop := fnDerefCaseTableUptoRow.holds Tryz.pinned (OpenSpec.upto fnDerefCaseTableSpec)

/-- 'n003_48.FnNatureOfAgreesWithFromType', WHERE WHAT IT READS IS OF BULK AT MOST 1048576: true; the input reads as it did. -/
def fnNatureOfAgreesWithFromTypeUptoRow : OpenClaim := { program := "ytjdnoaojjmejmaagreat", sum := "aa6f24f8a771fa3265d5377f2819a82dd09b5c4fa7743c2d6763c8d3a05ec775", func := "github.com/expr-lang/expr/n003_48.FnNatureOfAgreesWithFromType", spec := "fnNatureOfAgreesWithFromType", inPlace := ["reflect.TypeOf"], unfollowed := true, recurses := true, make := .lifted ["reflectrows", "leanrows"], apart := false, narrowed := true }
def FnNatureOfAgreesWithFromTypeUptoSaid : Prop := fnNatureOfAgreesWithFromTypeUptoRow.holds Tryz.pinned (OpenSpec.upto fnNatureOfAgreesWithFromTypeSpec)

end Rows
end Go.Proofs.YtjdnoaojjmejmaaGreat
