/-
  No cell of these rows narrows 'for every input' (looked for: loops, veiled, ifaces, maps, wideKeys, modest, calm, conditions, laid).
  DERIVED. THE GIVEN ROWS OF THIS SEAT. 2 by the template 'for every input the law returns true; each argument reads behind the call as it read before'; 0 by the template 'total and deterministic' (their statements: YtnjjndnnpkejlaaGreatTotals.lean).
  GIVEN WITH THE SEED: the statements are not yours to turn. If you find one false, say at which input.
  Laid BY PROGRAM, IN A SANDBOX (cutbox-rows.mjs): the forced cells as the released guide's own fill.sh prints them over the translation 3ebd6f31518482d9… (all of the seat's roots in one cut). By AI agents, Wed Nov 11 2026. No macro, syntax, notation, axiom, sorry.
-/
import Derived.Test.YtnjjndnnpkejlaaGreatChecked
import GoSem.Claim
import GoSem.ClaimJoined
import GoSem.ClaimMapViews
import Derived.JoinedTies
import Derived.KernelRfl
namespace Go.Proofs.YtnjjndnnpkejlaaGreat
/- THE CELL 'sum', in the pinned program and in every row, IS THE sha256 OF THE DUMP (.gsa) THAT YtnjjndnnpkejlaaGreatProg.lean LOADS. Nothing in Lean hashes anything: it is a label: what it is worth is what the hold of that sum in a sandbox is worth. -/
noncomputable def Tryz.pinned : Pinned := { name := "ytnjjndnnpkejlaagreat", sum := "3ebd6f31518482d970fae02b2f85ccaf72546c7fdffb15755ffd35c976ecbf94", checked := Tryz.checked }
namespace Rows
def none {H : Type} : Left H := { results := [], args := [] }

/-- 'n003_90.FnClassifyIsTimeIsDurationIsBoolTable': WHATEVER THE INPUT: true; the input reads as it did. -/
def fnClassifyIsTimeIsDurationIsBoolTableSpec : ChangeSpec := { name := "fnClassifyIsTimeIsDurationIsBoolTable", fn := fun _ => fun
  | [d1, d2, d3, d4, d5, d6, d7, d8, d9] => { results := [.lit (.bool true)], args := [d1, d2, d3, d4, d5, d6, d7, d8, d9] }
  | _ => none }
def fnClassifyIsTimeIsDurationIsBoolTableRow : OpenClaim := { program := "ytnjjndnnpkejlaagreat", sum := "3ebd6f31518482d970fae02b2f85ccaf72546c7fdffb15755ffd35c976ecbf94", func := "github.com/expr-lang/expr/n003_90.FnClassifyIsTimeIsDurationIsBoolTable", spec := "fnClassifyIsTimeIsDurationIsBoolTable", inPlace := ["reflect.TypeOf"], unfollowed := true, recurses := true, make := .lifted ["reflectrows", "leanrows"], apart := false }
def FnClassifyIsTimeIsDurationIsBoolTableSaid : Prop := fnClassifyIsTimeIsDurationIsBoolTableRow.holds Tryz.pinned (OpenSpec.ofChange fnClassifyIsTimeIsDurationIsBoolTableSpec)

/-- ITS FALSE NEIGHBOUR: 'it returns false'. Refute it at one input. -/
def fnClassifyIsTimeIsDurationIsBoolTableWrong : ChangeSpec := { name := "fnClassifyIsTimeIsDurationIsBoolTable", fn := fun _ => fun
  | [d1, d2, d3, d4, d5, d6, d7, d8, d9] => { results := [.lit (.bool false)], args := [d1, d2, d3, d4, d5, d6, d7, d8, d9] }
  | _ => none }
def FnClassifyIsTimeIsDurationIsBoolTableWrongFalsely : Prop := fnClassifyIsTimeIsDurationIsBoolTableRow.holds Tryz.pinned (OpenSpec.ofChange fnClassifyIsTimeIsDurationIsBoolTableWrong)

/-- 'n003_90.FnClassifyDisjointAndKinds': WHATEVER THE INPUT: true; the input reads as it did. -/
def fnClassifyDisjointAndKindsSpec : ChangeSpec := { name := "fnClassifyDisjointAndKinds", fn := fun _ => fun
  | [d1, d2, d3, d4, d5, d6, d7, d8, d9] => { results := [.lit (.bool true)], args := [d1, d2, d3, d4, d5, d6, d7, d8, d9] }
  | _ => none }
def fnClassifyDisjointAndKindsRow : OpenClaim := { program := "ytnjjndnnpkejlaagreat", sum := "3ebd6f31518482d970fae02b2f85ccaf72546c7fdffb15755ffd35c976ecbf94", func := "github.com/expr-lang/expr/n003_90.FnClassifyDisjointAndKinds", spec := "fnClassifyDisjointAndKinds", inPlace := ["reflect.TypeOf"], unfollowed := true, recurses := true, make := .lifted ["reflectrows", "leanrows"], apart := false }
def FnClassifyDisjointAndKindsSaid : Prop := fnClassifyDisjointAndKindsRow.holds Tryz.pinned (OpenSpec.ofChange fnClassifyDisjointAndKindsSpec)

/-- ITS FALSE NEIGHBOUR: 'it returns false'. Refute it at one input. -/
def fnClassifyDisjointAndKindsWrong : ChangeSpec := { name := "fnClassifyDisjointAndKinds", fn := fun _ => fun
  | [d1, d2, d3, d4, d5, d6, d7, d8, d9] => { results := [.lit (.bool false)], args := [d1, d2, d3, d4, d5, d6, d7, d8, d9] }
  | _ => none }
def FnClassifyDisjointAndKindsWrongFalsely : Prop := fnClassifyDisjointAndKindsRow.holds Tryz.pinned (OpenSpec.ofChange fnClassifyDisjointAndKindsWrong)

/- THE SECOND FORM. 'bulk': how many values and letters a reading holds, each counted each time it is reached (what is shared counts as often as it is met; a slice's spare places count too). A statement '..UptoSaid' is the law's where the arguments, and the package variables that the reading takes, are together of bulk at most 1048576: NARROWER than '..Said'. Prove '..Said' where nothing that the law and all that it calls make is longer than what came in: it says more and counts as full. Else prove '..UptoSaid'. A law counts once. -/
mutual
def uptoBulk {H : Type} : DataW H → Nat
  | .lit (.string bytes) => bytes.length + 1
  | .lit _ => 1
  | .nil => 1
  | .ptr d => uptoBulk d + 1
  | .slice elems spare => uptoBulkAll elems + uptoBulkAll spare + 1
  | .agg parts => uptoBulkAll parts + 1
  | .iface _ d => uptoBulk d + 1
  | .map entries => uptoBulkEntries entries + 1
  | .held _ => 1
def uptoBulkAll {H : Type} : List (DataW H) → Nat
  | [] => 0
  | d :: r => uptoBulk d + uptoBulkAll r
def uptoBulkEntries {H : Type} : List (Lit × DataW H) → Nat
  | [] => 0
  | x :: r => uptoBulkEntry x + uptoBulkEntries r
def uptoBulkEntry {H : Type} : Lit × DataW H → Nat
  | (.string bytes, d) => bytes.length + uptoBulk d + 1
  | (_, d) => uptoBulk d + 1
 end
def uptoSmall : (H : Type) → List (DataW H) → Bool := fun _ ds => decide (uptoBulkAll ds ≤ 1048576)
def OpenSpec.upto (s : _root_.Go.ChangeSpec) : _root_.Go.OpenSpec := { _root_.Go.OpenSpec.ofChange s with cond := some uptoSmall }

/-- 'n003_90.FnClassifyIsTimeIsDurationIsBoolTable', WHERE WHAT IT READS IS OF BULK AT MOST 1048576: true; the input reads as it did. -/
def fnClassifyIsTimeIsDurationIsBoolTableUptoRow : OpenClaim := { program := "ytnjjndnnpkejlaagreat", sum := "3ebd6f31518482d970fae02b2f85ccaf72546c7fdffb15755ffd35c976ecbf94", func := "github.com/expr-lang/expr/n003_90.FnClassifyIsTimeIsDurationIsBoolTable", spec := "fnClassifyIsTimeIsDurationIsBoolTable", inPlace := ["reflect.TypeOf"], unfollowed := true, recurses := true, make := .lifted ["reflectrows", "leanrows"], apart := false, narrowed := true }
def FnClassifyIsTimeIsDurationIsBoolTableUptoSaid : Prop := fnClassifyIsTimeIsDurationIsBoolTableUptoRow.holds Tryz.pinned (OpenSpec.upto fnClassifyIsTimeIsDurationIsBoolTableSpec)

/-- 'n003_90.FnClassifyDisjointAndKinds', WHERE WHAT IT READS IS OF BULK AT MOST 1048576: true; the input reads as it did. -/
def fnClassifyDisjointAndKindsUptoRow : OpenClaim := { program := "ytnjjndnnpkejlaagreat", sum := "3ebd6f31518482d970fae02b2f85ccaf72546c7fdffb15755ffd35c976ecbf94", func := "github.com/expr-lang/expr/n003_90.FnClassifyDisjointAndKinds", spec := "fnClassifyDisjointAndKinds", inPlace := ["reflect.TypeOf"], unfollowed := true, recurses := true, make := .lifted ["reflectrows", "leanrows"], apart := false, narrowed := true }
def FnClassifyDisjointAndKindsUptoSaid : Prop := fnClassifyDisjointAndKindsUptoRow.holds Tryz.pinned (OpenSpec.upto fnClassifyDisjointAndKindsSpec)

end Rows
end Go.Proofs.YtnjjndnnpkejlaaGreat
