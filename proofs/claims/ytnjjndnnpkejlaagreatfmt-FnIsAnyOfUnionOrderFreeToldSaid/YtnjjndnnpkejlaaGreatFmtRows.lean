/-
  No cell of these rows narrows 'for every input' (looked for: loops, veiled, ifaces, maps, wideKeys, modest, calm, conditions, laid).
  DERIVED. THE GIVEN ROWS OF THIS SEAT. 3 by the template 'for every input the law returns true; each argument reads behind the call as it read before'; 0 by the template 'total and deterministic' (their statements: YtnjjndnnpkejlaaGreatFmtTotals.lean).
  GIVEN WITH THE SEED: the statements are not yours to turn. If you find one false, say at which input.
  Laid BY PROGRAM, IN A SANDBOX (cutbox-rows.mjs): the forced cells as the released guide's own fill.sh prints them over the translation d9d0d30f1bb0c563… (all of the seat's roots in one cut). By AI agents, Wed Nov 11 2026. No macro, syntax, notation, axiom, sorry.
-/
import Derived.Test.YtnjjndnnpkejlaaGreatFmtChecked
import GoSem.Claim
import GoSem.ClaimJoined
import GoSem.ClaimMapViews
import Derived.JoinedTies
import Derived.KernelRfl
namespace Go.Proofs.YtnjjndnnpkejlaaGreatFmt
/- THE CELL 'sum', in the pinned program and in every row, IS THE sha256 OF THE DUMP (.gsa) THAT YtnjjndnnpkejlaaGreatFmtProg.lean LOADS. Nothing in Lean hashes anything: it is a label: what it is worth is what the hold of that sum in a sandbox is worth. -/
noncomputable def Tryz.pinned : Pinned := { name := "ytnjjndnnpkejlaagreatfmt", sum := "d9d0d30f1bb0c563cc3b61a3dd1293329f7b0fa2cffc2796098c4d3d53ed6ce3", checked := Tryz.checked }
namespace Rows
def none {H : Type} : Left H := { results := [], args := [] }

/-- 'n003_97.FnIsNumberCaseTable': WHATEVER THE INPUT: true; the input reads as it did. -/
def fnIsNumberCaseTableSpec : ChangeSpec := { name := "fnIsNumberCaseTable", fn := fun _ => fun
  | [d] => { results := [.lit (.bool true)], args := [d] }
  | _ => none }
def fnIsNumberCaseTableRow : OpenClaim := { program := "ytnjjndnnpkejlaagreatfmt", sum := "d9d0d30f1bb0c563cc3b61a3dd1293329f7b0fa2cffc2796098c4d3d53ed6ce3", func := "github.com/expr-lang/expr/n003_97.FnIsNumberCaseTable", spec := "fnIsNumberCaseTable", stops := ["fmt.Sprintf"], inPlace := ["reflect.TypeOf", "fmt.Sprintf"], unfollowed := true, recurses := true, make := .lifted ["reflectrows", "leanrows"], apart := false }
/-- NO THEOREM (fmt's text is open here; it may be false): for the released tool's asking of the row's closed facts alone. THE STATEMENT IS 'FnIsNumberCaseTableToldSaid' (YtnjjndnnpkejlaaGreatFmtCards.lean). -/
def FnIsNumberCaseTableFormAsk : Prop := fnIsNumberCaseTableRow.holds Tryz.pinned (OpenSpec.ofChange fnIsNumberCaseTableSpec)

/-- ITS FALSE NEIGHBOUR: 'it returns false'. Refute it at one input. -/
def fnIsNumberCaseTableWrong : ChangeSpec := { name := "fnIsNumberCaseTable", fn := fun _ => fun
  | [d] => { results := [.lit (.bool false)], args := [d] }
  | _ => none }
def FnIsNumberCaseTableWrongFormAsk : Prop := fnIsNumberCaseTableRow.holds Tryz.pinned (OpenSpec.ofChange fnIsNumberCaseTableWrong)

/-- 'n003_51.FnIsAnyOfModel': WHATEVER THE INPUT: true; the input reads as it did. -/
def fnIsAnyOfModelSpec : ChangeSpec := { name := "fnIsAnyOfModel", fn := fun _ => fun
  | [d1, d2, d3, d4] => { results := [.lit (.bool true)], args := [d1, d2, d3, d4] }
  | _ => none }
def fnIsAnyOfModelRow : OpenClaim := { program := "ytnjjndnnpkejlaagreatfmt", sum := "d9d0d30f1bb0c563cc3b61a3dd1293329f7b0fa2cffc2796098c4d3d53ed6ce3", func := "github.com/expr-lang/expr/n003_51.FnIsAnyOfModel", spec := "fnIsAnyOfModel", stops := ["fmt.Sprintf"], inPlace := ["reflect.TypeOf", "fmt.Sprintf"], make := .lifted ["reflectrows", "leanrows"], apart := false }
/-- NO THEOREM (fmt's text is open here; it may be false): for the released tool's asking of the row's closed facts alone. THE STATEMENT IS 'FnIsAnyOfModelToldSaid' (YtnjjndnnpkejlaaGreatFmtCards.lean). -/
def FnIsAnyOfModelFormAsk : Prop := fnIsAnyOfModelRow.holds Tryz.pinned (OpenSpec.ofChange fnIsAnyOfModelSpec)

/-- ITS FALSE NEIGHBOUR: 'it returns false'. Refute it at one input. -/
def fnIsAnyOfModelWrong : ChangeSpec := { name := "fnIsAnyOfModel", fn := fun _ => fun
  | [d1, d2, d3, d4] => { results := [.lit (.bool false)], args := [d1, d2, d3, d4] }
  | _ => none }
def FnIsAnyOfModelWrongFormAsk : Prop := fnIsAnyOfModelRow.holds Tryz.pinned (OpenSpec.ofChange fnIsAnyOfModelWrong)

/-- 'n003_51.FnIsAnyOfUnionOrderFree': WHATEVER THE INPUT: true; the input reads as it did. -/
def fnIsAnyOfUnionOrderFreeSpec : ChangeSpec := { name := "fnIsAnyOfUnionOrderFree", fn := fun _ => fun
  | [d1, d2, d3, d4, d5] => { results := [.lit (.bool true)], args := [d1, d2, d3, d4, d5] }
  | _ => none }
def fnIsAnyOfUnionOrderFreeRow : OpenClaim := { program := "ytnjjndnnpkejlaagreatfmt", sum := "d9d0d30f1bb0c563cc3b61a3dd1293329f7b0fa2cffc2796098c4d3d53ed6ce3", func := "github.com/expr-lang/expr/n003_51.FnIsAnyOfUnionOrderFree", spec := "fnIsAnyOfUnionOrderFree", stops := ["fmt.Sprintf"], inPlace := ["reflect.TypeOf", "fmt.Sprintf"], make := .lifted ["reflectrows", "leanrows"], apart := false }
/-- NO THEOREM (fmt's text is open here; it may be false): for the released tool's asking of the row's closed facts alone. THE STATEMENT IS 'FnIsAnyOfUnionOrderFreeToldSaid' (YtnjjndnnpkejlaaGreatFmtCards.lean). -/
def FnIsAnyOfUnionOrderFreeFormAsk : Prop := fnIsAnyOfUnionOrderFreeRow.holds Tryz.pinned (OpenSpec.ofChange fnIsAnyOfUnionOrderFreeSpec)

/-- ITS FALSE NEIGHBOUR: 'it returns false'. Refute it at one input. -/
def fnIsAnyOfUnionOrderFreeWrong : ChangeSpec := { name := "fnIsAnyOfUnionOrderFree", fn := fun _ => fun
  | [d1, d2, d3, d4, d5] => { results := [.lit (.bool false)], args := [d1, d2, d3, d4, d5] }
  | _ => none }
def FnIsAnyOfUnionOrderFreeWrongFormAsk : Prop := fnIsAnyOfUnionOrderFreeRow.holds Tryz.pinned (OpenSpec.ofChange fnIsAnyOfUnionOrderFreeWrong)

end Rows
end Go.Proofs.YtnjjndnnpkejlaaGreatFmt
