/-
  StructFields lists exactly the six visible names with their classes. Condition: none. (The seat was turned with the translator's switches -reflectrows -leanrows -reflbeside.)
-/
import Derived.Test.YtdpgbmmgeooahaaGreatDoorBesreflClosed
import Derived.Test.YtdpgbmmgeooahaaGreatDoorBesreflFnStructFieldsTableW
import Derived.Test.YtdpgbmmgeooahaaGreatDoorBesreflTie
import Derived.Test.YtdpgbmmgeooahaaGreatDoorBesreflCards
import Derived.Test.YtdpgbmmgeooahaaGreatDoorBesreflLaid
import Derived.Test.YtdpgbmmgeooahaaGreatDoorBesreflMain
import Derived.Test.YtdpgbmmgeooahaaGreatDoorBesreflFnStructFieldsTableO
import Derived.WalkKit
import Derived.ProofKit
import Derived.OpenShut
import Derived.ShutString
import Derived.ChangeOld
import Derived.Below
import Derived.ReadAgain
import Derived.ChangeSlices
import Derived.SliceStrings
import Derived.ChangeOld
import Derived.ChangeReads
import Derived.ChangeSame
import Derived.ChangeMaps5
import Derived.Laws.Cover2
import Derived.Lay
import Derived.LaidOnce
import Derived.SevenTiedAt
import Derived.LaidMore
import Derived.Stop.Joined
namespace Go.Proofs.YtdpgbmmgeooahaaGreatDoorBesrefl.fnStructFieldsTable
open Go.ChangeShapes Go.WideShapes Go.ChangeAt Go.RowKit
open Go.ChangeMaps (open_string shut_string)
set_option linter.unusedVariables false
theorem goes : false = Rows.fnStructFieldsTableRow.goesBy Tryz.prog := by kernel_rfl
theorem proved : Rows.FnStructFieldsTableCardSaid :=
  Claim7.holds_tied_plain_at .later [] [.data, .called, .pinned] true Rows.fnStructFieldsTableCard.stood.harness true over (fun _ h => by cases h) (by kernel_rfl) (fun _ h => by cases h) fnStructFieldsTable_row_tie rfl ⟨rfl, rfl⟩ Shut2.mainIs rfl
    (fun f fn hf hfn => by
      obtain rfl : f = 3 := Option.some.inj ((show Tryz.prog.funcNamed Rows.fnStructFieldsTableRow.func = some 3 from fnamed).symm.trans hf) |>.symm
      obtain rfl : fn = Tryz.f3 := (Option.some.inj (Tryz.func3.symm.trans hfn)).symm
      exact ⟨Shut2.looks0, fun j t ht => by
        rw [Tryz.params3] at ht
        have hm : t ∈ [9] := by simpa using Array.mem_of_getElem? ht
        have hall : ([9].all fun u => !Tryz.prog.wantsStandIn u) = true := by kernel_rfl
        exact (show Tryz.prog.wantsStandIn t = false by simpa using List.all_eq_true.1 hall t hm)⟩)
    goes
#print axioms proved
end Go.Proofs.YtdpgbmmgeooahaaGreatDoorBesrefl.fnStructFieldsTable
