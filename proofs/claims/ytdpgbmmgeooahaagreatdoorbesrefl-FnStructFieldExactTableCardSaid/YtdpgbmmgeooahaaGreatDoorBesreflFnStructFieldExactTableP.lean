/-
  One lookup on a fresh descriptor of zzOuter answers by the table; asking again returns the identical record. Condition: none. (The seat was turned with the translator's switches -reflectrows -leanrows -reflbeside.)
-/
import Derived.Test.YtdpgbmmgeooahaaGreatDoorBesreflClosed
import Derived.Test.YtdpgbmmgeooahaaGreatDoorBesreflFnStructFieldExactTableW
import Derived.Test.YtdpgbmmgeooahaaGreatDoorBesreflTie
import Derived.Test.YtdpgbmmgeooahaaGreatDoorBesreflCards
import Derived.Test.YtdpgbmmgeooahaaGreatDoorBesreflLaid
import Derived.Test.YtdpgbmmgeooahaaGreatDoorBesreflMain
import Derived.Test.YtdpgbmmgeooahaaGreatDoorBesreflFnStructFieldExactTableO
import Derived.WalkKit
import Derived.ProofKit
import Derived.OpenShut
import Derived.ShutString
import Derived.ChangeOld
import Derived.Below
import Derived.ReadAgain
import Derived.ChangeSlices
import Derived.SliceStrings
import Derived.ChangeOld
import Derived.ChangeReads
import Derived.ChangeSame
import Derived.ChangeMaps5
import Derived.Laws.Cover2
import Derived.Lay
import Derived.LaidOnce
import Derived.SevenTiedAt
import Derived.LaidMore
import Derived.Stop.Joined
namespace Go.Proofs.YtdpgbmmgeooahaaGreatDoorBesrefl.fnStructFieldExactTable
open Go.ChangeShapes Go.WideShapes Go.ChangeAt Go.RowKit
open Go.ChangeMaps (open_string shut_string)
set_option linter.unusedVariables false
theorem goes : false = Rows.fnStructFieldExactTableRow.goesBy Tryz.prog := by kernel_rfl
theorem proved : Rows.FnStructFieldExactTableCardSaid :=
  Claim7.holds_tied_plain_at .later [] [.data, .called, .pinned] true Rows.fnStructFieldExactTableCard.stood.harness true over (fun _ h => by cases h) (by kernel_rfl) (fun _ h => by cases h) fnStructFieldExactTable_row_tie rfl ⟨rfl, rfl⟩ Shut2.mainIs rfl
    (fun f fn hf hfn => by
      obtain rfl : f = 4 := Option.some.inj ((show Tryz.prog.funcNamed Rows.fnStructFieldExactTableRow.func = some 4 from fnamed).symm.trans hf) |>.symm
      obtain rfl : fn = Tryz.f4 := (Option.some.inj (Tryz.func4.symm.trans hfn)).symm
      exact ⟨Shut2.looks0, fun j t ht => by
        rw [Tryz.params4] at ht
        have hm : t ∈ [9] := by simpa using Array.mem_of_getElem? ht
        have hall : ([9].all fun u => !Tryz.prog.wantsStandIn u) = true := by kernel_rfl
        exact (show Tryz.prog.wantsStandIn t = false by simpa using List.all_eq_true.1 hall t hm)⟩)
    goes
#print axioms proved
end Go.Proofs.YtdpgbmmgeooahaaGreatDoorBesrefl.fnStructFieldExactTable
