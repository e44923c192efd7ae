/-
  What the walk of FnStructFieldsTable says, in the row's words, and the closed facts of the row. Condition: none.
-/
import Derived.Test.YtdpgbmmgeooahaaGreatDoorBesreflClosed
import Derived.Test.YtdpgbmmgeooahaaGreatDoorBesreflFnStructFieldsTableW
import Derived.Test.YtdpgbmmgeooahaaGreatDoorBesreflTie
import Derived.Test.YtdpgbmmgeooahaaGreatDoorBesreflCards
import Derived.Test.YtdpgbmmgeooahaaGreatDoorBesreflLaid
import Derived.WalkKit
import Derived.ProofKit
import Derived.OpenShut
import Derived.ShutString
import Derived.ChangeOld
import Derived.Below
import Derived.ReadAgain
import Derived.ChangeSlices
import Derived.SliceStrings
import Derived.ChangeOld
import Derived.ChangeReads
import Derived.ChangeSame
import Derived.ChangeMaps5
import Derived.Laws.Cover2
import Derived.Lay
import Derived.LaidOnce
import Derived.SevenTiedAt
import Derived.LaidMore
import Derived.Stop.Joined
namespace Go.Proofs.YtdpgbmmgeooahaaGreatDoorBesrefl.fnStructFieldsTable
open Go.ChangeShapes Go.WideShapes Go.ChangeAt Go.RowKit
open Go.ChangeMaps (open_string shut_string)
set_option linter.unusedVariables false
section
open Go.ChangeShapes Go.WideShapes
variable {H : Type} {enc : TypeId × Value → H} {P : Program} {w w' : World}
theorem carryAll {base : Nat} {sp : Nat → Bool} {held : Bool} (hs0 : Below w.heap.size w w') : ∀ {ts : List TypeId} {vs : List Value} {ds : List (DataW H)} {ps : List MemPlace},
    DataW.TrodAll enc P w base sp held ts vs ds ps → DataW.TrodAll enc P w' base sp held ts vs ds ps
  | [], _, _, _, h => by
    obtain ⟨rfl, rfl, rfl⟩ := trodAll_nil h
    rfl
  | _ :: _, _, _, _, h => by
    obtain ⟨v, vs1, d, ds1, a, b, rfl, rfl, rfl, h1, h2⟩ := trodAll_cons h
    obtain ⟨fuel, hf⟩ := h1
    have hlt := DataW.trod_lt _ _ _ _ hf
    exact ⟨a, b, ⟨fuel, DataW.trod_carry _ _ _ _ hf (fun p hp => hs0.same (hlt p hp))⟩, carryAll hs0 h2, rfl⟩
end
theorem kids : Kids Tryz.prog (· < Tryz.prog.types.size) := kids_rows Shut.laidOut Shut.mrow
theorem full : ∀ t e, t < Tryz.prog.types.size → Tryz.prog.underlying t = some (.slice e) → 0 < Tryz.prog.cellsOf e := slices_full_of Tryz.prog (by kernel_rfl)
set_option maxRecDepth 100000 in
theorem lifted (os : Os) (started : os.Started) (H : Type) (enc : TypeId × Value → H) :
    ReturnsInHanded {} Tryz.checked os 3 .any (fun w args => (Rows.fnStructFieldsTableSpec.pre enc Tryz.prog Tryz.f3 [] false w args ∧ laidMetH Tryz.prog Rows.fnStructFieldsTableRow.laid w) ∧ sizedMet enc Tryz.prog Tryz.f3 (OpenSpec.ofChange Rows.fnStructFieldsTableSpec) false w args)
      (Rows.fnStructFieldsTableSpec.post enc Tryz.prog Tryz.f3 false true false false) := by
  refine returnsInHanded_of_change_and (C := Tryz.checked) (X := fun w _ => laidMetH Tryz.prog Rows.fnStructFieldsTableRow.laid w) (fun _ _ _ hh h => h.of_heap hh) Shut.own started (by kernel_rfl) Tryz.func3
    (ChangeSpec.witness_shaped (enc := enc) (C := Tryz.checked) (os := os) (X := fun w _ => laidMetH Tryz.prog Rows.fnStructFieldsTableRow.laid w) false (Laid.wit os) #[.string ByteArray.empty] 8 (Laid.wit_os os)
      (Laid.wit_shaped os) (by kernel_rfl) (by kernel_rfl) (by kernel_rfl) (Laid.wit_met os _)) ?_
  intro W base args ds gs before hval0 hW _ _ hL _
  have hval : ∀ (j : Nat) t v, Tryz.f3.params[j]? = some t → args[j]? = some v → Value.okWide Tryz.prog W .any base t v := hval0
  have hW' := hW
  obtain ⟨p, q, hA0, hV, rfl, hfz, hnd⟩ := hW
  have hA : DataW.TrodAll enc Tryz.prog W 0 (fun _ => true) true Tryz.f3.params.toList args.toList ds p := hA0
  have hAk := hA
  rw [Tryz.params3] at hA hval
  obtain ⟨v0, vs0, d0, ds0, p0, q0, hargs, rfl, rfl, h0, r0⟩ := trodAll_cons hA
  obtain ⟨rfl, rfl, rfl⟩ := trodAll_nil r0
  obtain rfl : args = #[v0] := by cases args; simp_all
  obtain ⟨rfl, rfl⟩ := trodVars_none hV
  obtain ⟨a0, rfl, rfl, rfl, w0⟩ := open_string Tryz.underlying9 (hval 0 9 v0 rfl rfl) h0
  clear hA0 hval0
  refine (walk a0 W w0).mono fun e W' ⟨he, bel⟩ => ?_
  subst he
  exact ⟨_, rfl, _, _, _, [], _, [], hW', trodAll_mk1 (shut_bool Tryz.underlying4 _), DataW.TrodAll.respare kids full (by rw [Tryz.params3]; decide +kernel) (carryAll bel hAk) (fun p hp => by simpa using hAk.lt p hp), rfl, bel.frame _, fun h => by cases h⟩

theorem k_wf : (Rows.fnStructFieldsTableRow.wf (OpenSpec.ofChange Rows.fnStructFieldsTableSpec)) = true := by kernel_rfl
theorem k_rd : (Tryz.f3.params.all (Tryz.prog.readableRec ·)) = true := by kernel_rfl
theorem k_nt : (namedTie Tryz.prog Rows.fnStructFieldsTableRow.named Rows.fnStructFieldsTableSpec.vars) = true := by kernel_rfl
theorem k_cs : ((Rows.fnStructFieldsTableRow.stops == [])) = true := by kernel_rfl
theorem k_ck : ((Rows.fnStructFieldsTableRow.knobs == [])) = true := by kernel_rfl
theorem k_ip : ((Rows.fnStructFieldsTableRow.inPlace == Tryz.prog.inPlace 3)) = true := by kernel_rfl
theorem k_uf : ((Rows.fnStructFieldsTableRow.unfollowed == Tryz.prog.unfollowed 3)) = true := by kernel_rfl
theorem k_rc : ((Rows.fnStructFieldsTableRow.recurses == Tryz.prog.recurses 3)) = true := by kernel_rfl
theorem k_nm : ((Rows.fnStructFieldsTableRow.named == Tryz.prog.varsNamed 3)) = true := by kernel_rfl
theorem k_mp : ((Rows.fnStructFieldsTableRow.maps == (Tryz.f3.params.toList ++ Rows.fnStructFieldsTableSpec.plain.varTypes Tryz.prog).any (Tryz.prog.mapsRec ·))) = true := by kernel_rfl
theorem k_ifc : ((Rows.fnStructFieldsTableRow.ifaces == (Tryz.f3.params.toList ++ Rows.fnStructFieldsTableSpec.plain.varTypes Tryz.prog).any (Tryz.prog.ifacesRec ·))) = true := by kernel_rfl
theorem k_mo : ((Rows.fnStructFieldsTableRow.mapsOut == Tryz.prog.mapsAmong Tryz.f3.resultTypes.toList)) = true := by kernel_rfl
theorem k_lp : ((Rows.fnStructFieldsTableRow.loops == (Tryz.f3.params.toList ++ Rows.fnStructFieldsTableSpec.plain.varTypes Tryz.prog).any (Tryz.prog.loopsFrom ·))) = true := by kernel_rfl
theorem k_wk : ((Rows.fnStructFieldsTableRow.wideKeys == (Tryz.f3.params.toList ++ Rows.fnStructFieldsTableSpec.plain.varTypes Tryz.prog ++ Tryz.f3.resultTypes.toList).any (Tryz.prog.wideKeysFrom ·))) = true := by kernel_rfl
theorem k_vr : (Rows.fnStructFieldsTableSpec.vars.all (Tryz.prog.varReadable ·)) = true := by kernel_rfl
theorem k_rt : (Tryz.f3.resultTypes.all (fun t => Tryz.prog.readableRec t && decide (t < Tryz.prog.types.size))) = true := by kernel_rfl
theorem k_io : ((Rows.fnStructFieldsTableRow.ifacesOut == Tryz.f3.resultTypes.toList.any (Tryz.prog.ifacesRec ·))) = true := by kernel_rfl
theorem k_lo : ((Rows.fnStructFieldsTableRow.loopsOut == Tryz.f3.resultTypes.toList.any (Tryz.prog.loopsFrom ·))) = true := by kernel_rfl
theorem k_pk : (Rows.fnStructFieldsTableRow.plainKeys == Tryz.prog.plainKeys) = true := by rw [Shut.pk]; rfl
theorem k_st : (Rows.fnStructFieldsTableRow.shortTexts.isNone) = true := by kernel_rfl
theorem k_lf : (Rows.fnStructFieldsTableRow.lifted == Tryz.prog.liftsFinal) = true := by rw [Shut.lf]; rfl
theorem k_mk : (Tryz.prog.make == some Rows.fnStructFieldsTableRow.make) = true := by rw [Shut.mk_of _ Shut.head]; rfl
theorem k_kd : ((Rows.fnStructFieldsTableRow.kinds == (if Rows.fnStructFieldsTableRow.domain.isEmpty then [] else Tryz.f3.params.toList.map fun t => match Tryz.prog.underlying t with | some (.int k) => some k | _ => Option.none))) = true := by kernel_rfl
theorem k_pn : ((Rows.fnStructFieldsTableRow.pinned == Rows.fnStructFieldsTableRow.pinnedBy)) = true := by kernel_rfl
theorem k_ve : ((Rows.fnStructFieldsTableRow.veiled == (Tryz.f3.params.toList ++ Rows.fnStructFieldsTableSpec.plain.varTypes Tryz.prog ++ Tryz.f3.resultTypes.toList).any (Tryz.prog.veiledRec ·))) = true := by kernel_rfl
theorem k_vf : (Rows.fnStructFieldsTableRow.veiledFits Tryz.prog Tryz.f3.params.toList (Tryz.f3.params.toList ++ Rows.fnStructFieldsTableSpec.plain.varTypes Tryz.prog ++ Tryz.f3.resultTypes.toList)) = true := by kernel_rfl
set_option maxRecDepth 100000 in
theorem closedAll : joinedFacts Tryz.prog 3 Tryz.f3 Rows.fnStructFieldsTableSpec Rows.fnStructFieldsTableRow = true := (Shut.and2 (Shut.and2 (Shut.and2 (Shut.and2 (Shut.and2 (Shut.and2 (Shut.and2 (Shut.and2 (Shut.and2 (Shut.and2 (Shut.and2 (Shut.and2 (Shut.and2 (Shut.and2 (Shut.and2 (Shut.and2 (Shut.and2 (Shut.and2 (Shut.and2 (Shut.and2 (Shut.and2 (Shut.and2 (Shut.and2 (Shut.and2 (Shut.and2 (Shut.and2 (Shut.and2 (Shut.and2 (Shut.and2 (Shut.and2 (Shut.and2 k_wf Shut.laidOut) Shut.mrow) k_rd) k_nt) k_cs) Shut.stp) k_ck) Shut.stk) k_ip) k_uf) k_rc) k_nm) k_mp) k_ifc) k_mo) k_lp) k_wk) k_vr) k_rt) k_io) k_lo) k_pk) k_st) Shut.sh) Shut.me) k_lf) k_mk) k_kd) k_pn) k_ve) k_vf)
theorem fnamed : Tryz.prog.funcNamed Rows.fnStructFieldsTableRow.func = some 3 := by kernel_rfl
theorem instOk : decide (Tryz.f3.isInstance Tryz.prog Rows.fnStructFieldsTableRow.origin Rows.fnStructFieldsTableRow.targs) = true := by kernel_rfl
theorem over : Rows.fnStructFieldsTableRow.holds Tryz.pinned (OpenSpec.ofChange Rows.fnStructFieldsTableSpec) :=
  OpenClaim.holds_of_wide 3 Tryz.f3 rfl rfl rfl rfl rfl rfl rfl ⟨rfl, rfl, rfl, rfl, rfl⟩ rfl rfl rfl rfl rfl fnamed Tryz.func3 closedAll
    (of_decide_eq_true instOk) (by unfold Func.isWrapper; first | (rw [if_pos (by decide +kernel)]; kernel_rfl) | (rw [if_neg (by decide +kernel)]; exact ⟨rfl, rfl⟩))
    (fun os started H enc _ => lifted os started H enc)

end Go.Proofs.YtdpgbmmgeooahaaGreatDoorBesrefl.fnStructFieldsTable
