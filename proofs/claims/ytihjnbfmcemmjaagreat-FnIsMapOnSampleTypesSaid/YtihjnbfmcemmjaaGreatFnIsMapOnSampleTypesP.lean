/-
  IsMap is true for the natures of map[string]any and map[int]string, and false for those of string, []byte, [4]byte, bool and *[]byte. Condition: none. (The seat was turned with the translator's switches -reflectrows -leanrows.)
-/
import Derived.Test.YtihjnbfmcemmjaaGreatClosed
import Derived.Test.YtihjnbfmcemmjaaGreatFnIsMapOnSampleTypesW
import Derived.WalkKit
import Derived.ProofKit
import Derived.OpenShut
import Derived.ShutString
import Derived.ChangeOld
import Derived.Below
namespace Go.Proofs.YtihjnbfmcemmjaaGreat.fnIsMapOnSampleTypes
open Go.ChangeShapes Go.WideShapes Go.ChangeAt Go.RowKit
open Go.ChangeMaps (open_string shut_string)
set_option linter.unusedVariables false
set_option maxRecDepth 100000 in
theorem lifted (os : Os) (started : os.Started) (H : Type) (enc : TypeId × Value → H) :
    ReturnsInHanded {} Tryz.checked os 10 .any (Rows.fnIsMapOnSampleTypesSpec.pre6 enc Tryz.prog Tryz.f10 Rows.fnIsMapOnSampleTypesRow.domain false) (Rows.fnIsMapOnSampleTypesSpec.post enc Tryz.prog Tryz.f10 false true false false) := by
  refine returnsInHanded_of_change (C := Tryz.checked) Shut.own started (by kernel_rfl) Tryz.func10
    (ChangeSpec.witness6 (enc := enc) (C := Tryz.checked) false ⟨#[], #[], []⟩ 8 (by kernel_rfl) (by kernel_rfl) (by kernel_rfl) (by kernel_rfl)) ?_
  intro W base args ds gs before hval0 hW hcnd _
  have hval : ∀ (j : Nat) t v, Tryz.f10.params[j]? = some t → args[j]? = some v → Value.okWide Tryz.prog W .any base t v := hval0
  have hW' := hW
  obtain ⟨p, q, hA0, hV, rfl, hfz, hnd⟩ := hW
  have hA : DataW.TrodAll enc Tryz.prog W 0 (fun _ => true) true Tryz.f10.params.toList args.toList ds p := hA0
  rw [Tryz.params10] at hA hval
  obtain ⟨rfl, rfl, rfl⟩ := trodAll_none hA
  obtain ⟨rfl, rfl⟩ := trodVars_none hV
  clear hA0 hval0
  refine (walk  W ).mono fun e W' ⟨he, bel⟩ => ?_
  subst he
  exact ⟨_, rfl, _, _, _, [], _, [], hW', trodAll_mk1 (shut_bool Tryz.underlying4 _), trodAll_mk0, rfl, bel.frame _, fun h => by cases h⟩

theorem k_wf : (Rows.fnIsMapOnSampleTypesRow.wf (OpenSpec.ofChange Rows.fnIsMapOnSampleTypesSpec)) = true := by kernel_rfl
theorem k_rd : (Tryz.f10.params.all (Tryz.prog.readableRec ·)) = true := by kernel_rfl
theorem k_nt : (namedTie Tryz.prog Rows.fnIsMapOnSampleTypesRow.named Rows.fnIsMapOnSampleTypesSpec.vars) = true := by kernel_rfl
theorem k_cs : ((Rows.fnIsMapOnSampleTypesRow.stops == [])) = true := by kernel_rfl
theorem k_ck : ((Rows.fnIsMapOnSampleTypesRow.knobs == [])) = true := by kernel_rfl
theorem k_ip : ((Rows.fnIsMapOnSampleTypesRow.inPlace == Tryz.prog.inPlace 10)) = true := by kernel_rfl
theorem k_uf : ((Rows.fnIsMapOnSampleTypesRow.unfollowed == Tryz.prog.unfollowed 10)) = true := by kernel_rfl
theorem k_rc : ((Rows.fnIsMapOnSampleTypesRow.recurses == Tryz.prog.recurses 10)) = true := by kernel_rfl
theorem k_nm : ((Rows.fnIsMapOnSampleTypesRow.named == Tryz.prog.varsNamed 10)) = true := by kernel_rfl
theorem k_mp : ((Rows.fnIsMapOnSampleTypesRow.maps == (Tryz.f10.params.toList ++ Rows.fnIsMapOnSampleTypesSpec.plain.varTypes Tryz.prog).any (Tryz.prog.mapsRec ·))) = true := by kernel_rfl
theorem k_ifc : ((Rows.fnIsMapOnSampleTypesRow.ifaces == (Tryz.f10.params.toList ++ Rows.fnIsMapOnSampleTypesSpec.plain.varTypes Tryz.prog).any (Tryz.prog.ifacesRec ·))) = true := by kernel_rfl
theorem k_mo : ((Rows.fnIsMapOnSampleTypesRow.mapsOut == Tryz.prog.mapsAmong Tryz.f10.resultTypes.toList)) = true := by kernel_rfl
theorem k_lp : ((Rows.fnIsMapOnSampleTypesRow.loops == (Tryz.f10.params.toList ++ Rows.fnIsMapOnSampleTypesSpec.plain.varTypes Tryz.prog).any (Tryz.prog.loopsFrom ·))) = true := by kernel_rfl
theorem k_wk : ((Rows.fnIsMapOnSampleTypesRow.wideKeys == (Tryz.f10.params.toList ++ Rows.fnIsMapOnSampleTypesSpec.plain.varTypes Tryz.prog ++ Tryz.f10.resultTypes.toList).any (Tryz.prog.wideKeysFrom ·))) = true := by kernel_rfl
theorem k_vr : (Rows.fnIsMapOnSampleTypesSpec.vars.all (Tryz.prog.varReadable ·)) = true := by kernel_rfl
theorem k_rt : (Tryz.f10.resultTypes.all (fun t => Tryz.prog.readableRec t && decide (t < Tryz.prog.types.size))) = true := by kernel_rfl
theorem k_io : ((Rows.fnIsMapOnSampleTypesRow.ifacesOut == Tryz.f10.resultTypes.toList.any (Tryz.prog.ifacesRec ·))) = true := by kernel_rfl
theorem k_lo : ((Rows.fnIsMapOnSampleTypesRow.loopsOut == Tryz.f10.resultTypes.toList.any (Tryz.prog.loopsFrom ·))) = true := by kernel_rfl
theorem k_pk : (Rows.fnIsMapOnSampleTypesRow.plainKeys == Tryz.prog.plainKeys) = true := by rw [Shut.pk]; rfl
theorem k_st : (Rows.fnIsMapOnSampleTypesRow.shortTexts.isNone) = true := by kernel_rfl
theorem k_lf : (Rows.fnIsMapOnSampleTypesRow.lifted == Tryz.prog.liftsFinal) = true := by rw [Shut.lf]; rfl
theorem k_mk : (Tryz.prog.make == some Rows.fnIsMapOnSampleTypesRow.make) = true := by rw [Shut.mk_of _ Shut.head]; rfl
theorem k_kd : ((Rows.fnIsMapOnSampleTypesRow.kinds == (if Rows.fnIsMapOnSampleTypesRow.domain.isEmpty then [] else Tryz.f10.params.toList.map fun t => match Tryz.prog.underlying t with | some (.int k) => some k | _ => Option.none))) = true := by kernel_rfl
theorem k_pn : ((Rows.fnIsMapOnSampleTypesRow.pinned == Rows.fnIsMapOnSampleTypesRow.pinnedBy)) = true := by kernel_rfl
theorem k_ve : ((Rows.fnIsMapOnSampleTypesRow.veiled == (Tryz.f10.params.toList ++ Rows.fnIsMapOnSampleTypesSpec.plain.varTypes Tryz.prog ++ Tryz.f10.resultTypes.toList).any (Tryz.prog.veiledRec ·))) = true := by kernel_rfl
theorem k_vf : (Rows.fnIsMapOnSampleTypesRow.veiledFits Tryz.prog Tryz.f10.params.toList (Tryz.f10.params.toList ++ Rows.fnIsMapOnSampleTypesSpec.plain.varTypes Tryz.prog ++ Tryz.f10.resultTypes.toList)) = true := by kernel_rfl
set_option maxRecDepth 100000 in
theorem closedAll : joinedFacts Tryz.prog 10 Tryz.f10 Rows.fnIsMapOnSampleTypesSpec Rows.fnIsMapOnSampleTypesRow = true := (Shut.and2 (Shut.and2 (Shut.and2 (Shut.and2 (Shut.and2 (Shut.and2 (Shut.and2 (Shut.and2 (Shut.and2 (Shut.and2 (Shut.and2 (Shut.and2 (Shut.and2 (Shut.and2 (Shut.and2 (Shut.and2 (Shut.and2 (Shut.and2 (Shut.and2 (Shut.and2 (Shut.and2 (Shut.and2 (Shut.and2 (Shut.and2 (Shut.and2 (Shut.and2 (Shut.and2 (Shut.and2 (Shut.and2 (Shut.and2 (Shut.and2 k_wf Shut.laidOut) Shut.mrow) k_rd) k_nt) k_cs) Shut.stp) k_ck) Shut.stk) k_ip) k_uf) k_rc) k_nm) k_mp) k_ifc) k_mo) k_lp) k_wk) k_vr) k_rt) k_io) k_lo) k_pk) k_st) Shut.sh) Shut.me) k_lf) k_mk) k_kd) k_pn) k_ve) k_vf)
theorem fnamed : Tryz.prog.funcNamed Rows.fnIsMapOnSampleTypesRow.func = some 10 := by kernel_rfl
theorem instOk : decide (Tryz.f10.isInstance Tryz.prog Rows.fnIsMapOnSampleTypesRow.origin Rows.fnIsMapOnSampleTypesRow.targs) = true := by kernel_rfl
theorem over : Rows.fnIsMapOnSampleTypesRow.holds Tryz.pinned (OpenSpec.ofChange Rows.fnIsMapOnSampleTypesSpec) :=
  OpenClaim.holds_of_wide 10 Tryz.f10 rfl rfl rfl rfl rfl rfl rfl ⟨rfl, rfl, rfl, rfl, rfl⟩ rfl rfl rfl rfl rfl fnamed Tryz.func10 closedAll
    (of_decide_eq_true instOk) (by unfold Func.isWrapper; first | (rw [if_pos (by decide +kernel)]; kernel_rfl) | (rw [if_neg (by decide +kernel)]; exact ⟨rfl, rfl⟩))
    (fun os started H enc _ => lifted os started H enc)

theorem proved : Rows.FnIsMapOnSampleTypesSaid := over
#print axioms proved
end Go.Proofs.YtihjnbfmcemmjaaGreat.fnIsMapOnSampleTypes
