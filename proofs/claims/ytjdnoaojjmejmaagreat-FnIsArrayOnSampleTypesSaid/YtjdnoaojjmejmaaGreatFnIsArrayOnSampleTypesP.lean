/-
  IsArray is true for the natures of []byte, a named byte-slice type, [4]byte, []int and []any, and false for those of string, map[string]any, bool and *[]byte; every byte slice is an array. Condition: none. (The seat was turned with the translator's switches -reflectrows -leanrows.)
-/
import Derived.Test.YtjdnoaojjmejmaaGreatClosed
import Derived.Test.YtjdnoaojjmejmaaGreatFnIsArrayOnSampleTypesW
import Derived.WalkKit
import Derived.ProofKit
import Derived.OpenShut
import Derived.ShutString
import Derived.ChangeOld
import Derived.Below
namespace Go.Proofs.YtjdnoaojjmejmaaGreat.fnIsArrayOnSampleTypes
open Go.ChangeShapes Go.WideShapes Go.ChangeAt Go.RowKit
open Go.ChangeMaps (open_string shut_string)
set_option linter.unusedVariables false
set_option maxRecDepth 100000 in
theorem lifted (os : Os) (started : os.Started) (H : Type) (enc : TypeId × Value → H) :
    ReturnsInHanded {} Tryz.checked os 8 .any (Rows.fnIsArrayOnSampleTypesSpec.pre6 enc Tryz.prog Tryz.f8 Rows.fnIsArrayOnSampleTypesRow.domain false) (Rows.fnIsArrayOnSampleTypesSpec.post enc Tryz.prog Tryz.f8 false true false false) := by
  refine returnsInHanded_of_change (C := Tryz.checked) Shut.own started (by kernel_rfl) Tryz.func8
    (ChangeSpec.witness6 (enc := enc) (C := Tryz.checked) false ⟨#[], #[], []⟩ 8 (by kernel_rfl) (by kernel_rfl) (by kernel_rfl) (by kernel_rfl)) ?_
  intro W base args ds gs before hval0 hW hcnd _
  have hval : ∀ (j : Nat) t v, Tryz.f8.params[j]? = some t → args[j]? = some v → Value.okWide Tryz.prog W .any base t v := hval0
  have hW' := hW
  obtain ⟨p, q, hA0, hV, rfl, hfz, hnd⟩ := hW
  have hA : DataW.TrodAll enc Tryz.prog W 0 (fun _ => true) true Tryz.f8.params.toList args.toList ds p := hA0
  rw [Tryz.params8] at hA hval
  obtain ⟨rfl, rfl, rfl⟩ := trodAll_none hA
  obtain ⟨rfl, rfl⟩ := trodVars_none hV
  clear hA0 hval0
  refine (walk  W ).mono fun e W' ⟨he, bel⟩ => ?_
  subst he
  exact ⟨_, rfl, _, _, _, [], _, [], hW', trodAll_mk1 (shut_bool Tryz.underlying4 _), trodAll_mk0, rfl, bel.frame _, fun h => by cases h⟩

theorem k_wf : (Rows.fnIsArrayOnSampleTypesRow.wf (OpenSpec.ofChange Rows.fnIsArrayOnSampleTypesSpec)) = true := by kernel_rfl
theorem k_rd : (Tryz.f8.params.all (Tryz.prog.readableRec ·)) = true := by kernel_rfl
theorem k_nt : (namedTie Tryz.prog Rows.fnIsArrayOnSampleTypesRow.named Rows.fnIsArrayOnSampleTypesSpec.vars) = true := by kernel_rfl
theorem k_cs : ((Rows.fnIsArrayOnSampleTypesRow.stops == [])) = true := by kernel_rfl
theorem k_ck : ((Rows.fnIsArrayOnSampleTypesRow.knobs == [])) = true := by kernel_rfl
theorem k_ip : ((Rows.fnIsArrayOnSampleTypesRow.inPlace == Tryz.prog.inPlace 8)) = true := by kernel_rfl
theorem k_uf : ((Rows.fnIsArrayOnSampleTypesRow.unfollowed == Tryz.prog.unfollowed 8)) = true := by kernel_rfl
theorem k_rc : ((Rows.fnIsArrayOnSampleTypesRow.recurses == Tryz.prog.recurses 8)) = true := by kernel_rfl
theorem k_nm : ((Rows.fnIsArrayOnSampleTypesRow.named == Tryz.prog.varsNamed 8)) = true := by kernel_rfl
theorem k_mp : ((Rows.fnIsArrayOnSampleTypesRow.maps == (Tryz.f8.params.toList ++ Rows.fnIsArrayOnSampleTypesSpec.plain.varTypes Tryz.prog).any (Tryz.prog.mapsRec ·))) = true := by kernel_rfl
theorem k_ifc : ((Rows.fnIsArrayOnSampleTypesRow.ifaces == (Tryz.f8.params.toList ++ Rows.fnIsArrayOnSampleTypesSpec.plain.varTypes Tryz.prog).any (Tryz.prog.ifacesRec ·))) = true := by kernel_rfl
theorem k_mo : ((Rows.fnIsArrayOnSampleTypesRow.mapsOut == Tryz.prog.mapsAmong Tryz.f8.resultTypes.toList)) = true := by kernel_rfl
theorem k_lp : ((Rows.fnIsArrayOnSampleTypesRow.loops == (Tryz.f8.params.toList ++ Rows.fnIsArrayOnSampleTypesSpec.plain.varTypes Tryz.prog).any (Tryz.prog.loopsFrom ·))) = true := by kernel_rfl
theorem k_wk : ((Rows.fnIsArrayOnSampleTypesRow.wideKeys == (Tryz.f8.params.toList ++ Rows.fnIsArrayOnSampleTypesSpec.plain.varTypes Tryz.prog ++ Tryz.f8.resultTypes.toList).any (Tryz.prog.wideKeysFrom ·))) = true := by kernel_rfl
theorem k_vr : (Rows.fnIsArrayOnSampleTypesSpec.vars.all (Tryz.prog.varReadable ·)) = true := by kernel_rfl
theorem k_rt : (Tryz.f8.resultTypes.all (fun t => Tryz.prog.readableRec t && decide (t < Tryz.prog.types.size))) = true := by kernel_rfl
theorem k_io : ((Rows.fnIsArrayOnSampleTypesRow.ifacesOut == Tryz.f8.resultTypes.toList.any (Tryz.prog.ifacesRec ·))) = true := by kernel_rfl
theorem k_lo : ((Rows.fnIsArrayOnSampleTypesRow.loopsOut == Tryz.f8.resultTypes.toList.any (Tryz.prog.loopsFrom ·))) = true := by kernel_rfl
theorem k_pk : (Rows.fnIsArrayOnSampleTypesRow.plainKeys == Tryz.prog.plainKeys) = true := by rw [Shut.pk]; rfl
theorem k_st : (Rows.fnIsArrayOnSampleTypesRow.shortTexts.isNone) = true := by kernel_rfl
theorem k_lf : (Rows.fnIsArrayOnSampleTypesRow.lifted == Tryz.prog.liftsFinal) = true := by rw [Shut.lf]; rfl
theorem k_mk : (Tryz.prog.make == some Rows.fnIsArrayOnSampleTypesRow.make) = true := by rw [Shut.mk_of _ Shut.head]; rfl
theorem k_kd : ((Rows.fnIsArrayOnSampleTypesRow.kinds == (if Rows.fnIsArrayOnSampleTypesRow.domain.isEmpty then [] else Tryz.f8.params.toList.map fun t => match Tryz.prog.underlying t with | some (.int k) => some k | _ => Option.none))) = true := by kernel_rfl
theorem k_pn : ((Rows.fnIsArrayOnSampleTypesRow.pinned == Rows.fnIsArrayOnSampleTypesRow.pinnedBy)) = true := by kernel_rfl
theorem k_ve : ((Rows.fnIsArrayOnSampleTypesRow.veiled == (Tryz.f8.params.toList ++ Rows.fnIsArrayOnSampleTypesSpec.plain.varTypes Tryz.prog ++ Tryz.f8.resultTypes.toList).any (Tryz.prog.veiledRec ·))) = true := by kernel_rfl
theorem k_vf : (Rows.fnIsArrayOnSampleTypesRow.veiledFits Tryz.prog Tryz.f8.params.toList (Tryz.f8.params.toList ++ Rows.fnIsArrayOnSampleTypesSpec.plain.varTypes Tryz.prog ++ Tryz.f8.resultTypes.toList)) = true := by kernel_rfl
set_option maxRecDepth 100000 in
theorem closedAll : joinedFacts Tryz.prog 8 Tryz.f8 Rows.fnIsArrayOnSampleTypesSpec Rows.fnIsArrayOnSampleTypesRow = true := (Shut.and2 (Shut.and2 (Shut.and2 (Shut.and2 (Shut.and2 (Shut.and2 (Shut.and2 (Shut.and2 (Shut.and2 (Shut.and2 (Shut.and2 (Shut.and2 (Shut.and2 (Shut.and2 (Shut.and2 (Shut.and2 (Shut.and2 (Shut.and2 (Shut.and2 (Shut.and2 (Shut.and2 (Shut.and2 (Shut.and2 (Shut.and2 (Shut.and2 (Shut.and2 (Shut.and2 (Shut.and2 (Shut.and2 (Shut.and2 (Shut.and2 k_wf Shut.laidOut) Shut.mrow) k_rd) k_nt) k_cs) Shut.stp) k_ck) Shut.stk) k_ip) k_uf) k_rc) k_nm) k_mp) k_ifc) k_mo) k_lp) k_wk) k_vr) k_rt) k_io) k_lo) k_pk) k_st) Shut.sh) Shut.me) k_lf) k_mk) k_kd) k_pn) k_ve) k_vf)
theorem fnamed : Tryz.prog.funcNamed Rows.fnIsArrayOnSampleTypesRow.func = some 8 := by kernel_rfl
theorem instOk : decide (Tryz.f8.isInstance Tryz.prog Rows.fnIsArrayOnSampleTypesRow.origin Rows.fnIsArrayOnSampleTypesRow.targs) = true := by kernel_rfl
theorem over : Rows.fnIsArrayOnSampleTypesRow.holds Tryz.pinned (OpenSpec.ofChange Rows.fnIsArrayOnSampleTypesSpec) :=
  OpenClaim.holds_of_wide 8 Tryz.f8 rfl rfl rfl rfl rfl rfl rfl ⟨rfl, rfl, rfl, rfl, rfl⟩ rfl rfl rfl rfl rfl fnamed Tryz.func8 closedAll
    (of_decide_eq_true instOk) (by unfold Func.isWrapper; first | (rw [if_pos (by decide +kernel)]; kernel_rfl) | (rw [if_neg (by decide +kernel)]; exact ⟨rfl, rfl⟩))
    (fun os started H enc _ => lifted os started H enc)

theorem proved : Rows.FnIsArrayOnSampleTypesSaid := over
#print axioms proved
end Go.Proofs.YtjdnoaojjmejmaaGreat.fnIsArrayOnSampleTypes
