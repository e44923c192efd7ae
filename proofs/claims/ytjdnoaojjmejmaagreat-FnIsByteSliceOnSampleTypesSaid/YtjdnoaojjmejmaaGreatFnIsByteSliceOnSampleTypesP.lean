/-
  IsByteSlice is true for the natures of []byte and []uint8, and false for those of a named byte-slice type, [4]byte, []int, []any, string, *[]byte, map[string]any and bool. Condition: none. (The seat was turned with the translator's switches -reflectrows -leanrows.)
-/
import Derived.Test.YtjdnoaojjmejmaaGreatClosed
import Derived.Test.YtjdnoaojjmejmaaGreatFnIsByteSliceOnSampleTypesW
import Derived.WalkKit
import Derived.ProofKit
import Derived.OpenShut
import Derived.ShutString
import Derived.ChangeOld
import Derived.Below
namespace Go.Proofs.YtjdnoaojjmejmaaGreat.fnIsByteSliceOnSampleTypes
open Go.ChangeShapes Go.WideShapes Go.ChangeAt Go.RowKit
open Go.ChangeMaps (open_string shut_string)
set_option linter.unusedVariables false
set_option maxRecDepth 100000 in
theorem lifted (os : Os) (started : os.Started) (H : Type) (enc : TypeId × Value → H) :
    ReturnsInHanded {} Tryz.checked os 5 .any (Rows.fnIsByteSliceOnSampleTypesSpec.pre6 enc Tryz.prog Tryz.f5 Rows.fnIsByteSliceOnSampleTypesRow.domain false) (Rows.fnIsByteSliceOnSampleTypesSpec.post enc Tryz.prog Tryz.f5 false true false false) := by
  refine returnsInHanded_of_change (C := Tryz.checked) Shut.own started (by kernel_rfl) Tryz.func5
    (ChangeSpec.witness6 (enc := enc) (C := Tryz.checked) false ⟨#[], #[], []⟩ 8 (by kernel_rfl) (by kernel_rfl) (by kernel_rfl) (by kernel_rfl)) ?_
  intro W base args ds gs before hval0 hW hcnd _
  have hval : ∀ (j : Nat) t v, Tryz.f5.params[j]? = some t → args[j]? = some v → Value.okWide Tryz.prog W .any base t v := hval0
  have hW' := hW
  obtain ⟨p, q, hA0, hV, rfl, hfz, hnd⟩ := hW
  have hA : DataW.TrodAll enc Tryz.prog W 0 (fun _ => true) true Tryz.f5.params.toList args.toList ds p := hA0
  rw [Tryz.params5] at hA hval
  obtain ⟨rfl, rfl, rfl⟩ := trodAll_none hA
  obtain ⟨rfl, rfl⟩ := trodVars_none hV
  clear hA0 hval0
  refine (walk  W ).mono fun e W' ⟨he, bel⟩ => ?_
  subst he
  exact ⟨_, rfl, _, _, _, [], _, [], hW', trodAll_mk1 (shut_bool Tryz.underlying4 _), trodAll_mk0, rfl, bel.frame _, fun h => by cases h⟩

theorem k_wf : (Rows.fnIsByteSliceOnSampleTypesRow.wf (OpenSpec.ofChange Rows.fnIsByteSliceOnSampleTypesSpec)) = true := by kernel_rfl
theorem k_rd : (Tryz.f5.params.all (Tryz.prog.readableRec ·)) = true := by kernel_rfl
theorem k_nt : (namedTie Tryz.prog Rows.fnIsByteSliceOnSampleTypesRow.named Rows.fnIsByteSliceOnSampleTypesSpec.vars) = true := by kernel_rfl
theorem k_cs : ((Rows.fnIsByteSliceOnSampleTypesRow.stops == [])) = true := by kernel_rfl
theorem k_ck : ((Rows.fnIsByteSliceOnSampleTypesRow.knobs == [])) = true := by kernel_rfl
theorem k_ip : ((Rows.fnIsByteSliceOnSampleTypesRow.inPlace == Tryz.prog.inPlace 5)) = true := by kernel_rfl
theorem k_uf : ((Rows.fnIsByteSliceOnSampleTypesRow.unfollowed == Tryz.prog.unfollowed 5)) = true := by kernel_rfl
theorem k_rc : ((Rows.fnIsByteSliceOnSampleTypesRow.recurses == Tryz.prog.recurses 5)) = true := by kernel_rfl
theorem k_nm : ((Rows.fnIsByteSliceOnSampleTypesRow.named == Tryz.prog.varsNamed 5)) = true := by kernel_rfl
theorem k_mp : ((Rows.fnIsByteSliceOnSampleTypesRow.maps == (Tryz.f5.params.toList ++ Rows.fnIsByteSliceOnSampleTypesSpec.plain.varTypes Tryz.prog).any (Tryz.prog.mapsRec ·))) = true := by kernel_rfl
theorem k_ifc : ((Rows.fnIsByteSliceOnSampleTypesRow.ifaces == (Tryz.f5.params.toList ++ Rows.fnIsByteSliceOnSampleTypesSpec.plain.varTypes Tryz.prog).any (Tryz.prog.ifacesRec ·))) = true := by kernel_rfl
theorem k_mo : ((Rows.fnIsByteSliceOnSampleTypesRow.mapsOut == Tryz.prog.mapsAmong Tryz.f5.resultTypes.toList)) = true := by kernel_rfl
theorem k_lp : ((Rows.fnIsByteSliceOnSampleTypesRow.loops == (Tryz.f5.params.toList ++ Rows.fnIsByteSliceOnSampleTypesSpec.plain.varTypes Tryz.prog).any (Tryz.prog.loopsFrom ·))) = true := by kernel_rfl
theorem k_wk : ((Rows.fnIsByteSliceOnSampleTypesRow.wideKeys == (Tryz.f5.params.toList ++ Rows.fnIsByteSliceOnSampleTypesSpec.plain.varTypes Tryz.prog ++ Tryz.f5.resultTypes.toList).any (Tryz.prog.wideKeysFrom ·))) = true := by kernel_rfl
theorem k_vr : (Rows.fnIsByteSliceOnSampleTypesSpec.vars.all (Tryz.prog.varReadable ·)) = true := by kernel_rfl
theorem k_rt : (Tryz.f5.resultTypes.all (fun t => Tryz.prog.readableRec t && decide (t < Tryz.prog.types.size))) = true := by kernel_rfl
theorem k_io : ((Rows.fnIsByteSliceOnSampleTypesRow.ifacesOut == Tryz.f5.resultTypes.toList.any (Tryz.prog.ifacesRec ·))) = true := by kernel_rfl
theorem k_lo : ((Rows.fnIsByteSliceOnSampleTypesRow.loopsOut == Tryz.f5.resultTypes.toList.any (Tryz.prog.loopsFrom ·))) = true := by kernel_rfl
theorem k_pk : (Rows.fnIsByteSliceOnSampleTypesRow.plainKeys == Tryz.prog.plainKeys) = true := by rw [Shut.pk]; rfl
theorem k_st : (Rows.fnIsByteSliceOnSampleTypesRow.shortTexts.isNone) = true := by kernel_rfl
theorem k_lf : (Rows.fnIsByteSliceOnSampleTypesRow.lifted == Tryz.prog.liftsFinal) = true := by rw [Shut.lf]; rfl
theorem k_mk : (Tryz.prog.make == some Rows.fnIsByteSliceOnSampleTypesRow.make) = true := by rw [Shut.mk_of _ Shut.head]; rfl
theorem k_kd : ((Rows.fnIsByteSliceOnSampleTypesRow.kinds == (if Rows.fnIsByteSliceOnSampleTypesRow.domain.isEmpty then [] else Tryz.f5.params.toList.map fun t => match Tryz.prog.underlying t with | some (.int k) => some k | _ => Option.none))) = true := by kernel_rfl
theorem k_pn : ((Rows.fnIsByteSliceOnSampleTypesRow.pinned == Rows.fnIsByteSliceOnSampleTypesRow.pinnedBy)) = true := by kernel_rfl
theorem k_ve : ((Rows.fnIsByteSliceOnSampleTypesRow.veiled == (Tryz.f5.params.toList ++ Rows.fnIsByteSliceOnSampleTypesSpec.plain.varTypes Tryz.prog ++ Tryz.f5.resultTypes.toList).any (Tryz.prog.veiledRec ·))) = true := by kernel_rfl
theorem k_vf : (Rows.fnIsByteSliceOnSampleTypesRow.veiledFits Tryz.prog Tryz.f5.params.toList (Tryz.f5.params.toList ++ Rows.fnIsByteSliceOnSampleTypesSpec.plain.varTypes Tryz.prog ++ Tryz.f5.resultTypes.toList)) = true := by kernel_rfl
set_option maxRecDepth 100000 in
theorem closedAll : joinedFacts Tryz.prog 5 Tryz.f5 Rows.fnIsByteSliceOnSampleTypesSpec Rows.fnIsByteSliceOnSampleTypesRow = true := (Shut.and2 (Shut.and2 (Shut.and2 (Shut.and2 (Shut.and2 (Shut.and2 (Shut.and2 (Shut.and2 (Shut.and2 (Shut.and2 (Shut.and2 (Shut.and2 (Shut.and2 (Shut.and2 (Shut.and2 (Shut.and2 (Shut.and2 (Shut.and2 (Shut.and2 (Shut.and2 (Shut.and2 (Shut.and2 (Shut.and2 (Shut.and2 (Shut.and2 (Shut.and2 (Shut.and2 (Shut.and2 (Shut.and2 (Shut.and2 (Shut.and2 k_wf Shut.laidOut) Shut.mrow) k_rd) k_nt) k_cs) Shut.stp) k_ck) Shut.stk) k_ip) k_uf) k_rc) k_nm) k_mp) k_ifc) k_mo) k_lp) k_wk) k_vr) k_rt) k_io) k_lo) k_pk) k_st) Shut.sh) Shut.me) k_lf) k_mk) k_kd) k_pn) k_ve) k_vf)
theorem fnamed : Tryz.prog.funcNamed Rows.fnIsByteSliceOnSampleTypesRow.func = some 5 := by kernel_rfl
theorem instOk : decide (Tryz.f5.isInstance Tryz.prog Rows.fnIsByteSliceOnSampleTypesRow.origin Rows.fnIsByteSliceOnSampleTypesRow.targs) = true := by kernel_rfl
theorem over : Rows.fnIsByteSliceOnSampleTypesRow.holds Tryz.pinned (OpenSpec.ofChange Rows.fnIsByteSliceOnSampleTypesSpec) :=
  OpenClaim.holds_of_wide 5 Tryz.f5 rfl rfl rfl rfl rfl rfl rfl ⟨rfl, rfl, rfl, rfl, rfl⟩ rfl rfl rfl rfl rfl fnamed Tryz.func5 closedAll
    (of_decide_eq_true instOk) (by unfold Func.isWrapper; first | (rw [if_pos (by decide +kernel)]; kernel_rfl) | (rw [if_neg (by decide +kernel)]; exact ⟨rfl, rfl⟩))
    (fun os started H enc _ => lifted os started H enc)

theorem proved : Rows.FnIsByteSliceOnSampleTypesSaid := over
#print axioms proved
end Go.Proofs.YtjdnoaojjmejmaaGreat.fnIsByteSliceOnSampleTypes
