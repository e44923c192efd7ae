/-
  ArrayFromType is the []any nature whose Ref is the nature of the element type, with a nil or a fresh cache. Condition: none. (The seat was turned with the translator's switches -reflectrows -leanrows.)
-/
import Derived.Test.YtfmefomafdgfmaaGreatClosed
import Derived.Test.YtfmefomafdgfmaaGreatFnArrayFromTypeElemAgreesW
import Derived.WalkKit
import Derived.ProofKit
import Derived.OpenShut
import Derived.ShutString
import Derived.ChangeOld
import Derived.Below
namespace Go.Proofs.YtfmefomafdgfmaaGreat.fnArrayFromTypeElemAgrees
open Go.ChangeShapes Go.WideShapes Go.ChangeAt Go.RowKit
open Go.ChangeMaps (open_string shut_string)
set_option linter.unusedVariables false
set_option maxRecDepth 100000 in
theorem lifted (os : Os) (started : os.Started) (H : Type) (enc : TypeId × Value → H) :
    ReturnsInHanded {} Tryz.checked os 3 .any (Rows.fnArrayFromTypeElemAgreesSpec.pre6 enc Tryz.prog Tryz.f3 Rows.fnArrayFromTypeElemAgreesRow.domain false) (Rows.fnArrayFromTypeElemAgreesSpec.post enc Tryz.prog Tryz.f3 false true false false) := by
  refine returnsInHanded_of_change (C := Tryz.checked) Shut.own started (by kernel_rfl) Tryz.func3
    (ChangeSpec.witness6 (enc := enc) (C := Tryz.checked) false ⟨#[], #[.int .i64 0, .bool false], []⟩ 8 (by kernel_rfl) (by kernel_rfl) (by kernel_rfl) (by kernel_rfl)) ?_
  intro W base args ds gs before hval0 hW hcnd _
  have hval : ∀ (j : Nat) t v, Tryz.f3.params[j]? = some t → args[j]? = some v → Value.okWide Tryz.prog W .any base t v := hval0
  have hW' := hW
  obtain ⟨p, q, hA0, hV, rfl, hfz, hnd⟩ := hW
  have hA : DataW.TrodAll enc Tryz.prog W 0 (fun _ => true) true Tryz.f3.params.toList args.toList ds p := hA0
  rw [Tryz.params3] at hA hval
  obtain ⟨v0, vs0, d0, ds0, p0, q0, hargs, rfl, rfl, h0, r0⟩ := trodAll_cons hA
  obtain ⟨v1, vs1, d1, ds1, p1, q1, rfl, rfl, rfl, h1, r1⟩ := trodAll_cons r0
  obtain ⟨rfl, rfl, rfl⟩ := trodAll_nil r1
  obtain rfl : args = #[v0, v1] := by cases args; simp_all
  obtain ⟨rfl, rfl⟩ := trodVars_none hV
  obtain ⟨a0, rfl, rfl, rfl, w0⟩ := open_int Tryz.underlying3 (hval 0 3 v0 rfl rfl) h0
  obtain ⟨a1, rfl, rfl, rfl⟩ := open_bool Tryz.underlying4 (hval 1 4 v1 rfl rfl) h1
  clear hA0 hval0
  refine (walk a0 a1 W w0).mono fun e W' ⟨he, bel⟩ => ?_
  subst he
  exact ⟨_, rfl, _, _, _, [], _, [], hW', trodAll_mk1 (shut_bool Tryz.underlying4 _), (trodAll_cons_mk (shut_int Tryz.underlying3 w0) (trodAll_cons_mk (shut_bool Tryz.underlying4 _) trodAll_mk0)), rfl, bel.frame _, fun h => by cases h⟩

theorem k_wf : (Rows.fnArrayFromTypeElemAgreesRow.wf (OpenSpec.ofChange Rows.fnArrayFromTypeElemAgreesSpec)) = true := by kernel_rfl
theorem k_rd : (Tryz.f3.params.all (Tryz.prog.readableRec ·)) = true := by kernel_rfl
theorem k_nt : (namedTie Tryz.prog Rows.fnArrayFromTypeElemAgreesRow.named Rows.fnArrayFromTypeElemAgreesSpec.vars) = true := by kernel_rfl
theorem k_cs : ((Rows.fnArrayFromTypeElemAgreesRow.stops == [])) = true := by kernel_rfl
theorem k_ck : ((Rows.fnArrayFromTypeElemAgreesRow.knobs == [])) = true := by kernel_rfl
theorem k_ip : ((Rows.fnArrayFromTypeElemAgreesRow.inPlace == Tryz.prog.inPlace 3)) = true := by kernel_rfl
theorem k_uf : ((Rows.fnArrayFromTypeElemAgreesRow.unfollowed == Tryz.prog.unfollowed 3)) = true := by kernel_rfl
theorem k_rc : ((Rows.fnArrayFromTypeElemAgreesRow.recurses == Tryz.prog.recurses 3)) = true := by kernel_rfl
theorem k_nm : ((Rows.fnArrayFromTypeElemAgreesRow.named == Tryz.prog.varsNamed 3)) = true := by kernel_rfl
theorem k_mp : ((Rows.fnArrayFromTypeElemAgreesRow.maps == (Tryz.f3.params.toList ++ Rows.fnArrayFromTypeElemAgreesSpec.plain.varTypes Tryz.prog).any (Tryz.prog.mapsRec ·))) = true := by kernel_rfl
theorem k_ifc : ((Rows.fnArrayFromTypeElemAgreesRow.ifaces == (Tryz.f3.params.toList ++ Rows.fnArrayFromTypeElemAgreesSpec.plain.varTypes Tryz.prog).any (Tryz.prog.ifacesRec ·))) = true := by kernel_rfl
theorem k_mo : ((Rows.fnArrayFromTypeElemAgreesRow.mapsOut == Tryz.prog.mapsAmong Tryz.f3.resultTypes.toList)) = true := by kernel_rfl
theorem k_lp : ((Rows.fnArrayFromTypeElemAgreesRow.loops == (Tryz.f3.params.toList ++ Rows.fnArrayFromTypeElemAgreesSpec.plain.varTypes Tryz.prog).any (Tryz.prog.loopsFrom ·))) = true := by kernel_rfl
theorem k_wk : ((Rows.fnArrayFromTypeElemAgreesRow.wideKeys == (Tryz.f3.params.toList ++ Rows.fnArrayFromTypeElemAgreesSpec.plain.varTypes Tryz.prog ++ Tryz.f3.resultTypes.toList).any (Tryz.prog.wideKeysFrom ·))) = true := by kernel_rfl
theorem k_vr : (Rows.fnArrayFromTypeElemAgreesSpec.vars.all (Tryz.prog.varReadable ·)) = true := by kernel_rfl
theorem k_rt : (Tryz.f3.resultTypes.all (fun t => Tryz.prog.readableRec t && decide (t < Tryz.prog.types.size))) = true := by kernel_rfl
theorem k_io : ((Rows.fnArrayFromTypeElemAgreesRow.ifacesOut == Tryz.f3.resultTypes.toList.any (Tryz.prog.ifacesRec ·))) = true := by kernel_rfl
theorem k_lo : ((Rows.fnArrayFromTypeElemAgreesRow.loopsOut == Tryz.f3.resultTypes.toList.any (Tryz.prog.loopsFrom ·))) = true := by kernel_rfl
theorem k_pk : (Rows.fnArrayFromTypeElemAgreesRow.plainKeys == Tryz.prog.plainKeys) = true := by rw [Shut.pk]; rfl
theorem k_st : (Rows.fnArrayFromTypeElemAgreesRow.shortTexts.isNone) = true := by kernel_rfl
theorem k_lf : (Rows.fnArrayFromTypeElemAgreesRow.lifted == Tryz.prog.liftsFinal) = true := by rw [Shut.lf]; rfl
theorem k_mk : (Tryz.prog.make == some Rows.fnArrayFromTypeElemAgreesRow.make) = true := by rw [Shut.mk_of _ Shut.head]; rfl
theorem k_kd : ((Rows.fnArrayFromTypeElemAgreesRow.kinds == (if Rows.fnArrayFromTypeElemAgreesRow.domain.isEmpty then [] else Tryz.f3.params.toList.map fun t => match Tryz.prog.underlying t with | some (.int k) => some k | _ => Option.none))) = true := by kernel_rfl
theorem k_pn : ((Rows.fnArrayFromTypeElemAgreesRow.pinned == Rows.fnArrayFromTypeElemAgreesRow.pinnedBy)) = true := by kernel_rfl
theorem k_ve : ((Rows.fnArrayFromTypeElemAgreesRow.veiled == (Tryz.f3.params.toList ++ Rows.fnArrayFromTypeElemAgreesSpec.plain.varTypes Tryz.prog ++ Tryz.f3.resultTypes.toList).any (Tryz.prog.veiledRec ·))) = true := by kernel_rfl
theorem k_vf : (Rows.fnArrayFromTypeElemAgreesRow.veiledFits Tryz.prog Tryz.f3.params.toList (Tryz.f3.params.toList ++ Rows.fnArrayFromTypeElemAgreesSpec.plain.varTypes Tryz.prog ++ Tryz.f3.resultTypes.toList)) = true := by kernel_rfl
set_option maxRecDepth 100000 in
theorem closedAll : joinedFacts Tryz.prog 3 Tryz.f3 Rows.fnArrayFromTypeElemAgreesSpec Rows.fnArrayFromTypeElemAgreesRow = true := (Shut.and2 (Shut.and2 (Shut.and2 (Shut.and2 (Shut.and2 (Shut.and2 (Shut.and2 (Shut.and2 (Shut.and2 (Shut.and2 (Shut.and2 (Shut.and2 (Shut.and2 (Shut.and2 (Shut.and2 (Shut.and2 (Shut.and2 (Shut.and2 (Shut.and2 (Shut.and2 (Shut.and2 (Shut.and2 (Shut.and2 (Shut.and2 (Shut.and2 (Shut.and2 (Shut.and2 (Shut.and2 (Shut.and2 (Shut.and2 (Shut.and2 k_wf Shut.laidOut) Shut.mrow) k_rd) k_nt) k_cs) Shut.stp) k_ck) Shut.stk) k_ip) k_uf) k_rc) k_nm) k_mp) k_ifc) k_mo) k_lp) k_wk) k_vr) k_rt) k_io) k_lo) k_pk) k_st) Shut.sh) Shut.me) k_lf) k_mk) k_kd) k_pn) k_ve) k_vf)
theorem fnamed : Tryz.prog.funcNamed Rows.fnArrayFromTypeElemAgreesRow.func = some 3 := by kernel_rfl
theorem instOk : decide (Tryz.f3.isInstance Tryz.prog Rows.fnArrayFromTypeElemAgreesRow.origin Rows.fnArrayFromTypeElemAgreesRow.targs) = true := by kernel_rfl
theorem over : Rows.fnArrayFromTypeElemAgreesRow.holds Tryz.pinned (OpenSpec.ofChange Rows.fnArrayFromTypeElemAgreesSpec) :=
  OpenClaim.holds_of_wide 3 Tryz.f3 rfl rfl rfl rfl rfl rfl rfl ⟨rfl, rfl, rfl, rfl, rfl⟩ rfl rfl rfl rfl rfl fnamed Tryz.func3 closedAll
    (of_decide_eq_true instOk) (by unfold Func.isWrapper; first | (rw [if_pos (by decide +kernel)]; kernel_rfl) | (rw [if_neg (by decide +kernel)]; exact ⟨rfl, rfl⟩))
    (fun os started H enc _ => lifted os started H enc)

theorem proved : Rows.FnArrayFromTypeElemAgreesSaid := over
#print axioms proved
end Go.Proofs.YtfmefomafdgfmaaGreat.fnArrayFromTypeElemAgrees
