/-
  Over any number of calls on one cache ArrayFromType gives the []any nature whose element shares the one TypeData, each call with a cell of its own; without a cache the TypeData are distinct. Condition: none. (The seat was turned with the translator's switches -reflectrows -leanrows.)
-/
import Derived.Test.YtfmefomafdgfmaaGreatClosed
import Derived.Test.YtfmefomafdgfmaaGreatFnArrayFromTypeSharesCachedStructW
import Derived.WalkKit
import Derived.ProofKit
import Derived.OpenShut
import Derived.ShutString
import Derived.ChangeOld
import Derived.Below
namespace Go.Proofs.YtfmefomafdgfmaaGreat.fnArrayFromTypeSharesCachedStruct
open Go.ChangeShapes Go.WideShapes Go.ChangeAt Go.RowKit
open Go.ChangeMaps (open_string shut_string)
set_option linter.unusedVariables false
set_option maxRecDepth 100000 in
theorem lifted (os : Os) (started : os.Started) (H : Type) (enc : TypeId × Value → H) :
    ReturnsInHanded {} Tryz.checked os 12 .any (Rows.fnArrayFromTypeSharesCachedStructSpec.pre6 enc Tryz.prog Tryz.f12 Rows.fnArrayFromTypeSharesCachedStructRow.domain false) (Rows.fnArrayFromTypeSharesCachedStructSpec.post enc Tryz.prog Tryz.f12 false true false false) := by
  refine returnsInHanded_of_change (C := Tryz.checked) Shut.own started (by kernel_rfl) Tryz.func12
    (ChangeSpec.witness6 (enc := enc) (C := Tryz.checked) false ⟨#[], #[.int .i64 0], []⟩ 8 (by kernel_rfl) (by kernel_rfl) (by kernel_rfl) (by kernel_rfl)) ?_
  intro W base args ds gs before hval0 hW hcnd _
  have hval : ∀ (j : Nat) t v, Tryz.f12.params[j]? = some t → args[j]? = some v → Value.okWide Tryz.prog W .any base t v := hval0
  have hW' := hW
  obtain ⟨p, q, hA0, hV, rfl, hfz, hnd⟩ := hW
  have hA : DataW.TrodAll enc Tryz.prog W 0 (fun _ => true) true Tryz.f12.params.toList args.toList ds p := hA0
  rw [Tryz.params12] at hA hval
  obtain ⟨v0, vs0, d0, ds0, p0, q0, hargs, rfl, rfl, h0, r0⟩ := trodAll_cons hA
  obtain ⟨rfl, rfl, rfl⟩ := trodAll_nil r0
  obtain rfl : args = #[v0] := by cases args; simp_all
  obtain ⟨rfl, rfl⟩ := trodVars_none hV
  obtain ⟨a0, rfl, rfl, rfl, w0⟩ := open_int Tryz.underlying3 (hval 0 3 v0 rfl rfl) h0
  clear hA0 hval0
  refine (walk a0 W w0).mono fun e W' ⟨he, bel⟩ => ?_
  subst he
  exact ⟨_, rfl, _, _, _, [], _, [], hW', trodAll_mk1 (shut_bool Tryz.underlying4 _), (trodAll_cons_mk (shut_int Tryz.underlying3 w0) trodAll_mk0), rfl, bel.frame _, fun h => by cases h⟩

theorem k_wf : (Rows.fnArrayFromTypeSharesCachedStructRow.wf (OpenSpec.ofChange Rows.fnArrayFromTypeSharesCachedStructSpec)) = true := by kernel_rfl
theorem k_rd : (Tryz.f12.params.all (Tryz.prog.readableRec ·)) = true := by kernel_rfl
theorem k_nt : (namedTie Tryz.prog Rows.fnArrayFromTypeSharesCachedStructRow.named Rows.fnArrayFromTypeSharesCachedStructSpec.vars) = true := by kernel_rfl
theorem k_cs : ((Rows.fnArrayFromTypeSharesCachedStructRow.stops == [])) = true := by kernel_rfl
theorem k_ck : ((Rows.fnArrayFromTypeSharesCachedStructRow.knobs == [])) = true := by kernel_rfl
theorem k_ip : ((Rows.fnArrayFromTypeSharesCachedStructRow.inPlace == Tryz.prog.inPlace 12)) = true := by kernel_rfl
theorem k_uf : ((Rows.fnArrayFromTypeSharesCachedStructRow.unfollowed == Tryz.prog.unfollowed 12)) = true := by kernel_rfl
theorem k_rc : ((Rows.fnArrayFromTypeSharesCachedStructRow.recurses == Tryz.prog.recurses 12)) = true := by kernel_rfl
theorem k_nm : ((Rows.fnArrayFromTypeSharesCachedStructRow.named == Tryz.prog.varsNamed 12)) = true := by kernel_rfl
theorem k_mp : ((Rows.fnArrayFromTypeSharesCachedStructRow.maps == (Tryz.f12.params.toList ++ Rows.fnArrayFromTypeSharesCachedStructSpec.plain.varTypes Tryz.prog).any (Tryz.prog.mapsRec ·))) = true := by kernel_rfl
theorem k_ifc : ((Rows.fnArrayFromTypeSharesCachedStructRow.ifaces == (Tryz.f12.params.toList ++ Rows.fnArrayFromTypeSharesCachedStructSpec.plain.varTypes Tryz.prog).any (Tryz.prog.ifacesRec ·))) = true := by kernel_rfl
theorem k_mo : ((Rows.fnArrayFromTypeSharesCachedStructRow.mapsOut == Tryz.prog.mapsAmong Tryz.f12.resultTypes.toList)) = true := by kernel_rfl
theorem k_lp : ((Rows.fnArrayFromTypeSharesCachedStructRow.loops == (Tryz.f12.params.toList ++ Rows.fnArrayFromTypeSharesCachedStructSpec.plain.varTypes Tryz.prog).any (Tryz.prog.loopsFrom ·))) = true := by kernel_rfl
theorem k_wk : ((Rows.fnArrayFromTypeSharesCachedStructRow.wideKeys == (Tryz.f12.params.toList ++ Rows.fnArrayFromTypeSharesCachedStructSpec.plain.varTypes Tryz.prog ++ Tryz.f12.resultTypes.toList).any (Tryz.prog.wideKeysFrom ·))) = true := by kernel_rfl
theorem k_vr : (Rows.fnArrayFromTypeSharesCachedStructSpec.vars.all (Tryz.prog.varReadable ·)) = true := by kernel_rfl
theorem k_rt : (Tryz.f12.resultTypes.all (fun t => Tryz.prog.readableRec t && decide (t < Tryz.prog.types.size))) = true := by kernel_rfl
theorem k_io : ((Rows.fnArrayFromTypeSharesCachedStructRow.ifacesOut == Tryz.f12.resultTypes.toList.any (Tryz.prog.ifacesRec ·))) = true := by kernel_rfl
theorem k_lo : ((Rows.fnArrayFromTypeSharesCachedStructRow.loopsOut == Tryz.f12.resultTypes.toList.any (Tryz.prog.loopsFrom ·))) = true := by kernel_rfl
theorem k_pk : (Rows.fnArrayFromTypeSharesCachedStructRow.plainKeys == Tryz.prog.plainKeys) = true := by rw [Shut.pk]; rfl
theorem k_st : (Rows.fnArrayFromTypeSharesCachedStructRow.shortTexts.isNone) = true := by kernel_rfl
theorem k_lf : (Rows.fnArrayFromTypeSharesCachedStructRow.lifted == Tryz.prog.liftsFinal) = true := by rw [Shut.lf]; rfl
theorem k_mk : (Tryz.prog.make == some Rows.fnArrayFromTypeSharesCachedStructRow.make) = true := by rw [Shut.mk_of _ Shut.head]; rfl
theorem k_kd : ((Rows.fnArrayFromTypeSharesCachedStructRow.kinds == (if Rows.fnArrayFromTypeSharesCachedStructRow.domain.isEmpty then [] else Tryz.f12.params.toList.map fun t => match Tryz.prog.underlying t with | some (.int k) => some k | _ => Option.none))) = true := by kernel_rfl
theorem k_pn : ((Rows.fnArrayFromTypeSharesCachedStructRow.pinned == Rows.fnArrayFromTypeSharesCachedStructRow.pinnedBy)) = true := by kernel_rfl
theorem k_ve : ((Rows.fnArrayFromTypeSharesCachedStructRow.veiled == (Tryz.f12.params.toList ++ Rows.fnArrayFromTypeSharesCachedStructSpec.plain.varTypes Tryz.prog ++ Tryz.f12.resultTypes.toList).any (Tryz.prog.veiledRec ·))) = true := by kernel_rfl
theorem k_vf : (Rows.fnArrayFromTypeSharesCachedStructRow.veiledFits Tryz.prog Tryz.f12.params.toList (Tryz.f12.params.toList ++ Rows.fnArrayFromTypeSharesCachedStructSpec.plain.varTypes Tryz.prog ++ Tryz.f12.resultTypes.toList)) = true := by kernel_rfl
set_option maxRecDepth 100000 in
theorem closedAll : joinedFacts Tryz.prog 12 Tryz.f12 Rows.fnArrayFromTypeSharesCachedStructSpec Rows.fnArrayFromTypeSharesCachedStructRow = true := (Shut.and2 (Shut.and2 (Shut.and2 (Shut.and2 (Shut.and2 (Shut.and2 (Shut.and2 (Shut.and2 (Shut.and2 (Shut.and2 (Shut.and2 (Shut.and2 (Shut.and2 (Shut.and2 (Shut.and2 (Shut.and2 (Shut.and2 (Shut.and2 (Shut.and2 (Shut.and2 (Shut.and2 (Shut.and2 (Shut.and2 (Shut.and2 (Shut.and2 (Shut.and2 (Shut.and2 (Shut.and2 (Shut.and2 (Shut.and2 (Shut.and2 k_wf Shut.laidOut) Shut.mrow) k_rd) k_nt) k_cs) Shut.stp) k_ck) Shut.stk) k_ip) k_uf) k_rc) k_nm) k_mp) k_ifc) k_mo) k_lp) k_wk) k_vr) k_rt) k_io) k_lo) k_pk) k_st) Shut.sh) Shut.me) k_lf) k_mk) k_kd) k_pn) k_ve) k_vf)
theorem fnamed : Tryz.prog.funcNamed Rows.fnArrayFromTypeSharesCachedStructRow.func = some 12 := by kernel_rfl
theorem instOk : decide (Tryz.f12.isInstance Tryz.prog Rows.fnArrayFromTypeSharesCachedStructRow.origin Rows.fnArrayFromTypeSharesCachedStructRow.targs) = true := by kernel_rfl
theorem over : Rows.fnArrayFromTypeSharesCachedStructRow.holds Tryz.pinned (OpenSpec.ofChange Rows.fnArrayFromTypeSharesCachedStructSpec) :=
  OpenClaim.holds_of_wide 12 Tryz.f12 rfl rfl rfl rfl rfl rfl rfl ⟨rfl, rfl, rfl, rfl, rfl⟩ rfl rfl rfl rfl rfl fnamed Tryz.func12 closedAll
    (of_decide_eq_true instOk) (by unfold Func.isWrapper; first | (rw [if_pos (by decide +kernel)]; kernel_rfl) | (rw [if_neg (by decide +kernel)]; exact ⟨rfl, rfl⟩))
    (fun os started H enc _ => lifted os started H enc)

theorem proved : Rows.FnArrayFromTypeSharesCachedStructSaid := over
#print axioms proved
end Go.Proofs.YtfmefomafdgfmaaGreat.fnArrayFromTypeSharesCachedStruct
