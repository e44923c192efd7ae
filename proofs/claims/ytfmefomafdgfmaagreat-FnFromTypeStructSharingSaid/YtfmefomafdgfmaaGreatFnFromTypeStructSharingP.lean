/-
  One cache hands out one and the same data for a struct type; another cache other data; without a cache each call builds its own; a pointer to a struct gets none. Condition: none. (The seat was turned with the translator's switches -reflectrows -leanrows.)
-/
import Derived.Test.YtfmefomafdgfmaaGreatClosed
import Derived.Test.YtfmefomafdgfmaaGreatFnFromTypeStructSharingW
import Derived.WalkKit
import Derived.ProofKit
import Derived.OpenShut
import Derived.ShutString
import Derived.ChangeOld
import Derived.Below
namespace Go.Proofs.YtfmefomafdgfmaaGreat.fnFromTypeStructSharing
open Go.ChangeShapes Go.WideShapes Go.ChangeAt Go.RowKit
open Go.ChangeMaps (open_string shut_string)
set_option linter.unusedVariables false
set_option maxRecDepth 100000 in
theorem lifted (os : Os) (started : os.Started) (H : Type) (enc : TypeId × Value → H) :
    ReturnsInHanded {} Tryz.checked os 11 .any (Rows.fnFromTypeStructSharingSpec.pre6 enc Tryz.prog Tryz.f11 Rows.fnFromTypeStructSharingRow.domain false) (Rows.fnFromTypeStructSharingSpec.post enc Tryz.prog Tryz.f11 false true false false) := by
  refine returnsInHanded_of_change (C := Tryz.checked) Shut.own started (by kernel_rfl) Tryz.func11
    (ChangeSpec.witness6 (enc := enc) (C := Tryz.checked) false ⟨#[], #[.int .i64 0], []⟩ 8 (by kernel_rfl) (by kernel_rfl) (by kernel_rfl) (by kernel_rfl)) ?_
  intro W base args ds gs before hval0 hW hcnd _
  have hval : ∀ (j : Nat) t v, Tryz.f11.params[j]? = some t → args[j]? = some v → Value.okWide Tryz.prog W .any base t v := hval0
  have hW' := hW
  obtain ⟨p, q, hA0, hV, rfl, hfz, hnd⟩ := hW
  have hA : DataW.TrodAll enc Tryz.prog W 0 (fun _ => true) true Tryz.f11.params.toList args.toList ds p := hA0
  rw [Tryz.params11] at hA hval
  obtain ⟨v0, vs0, d0, ds0, p0, q0, hargs, rfl, rfl, h0, r0⟩ := trodAll_cons hA
  obtain ⟨rfl, rfl, rfl⟩ := trodAll_nil r0
  obtain rfl : args = #[v0] := by cases args; simp_all
  obtain ⟨rfl, rfl⟩ := trodVars_none hV
  obtain ⟨a0, rfl, rfl, rfl, w0⟩ := open_int Tryz.underlying3 (hval 0 3 v0 rfl rfl) h0
  clear hA0 hval0
  refine (walk a0 W w0).mono fun e W' ⟨he, bel⟩ => ?_
  subst he
  exact ⟨_, rfl, _, _, _, [], _, [], hW', trodAll_mk1 (shut_bool Tryz.underlying4 _), (trodAll_cons_mk (shut_int Tryz.underlying3 w0) trodAll_mk0), rfl, bel.frame _, fun h => by cases h⟩

theorem k_wf : (Rows.fnFromTypeStructSharingRow.wf (OpenSpec.ofChange Rows.fnFromTypeStructSharingSpec)) = true := by kernel_rfl
theorem k_rd : (Tryz.f11.params.all (Tryz.prog.readableRec ·)) = true := by kernel_rfl
theorem k_nt : (namedTie Tryz.prog Rows.fnFromTypeStructSharingRow.named Rows.fnFromTypeStructSharingSpec.vars) = true := by kernel_rfl
theorem k_cs : ((Rows.fnFromTypeStructSharingRow.stops == [])) = true := by kernel_rfl
theorem k_ck : ((Rows.fnFromTypeStructSharingRow.knobs == [])) = true := by kernel_rfl
theorem k_ip : ((Rows.fnFromTypeStructSharingRow.inPlace == Tryz.prog.inPlace 11)) = true := by kernel_rfl
theorem k_uf : ((Rows.fnFromTypeStructSharingRow.unfollowed == Tryz.prog.unfollowed 11)) = true := by kernel_rfl
theorem k_rc : ((Rows.fnFromTypeStructSharingRow.recurses == Tryz.prog.recurses 11)) = true := by kernel_rfl
theorem k_nm : ((Rows.fnFromTypeStructSharingRow.named == Tryz.prog.varsNamed 11)) = true := by kernel_rfl
theorem k_mp : ((Rows.fnFromTypeStructSharingRow.maps == (Tryz.f11.params.toList ++ Rows.fnFromTypeStructSharingSpec.plain.varTypes Tryz.prog).any (Tryz.prog.mapsRec ·))) = true := by kernel_rfl
theorem k_ifc : ((Rows.fnFromTypeStructSharingRow.ifaces == (Tryz.f11.params.toList ++ Rows.fnFromTypeStructSharingSpec.plain.varTypes Tryz.prog).any (Tryz.prog.ifacesRec ·))) = true := by kernel_rfl
theorem k_mo : ((Rows.fnFromTypeStructSharingRow.mapsOut == Tryz.prog.mapsAmong Tryz.f11.resultTypes.toList)) = true := by kernel_rfl
theorem k_lp : ((Rows.fnFromTypeStructSharingRow.loops == (Tryz.f11.params.toList ++ Rows.fnFromTypeStructSharingSpec.plain.varTypes Tryz.prog).any (Tryz.prog.loopsFrom ·))) = true := by kernel_rfl
theorem k_wk : ((Rows.fnFromTypeStructSharingRow.wideKeys == (Tryz.f11.params.toList ++ Rows.fnFromTypeStructSharingSpec.plain.varTypes Tryz.prog ++ Tryz.f11.resultTypes.toList).any (Tryz.prog.wideKeysFrom ·))) = true := by kernel_rfl
theorem k_vr : (Rows.fnFromTypeStructSharingSpec.vars.all (Tryz.prog.varReadable ·)) = true := by kernel_rfl
theorem k_rt : (Tryz.f11.resultTypes.all (fun t => Tryz.prog.readableRec t && decide (t < Tryz.prog.types.size))) = true := by kernel_rfl
theorem k_io : ((Rows.fnFromTypeStructSharingRow.ifacesOut == Tryz.f11.resultTypes.toList.any (Tryz.prog.ifacesRec ·))) = true := by kernel_rfl
theorem k_lo : ((Rows.fnFromTypeStructSharingRow.loopsOut == Tryz.f11.resultTypes.toList.any (Tryz.prog.loopsFrom ·))) = true := by kernel_rfl
theorem k_pk : (Rows.fnFromTypeStructSharingRow.plainKeys == Tryz.prog.plainKeys) = true := by rw [Shut.pk]; rfl
theorem k_st : (Rows.fnFromTypeStructSharingRow.shortTexts.isNone) = true := by kernel_rfl
theorem k_lf : (Rows.fnFromTypeStructSharingRow.lifted == Tryz.prog.liftsFinal) = true := by rw [Shut.lf]; rfl
theorem k_mk : (Tryz.prog.make == some Rows.fnFromTypeStructSharingRow.make) = true := by rw [Shut.mk_of _ Shut.head]; rfl
theorem k_kd : ((Rows.fnFromTypeStructSharingRow.kinds == (if Rows.fnFromTypeStructSharingRow.domain.isEmpty then [] else Tryz.f11.params.toList.map fun t => match Tryz.prog.underlying t with | some (.int k) => some k | _ => Option.none))) = true := by kernel_rfl
theorem k_pn : ((Rows.fnFromTypeStructSharingRow.pinned == Rows.fnFromTypeStructSharingRow.pinnedBy)) = true := by kernel_rfl
theorem k_ve : ((Rows.fnFromTypeStructSharingRow.veiled == (Tryz.f11.params.toList ++ Rows.fnFromTypeStructSharingSpec.plain.varTypes Tryz.prog ++ Tryz.f11.resultTypes.toList).any (Tryz.prog.veiledRec ·))) = true := by kernel_rfl
theorem k_vf : (Rows.fnFromTypeStructSharingRow.veiledFits Tryz.prog Tryz.f11.params.toList (Tryz.f11.params.toList ++ Rows.fnFromTypeStructSharingSpec.plain.varTypes Tryz.prog ++ Tryz.f11.resultTypes.toList)) = true := by kernel_rfl
set_option maxRecDepth 100000 in
theorem closedAll : joinedFacts Tryz.prog 11 Tryz.f11 Rows.fnFromTypeStructSharingSpec Rows.fnFromTypeStructSharingRow = true := (Shut.and2 (Shut.and2 (Shut.and2 (Shut.and2 (Shut.and2 (Shut.and2 (Shut.and2 (Shut.and2 (Shut.and2 (Shut.and2 (Shut.and2 (Shut.and2 (Shut.and2 (Shut.and2 (Shut.and2 (Shut.and2 (Shut.and2 (Shut.and2 (Shut.and2 (Shut.and2 (Shut.and2 (Shut.and2 (Shut.and2 (Shut.and2 (Shut.and2 (Shut.and2 (Shut.and2 (Shut.and2 (Shut.and2 (Shut.and2 (Shut.and2 k_wf Shut.laidOut) Shut.mrow) k_rd) k_nt) k_cs) Shut.stp) k_ck) Shut.stk) k_ip) k_uf) k_rc) k_nm) k_mp) k_ifc) k_mo) k_lp) k_wk) k_vr) k_rt) k_io) k_lo) k_pk) k_st) Shut.sh) Shut.me) k_lf) k_mk) k_kd) k_pn) k_ve) k_vf)
theorem fnamed : Tryz.prog.funcNamed Rows.fnFromTypeStructSharingRow.func = some 11 := by kernel_rfl
theorem instOk : decide (Tryz.f11.isInstance Tryz.prog Rows.fnFromTypeStructSharingRow.origin Rows.fnFromTypeStructSharingRow.targs) = true := by kernel_rfl
theorem over : Rows.fnFromTypeStructSharingRow.holds Tryz.pinned (OpenSpec.ofChange Rows.fnFromTypeStructSharingSpec) :=
  OpenClaim.holds_of_wide 11 Tryz.f11 rfl rfl rfl rfl rfl rfl rfl ⟨rfl, rfl, rfl, rfl, rfl⟩ rfl rfl rfl rfl rfl fnamed Tryz.func11 closedAll
    (of_decide_eq_true instOk) (by unfold Func.isWrapper; first | (rw [if_pos (by decide +kernel)]; kernel_rfl) | (rw [if_neg (by decide +kernel)]; exact ⟨rfl, rfl⟩))
    (fun os started H enc _ => lifted os started H enc)

theorem proved : Rows.FnFromTypeStructSharingSaid := over
#print axioms proved
end Go.Proofs.YtfmefomafdgfmaaGreat.fnFromTypeStructSharing
