/-
  NumIn and NumOut answer the same through a script of other questions and through copies. Condition: none. (The seat was turned with the translator's switches -reflectrows -leanrows.)
-/
import Derived.Test.YtfmefomafdgfmaaGreatClosed
import Derived.Test.YtfmefomafdgfmaaGreatFnNumInStableAcrossScriptW
import Derived.WalkKit
import Derived.ProofKit
import Derived.OpenShut
import Derived.ShutString
import Derived.ChangeOld
import Derived.Below
namespace Go.Proofs.YtfmefomafdgfmaaGreat.fnNumInStableAcrossScript
open Go.ChangeShapes Go.WideShapes Go.ChangeAt Go.RowKit
open Go.ChangeMaps (open_string shut_string)
set_option linter.unusedVariables false
set_option maxRecDepth 100000 in
theorem lifted (os : Os) (started : os.Started) (H : Type) (enc : TypeId × Value → H) :
    ReturnsInHanded {} Tryz.checked os 10 .any (Rows.fnNumInStableAcrossScriptSpec.pre6 enc Tryz.prog Tryz.f10 Rows.fnNumInStableAcrossScriptRow.domain false) (Rows.fnNumInStableAcrossScriptSpec.post enc Tryz.prog Tryz.f10 false true false false) := by
  refine returnsInHanded_of_change (C := Tryz.checked) Shut.own started (by kernel_rfl) Tryz.func10
    (ChangeSpec.witness6 (enc := enc) (C := Tryz.checked) false ⟨#[], #[.int .i64 0, .int .i64 0, .int .i64 0, .int .i64 0], []⟩ 8 (by kernel_rfl) (by kernel_rfl) (by kernel_rfl) (by kernel_rfl)) ?_
  intro W base args ds gs before hval0 hW hcnd _
  have hval : ∀ (j : Nat) t v, Tryz.f10.params[j]? = some t → args[j]? = some v → Value.okWide Tryz.prog W .any base t v := hval0
  have hW' := hW
  obtain ⟨p, q, hA0, hV, rfl, hfz, hnd⟩ := hW
  have hA : DataW.TrodAll enc Tryz.prog W 0 (fun _ => true) true Tryz.f10.params.toList args.toList ds p := hA0
  rw [Tryz.params10] at hA hval
  obtain ⟨v0, vs0, d0, ds0, p0, q0, hargs, rfl, rfl, h0, r0⟩ := trodAll_cons hA
  obtain ⟨v1, vs1, d1, ds1, p1, q1, rfl, rfl, rfl, h1, r1⟩ := trodAll_cons r0
  obtain ⟨v2, vs2, d2, ds2, p2, q2, rfl, rfl, rfl, h2, r2⟩ := trodAll_cons r1
  obtain ⟨v3, vs3, d3, ds3, p3, q3, rfl, rfl, rfl, h3, r3⟩ := trodAll_cons r2
  obtain ⟨rfl, rfl, rfl⟩ := trodAll_nil r3
  obtain rfl : args = #[v0, v1, v2, v3] := by cases args; simp_all
  obtain ⟨rfl, rfl⟩ := trodVars_none hV
  obtain ⟨a0, rfl, rfl, rfl, w0⟩ := open_int Tryz.underlying3 (hval 0 3 v0 rfl rfl) h0
  obtain ⟨a1, rfl, rfl, rfl, w1⟩ := open_int Tryz.underlying3 (hval 1 3 v1 rfl rfl) h1
  obtain ⟨a2, rfl, rfl, rfl, w2⟩ := open_int Tryz.underlying3 (hval 2 3 v2 rfl rfl) h2
  obtain ⟨a3, rfl, rfl, rfl, w3⟩ := open_int Tryz.underlying3 (hval 3 3 v3 rfl rfl) h3
  clear hA0 hval0
  refine (walk a0 a1 a2 a3 W w0 w1 w2 w3).mono fun e W' ⟨he, bel⟩ => ?_
  subst he
  exact ⟨_, rfl, _, _, _, [], _, [], hW', trodAll_mk1 (shut_bool Tryz.underlying4 _), (trodAll_cons_mk (shut_int Tryz.underlying3 w0) (trodAll_cons_mk (shut_int Tryz.underlying3 w1) (trodAll_cons_mk (shut_int Tryz.underlying3 w2) (trodAll_cons_mk (shut_int Tryz.underlying3 w3) trodAll_mk0)))), rfl, bel.frame _, fun h => by cases h⟩

theorem k_wf : (Rows.fnNumInStableAcrossScriptRow.wf (OpenSpec.ofChange Rows.fnNumInStableAcrossScriptSpec)) = true := by kernel_rfl
theorem k_rd : (Tryz.f10.params.all (Tryz.prog.readableRec ·)) = true := by kernel_rfl
theorem k_nt : (namedTie Tryz.prog Rows.fnNumInStableAcrossScriptRow.named Rows.fnNumInStableAcrossScriptSpec.vars) = true := by kernel_rfl
theorem k_cs : ((Rows.fnNumInStableAcrossScriptRow.stops == [])) = true := by kernel_rfl
theorem k_ck : ((Rows.fnNumInStableAcrossScriptRow.knobs == [])) = true := by kernel_rfl
theorem k_ip : ((Rows.fnNumInStableAcrossScriptRow.inPlace == Tryz.prog.inPlace 10)) = true := by kernel_rfl
theorem k_uf : ((Rows.fnNumInStableAcrossScriptRow.unfollowed == Tryz.prog.unfollowed 10)) = true := by kernel_rfl
theorem k_rc : ((Rows.fnNumInStableAcrossScriptRow.recurses == Tryz.prog.recurses 10)) = true := by kernel_rfl
theorem k_nm : ((Rows.fnNumInStableAcrossScriptRow.named == Tryz.prog.varsNamed 10)) = true := by kernel_rfl
theorem k_mp : ((Rows.fnNumInStableAcrossScriptRow.maps == (Tryz.f10.params.toList ++ Rows.fnNumInStableAcrossScriptSpec.plain.varTypes Tryz.prog).any (Tryz.prog.mapsRec ·))) = true := by kernel_rfl
theorem k_ifc : ((Rows.fnNumInStableAcrossScriptRow.ifaces == (Tryz.f10.params.toList ++ Rows.fnNumInStableAcrossScriptSpec.plain.varTypes Tryz.prog).any (Tryz.prog.ifacesRec ·))) = true := by kernel_rfl
theorem k_mo : ((Rows.fnNumInStableAcrossScriptRow.mapsOut == Tryz.prog.mapsAmong Tryz.f10.resultTypes.toList)) = true := by kernel_rfl
theorem k_lp : ((Rows.fnNumInStableAcrossScriptRow.loops == (Tryz.f10.params.toList ++ Rows.fnNumInStableAcrossScriptSpec.plain.varTypes Tryz.prog).any (Tryz.prog.loopsFrom ·))) = true := by kernel_rfl
theorem k_wk : ((Rows.fnNumInStableAcrossScriptRow.wideKeys == (Tryz.f10.params.toList ++ Rows.fnNumInStableAcrossScriptSpec.plain.varTypes Tryz.prog ++ Tryz.f10.resultTypes.toList).any (Tryz.prog.wideKeysFrom ·))) = true := by kernel_rfl
theorem k_vr : (Rows.fnNumInStableAcrossScriptSpec.vars.all (Tryz.prog.varReadable ·)) = true := by kernel_rfl
theorem k_rt : (Tryz.f10.resultTypes.all (fun t => Tryz.prog.readableRec t && decide (t < Tryz.prog.types.size))) = true := by kernel_rfl
theorem k_io : ((Rows.fnNumInStableAcrossScriptRow.ifacesOut == Tryz.f10.resultTypes.toList.any (Tryz.prog.ifacesRec ·))) = true := by kernel_rfl
theorem k_lo : ((Rows.fnNumInStableAcrossScriptRow.loopsOut == Tryz.f10.resultTypes.toList.any (Tryz.prog.loopsFrom ·))) = true := by kernel_rfl
theorem k_pk : (Rows.fnNumInStableAcrossScriptRow.plainKeys == Tryz.prog.plainKeys) = true := by rw [Shut.pk]; rfl
theorem k_st : (Rows.fnNumInStableAcrossScriptRow.shortTexts.isNone) = true := by kernel_rfl
theorem k_lf : (Rows.fnNumInStableAcrossScriptRow.lifted == Tryz.prog.liftsFinal) = true := by rw [Shut.lf]; rfl
theorem k_mk : (Tryz.prog.make == some Rows.fnNumInStableAcrossScriptRow.make) = true := by rw [Shut.mk_of _ Shut.head]; rfl
theorem k_kd : ((Rows.fnNumInStableAcrossScriptRow.kinds == (if Rows.fnNumInStableAcrossScriptRow.domain.isEmpty then [] else Tryz.f10.params.toList.map fun t => match Tryz.prog.underlying t with | some (.int k) => some k | _ => Option.none))) = true := by kernel_rfl
theorem k_pn : ((Rows.fnNumInStableAcrossScriptRow.pinned == Rows.fnNumInStableAcrossScriptRow.pinnedBy)) = true := by kernel_rfl
theorem k_ve : ((Rows.fnNumInStableAcrossScriptRow.veiled == (Tryz.f10.params.toList ++ Rows.fnNumInStableAcrossScriptSpec.plain.varTypes Tryz.prog ++ Tryz.f10.resultTypes.toList).any (Tryz.prog.veiledRec ·))) = true := by kernel_rfl
theorem k_vf : (Rows.fnNumInStableAcrossScriptRow.veiledFits Tryz.prog Tryz.f10.params.toList (Tryz.f10.params.toList ++ Rows.fnNumInStableAcrossScriptSpec.plain.varTypes Tryz.prog ++ Tryz.f10.resultTypes.toList)) = true := by kernel_rfl
set_option maxRecDepth 100000 in
theorem closedAll : joinedFacts Tryz.prog 10 Tryz.f10 Rows.fnNumInStableAcrossScriptSpec Rows.fnNumInStableAcrossScriptRow = true := (Shut.and2 (Shut.and2 (Shut.and2 (Shut.and2 (Shut.and2 (Shut.and2 (Shut.and2 (Shut.and2 (Shut.and2 (Shut.and2 (Shut.and2 (Shut.and2 (Shut.and2 (Shut.and2 (Shut.and2 (Shut.and2 (Shut.and2 (Shut.and2 (Shut.and2 (Shut.and2 (Shut.and2 (Shut.and2 (Shut.and2 (Shut.and2 (Shut.and2 (Shut.and2 (Shut.and2 (Shut.and2 (Shut.and2 (Shut.and2 (Shut.and2 k_wf Shut.laidOut) Shut.mrow) k_rd) k_nt) k_cs) Shut.stp) k_ck) Shut.stk) k_ip) k_uf) k_rc) k_nm) k_mp) k_ifc) k_mo) k_lp) k_wk) k_vr) k_rt) k_io) k_lo) k_pk) k_st) Shut.sh) Shut.me) k_lf) k_mk) k_kd) k_pn) k_ve) k_vf)
theorem fnamed : Tryz.prog.funcNamed Rows.fnNumInStableAcrossScriptRow.func = some 10 := by kernel_rfl
theorem instOk : decide (Tryz.f10.isInstance Tryz.prog Rows.fnNumInStableAcrossScriptRow.origin Rows.fnNumInStableAcrossScriptRow.targs) = true := by kernel_rfl
theorem over : Rows.fnNumInStableAcrossScriptRow.holds Tryz.pinned (OpenSpec.ofChange Rows.fnNumInStableAcrossScriptSpec) :=
  OpenClaim.holds_of_wide 10 Tryz.f10 rfl rfl rfl rfl rfl rfl rfl ⟨rfl, rfl, rfl, rfl, rfl⟩ rfl rfl rfl rfl rfl fnamed Tryz.func10 closedAll
    (of_decide_eq_true instOk) (by unfold Func.isWrapper; first | (rw [if_pos (by decide +kernel)]; kernel_rfl) | (rw [if_neg (by decide +kernel)]; exact ⟨rfl, rfl⟩))
    (fun os started H enc _ => lifted os started H enc)

theorem proved : Rows.FnNumInStableAcrossScriptSaid := over
#print axioms proved
end Go.Proofs.YtfmefomafdgfmaaGreat.fnNumInStableAcrossScript
