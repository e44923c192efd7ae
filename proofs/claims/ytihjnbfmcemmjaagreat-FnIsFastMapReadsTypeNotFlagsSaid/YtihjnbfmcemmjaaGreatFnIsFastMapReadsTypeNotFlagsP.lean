/-
  IsFastMap answers as it did for the reflect type alone, whatever is written into Kind, Nil, Strict, IsInteger and TypeData. Condition: none. (The seat was turned with the translator's switches -reflectrows -leanrows.)
-/
import Derived.Test.YtihjnbfmcemmjaaGreatClosed
import Derived.Test.YtihjnbfmcemmjaaGreatFnIsFastMapReadsTypeNotFlagsW
import Derived.WalkKit
import Derived.ProofKit
import Derived.OpenShut
import Derived.ShutString
import Derived.ChangeOld
import Derived.Below
namespace Go.Proofs.YtihjnbfmcemmjaaGreat.fnIsFastMapReadsTypeNotFlags
open Go.ChangeShapes Go.WideShapes Go.ChangeAt Go.RowKit
open Go.ChangeMaps (open_string shut_string)
set_option linter.unusedVariables false
set_option maxRecDepth 100000 in
theorem lifted (os : Os) (started : os.Started) (H : Type) (enc : TypeId × Value → H) :
    ReturnsInHanded {} Tryz.checked os 13 .any (Rows.fnIsFastMapReadsTypeNotFlagsSpec.pre6 enc Tryz.prog Tryz.f13 Rows.fnIsFastMapReadsTypeNotFlagsRow.domain false) (Rows.fnIsFastMapReadsTypeNotFlagsSpec.post enc Tryz.prog Tryz.f13 false true false false) := by
  refine returnsInHanded_of_change (C := Tryz.checked) Shut.own started (by kernel_rfl) Tryz.func13
    (ChangeSpec.witness6 (enc := enc) (C := Tryz.checked) false ⟨#[], #[.int .u8 0, .int .u64 0, .bool false, .bool false, .bool false, .bool false], []⟩ 8 (by kernel_rfl) (by kernel_rfl) (by kernel_rfl) (by kernel_rfl)) ?_
  intro W base args ds gs before hval0 hW hcnd _
  have hval : ∀ (j : Nat) t v, Tryz.f13.params[j]? = some t → args[j]? = some v → Value.okWide Tryz.prog W .any base t v := hval0
  have hW' := hW
  obtain ⟨p, q, hA0, hV, rfl, hfz, hnd⟩ := hW
  have hA : DataW.TrodAll enc Tryz.prog W 0 (fun _ => true) true Tryz.f13.params.toList args.toList ds p := hA0
  rw [Tryz.params13] at hA hval
  obtain ⟨v0, vs0, d0, ds0, p0, q0, hargs, rfl, rfl, h0, r0⟩ := trodAll_cons hA
  obtain ⟨v1, vs1, d1, ds1, p1, q1, rfl, rfl, rfl, h1, r1⟩ := trodAll_cons r0
  obtain ⟨v2, vs2, d2, ds2, p2, q2, rfl, rfl, rfl, h2, r2⟩ := trodAll_cons r1
  obtain ⟨v3, vs3, d3, ds3, p3, q3, rfl, rfl, rfl, h3, r3⟩ := trodAll_cons r2
  obtain ⟨v4, vs4, d4, ds4, p4, q4, rfl, rfl, rfl, h4, r4⟩ := trodAll_cons r3
  obtain ⟨v5, vs5, d5, ds5, p5, q5, rfl, rfl, rfl, h5, r5⟩ := trodAll_cons r4
  obtain ⟨rfl, rfl, rfl⟩ := trodAll_nil r5
  obtain rfl : args = #[v0, v1, v2, v3, v4, v5] := by cases args; simp_all
  obtain ⟨rfl, rfl⟩ := trodVars_none hV
  obtain ⟨a0, rfl, rfl, rfl, w0⟩ := open_int Tryz.underlying5 (hval 0 5 v0 rfl rfl) h0
  obtain ⟨a1, rfl, rfl, rfl, w1⟩ := open_int Tryz.underlying30 (hval 1 30 v1 rfl rfl) h1
  obtain ⟨a2, rfl, rfl, rfl⟩ := open_bool Tryz.underlying4 (hval 2 4 v2 rfl rfl) h2
  obtain ⟨a3, rfl, rfl, rfl⟩ := open_bool Tryz.underlying4 (hval 3 4 v3 rfl rfl) h3
  obtain ⟨a4, rfl, rfl, rfl⟩ := open_bool Tryz.underlying4 (hval 4 4 v4 rfl rfl) h4
  obtain ⟨a5, rfl, rfl, rfl⟩ := open_bool Tryz.underlying4 (hval 5 4 v5 rfl rfl) h5
  clear hA0 hval0
  refine (walk a0 a1 a2 a3 a4 a5 W w0 w1).mono fun e W' ⟨he, bel⟩ => ?_
  subst he
  exact ⟨_, rfl, _, _, _, [], _, [], hW', trodAll_mk1 (shut_bool Tryz.underlying4 _), (trodAll_cons_mk (shut_int Tryz.underlying5 w0) (trodAll_cons_mk (shut_int Tryz.underlying30 w1) (trodAll_cons_mk (shut_bool Tryz.underlying4 _) (trodAll_cons_mk (shut_bool Tryz.underlying4 _) (trodAll_cons_mk (shut_bool Tryz.underlying4 _) (trodAll_cons_mk (shut_bool Tryz.underlying4 _) trodAll_mk0)))))), rfl, bel.frame _, fun h => by cases h⟩

theorem k_wf : (Rows.fnIsFastMapReadsTypeNotFlagsRow.wf (OpenSpec.ofChange Rows.fnIsFastMapReadsTypeNotFlagsSpec)) = true := by kernel_rfl
theorem k_rd : (Tryz.f13.params.all (Tryz.prog.readableRec ·)) = true := by kernel_rfl
theorem k_nt : (namedTie Tryz.prog Rows.fnIsFastMapReadsTypeNotFlagsRow.named Rows.fnIsFastMapReadsTypeNotFlagsSpec.vars) = true := by kernel_rfl
theorem k_cs : ((Rows.fnIsFastMapReadsTypeNotFlagsRow.stops == [])) = true := by kernel_rfl
theorem k_ck : ((Rows.fnIsFastMapReadsTypeNotFlagsRow.knobs == [])) = true := by kernel_rfl
theorem k_ip : ((Rows.fnIsFastMapReadsTypeNotFlagsRow.inPlace == Tryz.prog.inPlace 13)) = true := by kernel_rfl
theorem k_uf : ((Rows.fnIsFastMapReadsTypeNotFlagsRow.unfollowed == Tryz.prog.unfollowed 13)) = true := by kernel_rfl
theorem k_rc : ((Rows.fnIsFastMapReadsTypeNotFlagsRow.recurses == Tryz.prog.recurses 13)) = true := by kernel_rfl
theorem k_nm : ((Rows.fnIsFastMapReadsTypeNotFlagsRow.named == Tryz.prog.varsNamed 13)) = true := by kernel_rfl
theorem k_mp : ((Rows.fnIsFastMapReadsTypeNotFlagsRow.maps == (Tryz.f13.params.toList ++ Rows.fnIsFastMapReadsTypeNotFlagsSpec.plain.varTypes Tryz.prog).any (Tryz.prog.mapsRec ·))) = true := by kernel_rfl
theorem k_ifc : ((Rows.fnIsFastMapReadsTypeNotFlagsRow.ifaces == (Tryz.f13.params.toList ++ Rows.fnIsFastMapReadsTypeNotFlagsSpec.plain.varTypes Tryz.prog).any (Tryz.prog.ifacesRec ·))) = true := by kernel_rfl
theorem k_mo : ((Rows.fnIsFastMapReadsTypeNotFlagsRow.mapsOut == Tryz.prog.mapsAmong Tryz.f13.resultTypes.toList)) = true := by kernel_rfl
theorem k_lp : ((Rows.fnIsFastMapReadsTypeNotFlagsRow.loops == (Tryz.f13.params.toList ++ Rows.fnIsFastMapReadsTypeNotFlagsSpec.plain.varTypes Tryz.prog).any (Tryz.prog.loopsFrom ·))) = true := by kernel_rfl
theorem k_wk : ((Rows.fnIsFastMapReadsTypeNotFlagsRow.wideKeys == (Tryz.f13.params.toList ++ Rows.fnIsFastMapReadsTypeNotFlagsSpec.plain.varTypes Tryz.prog ++ Tryz.f13.resultTypes.toList).any (Tryz.prog.wideKeysFrom ·))) = true := by kernel_rfl
theorem k_vr : (Rows.fnIsFastMapReadsTypeNotFlagsSpec.vars.all (Tryz.prog.varReadable ·)) = true := by kernel_rfl
theorem k_rt : (Tryz.f13.resultTypes.all (fun t => Tryz.prog.readableRec t && decide (t < Tryz.prog.types.size))) = true := by kernel_rfl
theorem k_io : ((Rows.fnIsFastMapReadsTypeNotFlagsRow.ifacesOut == Tryz.f13.resultTypes.toList.any (Tryz.prog.ifacesRec ·))) = true := by kernel_rfl
theorem k_lo : ((Rows.fnIsFastMapReadsTypeNotFlagsRow.loopsOut == Tryz.f13.resultTypes.toList.any (Tryz.prog.loopsFrom ·))) = true := by kernel_rfl
theorem k_pk : (Rows.fnIsFastMapReadsTypeNotFlagsRow.plainKeys == Tryz.prog.plainKeys) = true := by rw [Shut.pk]; rfl
theorem k_st : (Rows.fnIsFastMapReadsTypeNotFlagsRow.shortTexts.isNone) = true := by kernel_rfl
theorem k_lf : (Rows.fnIsFastMapReadsTypeNotFlagsRow.lifted == Tryz.prog.liftsFinal) = true := by rw [Shut.lf]; rfl
theorem k_mk : (Tryz.prog.make == some Rows.fnIsFastMapReadsTypeNotFlagsRow.make) = true := by rw [Shut.mk_of _ Shut.head]; rfl
theorem k_kd : ((Rows.fnIsFastMapReadsTypeNotFlagsRow.kinds == (if Rows.fnIsFastMapReadsTypeNotFlagsRow.domain.isEmpty then [] else Tryz.f13.params.toList.map fun t => match Tryz.prog.underlying t with | some (.int k) => some k | _ => Option.none))) = true := by kernel_rfl
theorem k_pn : ((Rows.fnIsFastMapReadsTypeNotFlagsRow.pinned == Rows.fnIsFastMapReadsTypeNotFlagsRow.pinnedBy)) = true := by kernel_rfl
theorem k_ve : ((Rows.fnIsFastMapReadsTypeNotFlagsRow.veiled == (Tryz.f13.params.toList ++ Rows.fnIsFastMapReadsTypeNotFlagsSpec.plain.varTypes Tryz.prog ++ Tryz.f13.resultTypes.toList).any (Tryz.prog.veiledRec ·))) = true := by kernel_rfl
theorem k_vf : (Rows.fnIsFastMapReadsTypeNotFlagsRow.veiledFits Tryz.prog Tryz.f13.params.toList (Tryz.f13.params.toList ++ Rows.fnIsFastMapReadsTypeNotFlagsSpec.plain.varTypes Tryz.prog ++ Tryz.f13.resultTypes.toList)) = true := by kernel_rfl
set_option maxRecDepth 100000 in
theorem closedAll : joinedFacts Tryz.prog 13 Tryz.f13 Rows.fnIsFastMapReadsTypeNotFlagsSpec Rows.fnIsFastMapReadsTypeNotFlagsRow = true := (Shut.and2 (Shut.and2 (Shut.and2 (Shut.and2 (Shut.and2 (Shut.and2 (Shut.and2 (Shut.and2 (Shut.and2 (Shut.and2 (Shut.and2 (Shut.and2 (Shut.and2 (Shut.and2 (Shut.and2 (Shut.and2 (Shut.and2 (Shut.and2 (Shut.and2 (Shut.and2 (Shut.and2 (Shut.and2 (Shut.and2 (Shut.and2 (Shut.and2 (Shut.and2 (Shut.and2 (Shut.and2 (Shut.and2 (Shut.and2 (Shut.and2 k_wf Shut.laidOut) Shut.mrow) k_rd) k_nt) k_cs) Shut.stp) k_ck) Shut.stk) k_ip) k_uf) k_rc) k_nm) k_mp) k_ifc) k_mo) k_lp) k_wk) k_vr) k_rt) k_io) k_lo) k_pk) k_st) Shut.sh) Shut.me) k_lf) k_mk) k_kd) k_pn) k_ve) k_vf)
theorem fnamed : Tryz.prog.funcNamed Rows.fnIsFastMapReadsTypeNotFlagsRow.func = some 13 := by kernel_rfl
theorem instOk : decide (Tryz.f13.isInstance Tryz.prog Rows.fnIsFastMapReadsTypeNotFlagsRow.origin Rows.fnIsFastMapReadsTypeNotFlagsRow.targs) = true := by kernel_rfl
theorem over : Rows.fnIsFastMapReadsTypeNotFlagsRow.holds Tryz.pinned (OpenSpec.ofChange Rows.fnIsFastMapReadsTypeNotFlagsSpec) :=
  OpenClaim.holds_of_wide 13 Tryz.f13 rfl rfl rfl rfl rfl rfl rfl ⟨rfl, rfl, rfl, rfl, rfl⟩ rfl rfl rfl rfl rfl fnamed Tryz.func13 closedAll
    (of_decide_eq_true instOk) (by unfold Func.isWrapper; first | (rw [if_pos (by decide +kernel)]; kernel_rfl) | (rw [if_neg (by decide +kernel)]; exact ⟨rfl, rfl⟩))
    (fun os started H enc _ => lifted os started H enc)

theorem proved : Rows.FnIsFastMapReadsTypeNotFlagsSaid := over
#print axioms proved
end Go.Proofs.YtihjnbfmcemmjaaGreat.fnIsFastMapReadsTypeNotFlags
