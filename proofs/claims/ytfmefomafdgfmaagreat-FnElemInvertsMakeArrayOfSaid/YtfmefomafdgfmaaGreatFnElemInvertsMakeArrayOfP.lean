/-
  Elem undoes MakeArrayOf: for any nature n, the array made of n has Ref n, and its Elem is n field for field. Condition: none. (The seat was turned with the translator's switches -reflectrows -leanrows.)
-/
import Derived.Test.YtfmefomafdgfmaaGreatClosed
import Derived.Test.YtfmefomafdgfmaaGreatFnElemInvertsMakeArrayOfW
import Derived.WalkKit
import Derived.ProofKit
import Derived.OpenShut
import Derived.ShutString
import Derived.ChangeOld
import Derived.Below
namespace Go.Proofs.YtfmefomafdgfmaaGreat.fnElemInvertsMakeArrayOf
open Go.ChangeShapes Go.WideShapes Go.ChangeAt Go.RowKit
open Go.ChangeMaps (open_string shut_string)
set_option linter.unusedVariables false
set_option maxRecDepth 100000 in
theorem lifted (os : Os) (started : os.Started) (H : Type) (enc : TypeId × Value → H) :
    ReturnsInHanded {} Tryz.checked os 7 .any (Rows.fnElemInvertsMakeArrayOfSpec.pre6 enc Tryz.prog Tryz.f7 Rows.fnElemInvertsMakeArrayOfRow.domain false) (Rows.fnElemInvertsMakeArrayOfSpec.post enc Tryz.prog Tryz.f7 false true false false) := by
  refine returnsInHanded_of_change (C := Tryz.checked) Shut.own started (by kernel_rfl) Tryz.func7
    (ChangeSpec.witness6 (enc := enc) (C := Tryz.checked) false ⟨#[], #[.int .i64 0, .int .u64 0, .bool false, .bool false, .bool false, .bool false, .bool false, .bool false], []⟩ 8 (by kernel_rfl) (by kernel_rfl) (by kernel_rfl) (by kernel_rfl)) ?_
  intro W base args ds gs before hval0 hW hcnd _
  have hval : ∀ (j : Nat) t v, Tryz.f7.params[j]? = some t → args[j]? = some v → Value.okWide Tryz.prog W .any base t v := hval0
  have hW' := hW
  obtain ⟨p, q, hA0, hV, rfl, hfz, hnd⟩ := hW
  have hA : DataW.TrodAll enc Tryz.prog W 0 (fun _ => true) true Tryz.f7.params.toList args.toList ds p := hA0
  rw [Tryz.params7] at hA hval
  obtain ⟨v0, vs0, d0, ds0, p0, q0, hargs, rfl, rfl, h0, r0⟩ := trodAll_cons hA
  obtain ⟨v1, vs1, d1, ds1, p1, q1, rfl, rfl, rfl, h1, r1⟩ := trodAll_cons r0
  obtain ⟨v2, vs2, d2, ds2, p2, q2, rfl, rfl, rfl, h2, r2⟩ := trodAll_cons r1
  obtain ⟨v3, vs3, d3, ds3, p3, q3, rfl, rfl, rfl, h3, r3⟩ := trodAll_cons r2
  obtain ⟨v4, vs4, d4, ds4, p4, q4, rfl, rfl, rfl, h4, r4⟩ := trodAll_cons r3
  obtain ⟨v5, vs5, d5, ds5, p5, q5, rfl, rfl, rfl, h5, r5⟩ := trodAll_cons r4
  obtain ⟨v6, vs6, d6, ds6, p6, q6, rfl, rfl, rfl, h6, r6⟩ := trodAll_cons r5
  obtain ⟨v7, vs7, d7, ds7, p7, q7, rfl, rfl, rfl, h7, r7⟩ := trodAll_cons r6
  obtain ⟨rfl, rfl, rfl⟩ := trodAll_nil r7
  obtain rfl : args = #[v0, v1, v2, v3, v4, v5, v6, v7] := by cases args; simp_all
  obtain ⟨rfl, rfl⟩ := trodVars_none hV
  obtain ⟨a0, rfl, rfl, rfl, w0⟩ := open_int Tryz.underlying3 (hval 0 3 v0 rfl rfl) h0
  obtain ⟨a1, rfl, rfl, rfl, w1⟩ := open_int Tryz.underlying30 (hval 1 30 v1 rfl rfl) h1
  obtain ⟨a2, rfl, rfl, rfl⟩ := open_bool Tryz.underlying4 (hval 2 4 v2 rfl rfl) h2
  obtain ⟨a3, rfl, rfl, rfl⟩ := open_bool Tryz.underlying4 (hval 3 4 v3 rfl rfl) h3
  obtain ⟨a4, rfl, rfl, rfl⟩ := open_bool Tryz.underlying4 (hval 4 4 v4 rfl rfl) h4
  obtain ⟨a5, rfl, rfl, rfl⟩ := open_bool Tryz.underlying4 (hval 5 4 v5 rfl rfl) h5
  obtain ⟨a6, rfl, rfl, rfl⟩ := open_bool Tryz.underlying4 (hval 6 4 v6 rfl rfl) h6
  obtain ⟨a7, rfl, rfl, rfl⟩ := open_bool Tryz.underlying4 (hval 7 4 v7 rfl rfl) h7
  clear hA0 hval0
  refine (walk a0 a1 a2 a3 a4 a5 a6 a7 W w0 w1).mono fun e W' ⟨he, bel⟩ => ?_
  subst he
  exact ⟨_, rfl, _, _, _, [], _, [], hW', trodAll_mk1 (shut_bool Tryz.underlying4 _), (trodAll_cons_mk (shut_int Tryz.underlying3 w0) (trodAll_cons_mk (shut_int Tryz.underlying30 w1) (trodAll_cons_mk (shut_bool Tryz.underlying4 _) (trodAll_cons_mk (shut_bool Tryz.underlying4 _) (trodAll_cons_mk (shut_bool Tryz.underlying4 _) (trodAll_cons_mk (shut_bool Tryz.underlying4 _) (trodAll_cons_mk (shut_bool Tryz.underlying4 _) (trodAll_cons_mk (shut_bool Tryz.underlying4 _) trodAll_mk0)))))))), rfl, bel.frame _, fun h => by cases h⟩

theorem k_wf : (Rows.fnElemInvertsMakeArrayOfRow.wf (OpenSpec.ofChange Rows.fnElemInvertsMakeArrayOfSpec)) = true := by kernel_rfl
theorem k_rd : (Tryz.f7.params.all (Tryz.prog.readableRec ·)) = true := by kernel_rfl
theorem k_nt : (namedTie Tryz.prog Rows.fnElemInvertsMakeArrayOfRow.named Rows.fnElemInvertsMakeArrayOfSpec.vars) = true := by kernel_rfl
theorem k_cs : ((Rows.fnElemInvertsMakeArrayOfRow.stops == [])) = true := by kernel_rfl
theorem k_ck : ((Rows.fnElemInvertsMakeArrayOfRow.knobs == [])) = true := by kernel_rfl
theorem k_ip : ((Rows.fnElemInvertsMakeArrayOfRow.inPlace == Tryz.prog.inPlace 7)) = true := by kernel_rfl
theorem k_uf : ((Rows.fnElemInvertsMakeArrayOfRow.unfollowed == Tryz.prog.unfollowed 7)) = true := by kernel_rfl
theorem k_rc : ((Rows.fnElemInvertsMakeArrayOfRow.recurses == Tryz.prog.recurses 7)) = true := by kernel_rfl
theorem k_nm : ((Rows.fnElemInvertsMakeArrayOfRow.named == Tryz.prog.varsNamed 7)) = true := by kernel_rfl
theorem k_mp : ((Rows.fnElemInvertsMakeArrayOfRow.maps == (Tryz.f7.params.toList ++ Rows.fnElemInvertsMakeArrayOfSpec.plain.varTypes Tryz.prog).any (Tryz.prog.mapsRec ·))) = true := by kernel_rfl
theorem k_ifc : ((Rows.fnElemInvertsMakeArrayOfRow.ifaces == (Tryz.f7.params.toList ++ Rows.fnElemInvertsMakeArrayOfSpec.plain.varTypes Tryz.prog).any (Tryz.prog.ifacesRec ·))) = true := by kernel_rfl
theorem k_mo : ((Rows.fnElemInvertsMakeArrayOfRow.mapsOut == Tryz.prog.mapsAmong Tryz.f7.resultTypes.toList)) = true := by kernel_rfl
theorem k_lp : ((Rows.fnElemInvertsMakeArrayOfRow.loops == (Tryz.f7.params.toList ++ Rows.fnElemInvertsMakeArrayOfSpec.plain.varTypes Tryz.prog).any (Tryz.prog.loopsFrom ·))) = true := by kernel_rfl
theorem k_wk : ((Rows.fnElemInvertsMakeArrayOfRow.wideKeys == (Tryz.f7.params.toList ++ Rows.fnElemInvertsMakeArrayOfSpec.plain.varTypes Tryz.prog ++ Tryz.f7.resultTypes.toList).any (Tryz.prog.wideKeysFrom ·))) = true := by kernel_rfl
theorem k_vr : (Rows.fnElemInvertsMakeArrayOfSpec.vars.all (Tryz.prog.varReadable ·)) = true := by kernel_rfl
theorem k_rt : (Tryz.f7.resultTypes.all (fun t => Tryz.prog.readableRec t && decide (t < Tryz.prog.types.size))) = true := by kernel_rfl
theorem k_io : ((Rows.fnElemInvertsMakeArrayOfRow.ifacesOut == Tryz.f7.resultTypes.toList.any (Tryz.prog.ifacesRec ·))) = true := by kernel_rfl
theorem k_lo : ((Rows.fnElemInvertsMakeArrayOfRow.loopsOut == Tryz.f7.resultTypes.toList.any (Tryz.prog.loopsFrom ·))) = true := by kernel_rfl
theorem k_pk : (Rows.fnElemInvertsMakeArrayOfRow.plainKeys == Tryz.prog.plainKeys) = true := by rw [Shut.pk]; rfl
theorem k_st : (Rows.fnElemInvertsMakeArrayOfRow.shortTexts.isNone) = true := by kernel_rfl
theorem k_lf : (Rows.fnElemInvertsMakeArrayOfRow.lifted == Tryz.prog.liftsFinal) = true := by rw [Shut.lf]; rfl
theorem k_mk : (Tryz.prog.make == some Rows.fnElemInvertsMakeArrayOfRow.make) = true := by rw [Shut.mk_of _ Shut.head]; rfl
theorem k_kd : ((Rows.fnElemInvertsMakeArrayOfRow.kinds == (if Rows.fnElemInvertsMakeArrayOfRow.domain.isEmpty then [] else Tryz.f7.params.toList.map fun t => match Tryz.prog.underlying t with | some (.int k) => some k | _ => Option.none))) = true := by kernel_rfl
theorem k_pn : ((Rows.fnElemInvertsMakeArrayOfRow.pinned == Rows.fnElemInvertsMakeArrayOfRow.pinnedBy)) = true := by kernel_rfl
theorem k_ve : ((Rows.fnElemInvertsMakeArrayOfRow.veiled == (Tryz.f7.params.toList ++ Rows.fnElemInvertsMakeArrayOfSpec.plain.varTypes Tryz.prog ++ Tryz.f7.resultTypes.toList).any (Tryz.prog.veiledRec ·))) = true := by kernel_rfl
theorem k_vf : (Rows.fnElemInvertsMakeArrayOfRow.veiledFits Tryz.prog Tryz.f7.params.toList (Tryz.f7.params.toList ++ Rows.fnElemInvertsMakeArrayOfSpec.plain.varTypes Tryz.prog ++ Tryz.f7.resultTypes.toList)) = true := by kernel_rfl
set_option maxRecDepth 100000 in
theorem closedAll : joinedFacts Tryz.prog 7 Tryz.f7 Rows.fnElemInvertsMakeArrayOfSpec Rows.fnElemInvertsMakeArrayOfRow = true := (Shut.and2 (Shut.and2 (Shut.and2 (Shut.and2 (Shut.and2 (Shut.and2 (Shut.and2 (Shut.and2 (Shut.and2 (Shut.and2 (Shut.and2 (Shut.and2 (Shut.and2 (Shut.and2 (Shut.and2 (Shut.and2 (Shut.and2 (Shut.and2 (Shut.and2 (Shut.and2 (Shut.and2 (Shut.and2 (Shut.and2 (Shut.and2 (Shut.and2 (Shut.and2 (Shut.and2 (Shut.and2 (Shut.and2 (Shut.and2 (Shut.and2 k_wf Shut.laidOut) Shut.mrow) k_rd) k_nt) k_cs) Shut.stp) k_ck) Shut.stk) k_ip) k_uf) k_rc) k_nm) k_mp) k_ifc) k_mo) k_lp) k_wk) k_vr) k_rt) k_io) k_lo) k_pk) k_st) Shut.sh) Shut.me) k_lf) k_mk) k_kd) k_pn) k_ve) k_vf)
theorem fnamed : Tryz.prog.funcNamed Rows.fnElemInvertsMakeArrayOfRow.func = some 7 := by kernel_rfl
theorem instOk : decide (Tryz.f7.isInstance Tryz.prog Rows.fnElemInvertsMakeArrayOfRow.origin Rows.fnElemInvertsMakeArrayOfRow.targs) = true := by kernel_rfl
theorem over : Rows.fnElemInvertsMakeArrayOfRow.holds Tryz.pinned (OpenSpec.ofChange Rows.fnElemInvertsMakeArrayOfSpec) :=
  OpenClaim.holds_of_wide 7 Tryz.f7 rfl rfl rfl rfl rfl rfl rfl ⟨rfl, rfl, rfl, rfl, rfl⟩ rfl rfl rfl rfl rfl fnamed Tryz.func7 closedAll
    (of_decide_eq_true instOk) (by unfold Func.isWrapper; first | (rw [if_pos (by decide +kernel)]; kernel_rfl) | (rw [if_neg (by decide +kernel)]; exact ⟨rfl, rfl⟩))
    (fun os started H enc _ => lifted os started H enc)

theorem proved : Rows.FnElemInvertsMakeArrayOfSaid := over
#print axioms proved
end Go.Proofs.YtfmefomafdgfmaaGreat.fnElemInvertsMakeArrayOf
