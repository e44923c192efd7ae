/-
  getStruct answers a fixed table, and the same data on every later call for that type on that cache; another type and another cache get other data. Condition: none. (The seat was turned with the translator's switches -reflectrows -leanrows.)
-/
import Derived.Test.YtfmefomafdgfmaaGreatClosed
import Derived.Test.YtfmefomafdgfmaaGreatFnGetStructMemoTableW
import Derived.WalkKit
import Derived.ProofKit
import Derived.OpenShut
import Derived.ShutString
import Derived.ChangeOld
import Derived.Below
namespace Go.Proofs.YtfmefomafdgfmaaGreat.fnGetStructMemoTable
open Go.ChangeShapes Go.WideShapes Go.ChangeAt Go.RowKit
open Go.ChangeMaps (open_string shut_string)
set_option linter.unusedVariables false
set_option maxRecDepth 100000 in
theorem lifted (os : Os) (started : os.Started) (H : Type) (enc : TypeId × Value → H) :
    ReturnsInHanded {} Tryz.checked os 13 .any (Rows.fnGetStructMemoTableSpec.pre6 enc Tryz.prog Tryz.f13 Rows.fnGetStructMemoTableRow.domain false) (Rows.fnGetStructMemoTableSpec.post enc Tryz.prog Tryz.f13 false true false false) := by
  refine returnsInHanded_of_change (C := Tryz.checked) Shut.own started (by kernel_rfl) Tryz.func13
    (ChangeSpec.witness6 (enc := enc) (C := Tryz.checked) false ⟨#[], #[.int .i64 0], []⟩ 8 (by kernel_rfl) (by kernel_rfl) (by kernel_rfl) (by kernel_rfl)) ?_
  intro W base args ds gs before hval0 hW hcnd _
  have hval : ∀ (j : Nat) t v, Tryz.f13.params[j]? = some t → args[j]? = some v → Value.okWide Tryz.prog W .any base t v := hval0
  have hW' := hW
  obtain ⟨p, q, hA0, hV, rfl, hfz, hnd⟩ := hW
  have hA : DataW.TrodAll enc Tryz.prog W 0 (fun _ => true) true Tryz.f13.params.toList args.toList ds p := hA0
  rw [Tryz.params13] at hA hval
  obtain ⟨v0, vs0, d0, ds0, p0, q0, hargs, rfl, rfl, h0, r0⟩ := trodAll_cons hA
  obtain ⟨rfl, rfl, rfl⟩ := trodAll_nil r0
  obtain rfl : args = #[v0] := by cases args; simp_all
  obtain ⟨rfl, rfl⟩ := trodVars_none hV
  obtain ⟨a0, rfl, rfl, rfl, w0⟩ := open_int Tryz.underlying3 (hval 0 3 v0 rfl rfl) h0
  clear hA0 hval0
  refine (walk a0 W w0).mono fun e W' ⟨he, bel⟩ => ?_
  subst he
  exact ⟨_, rfl, _, _, _, [], _, [], hW', trodAll_mk1 (shut_bool Tryz.underlying4 _), (trodAll_cons_mk (shut_int Tryz.underlying3 w0) trodAll_mk0), rfl, bel.frame _, fun h => by cases h⟩

theorem k_wf : (Rows.fnGetStructMemoTableRow.wf (OpenSpec.ofChange Rows.fnGetStructMemoTableSpec)) = true := by kernel_rfl
theorem k_rd : (Tryz.f13.params.all (Tryz.prog.readableRec ·)) = true := by kernel_rfl
theorem k_nt : (namedTie Tryz.prog Rows.fnGetStructMemoTableRow.named Rows.fnGetStructMemoTableSpec.vars) = true := by kernel_rfl
theorem k_cs : ((Rows.fnGetStructMemoTableRow.stops == [])) = true := by kernel_rfl
theorem k_ck : ((Rows.fnGetStructMemoTableRow.knobs == [])) = true := by kernel_rfl
theorem k_ip : ((Rows.fnGetStructMemoTableRow.inPlace == Tryz.prog.inPlace 13)) = true := by kernel_rfl
theorem k_uf : ((Rows.fnGetStructMemoTableRow.unfollowed == Tryz.prog.unfollowed 13)) = true := by kernel_rfl
theorem k_rc : ((Rows.fnGetStructMemoTableRow.recurses == Tryz.prog.recurses 13)) = true := by kernel_rfl
theorem k_nm : ((Rows.fnGetStructMemoTableRow.named == Tryz.prog.varsNamed 13)) = true := by kernel_rfl
theorem k_mp : ((Rows.fnGetStructMemoTableRow.maps == (Tryz.f13.params.toList ++ Rows.fnGetStructMemoTableSpec.plain.varTypes Tryz.prog).any (Tryz.prog.mapsRec ·))) = true := by kernel_rfl
theorem k_ifc : ((Rows.fnGetStructMemoTableRow.ifaces == (Tryz.f13.params.toList ++ Rows.fnGetStructMemoTableSpec.plain.varTypes Tryz.prog).any (Tryz.prog.ifacesRec ·))) = true := by kernel_rfl
theorem k_mo : ((Rows.fnGetStructMemoTableRow.mapsOut == Tryz.prog.mapsAmong Tryz.f13.resultTypes.toList)) = true := by kernel_rfl
theorem k_lp : ((Rows.fnGetStructMemoTableRow.loops == (Tryz.f13.params.toList ++ Rows.fnGetStructMemoTableSpec.plain.varTypes Tryz.prog).any (Tryz.prog.loopsFrom ·))) = true := by kernel_rfl
theorem k_wk : ((Rows.fnGetStructMemoTableRow.wideKeys == (Tryz.f13.params.toList ++ Rows.fnGetStructMemoTableSpec.plain.varTypes Tryz.prog ++ Tryz.f13.resultTypes.toList).any (Tryz.prog.wideKeysFrom ·))) = true := by kernel_rfl
theorem k_vr : (Rows.fnGetStructMemoTableSpec.vars.all (Tryz.prog.varReadable ·)) = true := by kernel_rfl
theorem k_rt : (Tryz.f13.resultTypes.all (fun t => Tryz.prog.readableRec t && decide (t < Tryz.prog.types.size))) = true := by kernel_rfl
theorem k_io : ((Rows.fnGetStructMemoTableRow.ifacesOut == Tryz.f13.resultTypes.toList.any (Tryz.prog.ifacesRec ·))) = true := by kernel_rfl
theorem k_lo : ((Rows.fnGetStructMemoTableRow.loopsOut == Tryz.f13.resultTypes.toList.any (Tryz.prog.loopsFrom ·))) = true := by kernel_rfl
theorem k_pk : (Rows.fnGetStructMemoTableRow.plainKeys == Tryz.prog.plainKeys) = true := by rw [Shut.pk]; rfl
theorem k_st : (Rows.fnGetStructMemoTableRow.shortTexts.isNone) = true := by kernel_rfl
theorem k_lf : (Rows.fnGetStructMemoTableRow.lifted == Tryz.prog.liftsFinal) = true := by rw [Shut.lf]; rfl
theorem k_mk : (Tryz.prog.make == some Rows.fnGetStructMemoTableRow.make) = true := by rw [Shut.mk_of _ Shut.head]; rfl
theorem k_kd : ((Rows.fnGetStructMemoTableRow.kinds == (if Rows.fnGetStructMemoTableRow.domain.isEmpty then [] else Tryz.f13.params.toList.map fun t => match Tryz.prog.underlying t with | some (.int k) => some k | _ => Option.none))) = true := by kernel_rfl
theorem k_pn : ((Rows.fnGetStructMemoTableRow.pinned == Rows.fnGetStructMemoTableRow.pinnedBy)) = true := by kernel_rfl
theorem k_ve : ((Rows.fnGetStructMemoTableRow.veiled == (Tryz.f13.params.toList ++ Rows.fnGetStructMemoTableSpec.plain.varTypes Tryz.prog ++ Tryz.f13.resultTypes.toList).any (Tryz.prog.veiledRec ·))) = true := by kernel_rfl
theorem k_vf : (Rows.fnGetStructMemoTableRow.veiledFits Tryz.prog Tryz.f13.params.toList (Tryz.f13.params.toList ++ Rows.fnGetStructMemoTableSpec.plain.varTypes Tryz.prog ++ Tryz.f13.resultTypes.toList)) = true := by kernel_rfl
set_option maxRecDepth 100000 in
theorem closedAll : joinedFacts Tryz.prog 13 Tryz.f13 Rows.fnGetStructMemoTableSpec Rows.fnGetStructMemoTableRow = true := (Shut.and2 (Shut.and2 (Shut.and2 (Shut.and2 (Shut.and2 (Shut.and2 (Shut.and2 (Shut.and2 (Shut.and2 (Shut.and2 (Shut.and2 (Shut.and2 (Shut.and2 (Shut.and2 (Shut.and2 (Shut.and2 (Shut.and2 (Shut.and2 (Shut.and2 (Shut.and2 (Shut.and2 (Shut.and2 (Shut.and2 (Shut.and2 (Shut.and2 (Shut.and2 (Shut.and2 (Shut.and2 (Shut.and2 (Shut.and2 (Shut.and2 k_wf Shut.laidOut) Shut.mrow) k_rd) k_nt) k_cs) Shut.stp) k_ck) Shut.stk) k_ip) k_uf) k_rc) k_nm) k_mp) k_ifc) k_mo) k_lp) k_wk) k_vr) k_rt) k_io) k_lo) k_pk) k_st) Shut.sh) Shut.me) k_lf) k_mk) k_kd) k_pn) k_ve) k_vf)
theorem fnamed : Tryz.prog.funcNamed Rows.fnGetStructMemoTableRow.func = some 13 := by kernel_rfl
theorem instOk : decide (Tryz.f13.isInstance Tryz.prog Rows.fnGetStructMemoTableRow.origin Rows.fnGetStructMemoTableRow.targs) = true := by kernel_rfl
theorem over : Rows.fnGetStructMemoTableRow.holds Tryz.pinned (OpenSpec.ofChange Rows.fnGetStructMemoTableSpec) :=
  OpenClaim.holds_of_wide 13 Tryz.f13 rfl rfl rfl rfl rfl rfl rfl ⟨rfl, rfl, rfl, rfl, rfl⟩ rfl rfl rfl rfl rfl fnamed Tryz.func13 closedAll
    (of_decide_eq_true instOk) (by unfold Func.isWrapper; first | (rw [if_pos (by decide +kernel)]; kernel_rfl) | (rw [if_neg (by decide +kernel)]; exact ⟨rfl, rfl⟩))
    (fun os started H enc _ => lifted os started H enc)

theorem proved : Rows.FnGetStructMemoTableSaid := over
#print axioms proved
end Go.Proofs.YtfmefomafdgfmaaGreat.fnGetStructMemoTable
