/-
  field lookup after getStruct finds exactly the exported, renamed, promoted fields. Condition: none. (The seat was turned with the translator's switches -reflectrows -leanrows -reflbeside.)
-/
import Derived.Test.YtpnifkpnapoeoaaGreatDoorBesreflClosed
import Derived.Test.YtpnifkpnapoeoaaGreatDoorBesreflFnGetStructFieldByNameW
import Derived.Test.YtpnifkpnapoeoaaGreatDoorBesreflTie
import Derived.Test.YtpnifkpnapoeoaaGreatDoorBesreflCards
import Derived.Test.YtpnifkpnapoeoaaGreatDoorBesreflLaid
import Derived.WalkKit
import Derived.ProofKit
import Derived.OpenShut
import Derived.ShutString
import Derived.ChangeOld
import Derived.Below
import Derived.ReadAgain
import Derived.ChangeSlices
import Derived.SliceStrings
import Derived.ChangeOld
import Derived.ChangeReads
import Derived.ChangeSame
import Derived.ChangeMaps5
import Derived.Laws.Cover2
import Derived.Lay
import Derived.LaidOnce
import Derived.SevenTiedAt
import Derived.LaidMore
import Derived.Stop.Joined
namespace Go.Proofs.YtpnifkpnapoeoaaGreatDoorBesrefl.fnGetStructFieldByName
open Go.ChangeShapes Go.WideShapes Go.ChangeAt Go.RowKit
open Go.ChangeMaps (open_string shut_string)
set_option linter.unusedVariables false
section
open Go.ChangeShapes Go.WideShapes
variable {H : Type} {enc : TypeId × Value → H} {P : Program} {w w' : World}
theorem carryAll {base : Nat} {sp : Nat → Bool} {held : Bool} (hs0 : Below w.heap.size w w') : ∀ {ts : List TypeId} {vs : List Value} {ds : List (DataW H)} {ps : List MemPlace},
    DataW.TrodAll enc P w base sp held ts vs ds ps → DataW.TrodAll enc P w' base sp held ts vs ds ps
  | [], _, _, _, h => by
    obtain ⟨rfl, rfl, rfl⟩ := trodAll_nil h
    rfl
  | _ :: _, _, _, _, h => by
    obtain ⟨v, vs1, d, ds1, a, b, rfl, rfl, rfl, h1, h2⟩ := trodAll_cons h
    obtain ⟨fuel, hf⟩ := h1
    have hlt := DataW.trod_lt _ _ _ _ hf
    exact ⟨a, b, ⟨fuel, DataW.trod_carry _ _ _ _ hf (fun p hp => hs0.same (hlt p hp))⟩, carryAll hs0 h2, rfl⟩
end
theorem kids : Kids Tryz.prog (· < Tryz.prog.types.size) := kids_rows Shut.laidOut Shut.mrow
theorem full : ∀ t e, t < Tryz.prog.types.size → Tryz.prog.underlying t = some (.slice e) → 0 < Tryz.prog.cellsOf e := slices_full_of Tryz.prog (by kernel_rfl)
set_option maxRecDepth 100000 in
theorem lifted (os : Os) (started : os.Started) (H : Type) (enc : TypeId × Value → H) :
    ReturnsInHanded {} Tryz.checked os 7 .any (fun w args => (Rows.fnGetStructFieldByNameSpec.pre enc Tryz.prog Tryz.f7 [] false w args ∧ laidMetH Tryz.prog Rows.fnGetStructFieldByNameRow.laid w) ∧ sizedMet enc Tryz.prog Tryz.f7 (OpenSpec.ofChange Rows.fnGetStructFieldByNameSpec) false w args)
      (Rows.fnGetStructFieldByNameSpec.post enc Tryz.prog Tryz.f7 false true false false) := by
  refine returnsInHanded_of_change_and (C := Tryz.checked) (X := fun w _ => laidMetH Tryz.prog Rows.fnGetStructFieldByNameRow.laid w) (fun _ _ _ hh h => h.of_heap hh) Shut.own started (by kernel_rfl) Tryz.func7
    (ChangeSpec.witness_shaped (enc := enc) (C := Tryz.checked) (os := os) (X := fun w _ => laidMetH Tryz.prog Rows.fnGetStructFieldByNameRow.laid w) false (Laid.wit os) #[.int .i64 0, .string ByteArray.empty] 8 (Laid.wit_os os)
      (Laid.wit_shaped os) (by kernel_rfl) (by kernel_rfl) (by kernel_rfl) (Laid.wit_met os _)) ?_
  intro W base args ds gs before hval0 hW _ _ hL _
  have hval : ∀ (j : Nat) t v, Tryz.f7.params[j]? = some t → args[j]? = some v → Value.okWide Tryz.prog W .any base t v := hval0
  have hW' := hW
  obtain ⟨p, q, hA0, hV, rfl, hfz, hnd⟩ := hW
  have hA : DataW.TrodAll enc Tryz.prog W 0 (fun _ => true) true Tryz.f7.params.toList args.toList ds p := hA0
  have hAk := hA
  rw [Tryz.params7] at hA hval
  obtain ⟨v0, vs0, d0, ds0, p0, q0, hargs, rfl, rfl, h0, r0⟩ := trodAll_cons hA
  obtain ⟨v1, vs1, d1, ds1, p1, q1, rfl, rfl, rfl, h1, r1⟩ := trodAll_cons r0
  obtain ⟨rfl, rfl, rfl⟩ := trodAll_nil r1
  obtain rfl : args = #[v0, v1] := by cases args; simp_all
  obtain ⟨rfl, rfl⟩ := trodVars_none hV
  obtain ⟨a0, rfl, rfl, rfl, w0⟩ := open_int Tryz.underlying3 (hval 0 3 v0 rfl rfl) h0
  obtain ⟨a1, rfl, rfl, rfl, w1⟩ := open_string Tryz.underlying9 (hval 1 9 v1 rfl rfl) h1
  clear hA0 hval0
  refine (walk a0 a1 W w0 w1).mono fun e W' ⟨he, bel⟩ => ?_
  subst he
  exact ⟨_, rfl, _, _, _, [], _, [], hW', trodAll_mk1 (shut_bool Tryz.underlying4 _), DataW.TrodAll.respare kids full (by rw [Tryz.params7]; decide +kernel) (carryAll bel hAk) (fun p hp => by simpa using hAk.lt p hp), rfl, bel.frame _, fun h => by cases h⟩

theorem k_wf : (Rows.fnGetStructFieldByNameRow.wf (OpenSpec.ofChange Rows.fnGetStructFieldByNameSpec)) = true := by kernel_rfl
theorem k_rd : (Tryz.f7.params.all (Tryz.prog.readableRec ·)) = true := by kernel_rfl
theorem k_nt : (namedTie Tryz.prog Rows.fnGetStructFieldByNameRow.named Rows.fnGetStructFieldByNameSpec.vars) = true := by kernel_rfl
theorem k_cs : ((Rows.fnGetStructFieldByNameRow.stops == [])) = true := by kernel_rfl
theorem k_ck : ((Rows.fnGetStructFieldByNameRow.knobs == [])) = true := by kernel_rfl
theorem k_ip : ((Rows.fnGetStructFieldByNameRow.inPlace == Tryz.prog.inPlace 7)) = true := by kernel_rfl
theorem k_uf : ((Rows.fnGetStructFieldByNameRow.unfollowed == Tryz.prog.unfollowed 7)) = true := by kernel_rfl
theorem k_rc : ((Rows.fnGetStructFieldByNameRow.recurses == Tryz.prog.recurses 7)) = true := by kernel_rfl
theorem k_nm : ((Rows.fnGetStructFieldByNameRow.named == Tryz.prog.varsNamed 7)) = true := by kernel_rfl
theorem k_mp : ((Rows.fnGetStructFieldByNameRow.maps == (Tryz.f7.params.toList ++ Rows.fnGetStructFieldByNameSpec.plain.varTypes Tryz.prog).any (Tryz.prog.mapsRec ·))) = true := by kernel_rfl
theorem k_ifc : ((Rows.fnGetStructFieldByNameRow.ifaces == (Tryz.f7.params.toList ++ Rows.fnGetStructFieldByNameSpec.plain.varTypes Tryz.prog).any (Tryz.prog.ifacesRec ·))) = true := by kernel_rfl
theorem k_mo : ((Rows.fnGetStructFieldByNameRow.mapsOut == Tryz.prog.mapsAmong Tryz.f7.resultTypes.toList)) = true := by kernel_rfl
theorem k_lp : ((Rows.fnGetStructFieldByNameRow.loops == (Tryz.f7.params.toList ++ Rows.fnGetStructFieldByNameSpec.plain.varTypes Tryz.prog).any (Tryz.prog.loopsFrom ·))) = true := by kernel_rfl
theorem k_wk : ((Rows.fnGetStructFieldByNameRow.wideKeys == (Tryz.f7.params.toList ++ Rows.fnGetStructFieldByNameSpec.plain.varTypes Tryz.prog ++ Tryz.f7.resultTypes.toList).any (Tryz.prog.wideKeysFrom ·))) = true := by kernel_rfl
theorem k_vr : (Rows.fnGetStructFieldByNameSpec.vars.all (Tryz.prog.varReadable ·)) = true := by kernel_rfl
theorem k_rt : (Tryz.f7.resultTypes.all (fun t => Tryz.prog.readableRec t && decide (t < Tryz.prog.types.size))) = true := by kernel_rfl
theorem k_io : ((Rows.fnGetStructFieldByNameRow.ifacesOut == Tryz.f7.resultTypes.toList.any (Tryz.prog.ifacesRec ·))) = true := by kernel_rfl
theorem k_lo : ((Rows.fnGetStructFieldByNameRow.loopsOut == Tryz.f7.resultTypes.toList.any (Tryz.prog.loopsFrom ·))) = true := by kernel_rfl
theorem k_pk : (Rows.fnGetStructFieldByNameRow.plainKeys == Tryz.prog.plainKeys) = true := by rw [Shut.pk]; rfl
theorem k_st : (Rows.fnGetStructFieldByNameRow.shortTexts.isNone) = true := by kernel_rfl
theorem k_lf : (Rows.fnGetStructFieldByNameRow.lifted == Tryz.prog.liftsFinal) = true := by rw [Shut.lf]; rfl
theorem k_mk : (Tryz.prog.make == some Rows.fnGetStructFieldByNameRow.make) = true := by rw [Shut.mk_of _ Shut.head]; rfl
theorem k_kd : ((Rows.fnGetStructFieldByNameRow.kinds == (if Rows.fnGetStructFieldByNameRow.domain.isEmpty then [] else Tryz.f7.params.toList.map fun t => match Tryz.prog.underlying t with | some (.int k) => some k | _ => Option.none))) = true := by kernel_rfl
theorem k_pn : ((Rows.fnGetStructFieldByNameRow.pinned == Rows.fnGetStructFieldByNameRow.pinnedBy)) = true := by kernel_rfl
theorem k_ve : ((Rows.fnGetStructFieldByNameRow.veiled == (Tryz.f7.params.toList ++ Rows.fnGetStructFieldByNameSpec.plain.varTypes Tryz.prog ++ Tryz.f7.resultTypes.toList).any (Tryz.prog.veiledRec ·))) = true := by kernel_rfl
theorem k_vf : (Rows.fnGetStructFieldByNameRow.veiledFits Tryz.prog Tryz.f7.params.toList (Tryz.f7.params.toList ++ Rows.fnGetStructFieldByNameSpec.plain.varTypes Tryz.prog ++ Tryz.f7.resultTypes.toList)) = true := by kernel_rfl
set_option maxRecDepth 100000 in
theorem closedAll : joinedFacts Tryz.prog 7 Tryz.f7 Rows.fnGetStructFieldByNameSpec Rows.fnGetStructFieldByNameRow = true := (Shut.and2 (Shut.and2 (Shut.and2 (Shut.and2 (Shut.and2 (Shut.and2 (Shut.and2 (Shut.and2 (Shut.and2 (Shut.and2 (Shut.and2 (Shut.and2 (Shut.and2 (Shut.and2 (Shut.and2 (Shut.and2 (Shut.and2 (Shut.and2 (Shut.and2 (Shut.and2 (Shut.and2 (Shut.and2 (Shut.and2 (Shut.and2 (Shut.and2 (Shut.and2 (Shut.and2 (Shut.and2 (Shut.and2 (Shut.and2 (Shut.and2 k_wf Shut.laidOut) Shut.mrow) k_rd) k_nt) k_cs) Shut.stp) k_ck) Shut.stk) k_ip) k_uf) k_rc) k_nm) k_mp) k_ifc) k_mo) k_lp) k_wk) k_vr) k_rt) k_io) k_lo) k_pk) k_st) Shut.sh) Shut.me) k_lf) k_mk) k_kd) k_pn) k_ve) k_vf)
theorem fnamed : Tryz.prog.funcNamed Rows.fnGetStructFieldByNameRow.func = some 7 := by kernel_rfl
theorem instOk : decide (Tryz.f7.isInstance Tryz.prog Rows.fnGetStructFieldByNameRow.origin Rows.fnGetStructFieldByNameRow.targs) = true := by kernel_rfl
theorem over : Rows.fnGetStructFieldByNameRow.holds Tryz.pinned (OpenSpec.ofChange Rows.fnGetStructFieldByNameSpec) :=
  OpenClaim.holds_of_wide 7 Tryz.f7 rfl rfl rfl rfl rfl rfl rfl ⟨rfl, rfl, rfl, rfl, rfl⟩ rfl rfl rfl rfl rfl fnamed Tryz.func7 closedAll
    (of_decide_eq_true instOk) (by unfold Func.isWrapper; first | (rw [if_pos (by decide +kernel)]; kernel_rfl) | (rw [if_neg (by decide +kernel)]; exact ⟨rfl, rfl⟩))
    (fun os started H enc _ => lifted os started H enc)

theorem proved : Rows.FnGetStructFieldByNameCardSaid :=
  Claim7.holds_tied_plain_at .later [] [.data, .called, .pinned] true Rows.fnGetStructFieldByNameCard.stood.harness true over (fun _ h => by cases h) (by kernel_rfl) (fun _ h => by cases h) fnGetStructFieldByName_row_tie rfl ⟨rfl, rfl⟩ (by kernel_rfl) rfl
    (fun f fn hf hfn => by
      obtain rfl : f = 7 := Option.some.inj ((show Tryz.prog.funcNamed Rows.fnGetStructFieldByNameRow.func = some 7 from fnamed).symm.trans hf) |>.symm
      obtain rfl : fn = Tryz.f7 := (Option.some.inj (Tryz.func7.symm.trans hfn)).symm
      exact ⟨by kernel_rfl, fun j t ht => by
        rw [Tryz.params7] at ht
        have hm : t ∈ [3, 9] := by simpa using Array.mem_of_getElem? ht
        have hall : ([3, 9].all fun u => !Tryz.prog.wantsStandIn u) = true := by kernel_rfl
        exact (show Tryz.prog.wantsStandIn t = false by simpa using List.all_eq_true.1 hall t hm)⟩)
    (by kernel_rfl)
#print axioms proved
end Go.Proofs.YtpnifkpnapoeoaaGreatDoorBesrefl.fnGetStructFieldByName
