/-
  What the walk of FnFindInEmbeddedScript says, in the row's words, and the closed facts of the row. Condition: none.
-/
import Derived.Test.YtdpgbmmgeooahaaGreatDoorBesreflClosed
import Derived.Test.YtdpgbmmgeooahaaGreatDoorBesreflFnFindInEmbeddedScriptW
import Derived.Test.YtdpgbmmgeooahaaGreatDoorBesreflTie
import Derived.Test.YtdpgbmmgeooahaaGreatDoorBesreflCards
import Derived.Test.YtdpgbmmgeooahaaGreatDoorBesreflLaid
import Derived.WalkKit
import Derived.ProofKit
import Derived.OpenShut
import Derived.ShutString
import Derived.ChangeOld
import Derived.Below
import Derived.ReadAgain
import Derived.ChangeSlices
import Derived.SliceStrings
import Derived.ChangeOld
import Derived.ChangeReads
import Derived.ChangeSame
import Derived.ChangeMaps5
import Derived.Laws.Cover2
import Derived.Lay
import Derived.LaidOnce
import Derived.SevenTiedAt
import Derived.LaidMore
import Derived.Stop.Joined
namespace Go.Proofs.YtdpgbmmgeooahaaGreatDoorBesrefl.fnFindInEmbeddedScript
open Go.ChangeShapes Go.WideShapes Go.ChangeAt Go.RowKit
open Go.ChangeMaps (open_string shut_string)
set_option linter.unusedVariables false
section
open Go.ChangeShapes Go.WideShapes
variable {H : Type} {enc : TypeId × Value → H} {P : Program} {w w' : World}
theorem carryAll {base : Nat} {sp : Nat → Bool} {held : Bool} (hs0 : Below w.heap.size w w') : ∀ {ts : List TypeId} {vs : List Value} {ds : List (DataW H)} {ps : List MemPlace},
    DataW.TrodAll enc P w base sp held ts vs ds ps → DataW.TrodAll enc P w' base sp held ts vs ds ps
  | [], _, _, _, h => by
    obtain ⟨rfl, rfl, rfl⟩ := trodAll_nil h
    rfl
  | _ :: _, _, _, _, h => by
    obtain ⟨v, vs1, d, ds1, a, b, rfl, rfl, rfl, h1, h2⟩ := trodAll_cons h
    obtain ⟨fuel, hf⟩ := h1
    have hlt := DataW.trod_lt _ _ _ _ hf
    exact ⟨a, b, ⟨fuel, DataW.trod_carry _ _ _ _ hf (fun p hp => hs0.same (hlt p hp))⟩, carryAll hs0 h2, rfl⟩
theorem ints_in {base : Nat} {t e : TypeId} {k : IntKind} {v : Value} {d : DataW H} {ps : List MemPlace} {r : Reach} {b0 : Nat} (ht : P.underlying t = some (.slice e)) (he : P.underlying e = some (.int k)) (hc : P.cellsOf e = 1)
    (hval : Value.okWide P w r b0 t v) (hd : DataW.Trod enc P w base (fun _ => true) true t v d ps) : IntsIn w k v := by
  obtain ⟨a0, len, cap, rfl⟩ := okWide_slice ht hval
  obtain ⟨fuel, hf⟩ := hd
  rcases open_ints ht he hc hf with ⟨hcs, _⟩ | ⟨a, len', cap', zs, hcs, _, hl, hm, hz, _, hcell, hwz⟩
  · left
    simp [Value.cells] at hcs
    obtain ⟨rfl, rfl, rfl⟩ := hcs
    rfl
  · right
    simp [Value.cells] at hcs
    obtain ⟨rfl, rfl, rfl⟩ := hcs
    exact ⟨a, _, _, zs, rfl, hl, hm, by simpa using hz, hcell, hwz⟩
theorem strs_in {base : Nat} {t e : TypeId} {v : Value} {d : DataW H} {ps : List MemPlace} {r : Reach} {b0 : Nat} (ht : P.underlying t = some (.slice e)) (he : P.underlying e = some .string) (hc : P.cellsOf e = 1)
    (hval : Value.okWide P w r b0 t v) (hd : DataW.Trod enc P w base (fun _ => true) true t v d ps) : StrsIn w v := by
  obtain ⟨a0, len, cap, rfl⟩ := okWide_slice ht hval
  obtain ⟨fuel, hf⟩ := hd
  rcases open_strings ht he hc hf with ⟨hcs, _⟩ | ⟨a, len', cap', ss, hcs, _, hl, hm, hz, _, hcell, hwz⟩
  · left
    simp [Value.cells] at hcs
    obtain ⟨rfl, rfl, rfl⟩ := hcs
    rfl
  · right
    simp [Value.cells] at hcs
    obtain ⟨rfl, rfl, rfl⟩ := hcs
    exact ⟨a, _, _, ss, rfl, hl, hm, by simpa using hz, hcell, hwz⟩
theorem ptr_in {base : Nat} {t e : TypeId} {k : IntKind} {v : Value} {d : DataW H} {ps : List MemPlace} {r : Reach} {b0 : Nat} (ht : P.underlying t = some (.pointer e)) (he : P.underlying e = some (.int k)) (hc : P.cellsOf e = 1)
    (hval : Value.okWide P w r b0 t v) (hd : DataW.Trod enc P w base (fun _ => true) true t v d ps) : PtrIn w k v := by
  rcases open_ptr_int ht he hc hval hd with ⟨h, _⟩ | ⟨b, off, n, h, _, _, hcell, hw⟩
  · exact Or.inl h
  · exact Or.inr ⟨b, off, n, h, hcell, hw⟩
end
theorem kids : Kids Tryz.prog (· < Tryz.prog.types.size) := kids_rows Shut.laidOut Shut.mrow
theorem full : ∀ t e, t < Tryz.prog.types.size → Tryz.prog.underlying t = some (.slice e) → 0 < Tryz.prog.cellsOf e := slices_full_of Tryz.prog (by kernel_rfl)
set_option maxRecDepth 100000 in
theorem lifted (os : Os) (started : os.Started) (H : Type) (enc : TypeId × Value → H) :
    ReturnsInHanded {} Tryz.checked os 8 .any (fun w args => (Rows.fnFindInEmbeddedScriptSpec.pre enc Tryz.prog Tryz.f8 [] false w args ∧ laidMetH Tryz.prog Rows.fnFindInEmbeddedScriptRow.laid w) ∧ sizedMet enc Tryz.prog Tryz.f8 (OpenSpec.ofChange Rows.fnFindInEmbeddedScriptSpec) false w args)
      (Rows.fnFindInEmbeddedScriptSpec.post enc Tryz.prog Tryz.f8 false true false false) := by
  refine returnsInHanded_of_change_and (C := Tryz.checked) (X := fun w _ => laidMetH Tryz.prog Rows.fnFindInEmbeddedScriptRow.laid w) (fun _ _ _ hh h => h.of_heap hh) Shut.own started (by kernel_rfl) Tryz.func8
    (ChangeSpec.witness_shaped (enc := enc) (C := Tryz.checked) (os := os) (X := fun w _ => laidMetH Tryz.prog Rows.fnFindInEmbeddedScriptRow.laid w) false (Laid.wit os) #[.slice none 0 0, .slice none 0 0] 8 (Laid.wit_os os)
      (Laid.wit_shaped os) (by kernel_rfl) (by kernel_rfl) (by kernel_rfl) (Laid.wit_met os _)) ?_
  intro W base args ds gs before hval0 hW _ _ hL _
  have hval : ∀ (j : Nat) t v, Tryz.f8.params[j]? = some t → args[j]? = some v → Value.okWide Tryz.prog W .any base t v := hval0
  have hW' := hW
  obtain ⟨p, q, hA0, hV, rfl, hfz, hnd⟩ := hW
  have hA : DataW.TrodAll enc Tryz.prog W 0 (fun _ => true) true Tryz.f8.params.toList args.toList ds p := hA0
  have hAk := hA
  rw [Tryz.params8] at hA hval
  obtain ⟨v0, vs0, d0, ds0, p0, q0, hargs, rfl, rfl, h0, r0⟩ := trodAll_cons hA
  obtain ⟨v1, vs1, d1, ds1, p1, q1, rfl, rfl, rfl, h1, r1⟩ := trodAll_cons r0
  obtain ⟨rfl, rfl, rfl⟩ := trodAll_nil r1
  obtain rfl : args = #[v0, v1] := by cases args; simp_all
  obtain ⟨rfl, rfl⟩ := trodVars_none hV
  have w0 := ints_in Tryz.underlying64 Tryz.underlying3 (by kernel_rfl) (hval 0 64 v0 rfl rfl) h0
  have w1 := strs_in Tryz.underlying74 Tryz.underlying9 (by kernel_rfl) (hval 1 74 v1 rfl rfl) h1
  clear hA0 hval0
  refine (walk v0 v1 W w0 w1).mono fun e W' ⟨he, bel⟩ => ?_
  subst he
  exact ⟨_, rfl, _, _, _, [], _, [], hW', trodAll_mk1 (shut_bool Tryz.underlying4 _), DataW.TrodAll.respare kids full (by rw [Tryz.params8]; decide +kernel) (carryAll bel hAk) (fun p hp => by simpa using hAk.lt p hp), rfl, bel.frame _, fun h => by cases h⟩

theorem k_wf : (Rows.fnFindInEmbeddedScriptRow.wf (OpenSpec.ofChange Rows.fnFindInEmbeddedScriptSpec)) = true := by kernel_rfl
theorem k_rd : (Tryz.f8.params.all (Tryz.prog.readableRec ·)) = true := by kernel_rfl
theorem k_nt : (namedTie Tryz.prog Rows.fnFindInEmbeddedScriptRow.named Rows.fnFindInEmbeddedScriptSpec.vars) = true := by kernel_rfl
theorem k_cs : ((Rows.fnFindInEmbeddedScriptRow.stops == [])) = true := by kernel_rfl
theorem k_ck : ((Rows.fnFindInEmbeddedScriptRow.knobs == [])) = true := by kernel_rfl
theorem k_ip : ((Rows.fnFindInEmbeddedScriptRow.inPlace == Tryz.prog.inPlace 8)) = true := by kernel_rfl
theorem k_uf : ((Rows.fnFindInEmbeddedScriptRow.unfollowed == Tryz.prog.unfollowed 8)) = true := by kernel_rfl
theorem k_rc : ((Rows.fnFindInEmbeddedScriptRow.recurses == Tryz.prog.recurses 8)) = true := by kernel_rfl
theorem k_nm : ((Rows.fnFindInEmbeddedScriptRow.named == Tryz.prog.varsNamed 8)) = true := by kernel_rfl
theorem k_mp : ((Rows.fnFindInEmbeddedScriptRow.maps == (Tryz.f8.params.toList ++ Rows.fnFindInEmbeddedScriptSpec.plain.varTypes Tryz.prog).any (Tryz.prog.mapsRec ·))) = true := by kernel_rfl
theorem k_ifc : ((Rows.fnFindInEmbeddedScriptRow.ifaces == (Tryz.f8.params.toList ++ Rows.fnFindInEmbeddedScriptSpec.plain.varTypes Tryz.prog).any (Tryz.prog.ifacesRec ·))) = true := by kernel_rfl
theorem k_mo : ((Rows.fnFindInEmbeddedScriptRow.mapsOut == Tryz.prog.mapsAmong Tryz.f8.resultTypes.toList)) = true := by kernel_rfl
theorem k_lp : ((Rows.fnFindInEmbeddedScriptRow.loops == (Tryz.f8.params.toList ++ Rows.fnFindInEmbeddedScriptSpec.plain.varTypes Tryz.prog).any (Tryz.prog.loopsFrom ·))) = true := by kernel_rfl
theorem k_wk : ((Rows.fnFindInEmbeddedScriptRow.wideKeys == (Tryz.f8.params.toList ++ Rows.fnFindInEmbeddedScriptSpec.plain.varTypes Tryz.prog ++ Tryz.f8.resultTypes.toList).any (Tryz.prog.wideKeysFrom ·))) = true := by kernel_rfl
theorem k_vr : (Rows.fnFindInEmbeddedScriptSpec.vars.all (Tryz.prog.varReadable ·)) = true := by kernel_rfl
theorem k_rt : (Tryz.f8.resultTypes.all (fun t => Tryz.prog.readableRec t && decide (t < Tryz.prog.types.size))) = true := by kernel_rfl
theorem k_io : ((Rows.fnFindInEmbeddedScriptRow.ifacesOut == Tryz.f8.resultTypes.toList.any (Tryz.prog.ifacesRec ·))) = true := by kernel_rfl
theorem k_lo : ((Rows.fnFindInEmbeddedScriptRow.loopsOut == Tryz.f8.resultTypes.toList.any (Tryz.prog.loopsFrom ·))) = true := by kernel_rfl
theorem k_pk : (Rows.fnFindInEmbeddedScriptRow.plainKeys == Tryz.prog.plainKeys) = true := by rw [Shut.pk]; rfl
theorem k_st : (Rows.fnFindInEmbeddedScriptRow.shortTexts.isNone) = true := by kernel_rfl
theorem k_lf : (Rows.fnFindInEmbeddedScriptRow.lifted == Tryz.prog.liftsFinal) = true := by rw [Shut.lf]; rfl
theorem k_mk : (Tryz.prog.make == some Rows.fnFindInEmbeddedScriptRow.make) = true := by rw [Shut.mk_of _ Shut.head]; rfl
theorem k_kd : ((Rows.fnFindInEmbeddedScriptRow.kinds == (if Rows.fnFindInEmbeddedScriptRow.domain.isEmpty then [] else Tryz.f8.params.toList.map fun t => match Tryz.prog.underlying t with | some (.int k) => some k | _ => Option.none))) = true := by kernel_rfl
theorem k_pn : ((Rows.fnFindInEmbeddedScriptRow.pinned == Rows.fnFindInEmbeddedScriptRow.pinnedBy)) = true := by kernel_rfl
theorem k_ve : ((Rows.fnFindInEmbeddedScriptRow.veiled == (Tryz.f8.params.toList ++ Rows.fnFindInEmbeddedScriptSpec.plain.varTypes Tryz.prog ++ Tryz.f8.resultTypes.toList).any (Tryz.prog.veiledRec ·))) = true := by kernel_rfl
theorem k_vf : (Rows.fnFindInEmbeddedScriptRow.veiledFits Tryz.prog Tryz.f8.params.toList (Tryz.f8.params.toList ++ Rows.fnFindInEmbeddedScriptSpec.plain.varTypes Tryz.prog ++ Tryz.f8.resultTypes.toList)) = true := by kernel_rfl
set_option maxRecDepth 100000 in
theorem closedAll : joinedFacts Tryz.prog 8 Tryz.f8 Rows.fnFindInEmbeddedScriptSpec Rows.fnFindInEmbeddedScriptRow = true := (Shut.and2 (Shut.and2 (Shut.and2 (Shut.and2 (Shut.and2 (Shut.and2 (Shut.and2 (Shut.and2 (Shut.and2 (Shut.and2 (Shut.and2 (Shut.and2 (Shut.and2 (Shut.and2 (Shut.and2 (Shut.and2 (Shut.and2 (Shut.and2 (Shut.and2 (Shut.and2 (Shut.and2 (Shut.and2 (Shut.and2 (Shut.and2 (Shut.and2 (Shut.and2 (Shut.and2 (Shut.and2 (Shut.and2 (Shut.and2 (Shut.and2 k_wf Shut.laidOut) Shut.mrow) k_rd) k_nt) k_cs) Shut.stp) k_ck) Shut.stk) k_ip) k_uf) k_rc) k_nm) k_mp) k_ifc) k_mo) k_lp) k_wk) k_vr) k_rt) k_io) k_lo) k_pk) k_st) Shut.sh) Shut.me) k_lf) k_mk) k_kd) k_pn) k_ve) k_vf)
theorem fnamed : Tryz.prog.funcNamed Rows.fnFindInEmbeddedScriptRow.func = some 8 := by kernel_rfl
theorem instOk : decide (Tryz.f8.isInstance Tryz.prog Rows.fnFindInEmbeddedScriptRow.origin Rows.fnFindInEmbeddedScriptRow.targs) = true := by kernel_rfl
theorem over : Rows.fnFindInEmbeddedScriptRow.holds Tryz.pinned (OpenSpec.ofChange Rows.fnFindInEmbeddedScriptSpec) :=
  OpenClaim.holds_of_wide 8 Tryz.f8 rfl rfl rfl rfl rfl rfl rfl ⟨rfl, rfl, rfl, rfl, rfl⟩ rfl rfl rfl rfl rfl fnamed Tryz.func8 closedAll
    (of_decide_eq_true instOk) (by unfold Func.isWrapper; first | (rw [if_pos (by decide +kernel)]; kernel_rfl) | (rw [if_neg (by decide +kernel)]; exact ⟨rfl, rfl⟩))
    (fun os started H enc _ => lifted os started H enc)

end Go.Proofs.YtdpgbmmgeooahaaGreatDoorBesrefl.fnFindInEmbeddedScript
