/-
  Every FieldByName answer of a script on one cache matches the field table; a third Nature still finds all seven fields. Condition: none. (The seat was turned with the translator's switches -reflectrows -leanrows -reflbeside.)
-/
import Derived.Test.YtpnifkpnapoeoaaGreatDoorBesreflClosed
import Derived.Test.YtpnifkpnapoeoaaGreatDoorBesreflFnFieldByNameScriptOnOneCacheW
import Derived.Test.YtpnifkpnapoeoaaGreatDoorBesreflTie
import Derived.Test.YtpnifkpnapoeoaaGreatDoorBesreflCards
import Derived.Test.YtpnifkpnapoeoaaGreatDoorBesreflLaid
import Derived.WalkKit
import Derived.ProofKit
import Derived.OpenShut
import Derived.ShutString
import Derived.ChangeOld
import Derived.Below
import Derived.ReadAgain
import Derived.ChangeSlices
import Derived.SliceStrings
import Derived.ChangeOld
import Derived.ChangeReads
import Derived.ChangeSame
import Derived.ChangeMaps5
import Derived.Laws.Cover2
import Derived.Lay
import Derived.LaidOnce
import Derived.SevenTiedAt
import Derived.LaidMore
import Derived.Stop.Joined
namespace Go.Proofs.YtpnifkpnapoeoaaGreatDoorBesrefl.fnFieldByNameScriptOnOneCache
open Go.ChangeShapes Go.WideShapes Go.ChangeAt Go.RowKit
open Go.ChangeMaps (open_string shut_string)
set_option linter.unusedVariables false
section
open Go.ChangeShapes Go.WideShapes
variable {H : Type} {enc : TypeId × Value → H} {P : Program} {w w' : World}
theorem carryAll {base : Nat} {sp : Nat → Bool} {held : Bool} (hs0 : Below w.heap.size w w') : ∀ {ts : List TypeId} {vs : List Value} {ds : List (DataW H)} {ps : List MemPlace},
    DataW.TrodAll enc P w base sp held ts vs ds ps → DataW.TrodAll enc P w' base sp held ts vs ds ps
  | [], _, _, _, h => by
    obtain ⟨rfl, rfl, rfl⟩ := trodAll_nil h
    rfl
  | _ :: _, _, _, _, h => by
    obtain ⟨v, vs1, d, ds1, a, b, rfl, rfl, rfl, h1, h2⟩ := trodAll_cons h
    obtain ⟨fuel, hf⟩ := h1
    have hlt := DataW.trod_lt _ _ _ _ hf
    exact ⟨a, b, ⟨fuel, DataW.trod_carry _ _ _ _ hf (fun p hp => hs0.same (hlt p hp))⟩, carryAll hs0 h2, rfl⟩
theorem ints_in {base : Nat} {t e : TypeId} {k : IntKind} {v : Value} {d : DataW H} {ps : List MemPlace} {r : Reach} {b0 : Nat} (ht : P.underlying t = some (.slice e)) (he : P.underlying e = some (.int k)) (hc : P.cellsOf e = 1)
    (hval : Value.okWide P w r b0 t v) (hd : DataW.Trod enc P w base (fun _ => true) true t v d ps) : IntsIn w k v := by
  obtain ⟨a0, len, cap, rfl⟩ := okWide_slice ht hval
  obtain ⟨fuel, hf⟩ := hd
  rcases open_ints ht he hc hf with ⟨hcs, _⟩ | ⟨a, len', cap', zs, hcs, _, hl, hm, hz, _, hcell, hwz⟩
  · left
    simp [Value.cells] at hcs
    obtain ⟨rfl, rfl, rfl⟩ := hcs
    rfl
  · right
    simp [Value.cells] at hcs
    obtain ⟨rfl, rfl, rfl⟩ := hcs
    exact ⟨a, _, _, zs, rfl, hl, hm, by simpa using hz, hcell, hwz⟩
theorem strs_in {base : Nat} {t e : TypeId} {v : Value} {d : DataW H} {ps : List MemPlace} {r : Reach} {b0 : Nat} (ht : P.underlying t = some (.slice e)) (he : P.underlying e = some .string) (hc : P.cellsOf e = 1)
    (hval : Value.okWide P w r b0 t v) (hd : DataW.Trod enc P w base (fun _ => true) true t v d ps) : StrsIn w v := by
  obtain ⟨a0, len, cap, rfl⟩ := okWide_slice ht hval
  obtain ⟨fuel, hf⟩ := hd
  rcases open_strings ht he hc hf with ⟨hcs, _⟩ | ⟨a, len', cap', ss, hcs, _, hl, hm, hz, _, hcell, hwz⟩
  · left
    simp [Value.cells] at hcs
    obtain ⟨rfl, rfl, rfl⟩ := hcs
    rfl
  · right
    simp [Value.cells] at hcs
    obtain ⟨rfl, rfl, rfl⟩ := hcs
    exact ⟨a, _, _, ss, rfl, hl, hm, by simpa using hz, hcell, hwz⟩
theorem ptr_in {base : Nat} {t e : TypeId} {k : IntKind} {v : Value} {d : DataW H} {ps : List MemPlace} {r : Reach} {b0 : Nat} (ht : P.underlying t = some (.pointer e)) (he : P.underlying e = some (.int k)) (hc : P.cellsOf e = 1)
    (hval : Value.okWide P w r b0 t v) (hd : DataW.Trod enc P w base (fun _ => true) true t v d ps) : PtrIn w k v := by
  rcases open_ptr_int ht he hc hval hd with ⟨h, _⟩ | ⟨b, off, n, h, _, _, hcell, hw⟩
  · exact Or.inl h
  · exact Or.inr ⟨b, off, n, h, hcell, hw⟩
end
theorem kids : Kids Tryz.prog (· < Tryz.prog.types.size) := kids_rows Shut.laidOut Shut.mrow
theorem full : ∀ t e, t < Tryz.prog.types.size → Tryz.prog.underlying t = some (.slice e) → 0 < Tryz.prog.cellsOf e := slices_full_of Tryz.prog (by kernel_rfl)
set_option maxRecDepth 100000 in
theorem lifted (os : Os) (started : os.Started) (H : Type) (enc : TypeId × Value → H) :
    ReturnsInHanded {} Tryz.checked os 6 .any (fun w args => (Rows.fnFieldByNameScriptOnOneCacheSpec.pre enc Tryz.prog Tryz.f6 [] false w args ∧ laidMetH Tryz.prog Rows.fnFieldByNameScriptOnOneCacheRow.laid w) ∧ sizedMet enc Tryz.prog Tryz.f6 (OpenSpec.ofChange Rows.fnFieldByNameScriptOnOneCacheSpec) false w args)
      (Rows.fnFieldByNameScriptOnOneCacheSpec.post enc Tryz.prog Tryz.f6 false true false false) := by
  refine returnsInHanded_of_change_and (C := Tryz.checked) (X := fun w _ => laidMetH Tryz.prog Rows.fnFieldByNameScriptOnOneCacheRow.laid w) (fun _ _ _ hh h => h.of_heap hh) Shut.own started (by kernel_rfl) Tryz.func6
    (ChangeSpec.witness_shaped (enc := enc) (C := Tryz.checked) (os := os) (X := fun w _ => laidMetH Tryz.prog Rows.fnFieldByNameScriptOnOneCacheRow.laid w) false (Laid.wit os) #[.slice none 0 0] 8 (Laid.wit_os os)
      (Laid.wit_shaped os) (by kernel_rfl) (by kernel_rfl) (by kernel_rfl) (Laid.wit_met os _)) ?_
  intro W base args ds gs before hval0 hW _ _ hL _
  have hval : ∀ (j : Nat) t v, Tryz.f6.params[j]? = some t → args[j]? = some v → Value.okWide Tryz.prog W .any base t v := hval0
  have hW' := hW
  obtain ⟨p, q, hA0, hV, rfl, hfz, hnd⟩ := hW
  have hA : DataW.TrodAll enc Tryz.prog W 0 (fun _ => true) true Tryz.f6.params.toList args.toList ds p := hA0
  have hAk := hA
  rw [Tryz.params6] at hA hval
  obtain ⟨v0, vs0, d0, ds0, p0, q0, hargs, rfl, rfl, h0, r0⟩ := trodAll_cons hA
  obtain ⟨rfl, rfl, rfl⟩ := trodAll_nil r0
  obtain rfl : args = #[v0] := by cases args; simp_all
  obtain ⟨rfl, rfl⟩ := trodVars_none hV
  have w0 := strs_in Tryz.underlying60 Tryz.underlying9 (by kernel_rfl) (hval 0 60 v0 rfl rfl) h0
  clear hA0 hval0
  refine (walk v0 W w0).mono fun e W' ⟨he, bel⟩ => ?_
  subst he
  exact ⟨_, rfl, _, _, _, [], _, [], hW', trodAll_mk1 (shut_bool Tryz.underlying4 _), DataW.TrodAll.respare kids full (by rw [Tryz.params6]; decide +kernel) (carryAll bel hAk) (fun p hp => by simpa using hAk.lt p hp), rfl, bel.frame _, fun h => by cases h⟩

theorem k_wf : (Rows.fnFieldByNameScriptOnOneCacheRow.wf (OpenSpec.ofChange Rows.fnFieldByNameScriptOnOneCacheSpec)) = true := by kernel_rfl
theorem k_rd : (Tryz.f6.params.all (Tryz.prog.readableRec ·)) = true := by kernel_rfl
theorem k_nt : (namedTie Tryz.prog Rows.fnFieldByNameScriptOnOneCacheRow.named Rows.fnFieldByNameScriptOnOneCacheSpec.vars) = true := by kernel_rfl
theorem k_cs : ((Rows.fnFieldByNameScriptOnOneCacheRow.stops == [])) = true := by kernel_rfl
theorem k_ck : ((Rows.fnFieldByNameScriptOnOneCacheRow.knobs == [])) = true := by kernel_rfl
theorem k_ip : ((Rows.fnFieldByNameScriptOnOneCacheRow.inPlace == Tryz.prog.inPlace 6)) = true := by kernel_rfl
theorem k_uf : ((Rows.fnFieldByNameScriptOnOneCacheRow.unfollowed == Tryz.prog.unfollowed 6)) = true := by kernel_rfl
theorem k_rc : ((Rows.fnFieldByNameScriptOnOneCacheRow.recurses == Tryz.prog.recurses 6)) = true := by kernel_rfl
theorem k_nm : ((Rows.fnFieldByNameScriptOnOneCacheRow.named == Tryz.prog.varsNamed 6)) = true := by kernel_rfl
theorem k_mp : ((Rows.fnFieldByNameScriptOnOneCacheRow.maps == (Tryz.f6.params.toList ++ Rows.fnFieldByNameScriptOnOneCacheSpec.plain.varTypes Tryz.prog).any (Tryz.prog.mapsRec ·))) = true := by kernel_rfl
theorem k_ifc : ((Rows.fnFieldByNameScriptOnOneCacheRow.ifaces == (Tryz.f6.params.toList ++ Rows.fnFieldByNameScriptOnOneCacheSpec.plain.varTypes Tryz.prog).any (Tryz.prog.ifacesRec ·))) = true := by kernel_rfl
theorem k_mo : ((Rows.fnFieldByNameScriptOnOneCacheRow.mapsOut == Tryz.prog.mapsAmong Tryz.f6.resultTypes.toList)) = true := by kernel_rfl
theorem k_lp : ((Rows.fnFieldByNameScriptOnOneCacheRow.loops == (Tryz.f6.params.toList ++ Rows.fnFieldByNameScriptOnOneCacheSpec.plain.varTypes Tryz.prog).any (Tryz.prog.loopsFrom ·))) = true := by kernel_rfl
theorem k_wk : ((Rows.fnFieldByNameScriptOnOneCacheRow.wideKeys == (Tryz.f6.params.toList ++ Rows.fnFieldByNameScriptOnOneCacheSpec.plain.varTypes Tryz.prog ++ Tryz.f6.resultTypes.toList).any (Tryz.prog.wideKeysFrom ·))) = true := by kernel_rfl
theorem k_vr : (Rows.fnFieldByNameScriptOnOneCacheSpec.vars.all (Tryz.prog.varReadable ·)) = true := by kernel_rfl
theorem k_rt : (Tryz.f6.resultTypes.all (fun t => Tryz.prog.readableRec t && decide (t < Tryz.prog.types.size))) = true := by kernel_rfl
theorem k_io : ((Rows.fnFieldByNameScriptOnOneCacheRow.ifacesOut == Tryz.f6.resultTypes.toList.any (Tryz.prog.ifacesRec ·))) = true := by kernel_rfl
theorem k_lo : ((Rows.fnFieldByNameScriptOnOneCacheRow.loopsOut == Tryz.f6.resultTypes.toList.any (Tryz.prog.loopsFrom ·))) = true := by kernel_rfl
theorem k_pk : (Rows.fnFieldByNameScriptOnOneCacheRow.plainKeys == Tryz.prog.plainKeys) = true := by rw [Shut.pk]; rfl
theorem k_st : (Rows.fnFieldByNameScriptOnOneCacheRow.shortTexts.isNone) = true := by kernel_rfl
theorem k_lf : (Rows.fnFieldByNameScriptOnOneCacheRow.lifted == Tryz.prog.liftsFinal) = true := by rw [Shut.lf]; rfl
theorem k_mk : (Tryz.prog.make == some Rows.fnFieldByNameScriptOnOneCacheRow.make) = true := by rw [Shut.mk_of _ Shut.head]; rfl
theorem k_kd : ((Rows.fnFieldByNameScriptOnOneCacheRow.kinds == (if Rows.fnFieldByNameScriptOnOneCacheRow.domain.isEmpty then [] else Tryz.f6.params.toList.map fun t => match Tryz.prog.underlying t with | some (.int k) => some k | _ => Option.none))) = true := by kernel_rfl
theorem k_pn : ((Rows.fnFieldByNameScriptOnOneCacheRow.pinned == Rows.fnFieldByNameScriptOnOneCacheRow.pinnedBy)) = true := by kernel_rfl
theorem k_ve : ((Rows.fnFieldByNameScriptOnOneCacheRow.veiled == (Tryz.f6.params.toList ++ Rows.fnFieldByNameScriptOnOneCacheSpec.plain.varTypes Tryz.prog ++ Tryz.f6.resultTypes.toList).any (Tryz.prog.veiledRec ·))) = true := by kernel_rfl
theorem k_vf : (Rows.fnFieldByNameScriptOnOneCacheRow.veiledFits Tryz.prog Tryz.f6.params.toList (Tryz.f6.params.toList ++ Rows.fnFieldByNameScriptOnOneCacheSpec.plain.varTypes Tryz.prog ++ Tryz.f6.resultTypes.toList)) = true := by kernel_rfl
set_option maxRecDepth 100000 in
theorem closedAll : joinedFacts Tryz.prog 6 Tryz.f6 Rows.fnFieldByNameScriptOnOneCacheSpec Rows.fnFieldByNameScriptOnOneCacheRow = true := (Shut.and2 (Shut.and2 (Shut.and2 (Shut.and2 (Shut.and2 (Shut.and2 (Shut.and2 (Shut.and2 (Shut.and2 (Shut.and2 (Shut.and2 (Shut.and2 (Shut.and2 (Shut.and2 (Shut.and2 (Shut.and2 (Shut.and2 (Shut.and2 (Shut.and2 (Shut.and2 (Shut.and2 (Shut.and2 (Shut.and2 (Shut.and2 (Shut.and2 (Shut.and2 (Shut.and2 (Shut.and2 (Shut.and2 (Shut.and2 (Shut.and2 k_wf Shut.laidOut) Shut.mrow) k_rd) k_nt) k_cs) Shut.stp) k_ck) Shut.stk) k_ip) k_uf) k_rc) k_nm) k_mp) k_ifc) k_mo) k_lp) k_wk) k_vr) k_rt) k_io) k_lo) k_pk) k_st) Shut.sh) Shut.me) k_lf) k_mk) k_kd) k_pn) k_ve) k_vf)
theorem fnamed : Tryz.prog.funcNamed Rows.fnFieldByNameScriptOnOneCacheRow.func = some 6 := by kernel_rfl
theorem instOk : decide (Tryz.f6.isInstance Tryz.prog Rows.fnFieldByNameScriptOnOneCacheRow.origin Rows.fnFieldByNameScriptOnOneCacheRow.targs) = true := by kernel_rfl
theorem over : Rows.fnFieldByNameScriptOnOneCacheRow.holds Tryz.pinned (OpenSpec.ofChange Rows.fnFieldByNameScriptOnOneCacheSpec) :=
  OpenClaim.holds_of_wide 6 Tryz.f6 rfl rfl rfl rfl rfl rfl rfl ⟨rfl, rfl, rfl, rfl, rfl⟩ rfl rfl rfl rfl rfl fnamed Tryz.func6 closedAll
    (of_decide_eq_true instOk) (by unfold Func.isWrapper; first | (rw [if_pos (by decide +kernel)]; kernel_rfl) | (rw [if_neg (by decide +kernel)]; exact ⟨rfl, rfl⟩))
    (fun os started H enc _ => lifted os started H enc)

theorem proved : Rows.FnFieldByNameScriptOnOneCacheCardSaid :=
  Claim7.holds_tied_plain_at .later [] [.data, .called, .pinned] true Rows.fnFieldByNameScriptOnOneCacheCard.stood.harness true over (fun _ h => by cases h) (by kernel_rfl) (fun _ h => by cases h) fnFieldByNameScriptOnOneCache_row_tie rfl ⟨rfl, rfl⟩ (by kernel_rfl) rfl
    (fun f fn hf hfn => by
      obtain rfl : f = 6 := Option.some.inj ((show Tryz.prog.funcNamed Rows.fnFieldByNameScriptOnOneCacheRow.func = some 6 from fnamed).symm.trans hf) |>.symm
      obtain rfl : fn = Tryz.f6 := (Option.some.inj (Tryz.func6.symm.trans hfn)).symm
      exact ⟨by kernel_rfl, fun j t ht => by
        rw [Tryz.params6] at ht
        have hm : t ∈ [60] := by simpa using Array.mem_of_getElem? ht
        have hall : ([60].all fun u => !Tryz.prog.wantsStandIn u) = true := by kernel_rfl
        exact (show Tryz.prog.wantsStandIn t = false by simpa using List.all_eq_true.1 hall t hm)⟩)
    (by kernel_rfl)
#print axioms proved
end Go.Proofs.YtpnifkpnapoeoaaGreatDoorBesrefl.fnFieldByNameScriptOnOneCache
