/-
  IsAnyOf of two lists of known checks laid end to end is the one or the other; reversing a list leaves it; the empty list answers false. Condition: none. (The seat was turned with the translator's switches -reflectrows -leanrows.)
-/
import Derived.Test.YtnjjndnnpkejlaaGreatFmtClosed
import Derived.Test.YtnjjndnnpkejlaaGreatFmtFnIsAnyOfUnionOrderFreeW
import Derived.WalkKit
import Derived.ProofKit
import Derived.OpenShut
import Derived.ShutString
import Derived.ChangeOld
import Derived.Below
import Derived.ReadAgain
import Derived.ChangeSlices
import Derived.SliceStrings
import Derived.ChangeOld
import Derived.ChangeReads
import Derived.ChangeSame
import Derived.ChangeMaps5
import Derived.Laws.Cover2
import Derived.Test.YtnjjndnnpkejlaaGreatFmtCards
import Derived.SevenToldRow
import Derived.Stop.JoinedTold
namespace Go.Proofs.YtnjjndnnpkejlaaGreatFmt.fnIsAnyOfUnionOrderFree
open Go.ChangeShapes Go.WideShapes Go.ChangeAt Go.RowKit
open Go.ChangeMaps (open_string shut_string)
set_option linter.unusedVariables false
section
open Go.ChangeShapes Go.WideShapes
variable {H : Type} {enc : TypeId × Value → H} {P : Program} {w w' : World}
theorem carryAll {base : Nat} {sp : Nat → Bool} {held : Bool} (hs0 : Below w.heap.size w w') : ∀ {ts : List TypeId} {vs : List Value} {ds : List (DataW H)} {ps : List MemPlace},
    DataW.TrodAll enc P w base sp held ts vs ds ps → DataW.TrodAll enc P w' base sp held ts vs ds ps
  | [], _, _, _, h => by
    obtain ⟨rfl, rfl, rfl⟩ := trodAll_nil h
    rfl
  | _ :: _, _, _, _, h => by
    obtain ⟨v, vs1, d, ds1, a, b, rfl, rfl, rfl, h1, h2⟩ := trodAll_cons h
    obtain ⟨fuel, hf⟩ := h1
    have hlt := DataW.trod_lt _ _ _ _ hf
    exact ⟨a, b, ⟨fuel, DataW.trod_carry _ _ _ _ hf (fun p hp => hs0.same (hlt p hp))⟩, carryAll hs0 h2, rfl⟩
theorem ints_in {base : Nat} {t e : TypeId} {k : IntKind} {v : Value} {d : DataW H} {ps : List MemPlace} {r : Reach} {b0 : Nat} (ht : P.underlying t = some (.slice e)) (he : P.underlying e = some (.int k)) (hc : P.cellsOf e = 1)
    (hval : Value.okWide P w r b0 t v) (hd : DataW.Trod enc P w base (fun _ => true) true t v d ps) : IntsIn w k v := by
  obtain ⟨a0, len, cap, rfl⟩ := okWide_slice ht hval
  obtain ⟨fuel, hf⟩ := hd
  rcases open_ints ht he hc hf with ⟨hcs, _⟩ | ⟨a, len', cap', zs, hcs, _, hl, hm, hz, _, hcell, hwz⟩
  · left
    simp [Value.cells] at hcs
    obtain ⟨rfl, rfl, rfl⟩ := hcs
    rfl
  · right
    simp [Value.cells] at hcs
    obtain ⟨rfl, rfl, rfl⟩ := hcs
    exact ⟨a, _, _, zs, rfl, hl, hm, by simpa using hz, hcell, hwz⟩
theorem strs_in {base : Nat} {t e : TypeId} {v : Value} {d : DataW H} {ps : List MemPlace} {r : Reach} {b0 : Nat} (ht : P.underlying t = some (.slice e)) (he : P.underlying e = some .string) (hc : P.cellsOf e = 1)
    (hval : Value.okWide P w r b0 t v) (hd : DataW.Trod enc P w base (fun _ => true) true t v d ps) : StrsIn w v := by
  obtain ⟨a0, len, cap, rfl⟩ := okWide_slice ht hval
  obtain ⟨fuel, hf⟩ := hd
  rcases open_strings ht he hc hf with ⟨hcs, _⟩ | ⟨a, len', cap', ss, hcs, _, hl, hm, hz, _, hcell, hwz⟩
  · left
    simp [Value.cells] at hcs
    obtain ⟨rfl, rfl, rfl⟩ := hcs
    rfl
  · right
    simp [Value.cells] at hcs
    obtain ⟨rfl, rfl, rfl⟩ := hcs
    exact ⟨a, _, _, ss, rfl, hl, hm, by simpa using hz, hcell, hwz⟩
theorem ptr_in {base : Nat} {t e : TypeId} {k : IntKind} {v : Value} {d : DataW H} {ps : List MemPlace} {r : Reach} {b0 : Nat} (ht : P.underlying t = some (.pointer e)) (he : P.underlying e = some (.int k)) (hc : P.cellsOf e = 1)
    (hval : Value.okWide P w r b0 t v) (hd : DataW.Trod enc P w base (fun _ => true) true t v d ps) : PtrIn w k v := by
  rcases open_ptr_int ht he hc hval hd with ⟨h, _⟩ | ⟨b, off, n, h, _, _, hcell, hw⟩
  · exact Or.inl h
  · exact Or.inr ⟨b, off, n, h, hcell, hw⟩
end
theorem kids : Kids Tryz.prog (· < Tryz.prog.types.size) := kids_rows Shut.laidOut Shut.mrow
theorem full : ∀ t e, t < Tryz.prog.types.size → Tryz.prog.underlying t = some (.slice e) → 0 < Tryz.prog.cellsOf e := slices_full_of Tryz.prog (by kernel_rfl)
set_option maxRecDepth 100000 in
theorem lifted (os : Os) (started : os.Started) (H : Type) (enc : TypeId × Value → H) :
    ReturnsInTold none {} Tryz.checked os 5 .any Input.okWide ((OpenSpec.ofChange Rows.fnIsAnyOfUnionOrderFreeSpec).preRow enc Tryz.prog Tryz.f5 [] false []) (fun F => ((OpenSpec.ofChange Rows.fnIsAnyOfUnionOrderFreeSpec).at F).post enc Tryz.prog Tryz.f5 false true false false) (aloneAtReturn Tryz.prog) nothingAlways := by
  refine returnsInTold_of_row (C := Tryz.checked) (s := OpenSpec.ofChange Rows.fnIsAnyOfUnionOrderFreeSpec) Shut.me Shut.own started (by kernel_rfl) Tryz.func5
    (OpenSpec.witness_stopped (enc := enc) (C := Tryz.checked) false ⟨#[], #[.int .u64 0, .bool false, .bool false, .slice none 0 0, .slice none 0 0], []⟩ 8 (by kernel_rfl) (by kernel_rfl) (by kernel_rfl) (by kernel_rfl)) ?_
  intro F W base args ds gs before _ hF hval0 hW _ _ hsz _ _
  have hval : ∀ (j : Nat) t v, Tryz.f5.params[j]? = some t → args[j]? = some v → Value.okWide Tryz.prog W .any base t v := hval0
  have hW' := hW
  obtain ⟨p, q, hA0, hV, rfl, hfz, hnd⟩ := hW
  have hA : DataW.TrodAll enc Tryz.prog W 0 (fun _ => true) true Tryz.f5.params.toList args.toList ds p := hA0
  have hAk := hA
  rw [Tryz.params5] at hA hval
  obtain ⟨v0, vs0, d0, ds0, p0, q0, hargs, rfl, rfl, h0, r0⟩ := trodAll_cons hA
  obtain ⟨v1, vs1, d1, ds1, p1, q1, rfl, rfl, rfl, h1, r1⟩ := trodAll_cons r0
  obtain ⟨v2, vs2, d2, ds2, p2, q2, rfl, rfl, rfl, h2, r2⟩ := trodAll_cons r1
  obtain ⟨v3, vs3, d3, ds3, p3, q3, rfl, rfl, rfl, h3, r3⟩ := trodAll_cons r2
  obtain ⟨v4, vs4, d4, ds4, p4, q4, rfl, rfl, rfl, h4, r4⟩ := trodAll_cons r3
  obtain ⟨rfl, rfl, rfl⟩ := trodAll_nil r4
  obtain rfl : args = #[v0, v1, v2, v3, v4] := by cases args; simp_all
  obtain ⟨rfl, rfl⟩ := trodVars_none hV
  obtain ⟨a0, rfl, rfl, rfl, w0⟩ := open_int Tryz.underlying30 (hval 0 30 v0 rfl rfl) h0
  obtain ⟨a1, rfl, rfl, rfl⟩ := open_bool Tryz.underlying4 (hval 1 4 v1 rfl rfl) h1
  obtain ⟨a2, rfl, rfl, rfl⟩ := open_bool Tryz.underlying4 (hval 2 4 v2 rfl rfl) h2
  have w3 := ints_in Tryz.underlying50 Tryz.underlying3 (by kernel_rfl) (hval 3 50 v3 rfl rfl) h3
  have w4 := ints_in Tryz.underlying50 Tryz.underlying3 (by kernel_rfl) (hval 4 50 v4 rfl rfl) h4
  clear hA0 hval0
  refine (walk a0 a1 a2 v3 v4 W w0 w3 w4).mono fun e W' ⟨he, bel⟩ => ?_
  subst he
  exact ⟨_, rfl, _, _, _, [], _, [], hW', trodAll_mk1 (shut_bool Tryz.underlying4 _), DataW.TrodAll.respare kids full (by rw [Tryz.params5]; decide +kernel) (carryAll bel hAk) (fun p hp => by simpa using hAk.lt p hp), rfl, bel.frame _, fun h => by cases h⟩
theorem k_wf : Rows.fnIsAnyOfUnionOrderFreeRow.wf (OpenSpec.ofChange Rows.fnIsAnyOfUnionOrderFreeSpec) = true := by kernel_rfl
theorem k_nt : namedTie Tryz.prog Rows.fnIsAnyOfUnionOrderFreeRow.namedList (OpenSpec.ofChange Rows.fnIsAnyOfUnionOrderFreeSpec).vars = true := by kernel_rfl
theorem k_fn : Tryz.prog.funcNamed Rows.fnIsAnyOfUnionOrderFreeRow.func = some 5 := by kernel_rfl
theorem k_rd : (Tryz.f5.params.toList.all fun t => Tryz.prog.readableRec t) = true := by kernel_rfl
theorem k_inst : decide (Tryz.f5.isInstance Tryz.prog Rows.fnIsAnyOfUnionOrderFreeRow.origin Rows.fnIsAnyOfUnionOrderFreeRow.targs) = true := by kernel_rfl
theorem k_st : Rows.fnIsAnyOfUnionOrderFreeRow.stops = Tryz.prog.stops := by kernel_rfl
theorem k_kn : Rows.fnIsAnyOfUnionOrderFreeRow.knobs = Tryz.prog.stopKnobs := by kernel_rfl
theorem k_ew : Tryz.prog.envWorded = true := by kernel_rfl
theorem k_ip : Rows.fnIsAnyOfUnionOrderFreeRow.inPlace = Tryz.prog.inPlace 5 := by kernel_rfl
theorem k_uf : Rows.fnIsAnyOfUnionOrderFreeRow.unfollowed = Tryz.prog.unfollowed 5 := by kernel_rfl
theorem k_rc : Rows.fnIsAnyOfUnionOrderFreeRow.recurses = Tryz.prog.recurses 5 := by kernel_rfl
theorem k_nm : Rows.fnIsAnyOfUnionOrderFreeRow.named = Tryz.prog.varsNamed 5 := by kernel_rfl
theorem k_mp : Rows.fnIsAnyOfUnionOrderFreeRow.maps = (Tryz.f5.params.toList ++ (OpenSpec.ofChange Rows.fnIsAnyOfUnionOrderFreeSpec).bare.plain.varTypes Tryz.prog).any (Tryz.prog.mapsRec ·) := by kernel_rfl
theorem k_ifc : Rows.fnIsAnyOfUnionOrderFreeRow.ifaces = (Tryz.f5.params.toList ++ (OpenSpec.ofChange Rows.fnIsAnyOfUnionOrderFreeSpec).bare.plain.varTypes Tryz.prog).any (Tryz.prog.ifacesRec ·) := by kernel_rfl
theorem k_mo : Rows.fnIsAnyOfUnionOrderFreeRow.mapsOut = Tryz.prog.mapsAmong Tryz.f5.resultTypes.toList := by kernel_rfl
theorem k_lp : Rows.fnIsAnyOfUnionOrderFreeRow.loops = (Tryz.f5.params.toList ++ (OpenSpec.ofChange Rows.fnIsAnyOfUnionOrderFreeSpec).bare.plain.varTypes Tryz.prog).any (Tryz.prog.loopsFrom ·) := by kernel_rfl
theorem k_wk : Rows.fnIsAnyOfUnionOrderFreeRow.wideKeys = (Tryz.f5.params.toList ++ (OpenSpec.ofChange Rows.fnIsAnyOfUnionOrderFreeSpec).bare.plain.varTypes Tryz.prog ++ Tryz.f5.resultTypes.toList).any (Tryz.prog.wideKeysFrom ·) := by kernel_rfl
theorem k_na : Rows.fnIsAnyOfUnionOrderFreeRow.narrowed = (OpenSpec.ofChange Rows.fnIsAnyOfUnionOrderFreeSpec).cond.isSome := by kernel_rfl
theorem k_vr : ((OpenSpec.ofChange Rows.fnIsAnyOfUnionOrderFreeSpec).vars.all fun n => Tryz.prog.varReadable n) = true := by kernel_rfl
theorem k_lk : true = Tryz.prog.looks [] := by kernel_rfl
theorem k_fu : (Tryz.f5.params.toList.all fun t => !Tryz.prog.wantsStandIn t) = true := by kernel_rfl
theorem k_go : false = Rows.fnIsAnyOfUnionOrderFreeRow.goesBy Tryz.prog := by kernel_rfl
theorem k_rt : (Tryz.f5.resultTypes.toList.all fun t => Tryz.prog.readableRec t && decide (t < Tryz.prog.types.size)) = true := by kernel_rfl
theorem k_io : Rows.fnIsAnyOfUnionOrderFreeRow.ifacesOut = Tryz.f5.resultTypes.toList.any (Tryz.prog.ifacesRec ·) := by kernel_rfl
theorem k_lo : Rows.fnIsAnyOfUnionOrderFreeRow.loopsOut = Tryz.f5.resultTypes.toList.any (Tryz.prog.loopsFrom ·) := by kernel_rfl
theorem k_kd : Rows.fnIsAnyOfUnionOrderFreeRow.kinds = (if Rows.fnIsAnyOfUnionOrderFreeRow.domain.isEmpty then [] else Tryz.f5.params.toList.map fun t => match Tryz.prog.underlying t with | some (.int k) => some k | _ => Option.none) := by kernel_rfl
theorem k_pn : Rows.fnIsAnyOfUnionOrderFreeRow.pinned = Rows.fnIsAnyOfUnionOrderFreeRow.pinnedBy := by kernel_rfl
theorem k_pk : Rows.fnIsAnyOfUnionOrderFreeRow.plainKeys = Tryz.prog.plainKeys := by rw [Shut.pk]; rfl
theorem k_lf : Rows.fnIsAnyOfUnionOrderFreeRow.lifted = Tryz.prog.liftsFinal := by rw [Shut.lf]; rfl
theorem k_mk : Tryz.prog.make = some Rows.fnIsAnyOfUnionOrderFreeRow.make := by rw [Shut.mk_of _ Shut.head]; rfl
theorem k_mi : Tryz.prog.mainIs = some (Rows.fnIsAnyOfUnionOrderFreeCard.stood.harness.1, Rows.fnIsAnyOfUnionOrderFreeCard.stood.harness.2.toList) := by
  unfold Program.mainIs
  rw [Shut.signs]
  kernel_rfl
theorem quiet (os : Os) : Stop.quiet Tryz.prog os := by
  intro k hk
  rw [← k_kn] at hk
  cases hk
set_option maxRecDepth 100000 in
theorem proved : Rows.FnIsAnyOfUnionOrderFreeToldSaid :=
  Claim7.holds_of_told_any 5 Tryz.f5 "fmt.Sprintf" [] [] _ _ _ k_wf rfl rfl rfl Shut.laidOut Shut.mrow rfl ⟨rfl, rfl, rfl, rfl, rfl, rfl, rfl⟩ rfl rfl k_nt k_fn Tryz.func5 k_rd
    (of_decide_eq_true k_inst) (by unfold Func.isWrapper; first | (rw [if_pos (by decide +kernel)]; kernel_rfl) | (rw [if_neg (by decide +kernel)]; exact ⟨rfl, rfl⟩)) k_st rfl k_kn k_ew
    k_ip k_uf k_rc k_nm k_mp k_ifc k_mo k_lp k_wk k_na k_vr rfl rfl
    rfl rfl
    rfl k_mi k_lk k_fu (by decide) k_go
    (OpenClaim.moreEntering_of Shut.me k_rt Shut.sh k_io k_lo k_kd k_pn k_pk k_lf k_mk)
    ⟨_, WideRow.started_initial, quiet _⟩
    (fun os started _ H enc _ => lifted os started H enc)
#print axioms proved
end Go.Proofs.YtnjjndnnpkejlaaGreatFmt.fnIsAnyOfUnionOrderFree
