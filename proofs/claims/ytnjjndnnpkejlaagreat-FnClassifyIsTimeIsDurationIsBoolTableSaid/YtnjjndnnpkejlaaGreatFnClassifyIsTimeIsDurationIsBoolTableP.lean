/-
  IsTime is true exactly for time.Time, IsDuration exactly for time.Duration, IsBool exactly for a bool value or a nature without a type whose kind is 1. Condition: none. (The seat was turned with the translator's switches -reflectrows -leanrows.)
-/
import Derived.Test.YtnjjndnnpkejlaaGreatClosed
import Derived.Test.YtnjjndnnpkejlaaGreatFnClassifyIsTimeIsDurationIsBoolTableW
import Derived.WalkKit
import Derived.ProofKit
import Derived.OpenShut
import Derived.ShutString
import Derived.ChangeOld
import Derived.Below
import Derived.ReadAgain
import Derived.ChangeSlices
import Derived.SliceStrings
import Derived.ChangeOld
import Derived.ChangeReads
import Derived.ChangeSame
import Derived.ChangeMaps5
import Derived.Laws.Cover2
namespace Go.Proofs.YtnjjndnnpkejlaaGreat.fnClassifyIsTimeIsDurationIsBoolTable
open Go.ChangeShapes Go.WideShapes Go.ChangeAt Go.RowKit
open Go.ChangeMaps (open_string shut_string)
set_option linter.unusedVariables false
section
open Go.ChangeShapes Go.WideShapes
variable {H : Type} {enc : TypeId × Value → H} {P : Program} {w w' : World}
theorem carryAll {base : Nat} {sp : Nat → Bool} {held : Bool} (hs0 : Below w.heap.size w w') : ∀ {ts : List TypeId} {vs : List Value} {ds : List (DataW H)} {ps : List MemPlace},
    DataW.TrodAll enc P w base sp held ts vs ds ps → DataW.TrodAll enc P w' base sp held ts vs ds ps
  | [], _, _, _, h => by
    obtain ⟨rfl, rfl, rfl⟩ := trodAll_nil h
    rfl
  | _ :: _, _, _, _, h => by
    obtain ⟨v, vs1, d, ds1, a, b, rfl, rfl, rfl, h1, h2⟩ := trodAll_cons h
    obtain ⟨fuel, hf⟩ := h1
    have hlt := DataW.trod_lt _ _ _ _ hf
    exact ⟨a, b, ⟨fuel, DataW.trod_carry _ _ _ _ hf (fun p hp => hs0.same (hlt p hp))⟩, carryAll hs0 h2, rfl⟩
theorem ints_in {base : Nat} {t e : TypeId} {k : IntKind} {v : Value} {d : DataW H} {ps : List MemPlace} {r : Reach} {b0 : Nat} (ht : P.underlying t = some (.slice e)) (he : P.underlying e = some (.int k)) (hc : P.cellsOf e = 1)
    (hval : Value.okWide P w r b0 t v) (hd : DataW.Trod enc P w base (fun _ => true) true t v d ps) : IntsIn w k v := by
  obtain ⟨a0, len, cap, rfl⟩ := okWide_slice ht hval
  obtain ⟨fuel, hf⟩ := hd
  rcases open_ints ht he hc hf with ⟨hcs, _⟩ | ⟨a, len', cap', zs, hcs, _, hl, hm, hz, _, hcell, hwz⟩
  · left
    simp [Value.cells] at hcs
    obtain ⟨rfl, rfl, rfl⟩ := hcs
    rfl
  · right
    simp [Value.cells] at hcs
    obtain ⟨rfl, rfl, rfl⟩ := hcs
    exact ⟨a, _, _, zs, rfl, hl, hm, by simpa using hz, hcell, hwz⟩
theorem strs_in {base : Nat} {t e : TypeId} {v : Value} {d : DataW H} {ps : List MemPlace} {r : Reach} {b0 : Nat} (ht : P.underlying t = some (.slice e)) (he : P.underlying e = some .string) (hc : P.cellsOf e = 1)
    (hval : Value.okWide P w r b0 t v) (hd : DataW.Trod enc P w base (fun _ => true) true t v d ps) : StrsIn w v := by
  obtain ⟨a0, len, cap, rfl⟩ := okWide_slice ht hval
  obtain ⟨fuel, hf⟩ := hd
  rcases open_strings ht he hc hf with ⟨hcs, _⟩ | ⟨a, len', cap', ss, hcs, _, hl, hm, hz, _, hcell, hwz⟩
  · left
    simp [Value.cells] at hcs
    obtain ⟨rfl, rfl, rfl⟩ := hcs
    rfl
  · right
    simp [Value.cells] at hcs
    obtain ⟨rfl, rfl, rfl⟩ := hcs
    exact ⟨a, _, _, ss, rfl, hl, hm, by simpa using hz, hcell, hwz⟩
theorem ptr_in {base : Nat} {t e : TypeId} {k : IntKind} {v : Value} {d : DataW H} {ps : List MemPlace} {r : Reach} {b0 : Nat} (ht : P.underlying t = some (.pointer e)) (he : P.underlying e = some (.int k)) (hc : P.cellsOf e = 1)
    (hval : Value.okWide P w r b0 t v) (hd : DataW.Trod enc P w base (fun _ => true) true t v d ps) : PtrIn w k v := by
  rcases open_ptr_int ht he hc hval hd with ⟨h, _⟩ | ⟨b, off, n, h, _, _, hcell, hw⟩
  · exact Or.inl h
  · exact Or.inr ⟨b, off, n, h, hcell, hw⟩
end
theorem kids : Kids Tryz.prog (· < Tryz.prog.types.size) := kids_rows Shut.laidOut Shut.mrow
theorem full : ∀ t e, t < Tryz.prog.types.size → Tryz.prog.underlying t = some (.slice e) → 0 < Tryz.prog.cellsOf e := slices_full_of Tryz.prog (by kernel_rfl)
set_option maxRecDepth 100000 in
theorem lifted (os : Os) (started : os.Started) (H : Type) (enc : TypeId × Value → H) :
    ReturnsInHanded {} Tryz.checked os 3 .any (Rows.fnClassifyIsTimeIsDurationIsBoolTableSpec.pre6 enc Tryz.prog Tryz.f3 Rows.fnClassifyIsTimeIsDurationIsBoolTableRow.domain false) (Rows.fnClassifyIsTimeIsDurationIsBoolTableSpec.post enc Tryz.prog Tryz.f3 false true false false) := by
  refine returnsInHanded_of_change (C := Tryz.checked) Shut.own started (by kernel_rfl) Tryz.func3
    (ChangeSpec.witness6 (enc := enc) (C := Tryz.checked) false ⟨#[], #[.int .i64 0, .int .u64 0, .bool false, .bool false, .bool false, .int .i64 0, .float .f64 0, .string ByteArray.empty, .bool false], []⟩ 8 (by kernel_rfl) (by kernel_rfl) (by kernel_rfl) (by kernel_rfl)) ?_
  intro W base args ds gs before hval0 hW hcnd _
  have hval : ∀ (j : Nat) t v, Tryz.f3.params[j]? = some t → args[j]? = some v → Value.okWide Tryz.prog W .any base t v := hval0
  have hW' := hW
  obtain ⟨p, q, hA0, hV, rfl, hfz, hnd⟩ := hW
  have hA : DataW.TrodAll enc Tryz.prog W 0 (fun _ => true) true Tryz.f3.params.toList args.toList ds p := hA0
  have hAk := hA
  rw [Tryz.params3] at hA hval
  obtain ⟨v0, vs0, d0, ds0, p0, q0, hargs, rfl, rfl, h0, r0⟩ := trodAll_cons hA
  obtain ⟨v1, vs1, d1, ds1, p1, q1, rfl, rfl, rfl, h1, r1⟩ := trodAll_cons r0
  obtain ⟨v2, vs2, d2, ds2, p2, q2, rfl, rfl, rfl, h2, r2⟩ := trodAll_cons r1
  obtain ⟨v3, vs3, d3, ds3, p3, q3, rfl, rfl, rfl, h3, r3⟩ := trodAll_cons r2
  obtain ⟨v4, vs4, d4, ds4, p4, q4, rfl, rfl, rfl, h4, r4⟩ := trodAll_cons r3
  obtain ⟨v5, vs5, d5, ds5, p5, q5, rfl, rfl, rfl, h5, r5⟩ := trodAll_cons r4
  obtain ⟨v6, vs6, d6, ds6, p6, q6, rfl, rfl, rfl, h6, r6⟩ := trodAll_cons r5
  obtain ⟨v7, vs7, d7, ds7, p7, q7, rfl, rfl, rfl, h7, r7⟩ := trodAll_cons r6
  obtain ⟨v8, vs8, d8, ds8, p8, q8, rfl, rfl, rfl, h8, r8⟩ := trodAll_cons r7
  obtain ⟨rfl, rfl, rfl⟩ := trodAll_nil r8
  obtain rfl : args = #[v0, v1, v2, v3, v4, v5, v6, v7, v8] := by cases args; simp_all
  obtain ⟨rfl, rfl⟩ := trodVars_none hV
  obtain ⟨a0, rfl, rfl, rfl, w0⟩ := open_int Tryz.underlying3 (hval 0 3 v0 rfl rfl) h0
  obtain ⟨a1, rfl, rfl, rfl, w1⟩ := open_int Tryz.underlying30 (hval 1 30 v1 rfl rfl) h1
  obtain ⟨a2, rfl, rfl, rfl⟩ := open_bool Tryz.underlying4 (hval 2 4 v2 rfl rfl) h2
  obtain ⟨a3, rfl, rfl, rfl⟩ := open_bool Tryz.underlying4 (hval 3 4 v3 rfl rfl) h3
  obtain ⟨a4, rfl, rfl, rfl⟩ := open_bool Tryz.underlying4 (hval 4 4 v4 rfl rfl) h4
  obtain ⟨a5, rfl, rfl, rfl, w5⟩ := open_int Tryz.underlying2 (hval 5 2 v5 rfl rfl) h5
  obtain ⟨a6, rfl, rfl, rfl, w6⟩ := open_float Tryz.underlying27 (hval 6 27 v6 rfl rfl) h6
  obtain ⟨a7, rfl, rfl, rfl, w7⟩ := open_string Tryz.underlying9 (hval 7 9 v7 rfl rfl) h7
  obtain ⟨a8, rfl, rfl, rfl⟩ := open_bool Tryz.underlying4 (hval 8 4 v8 rfl rfl) h8
  clear hA0 hval0
  refine (walk a0 a1 a2 a3 a4 a5 a6 a7 a8 W w0 w1 w5 w7).mono fun e W' ⟨he, bel⟩ => ?_
  subst he
  exact ⟨_, rfl, _, _, _, [], _, [], hW', trodAll_mk1 (shut_bool Tryz.underlying4 _), DataW.TrodAll.respare kids full (by rw [Tryz.params3]; decide +kernel) (carryAll bel hAk) (fun p hp => by simpa using hAk.lt p hp), rfl, bel.frame _, fun h => by cases h⟩

theorem k_wf : (Rows.fnClassifyIsTimeIsDurationIsBoolTableRow.wf (OpenSpec.ofChange Rows.fnClassifyIsTimeIsDurationIsBoolTableSpec)) = true := by kernel_rfl
theorem k_rd : (Tryz.f3.params.all (Tryz.prog.readableRec ·)) = true := by kernel_rfl
theorem k_nt : (namedTie Tryz.prog Rows.fnClassifyIsTimeIsDurationIsBoolTableRow.named Rows.fnClassifyIsTimeIsDurationIsBoolTableSpec.vars) = true := by kernel_rfl
theorem k_cs : ((Rows.fnClassifyIsTimeIsDurationIsBoolTableRow.stops == [])) = true := by kernel_rfl
theorem k_ck : ((Rows.fnClassifyIsTimeIsDurationIsBoolTableRow.knobs == [])) = true := by kernel_rfl
theorem k_ip : ((Rows.fnClassifyIsTimeIsDurationIsBoolTableRow.inPlace == Tryz.prog.inPlace 3)) = true := by kernel_rfl
theorem k_uf : ((Rows.fnClassifyIsTimeIsDurationIsBoolTableRow.unfollowed == Tryz.prog.unfollowed 3)) = true := by kernel_rfl
theorem k_rc : ((Rows.fnClassifyIsTimeIsDurationIsBoolTableRow.recurses == Tryz.prog.recurses 3)) = true := by kernel_rfl
theorem k_nm : ((Rows.fnClassifyIsTimeIsDurationIsBoolTableRow.named == Tryz.prog.varsNamed 3)) = true := by kernel_rfl
theorem k_mp : ((Rows.fnClassifyIsTimeIsDurationIsBoolTableRow.maps == (Tryz.f3.params.toList ++ Rows.fnClassifyIsTimeIsDurationIsBoolTableSpec.plain.varTypes Tryz.prog).any (Tryz.prog.mapsRec ·))) = true := by kernel_rfl
theorem k_ifc : ((Rows.fnClassifyIsTimeIsDurationIsBoolTableRow.ifaces == (Tryz.f3.params.toList ++ Rows.fnClassifyIsTimeIsDurationIsBoolTableSpec.plain.varTypes Tryz.prog).any (Tryz.prog.ifacesRec ·))) = true := by kernel_rfl
theorem k_mo : ((Rows.fnClassifyIsTimeIsDurationIsBoolTableRow.mapsOut == Tryz.prog.mapsAmong Tryz.f3.resultTypes.toList)) = true := by kernel_rfl
theorem k_lp : ((Rows.fnClassifyIsTimeIsDurationIsBoolTableRow.loops == (Tryz.f3.params.toList ++ Rows.fnClassifyIsTimeIsDurationIsBoolTableSpec.plain.varTypes Tryz.prog).any (Tryz.prog.loopsFrom ·))) = true := by kernel_rfl
theorem k_wk : ((Rows.fnClassifyIsTimeIsDurationIsBoolTableRow.wideKeys == (Tryz.f3.params.toList ++ Rows.fnClassifyIsTimeIsDurationIsBoolTableSpec.plain.varTypes Tryz.prog ++ Tryz.f3.resultTypes.toList).any (Tryz.prog.wideKeysFrom ·))) = true := by kernel_rfl
theorem k_vr : (Rows.fnClassifyIsTimeIsDurationIsBoolTableSpec.vars.all (Tryz.prog.varReadable ·)) = true := by kernel_rfl
theorem k_rt : (Tryz.f3.resultTypes.all (fun t => Tryz.prog.readableRec t && decide (t < Tryz.prog.types.size))) = true := by kernel_rfl
theorem k_io : ((Rows.fnClassifyIsTimeIsDurationIsBoolTableRow.ifacesOut == Tryz.f3.resultTypes.toList.any (Tryz.prog.ifacesRec ·))) = true := by kernel_rfl
theorem k_lo : ((Rows.fnClassifyIsTimeIsDurationIsBoolTableRow.loopsOut == Tryz.f3.resultTypes.toList.any (Tryz.prog.loopsFrom ·))) = true := by kernel_rfl
theorem k_pk : (Rows.fnClassifyIsTimeIsDurationIsBoolTableRow.plainKeys == Tryz.prog.plainKeys) = true := by rw [Shut.pk]; rfl
theorem k_st : (Rows.fnClassifyIsTimeIsDurationIsBoolTableRow.shortTexts.isNone) = true := by kernel_rfl
theorem k_lf : (Rows.fnClassifyIsTimeIsDurationIsBoolTableRow.lifted == Tryz.prog.liftsFinal) = true := by rw [Shut.lf]; rfl
theorem k_mk : (Tryz.prog.make == some Rows.fnClassifyIsTimeIsDurationIsBoolTableRow.make) = true := by rw [Shut.mk_of _ Shut.head]; rfl
theorem k_kd : ((Rows.fnClassifyIsTimeIsDurationIsBoolTableRow.kinds == (if Rows.fnClassifyIsTimeIsDurationIsBoolTableRow.domain.isEmpty then [] else Tryz.f3.params.toList.map fun t => match Tryz.prog.underlying t with | some (.int k) => some k | _ => Option.none))) = true := by kernel_rfl
theorem k_pn : ((Rows.fnClassifyIsTimeIsDurationIsBoolTableRow.pinned == Rows.fnClassifyIsTimeIsDurationIsBoolTableRow.pinnedBy)) = true := by kernel_rfl
theorem k_ve : ((Rows.fnClassifyIsTimeIsDurationIsBoolTableRow.veiled == (Tryz.f3.params.toList ++ Rows.fnClassifyIsTimeIsDurationIsBoolTableSpec.plain.varTypes Tryz.prog ++ Tryz.f3.resultTypes.toList).any (Tryz.prog.veiledRec ·))) = true := by kernel_rfl
theorem k_vf : (Rows.fnClassifyIsTimeIsDurationIsBoolTableRow.veiledFits Tryz.prog Tryz.f3.params.toList (Tryz.f3.params.toList ++ Rows.fnClassifyIsTimeIsDurationIsBoolTableSpec.plain.varTypes Tryz.prog ++ Tryz.f3.resultTypes.toList)) = true := by kernel_rfl
set_option maxRecDepth 100000 in
theorem closedAll : joinedFacts Tryz.prog 3 Tryz.f3 Rows.fnClassifyIsTimeIsDurationIsBoolTableSpec Rows.fnClassifyIsTimeIsDurationIsBoolTableRow = true := (Shut.and2 (Shut.and2 (Shut.and2 (Shut.and2 (Shut.and2 (Shut.and2 (Shut.and2 (Shut.and2 (Shut.and2 (Shut.and2 (Shut.and2 (Shut.and2 (Shut.and2 (Shut.and2 (Shut.and2 (Shut.and2 (Shut.and2 (Shut.and2 (Shut.and2 (Shut.and2 (Shut.and2 (Shut.and2 (Shut.and2 (Shut.and2 (Shut.and2 (Shut.and2 (Shut.and2 (Shut.and2 (Shut.and2 (Shut.and2 (Shut.and2 k_wf Shut.laidOut) Shut.mrow) k_rd) k_nt) k_cs) Shut.stp) k_ck) Shut.stk) k_ip) k_uf) k_rc) k_nm) k_mp) k_ifc) k_mo) k_lp) k_wk) k_vr) k_rt) k_io) k_lo) k_pk) k_st) Shut.sh) Shut.me) k_lf) k_mk) k_kd) k_pn) k_ve) k_vf)
theorem fnamed : Tryz.prog.funcNamed Rows.fnClassifyIsTimeIsDurationIsBoolTableRow.func = some 3 := by kernel_rfl
theorem instOk : decide (Tryz.f3.isInstance Tryz.prog Rows.fnClassifyIsTimeIsDurationIsBoolTableRow.origin Rows.fnClassifyIsTimeIsDurationIsBoolTableRow.targs) = true := by kernel_rfl
theorem over : Rows.fnClassifyIsTimeIsDurationIsBoolTableRow.holds Tryz.pinned (OpenSpec.ofChange Rows.fnClassifyIsTimeIsDurationIsBoolTableSpec) :=
  OpenClaim.holds_of_wide 3 Tryz.f3 rfl rfl rfl rfl rfl rfl rfl ⟨rfl, rfl, rfl, rfl, rfl⟩ rfl rfl rfl rfl rfl fnamed Tryz.func3 closedAll
    (of_decide_eq_true instOk) (by unfold Func.isWrapper; first | (rw [if_pos (by decide +kernel)]; kernel_rfl) | (rw [if_neg (by decide +kernel)]; exact ⟨rfl, rfl⟩))
    (fun os started H enc _ => lifted os started H enc)

theorem proved : Rows.FnClassifyIsTimeIsDurationIsBoolTableSaid := over
#print axioms proved
end Go.Proofs.YtnjjndnnpkejlaaGreat.fnClassifyIsTimeIsDurationIsBoolTable
