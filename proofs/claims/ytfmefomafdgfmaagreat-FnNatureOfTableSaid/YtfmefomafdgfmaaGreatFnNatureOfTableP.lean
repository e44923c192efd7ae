/-
  The nature of a value of each of thirteen types is fixed by a complete table, with a cache, without one, and on a second call to the same cache. Condition: none. (The seat was turned with the translator's switches -reflectrows -leanrows.)
-/
import Derived.Test.YtfmefomafdgfmaaGreatClosed
import Derived.Test.YtfmefomafdgfmaaGreatFnNatureOfTableW
import Derived.WalkKit
import Derived.ProofKit
import Derived.OpenShut
import Derived.ShutString
import Derived.ChangeOld
import Derived.Below
import Derived.ReadAgain
import Derived.ChangeSlices
import Derived.SliceStrings
import Derived.ChangeOld
import Derived.ChangeReads
import Derived.ChangeSame
import Derived.ChangeMaps5
import Derived.Laws.Cover2
namespace Go.Proofs.YtfmefomafdgfmaaGreat.fnNatureOfTable
open Go.ChangeShapes Go.WideShapes Go.ChangeAt Go.RowKit
open Go.ChangeMaps (open_string shut_string)
set_option linter.unusedVariables false
section
open Go.ChangeShapes Go.WideShapes
variable {H : Type} {enc : TypeId × Value → H} {P : Program} {w w' : World}
theorem carryAll {base : Nat} {sp : Nat → Bool} {held : Bool} (hs0 : Below w.heap.size w w') : ∀ {ts : List TypeId} {vs : List Value} {ds : List (DataW H)} {ps : List MemPlace},
    DataW.TrodAll enc P w base sp held ts vs ds ps → DataW.TrodAll enc P w' base sp held ts vs ds ps
  | [], _, _, _, h => by
    obtain ⟨rfl, rfl, rfl⟩ := trodAll_nil h
    rfl
  | _ :: _, _, _, _, h => by
    obtain ⟨v, vs1, d, ds1, a, b, rfl, rfl, rfl, h1, h2⟩ := trodAll_cons h
    obtain ⟨fuel, hf⟩ := h1
    have hlt := DataW.trod_lt _ _ _ _ hf
    exact ⟨a, b, ⟨fuel, DataW.trod_carry _ _ _ _ hf (fun p hp => hs0.same (hlt p hp))⟩, carryAll hs0 h2, rfl⟩
theorem ints_in {base : Nat} {t e : TypeId} {k : IntKind} {v : Value} {d : DataW H} {ps : List MemPlace} {r : Reach} {b0 : Nat} (ht : P.underlying t = some (.slice e)) (he : P.underlying e = some (.int k)) (hc : P.cellsOf e = 1)
    (hval : Value.okWide P w r b0 t v) (hd : DataW.Trod enc P w base (fun _ => true) true t v d ps) : IntsIn w k v := by
  obtain ⟨a0, len, cap, rfl⟩ := okWide_slice ht hval
  obtain ⟨fuel, hf⟩ := hd
  rcases open_ints ht he hc hf with ⟨hcs, _⟩ | ⟨a, len', cap', zs, hcs, _, hl, hm, hz, _, hcell, hwz⟩
  · left
    simp [Value.cells] at hcs
    obtain ⟨rfl, rfl, rfl⟩ := hcs
    rfl
  · right
    simp [Value.cells] at hcs
    obtain ⟨rfl, rfl, rfl⟩ := hcs
    exact ⟨a, _, _, zs, rfl, hl, hm, by simpa using hz, hcell, hwz⟩
theorem strs_in {base : Nat} {t e : TypeId} {v : Value} {d : DataW H} {ps : List MemPlace} {r : Reach} {b0 : Nat} (ht : P.underlying t = some (.slice e)) (he : P.underlying e = some .string) (hc : P.cellsOf e = 1)
    (hval : Value.okWide P w r b0 t v) (hd : DataW.Trod enc P w base (fun _ => true) true t v d ps) : StrsIn w v := by
  obtain ⟨a0, len, cap, rfl⟩ := okWide_slice ht hval
  obtain ⟨fuel, hf⟩ := hd
  rcases open_strings ht he hc hf with ⟨hcs, _⟩ | ⟨a, len', cap', ss, hcs, _, hl, hm, hz, _, hcell, hwz⟩
  · left
    simp [Value.cells] at hcs
    obtain ⟨rfl, rfl, rfl⟩ := hcs
    rfl
  · right
    simp [Value.cells] at hcs
    obtain ⟨rfl, rfl, rfl⟩ := hcs
    exact ⟨a, _, _, ss, rfl, hl, hm, by simpa using hz, hcell, hwz⟩
theorem ptr_in {base : Nat} {t e : TypeId} {k : IntKind} {v : Value} {d : DataW H} {ps : List MemPlace} {r : Reach} {b0 : Nat} (ht : P.underlying t = some (.pointer e)) (he : P.underlying e = some (.int k)) (hc : P.cellsOf e = 1)
    (hval : Value.okWide P w r b0 t v) (hd : DataW.Trod enc P w base (fun _ => true) true t v d ps) : PtrIn w k v := by
  rcases open_ptr_int ht he hc hval hd with ⟨h, _⟩ | ⟨b, off, n, h, _, _, hcell, hw⟩
  · exact Or.inl h
  · exact Or.inr ⟨b, off, n, h, hcell, hw⟩
end
theorem kids : Kids Tryz.prog (· < Tryz.prog.types.size) := kids_rows Shut.laidOut Shut.mrow
theorem full : ∀ t e, t < Tryz.prog.types.size → Tryz.prog.underlying t = some (.slice e) → 0 < Tryz.prog.cellsOf e := slices_full_of Tryz.prog (by kernel_rfl)
set_option maxRecDepth 100000 in
theorem lifted (os : Os) (started : os.Started) (H : Type) (enc : TypeId × Value → H) :
    ReturnsInHanded {} Tryz.checked os 8 .any (Rows.fnNatureOfTableSpec.pre6 enc Tryz.prog Tryz.f8 Rows.fnNatureOfTableRow.domain false) (Rows.fnNatureOfTableSpec.post enc Tryz.prog Tryz.f8 false true false false) := by
  refine returnsInHanded_of_change (C := Tryz.checked) Shut.own started (by kernel_rfl) Tryz.func8
    (ChangeSpec.witness6 (enc := enc) (C := Tryz.checked) false ⟨#[], #[.int .i64 0, .int .i64 0, .int .u8 0, .float .f32 0, .string ByteArray.empty, .bool false], []⟩ 8 (by kernel_rfl) (by kernel_rfl) (by kernel_rfl) (by kernel_rfl)) ?_
  intro W base args ds gs before hval0 hW hcnd _
  have hval : ∀ (j : Nat) t v, Tryz.f8.params[j]? = some t → args[j]? = some v → Value.okWide Tryz.prog W .any base t v := hval0
  have hW' := hW
  obtain ⟨p, q, hA0, hV, rfl, hfz, hnd⟩ := hW
  have hA : DataW.TrodAll enc Tryz.prog W 0 (fun _ => true) true Tryz.f8.params.toList args.toList ds p := hA0
  have hAk := hA
  rw [Tryz.params8] at hA hval
  obtain ⟨v0, vs0, d0, ds0, p0, q0, hargs, rfl, rfl, h0, r0⟩ := trodAll_cons hA
  obtain ⟨v1, vs1, d1, ds1, p1, q1, rfl, rfl, rfl, h1, r1⟩ := trodAll_cons r0
  obtain ⟨v2, vs2, d2, ds2, p2, q2, rfl, rfl, rfl, h2, r2⟩ := trodAll_cons r1
  obtain ⟨v3, vs3, d3, ds3, p3, q3, rfl, rfl, rfl, h3, r3⟩ := trodAll_cons r2
  obtain ⟨v4, vs4, d4, ds4, p4, q4, rfl, rfl, rfl, h4, r4⟩ := trodAll_cons r3
  obtain ⟨v5, vs5, d5, ds5, p5, q5, rfl, rfl, rfl, h5, r5⟩ := trodAll_cons r4
  obtain ⟨rfl, rfl, rfl⟩ := trodAll_nil r5
  obtain rfl : args = #[v0, v1, v2, v3, v4, v5] := by cases args; simp_all
  obtain ⟨rfl, rfl⟩ := trodVars_none hV
  obtain ⟨a0, rfl, rfl, rfl, w0⟩ := open_int Tryz.underlying3 (hval 0 3 v0 rfl rfl) h0
  obtain ⟨a1, rfl, rfl, rfl, w1⟩ := open_int Tryz.underlying2 (hval 1 2 v1 rfl rfl) h1
  obtain ⟨a2, rfl, rfl, rfl, w2⟩ := open_int Tryz.underlying5 (hval 2 5 v2 rfl rfl) h2
  obtain ⟨a3, rfl, rfl, rfl, w3⟩ := open_float Tryz.underlying26 (hval 3 26 v3 rfl rfl) h3
  obtain ⟨a4, rfl, rfl, rfl, w4⟩ := open_string Tryz.underlying9 (hval 4 9 v4 rfl rfl) h4
  obtain ⟨a5, rfl, rfl, rfl⟩ := open_bool Tryz.underlying4 (hval 5 4 v5 rfl rfl) h5
  clear hA0 hval0
  refine (walk a0 a1 a2 a3 a4 a5 W w0 w1 w2 w4).mono fun e W' ⟨he, bel⟩ => ?_
  subst he
  exact ⟨_, rfl, _, _, _, [], _, [], hW', trodAll_mk1 (shut_bool Tryz.underlying4 _), DataW.TrodAll.respare kids full (by rw [Tryz.params8]; decide +kernel) (carryAll bel hAk) (fun p hp => by simpa using hAk.lt p hp), rfl, bel.frame _, fun h => by cases h⟩

theorem k_wf : (Rows.fnNatureOfTableRow.wf (OpenSpec.ofChange Rows.fnNatureOfTableSpec)) = true := by kernel_rfl
theorem k_rd : (Tryz.f8.params.all (Tryz.prog.readableRec ·)) = true := by kernel_rfl
theorem k_nt : (namedTie Tryz.prog Rows.fnNatureOfTableRow.named Rows.fnNatureOfTableSpec.vars) = true := by kernel_rfl
theorem k_cs : ((Rows.fnNatureOfTableRow.stops == [])) = true := by kernel_rfl
theorem k_ck : ((Rows.fnNatureOfTableRow.knobs == [])) = true := by kernel_rfl
theorem k_ip : ((Rows.fnNatureOfTableRow.inPlace == Tryz.prog.inPlace 8)) = true := by kernel_rfl
theorem k_uf : ((Rows.fnNatureOfTableRow.unfollowed == Tryz.prog.unfollowed 8)) = true := by kernel_rfl
theorem k_rc : ((Rows.fnNatureOfTableRow.recurses == Tryz.prog.recurses 8)) = true := by kernel_rfl
theorem k_nm : ((Rows.fnNatureOfTableRow.named == Tryz.prog.varsNamed 8)) = true := by kernel_rfl
theorem k_mp : ((Rows.fnNatureOfTableRow.maps == (Tryz.f8.params.toList ++ Rows.fnNatureOfTableSpec.plain.varTypes Tryz.prog).any (Tryz.prog.mapsRec ·))) = true := by kernel_rfl
theorem k_ifc : ((Rows.fnNatureOfTableRow.ifaces == (Tryz.f8.params.toList ++ Rows.fnNatureOfTableSpec.plain.varTypes Tryz.prog).any (Tryz.prog.ifacesRec ·))) = true := by kernel_rfl
theorem k_mo : ((Rows.fnNatureOfTableRow.mapsOut == Tryz.prog.mapsAmong Tryz.f8.resultTypes.toList)) = true := by kernel_rfl
theorem k_lp : ((Rows.fnNatureOfTableRow.loops == (Tryz.f8.params.toList ++ Rows.fnNatureOfTableSpec.plain.varTypes Tryz.prog).any (Tryz.prog.loopsFrom ·))) = true := by kernel_rfl
theorem k_wk : ((Rows.fnNatureOfTableRow.wideKeys == (Tryz.f8.params.toList ++ Rows.fnNatureOfTableSpec.plain.varTypes Tryz.prog ++ Tryz.f8.resultTypes.toList).any (Tryz.prog.wideKeysFrom ·))) = true := by kernel_rfl
theorem k_vr : (Rows.fnNatureOfTableSpec.vars.all (Tryz.prog.varReadable ·)) = true := by kernel_rfl
theorem k_rt : (Tryz.f8.resultTypes.all (fun t => Tryz.prog.readableRec t && decide (t < Tryz.prog.types.size))) = true := by kernel_rfl
theorem k_io : ((Rows.fnNatureOfTableRow.ifacesOut == Tryz.f8.resultTypes.toList.any (Tryz.prog.ifacesRec ·))) = true := by kernel_rfl
theorem k_lo : ((Rows.fnNatureOfTableRow.loopsOut == Tryz.f8.resultTypes.toList.any (Tryz.prog.loopsFrom ·))) = true := by kernel_rfl
theorem k_pk : (Rows.fnNatureOfTableRow.plainKeys == Tryz.prog.plainKeys) = true := by rw [Shut.pk]; rfl
theorem k_st : (Rows.fnNatureOfTableRow.shortTexts.isNone) = true := by kernel_rfl
theorem k_lf : (Rows.fnNatureOfTableRow.lifted == Tryz.prog.liftsFinal) = true := by rw [Shut.lf]; rfl
theorem k_mk : (Tryz.prog.make == some Rows.fnNatureOfTableRow.make) = true := by rw [Shut.mk_of _ Shut.head]; rfl
theorem k_kd : ((Rows.fnNatureOfTableRow.kinds == (if Rows.fnNatureOfTableRow.domain.isEmpty then [] else Tryz.f8.params.toList.map fun t => match Tryz.prog.underlying t with | some (.int k) => some k | _ => Option.none))) = true := by kernel_rfl
theorem k_pn : ((Rows.fnNatureOfTableRow.pinned == Rows.fnNatureOfTableRow.pinnedBy)) = true := by kernel_rfl
theorem k_ve : ((Rows.fnNatureOfTableRow.veiled == (Tryz.f8.params.toList ++ Rows.fnNatureOfTableSpec.plain.varTypes Tryz.prog ++ Tryz.f8.resultTypes.toList).any (Tryz.prog.veiledRec ·))) = true := by kernel_rfl
theorem k_vf : (Rows.fnNatureOfTableRow.veiledFits Tryz.prog Tryz.f8.params.toList (Tryz.f8.params.toList ++ Rows.fnNatureOfTableSpec.plain.varTypes Tryz.prog ++ Tryz.f8.resultTypes.toList)) = true := by kernel_rfl
set_option maxRecDepth 100000 in
theorem closedAll : joinedFacts Tryz.prog 8 Tryz.f8 Rows.fnNatureOfTableSpec Rows.fnNatureOfTableRow = true := (Shut.and2 (Shut.and2 (Shut.and2 (Shut.and2 (Shut.and2 (Shut.and2 (Shut.and2 (Shut.and2 (Shut.and2 (Shut.and2 (Shut.and2 (Shut.and2 (Shut.and2 (Shut.and2 (Shut.and2 (Shut.and2 (Shut.and2 (Shut.and2 (Shut.and2 (Shut.and2 (Shut.and2 (Shut.and2 (Shut.and2 (Shut.and2 (Shut.and2 (Shut.and2 (Shut.and2 (Shut.and2 (Shut.and2 (Shut.and2 (Shut.and2 k_wf Shut.laidOut) Shut.mrow) k_rd) k_nt) k_cs) Shut.stp) k_ck) Shut.stk) k_ip) k_uf) k_rc) k_nm) k_mp) k_ifc) k_mo) k_lp) k_wk) k_vr) k_rt) k_io) k_lo) k_pk) k_st) Shut.sh) Shut.me) k_lf) k_mk) k_kd) k_pn) k_ve) k_vf)
theorem fnamed : Tryz.prog.funcNamed Rows.fnNatureOfTableRow.func = some 8 := by kernel_rfl
theorem instOk : decide (Tryz.f8.isInstance Tryz.prog Rows.fnNatureOfTableRow.origin Rows.fnNatureOfTableRow.targs) = true := by kernel_rfl
theorem over : Rows.fnNatureOfTableRow.holds Tryz.pinned (OpenSpec.ofChange Rows.fnNatureOfTableSpec) :=
  OpenClaim.holds_of_wide 8 Tryz.f8 rfl rfl rfl rfl rfl rfl rfl ⟨rfl, rfl, rfl, rfl, rfl⟩ rfl rfl rfl rfl rfl fnamed Tryz.func8 closedAll
    (of_decide_eq_true instOk) (by unfold Func.isWrapper; first | (rw [if_pos (by decide +kernel)]; kernel_rfl) | (rw [if_neg (by decide +kernel)]; exact ⟨rfl, rfl⟩))
    (fun os started H enc _ => lifted os started H enc)

theorem proved : Rows.FnNatureOfTableSaid := over
#print axioms proved
end Go.Proofs.YtfmefomafdgfmaaGreat.fnNatureOfTable
