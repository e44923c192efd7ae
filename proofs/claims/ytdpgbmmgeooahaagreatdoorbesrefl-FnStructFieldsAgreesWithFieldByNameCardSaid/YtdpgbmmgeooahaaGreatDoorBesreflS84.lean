/-
  StructFields over zzOuter and its pointer type. No condition.
-/
import Derived.Test.YtdpgbmmgeooahaaGreatDoorBesreflN84
import Derived.WalkSpells
import Derived.StillTailTactics
import Derived.Deep.RegionHeld3
import Derived.Deep.RegionLaw
import Derived.Deep.RegionLawGrows
import Derived.Deep.AppendLies
import Derived.Deep.Cut
import Derived.Deep.CutRange
import Derived.Deep.RegionWith
import Derived.Lib.Hide
import Derived.Deep.LoopGhost
import Derived.Deep.DeepCutAuto
import Derived.Defers
import Derived.Maps.Range
namespace Go.Proofs.YtdpgbmmgeooahaaGreatDoorBesrefl
open Go.RowKit
set_option maxRecDepth 100000
set_option maxHeartbeats 1000000
set_option linter.unusedVariables false
theorem tab_empty : tab54 ⟨#[]⟩ = none := by kernel_rfl
set_option maxHeartbeats 16000000 in
theorem stf_v {B cb td s : Nat} {mo : Option Nat} {own : Nat} {an : Int} {ch : Option Addr} {ix : Value} {F : ByteArray → Option Value} {w : World} (h1 : B ≤ s) (h : Top [] (fun _ => none) B cb td s 54 7 fs54 tab54 ks54 exT mo own an ch ix F w) :
    Calls Tryz.prog 12 #[.pointer (pt cb), .iface 105 (.pointer (some ⟨4, 54, none⟩))] w fun e w' => ∃ mt H, e = .returned (.map (some mt)) ∧ Fr B w w' ∧ MapIs w' mt H ∧ (∀ x v, H x = some v → ∃ E td', tab54 x = some E ∧ v = .agg (natc E.t E.k td' E.i E.f)) ∧ ∀ x, tab54 x ≠ none → H x ≠ none := by
  have hkk := kk_v
  have hlow := h.low
  have hT1 : Top [w.heap.size] (fun _ => some (.map #[] 0)) B cb td s 54 7 fs54 tab54 ks54 exT mo own an ch ix F (w.alloc (.map #[] 0)) := h.oth ((Fr.refl B w h.low).alloc _) (fun b hb _ => Below.heap_alloc w _ b hb) (fun b hm => by
    rw [List.mem_singleton] at hm
    subst hm
    exact ⟨Or.inr (Nat.le_refl _), by simp, heap_alloc_new w _, fun c f h => by cases h⟩)
  have HT := Lib.hid (And.intro h1 hT1)
  clear h hT1 h1
  go_enter Tryz.func12, Tryz.ntmps12
  go_wp2_with (first | (go_at_call 37; ((with_reducible refine (tk_v _).mono ?_); rintro e w' ⟨rfl, rfl⟩)) | (go_at_call 38; ((with_reducible refine (top_again HT.out.2).mono ?_); rintro e w2 ⟨rfl, hf2, ho2, hT2⟩; obtain ⟨tp, tc⟩ := sz14 w2 td s hT2.td; have H2 := Lib.hid (And.intro (((Fr.refl B w hlow).alloc _).trans hf2) hT2); clear hf2 ho2 hT2)) | (go_at_call 39; ((with_reducible refine (top_sf top54 (exOk _ _) HT.out.1 ⟨#[]⟩ H2.out.2).mono ?_); rintro e w3 ⟨r, m, own', an', ch', ix', F', rfl, hf3, hT3, hor⟩; have hall : (∀ x, tab54 x ≠ none → F' x ≠ none) := (by rcases hor with ⟨_, _, _, _, _, h⟩ | ⟨_, _, E, _, _, hE, _⟩; exact h; exact absurd hE (by rw [tab_empty]; exact fun h => by cases h)); have h3p := hT3.sd.plain; have h3c := hT3.sd.cells; have h3m := hT3.held (b := w.heap.size) (by simp); have hfw := H2.out.1.trans hf3; obtain ⟨es, cl, hmp, hMI, hfi⟩ := hT3.fm.2; have hrn := range_at w3 m es cl hmp; have H3 := Lib.hid (And.intro hfw (And.intro hT3 (And.intro hall (And.intro h3m (And.intro hmp (And.intro hMI hfi)))))); clear hf3 hT3 hor hall h3m hmp hMI hfi hfw tp tc)))
  have hm3 := H3.out.2.2.2.1
  have hl0 : w.heap.size < w3.heap.size := (Array.getElem?_eq_some_iff.1 hm3).1
  have hne : m ≠ w.heap.size := fun e => by
    have h5 := mapAt_some H3.out.2.2.2.2.1
    obtain ⟨mc, G, g, hF, _⟩ := H3.out.2.1.re
    exact (hF.ot w.heap.size (by simp)).1 (by simp [e])
  have hB3 : B ≤ w3.heap.size := Nat.le_trans H3.out.1.low H3.out.1.grow
  have hlm : m < w3.heap.size := mapAt_lt H3.out.2.2.2.2.1
  have hld : ∀ o, w3.heap[w.heap.size]? = some o → keep o = false := fun o ho => by rw [hm3] at ho; cases ho; rfl
  clear hrn h3p h3c hkk hm3
  go_loopg [9] (leftOf es #[]).size (fun g _ wr => ∃ seen c0 H, g = (leftOf es seen).size ∧ cl ≤ c0 ∧ wr.heap[w3.heap.size]? = some (.mapIter (some m) cl seen c0) ∧ (∀ b, b < w3.heap.size → b ≠ w.heap.size → wr.heap[b]? = w3.heap[b]?) ∧ Fr B w3 wr ∧ MapIs wr w.heap.size H ∧ (∀ x v, H x = some v → ∃ E td', tab54 x = some E ∧ v = .agg (natc E.t E.k td' E.i E.f)) ∧ (∀ e ∈ es.toList, seen.contains e.born = true → ∀ x, e.key = .string x → H x ≠ none))
  case atStart => exact ⟨#[], cl, fun _ => none, rfl, Nat.le_refl _, heap_alloc_new w3 _, fun b hb _ => Below.heap_alloc _ _ _ hb, (Fr.refl B w3 hB3).alloc _, ⟨#[], 0, by unfold mapAt; rw [Below.heap_alloc _ _ _ hl0, H3.out.2.2.2.1], MI.empty 0, fun _ => rfl⟩, fun x v h => (by cases h), fun e _ h => (by simp at h)⟩
  case round =>
    obtain ⟨seen, c0, H, hg, hc0, hit, hsm, hfr, hMt, hso, hcp⟩ := hrel
    have hb1 : wr.heap[m]? = some (.map es cl) := (hsm m hlm hne).trans (mapAt_some H3.out.2.2.2.2.1)
    have HGG := Lib.hid hg
    have HIT := Lib.hid hit
    have HSM := Lib.hid (And.intro hsm (And.intro hfr (And.intro hMt (And.intro hso hcp))))
    have hnext := run_next_at (P := Tryz.prog) wr 0 w3.heap.size m cl c0 seen es cl hit hb1 H3.out.2.2.2.2.2.1.young hc0
    clear hg hsm hfr hMt hso hcp hit hb1 hc0
    rcases hnext with ⟨h0, hrun⟩ | ⟨e, he, w1, hal, hrun⟩
    · have HZ := Lib.hid h0
      clear h0
      go_wp2
      go_ret
      refine ⟨_, H, rfl, H3.out.1.trans HSM.out.2.1, HSM.out.2.2.1, HSM.out.2.2.2.1, fun x hx => ?_⟩
      have h1 := H3.out.2.2.1 x hx
      rw [← H3.out.2.2.2.2.2.2 x] at h1
      cases hs : strFind x es.toList with
      | none => exact absurd hs h1
      | some v =>
        obtain ⟨e, he, hk, _⟩ := strFind_mem hs
        refine HSM.out.2.2.2.2 e he ?_ x hk
        cases hcn : seen.contains e.born with
        | true => rfl
        | false =>
          have h4 : e ∈ leftOf es seen := by
            unfold leftOf
            rw [Array.mem_filter]
            exact ⟨Array.mem_toList_iff.1 he, by rw [hcn]; rfl⟩
          have h5 := Array.size_pos_of_mem h4
          have := HZ.out
          omega
    · obtain ⟨hem, hes⟩ := mem_left he
      obtain ⟨kk, hkk⟩ := mem_allStr H3.out.2.2.2.2.2.1.str e hem
      have hfc : F' kk = some e.val := by rw [← H3.out.2.2.2.2.2.2 kk]; exact strFind_of_mem H3.out.2.2.2.2.2.1.keys e hem hkk
      obtain ⟨pv, tv, Ev, hval, hEv, hI3⟩ := H3.out.2.1.so kk e.val hfc
      obtain ⟨W2, hW2⟩ : ∃ W2, Go.ChangeMaps.setBlock w1 w3.heap.size (.mapIter (some m) cl (seen.push e.born) cl) = W2 := ⟨_, rfl⟩
      rw [hW2, hkk, hval] at hrun
      have hr1 : w1.heap[w3.heap.size]? = some (.mapIter (some m) cl seen c0) := by
        rcases hal with rfl | rfl
        · exact HIT.out
        · exact HIT.out
      have hset : W2.heap[w3.heap.size]? = some (.mapIter (some m) cl (seen.push e.born) cl) ∧ ∀ k, k ≠ w3.heap.size → W2.heap[k]? = w1.heap[k]? := by
        rw [← hW2]
        exact MapKept.heap_set hr1
      have hlt1 : w3.heap.size < w1.heap.size := (Array.getElem?_eq_some_iff.1 hr1).1
      have hsmt : W2.heap[w.heap.size]? = wr.heap[w.heap.size]? := by
        rw [hset.2 _ (by omega)]
        rcases hal with rfl | rfl
        · rfl
        · rfl
      have hsm2 : ∀ b, b < w3.heap.size → b ≠ w.heap.size → W2.heap[b]? = w3.heap[b]? := fun b hb hn => by
        rw [hset.2 b (by omega)]
        rcases hal with rfl | rfl
        · exact HSM.out.1 b hb hn
        · exact HSM.out.1 b hb hn
      have hfw1 : Fr B w3 w1 := by
        rcases hal with rfl | rfl
        · exact HSM.out.2.1
        · exact HSM.out.2.1.drew
      have hfr2 : Fr B w3 W2 := hfw1.other w3.heap.size hB3 (fun o ho => by rw [Array.getElem?_eq_none (Nat.le_refl _)] at ho; cases ho) (by rw [← hW2]; simp [Go.ChangeMaps.setBlock]) hset.2 (by rw [← hW2]; rfl) (by rw [← hW2]; rfl) (by rw [← hW2]; rfl)
      have hb2 : W2.heap[m]? = some (.map es cl) := (hsm2 m hlm hne).trans (mapAt_some H3.out.2.2.2.2.1)
      have hent := run_entry_at (P := Tryz.prog) W2 w3.heap.size m cl seen es cl e hset.1 hb2 hem (by rw [List.nodup_iff_pairwise_ne, List.pairwise_map]; exact H3.out.2.2.2.2.2.1.born)
      rw [hkk, hval] at hent
      have hMW : MapIs W2 w.heap.size H := HSM.out.2.2.1.heap hsmt
      have hok := hMW.ok
      obtain ⟨vi, hq, hvi⟩ := hI3.carry hfr2
      have hqp : Plain W2 pv := ⟨_, _, hq⟩
      have hqc : cellsAt W2 pv = _ := cellsAt_of hq
      have hqz : (cellsAt W2 pv).size = 10 := by rw [hqc]; rfl
      have HRL := Lib.hid (And.intro hset.1 (And.intro hsm2 (And.intro hfr2 (And.intro (left_shrinks es seen e he) (And.intro hMW (And.intro hEv hkk))))))
      have HEM := Lib.hid hem
      have hwlt : w.heap.size < W2.heap.size := hMW.lt
      clear hem hes hkk hfc hval hr1 hset hlt1 hsmt hsm2 hfw1 hfr2 hb2 hW2 hal he hI3 hq hvi hMW hEv
      go_wp2
      go_roundg (leftOf es (seen.push e.born)).size
      case measure => (rw [HGG.out]; exact HRL.out.2.2.2.1)
      case rel =>
        refine ⟨seen.push e.born, cl, _, rfl, Nat.le_refl _, (heap_put _ _ _ _ (by omega)).trans HRL.out.1, fun b hb hn => (heap_put _ _ _ _ (fun e => hn e.symm)).trans (HRL.out.2.1 b hb hn), HRL.out.2.2.1.put (Nat.le_trans hlow (Nat.le_refl _)) hld _, HRL.out.2.2.2.2.1.set kk _, fun x v hx => ?_, fun e2 he2 hc2 x hx2 => ?_⟩
        · by_cases hxk : (kk == x) = true
          · rw [if_pos hxk] at hx
            cases hx
            obtain rfl := (ba_iff _ _).1 hxk
            exact ⟨Ev, tv, HRL.out.2.2.2.2.2.1, rfl⟩
          · rw [if_neg hxk] at hx
            exact HSM.out.2.2.2.1 x v hx
        · by_cases hxk : (kk == x) = true
          · rw [if_pos hxk]
            exact fun h => by cases h
          · rw [if_neg hxk]
            refine HSM.out.2.2.2.2 e2 he2 ?_ x hx2
            rw [contains_push] at hc2
            cases hcn : seen.contains e2.born with
            | true => rfl
            | false =>
              rw [hcn, Bool.false_or] at hc2
              have hbn := eq_of_beq hc2
              have he12 : e2 = e := by
                have hpw := H3.out.2.2.2.2.2.1.born
                by_cases hee : e2 = e
                · exact hee
                · obtain ⟨i, hi⟩ := List.getElem?_of_mem he2
                  obtain ⟨j, hj⟩ := List.getElem?_of_mem HEM.out
                  obtain ⟨hi1, hi2⟩ := List.getElem?_eq_some_iff.1 hi
                  obtain ⟨hj1, hj2⟩ := List.getElem?_eq_some_iff.1 hj
                  rw [List.pairwise_iff_getElem] at hpw
                  rcases Nat.lt_trichotomy i j with h | h | h
                  · exact absurd (by rw [hi2, hj2]; first | exact hbn | exact hbn.symm) (hpw i j hi1 hj1 h)
                  · subst h
                    rw [hi2] at hj2
                    exact absurd hj2 hee
                  · exact absurd (by rw [hi2, hj2]; first | exact hbn | exact hbn.symm) (hpw j i hj1 hi1 h)
              subst he12
              have h9 := HRL.out.2.2.2.2.2.2
              rw [hx2] at h9
              obtain rfl : x = kk := by cases h9; rfl
              exact absurd ((ba_iff _ _).2 rfl) hxk
set_option maxHeartbeats 16000000 in
theorem stf_p {B cb td s : Nat} {mo : Option Nat} {own : Nat} {an : Int} {ch : Option Addr} {ix : Value} {F : ByteArray → Option Value} {w : World} (h1 : B ≤ s) (h : Top [] (fun _ => none) B cb td s 54 7 fs54 tab54 ks54 exT mo own an ch ix F w) :
    Calls Tryz.prog 12 #[.pointer (pt cb), .iface 105 (.pointer (some ⟨4, 69, none⟩))] w fun e w' => ∃ mt H, e = .returned (.map (some mt)) ∧ Fr B w w' ∧ MapIs w' mt H ∧ (∀ x v, H x = some v → ∃ E td', tab54 x = some E ∧ v = .agg (natc E.t E.k td' E.i E.f)) ∧ ∀ x, tab54 x ≠ none → H x ≠ none := by
  have hkk := kk_p
  have hlow := h.low
  have hT1 : Top [w.heap.size] (fun _ => some (.map #[] 0)) B cb td s 54 7 fs54 tab54 ks54 exT mo own an ch ix F (w.alloc (.map #[] 0)) := h.oth ((Fr.refl B w h.low).alloc _) (fun b hb _ => Below.heap_alloc w _ b hb) (fun b hm => by
    rw [List.mem_singleton] at hm
    subst hm
    exact ⟨Or.inr (Nat.le_refl _), by simp, heap_alloc_new w _, fun c f h => by cases h⟩)
  have HT := Lib.hid (And.intro h1 hT1)
  clear h hT1 h1
  go_enter Tryz.func12, Tryz.ntmps12
  go_wp2_with (first | (go_at_call 37; ((with_reducible refine (tk_p _).mono ?_); rintro e w' ⟨rfl, rfl⟩)) | (go_at_call 38; ((with_reducible refine (top_again HT.out.2).mono ?_); rintro e w2 ⟨rfl, hf2, ho2, hT2⟩; obtain ⟨tp, tc⟩ := sz14 w2 td s hT2.td; have H2 := Lib.hid (And.intro (((Fr.refl B w hlow).alloc _).trans hf2) hT2); clear hf2 ho2 hT2)) | (go_at_call 39; ((with_reducible refine (top_sf top54 (exOk _ _) HT.out.1 ⟨#[]⟩ H2.out.2).mono ?_); rintro e w3 ⟨r, m, own', an', ch', ix', F', rfl, hf3, hT3, hor⟩; have hall : (∀ x, tab54 x ≠ none → F' x ≠ none) := (by rcases hor with ⟨_, _, _, _, _, h⟩ | ⟨_, _, E, _, _, hE, _⟩; exact h; exact absurd hE (by rw [tab_empty]; exact fun h => by cases h)); have h3p := hT3.sd.plain; have h3c := hT3.sd.cells; have h3m := hT3.held (b := w.heap.size) (by simp); have hfw := H2.out.1.trans hf3; obtain ⟨es, cl, hmp, hMI, hfi⟩ := hT3.fm.2; have hrn := range_at w3 m es cl hmp; have H3 := Lib.hid (And.intro hfw (And.intro hT3 (And.intro hall (And.intro h3m (And.intro hmp (And.intro hMI hfi)))))); clear hf3 hT3 hor hall h3m hmp hMI hfi hfw tp tc)))
  have hm3 := H3.out.2.2.2.1
  have hl0 : w.heap.size < w3.heap.size := (Array.getElem?_eq_some_iff.1 hm3).1
  have hne : m ≠ w.heap.size := fun e => by
    have h5 := mapAt_some H3.out.2.2.2.2.1
    obtain ⟨mc, G, g, hF, _⟩ := H3.out.2.1.re
    exact (hF.ot w.heap.size (by simp)).1 (by simp [e])
  have hB3 : B ≤ w3.heap.size := Nat.le_trans H3.out.1.low H3.out.1.grow
  have hlm : m < w3.heap.size := mapAt_lt H3.out.2.2.2.2.1
  have hld : ∀ o, w3.heap[w.heap.size]? = some o → keep o = false := fun o ho => by rw [hm3] at ho; cases ho; rfl
  clear hrn h3p h3c hkk hm3
  go_loopg [9] (leftOf es #[]).size (fun g _ wr => ∃ seen c0 H, g = (leftOf es seen).size ∧ cl ≤ c0 ∧ wr.heap[w3.heap.size]? = some (.mapIter (some m) cl seen c0) ∧ (∀ b, b < w3.heap.size → b ≠ w.heap.size → wr.heap[b]? = w3.heap[b]?) ∧ Fr B w3 wr ∧ MapIs wr w.heap.size H ∧ (∀ x v, H x = some v → ∃ E td', tab54 x = some E ∧ v = .agg (natc E.t E.k td' E.i E.f)) ∧ (∀ e ∈ es.toList, seen.contains e.born = true → ∀ x, e.key = .string x → H x ≠ none))
  case atStart => exact ⟨#[], cl, fun _ => none, rfl, Nat.le_refl _, heap_alloc_new w3 _, fun b hb _ => Below.heap_alloc _ _ _ hb, (Fr.refl B w3 hB3).alloc _, ⟨#[], 0, by unfold mapAt; rw [Below.heap_alloc _ _ _ hl0, H3.out.2.2.2.1], MI.empty 0, fun _ => rfl⟩, fun x v h => (by cases h), fun e _ h => (by simp at h)⟩
  case round =>
    obtain ⟨seen, c0, H, hg, hc0, hit, hsm, hfr, hMt, hso, hcp⟩ := hrel
    have hb1 : wr.heap[m]? = some (.map es cl) := (hsm m hlm hne).trans (mapAt_some H3.out.2.2.2.2.1)
    have HGG := Lib.hid hg
    have HIT := Lib.hid hit
    have HSM := Lib.hid (And.intro hsm (And.intro hfr (And.intro hMt (And.intro hso hcp))))
    have hnext := run_next_at (P := Tryz.prog) wr 0 w3.heap.size m cl c0 seen es cl hit hb1 H3.out.2.2.2.2.2.1.young hc0
    clear hg hsm hfr hMt hso hcp hit hb1 hc0
    rcases hnext with ⟨h0, hrun⟩ | ⟨e, he, w1, hal, hrun⟩
    · have HZ := Lib.hid h0
      clear h0
      go_wp2
      go_ret
      refine ⟨_, H, rfl, H3.out.1.trans HSM.out.2.1, HSM.out.2.2.1, HSM.out.2.2.2.1, fun x hx => ?_⟩
      have h1 := H3.out.2.2.1 x hx
      rw [← H3.out.2.2.2.2.2.2 x] at h1
      cases hs : strFind x es.toList with
      | none => exact absurd hs h1
      | some v =>
        obtain ⟨e, he, hk, _⟩ := strFind_mem hs
        refine HSM.out.2.2.2.2 e he ?_ x hk
        cases hcn : seen.contains e.born with
        | true => rfl
        | false =>
          have h4 : e ∈ leftOf es seen := by
            unfold leftOf
            rw [Array.mem_filter]
            exact ⟨Array.mem_toList_iff.1 he, by rw [hcn]; rfl⟩
          have h5 := Array.size_pos_of_mem h4
          have := HZ.out
          omega
    · obtain ⟨hem, hes⟩ := mem_left he
      obtain ⟨kk, hkk⟩ := mem_allStr H3.out.2.2.2.2.2.1.str e hem
      have hfc : F' kk = some e.val := by rw [← H3.out.2.2.2.2.2.2 kk]; exact strFind_of_mem H3.out.2.2.2.2.2.1.keys e hem hkk
      obtain ⟨pv, tv, Ev, hval, hEv, hI3⟩ := H3.out.2.1.so kk e.val hfc
      obtain ⟨W2, hW2⟩ : ∃ W2, Go.ChangeMaps.setBlock w1 w3.heap.size (.mapIter (some m) cl (seen.push e.born) cl) = W2 := ⟨_, rfl⟩
      rw [hW2, hkk, hval] at hrun
      have hr1 : w1.heap[w3.heap.size]? = some (.mapIter (some m) cl seen c0) := by
        rcases hal with rfl | rfl
        · exact HIT.out
        · exact HIT.out
      have hset : W2.heap[w3.heap.size]? = some (.mapIter (some m) cl (seen.push e.born) cl) ∧ ∀ k, k ≠ w3.heap.size → W2.heap[k]? = w1.heap[k]? := by
        rw [← hW2]
        exact MapKept.heap_set hr1
      have hlt1 : w3.heap.size < w1.heap.size := (Array.getElem?_eq_some_iff.1 hr1).1
      have hsmt : W2.heap[w.heap.size]? = wr.heap[w.heap.size]? := by
        rw [hset.2 _ (by omega)]
        rcases hal with rfl | rfl
        · rfl
        · rfl
      have hsm2 : ∀ b, b < w3.heap.size → b ≠ w.heap.size → W2.heap[b]? = w3.heap[b]? := fun b hb hn => by
        rw [hset.2 b (by omega)]
        rcases hal with rfl | rfl
        · exact HSM.out.1 b hb hn
        · exact HSM.out.1 b hb hn
      have hfw1 : Fr B w3 w1 := by
        rcases hal with rfl | rfl
        · exact HSM.out.2.1
        · exact HSM.out.2.1.drew
      have hfr2 : Fr B w3 W2 := hfw1.other w3.heap.size hB3 (fun o ho => by rw [Array.getElem?_eq_none (Nat.le_refl _)] at ho; cases ho) (by rw [← hW2]; simp [Go.ChangeMaps.setBlock]) hset.2 (by rw [← hW2]; rfl) (by rw [← hW2]; rfl) (by rw [← hW2]; rfl)
      have hb2 : W2.heap[m]? = some (.map es cl) := (hsm2 m hlm hne).trans (mapAt_some H3.out.2.2.2.2.1)
      have hent := run_entry_at (P := Tryz.prog) W2 w3.heap.size m cl seen es cl e hset.1 hb2 hem (by rw [List.nodup_iff_pairwise_ne, List.pairwise_map]; exact H3.out.2.2.2.2.2.1.born)
      rw [hkk, hval] at hent
      have hMW : MapIs W2 w.heap.size H := HSM.out.2.2.1.heap hsmt
      have hok := hMW.ok
      obtain ⟨vi, hq, hvi⟩ := hI3.carry hfr2
      have hqp : Plain W2 pv := ⟨_, _, hq⟩
      have hqc : cellsAt W2 pv = _ := cellsAt_of hq
      have hqz : (cellsAt W2 pv).size = 10 := by rw [hqc]; rfl
      have HRL := Lib.hid (And.intro hset.1 (And.intro hsm2 (And.intro hfr2 (And.intro (left_shrinks es seen e he) (And.intro hMW (And.intro hEv hkk))))))
      have HEM := Lib.hid hem
      have hwlt : w.heap.size < W2.heap.size := hMW.lt
      clear hem hes hkk hfc hval hr1 hset hlt1 hsmt hsm2 hfw1 hfr2 hb2 hW2 hal he hI3 hq hvi hMW hEv
      go_wp2
      go_roundg (leftOf es (seen.push e.born)).size
      case measure => (rw [HGG.out]; exact HRL.out.2.2.2.1)
      case rel =>
        refine ⟨seen.push e.born, cl, _, rfl, Nat.le_refl _, (heap_put _ _ _ _ (by omega)).trans HRL.out.1, fun b hb hn => (heap_put _ _ _ _ (fun e => hn e.symm)).trans (HRL.out.2.1 b hb hn), HRL.out.2.2.1.put (Nat.le_trans hlow (Nat.le_refl _)) hld _, HRL.out.2.2.2.2.1.set kk _, fun x v hx => ?_, fun e2 he2 hc2 x hx2 => ?_⟩
        · by_cases hxk : (kk == x) = true
          · rw [if_pos hxk] at hx
            cases hx
            obtain rfl := (ba_iff _ _).1 hxk
            exact ⟨Ev, tv, HRL.out.2.2.2.2.2.1, rfl⟩
          · rw [if_neg hxk] at hx
            exact HSM.out.2.2.2.1 x v hx
        · by_cases hxk : (kk == x) = true
          · rw [if_pos hxk]
            exact fun h => by cases h
          · rw [if_neg hxk]
            refine HSM.out.2.2.2.2 e2 he2 ?_ x hx2
            rw [contains_push] at hc2
            cases hcn : seen.contains e2.born with
            | true => rfl
            | false =>
              rw [hcn, Bool.false_or] at hc2
              have hbn := eq_of_beq hc2
              have he12 : e2 = e := by
                have hpw := H3.out.2.2.2.2.2.1.born
                by_cases hee : e2 = e
                · exact hee
                · obtain ⟨i, hi⟩ := List.getElem?_of_mem he2
                  obtain ⟨j, hj⟩ := List.getElem?_of_mem HEM.out
                  obtain ⟨hi1, hi2⟩ := List.getElem?_eq_some_iff.1 hi
                  obtain ⟨hj1, hj2⟩ := List.getElem?_eq_some_iff.1 hj
                  rw [List.pairwise_iff_getElem] at hpw
                  rcases Nat.lt_trichotomy i j with h | h | h
                  · exact absurd (by rw [hi2, hj2]; first | exact hbn | exact hbn.symm) (hpw i j hi1 hj1 h)
                  · subst h
                    rw [hi2] at hj2
                    exact absurd hj2 hee
                  · exact absurd (by rw [hi2, hj2]; first | exact hbn | exact hbn.symm) (hpw j i hj1 hi1 h)
              subst he12
              have h9 := HRL.out.2.2.2.2.2.2
              rw [hx2] at h9
              obtain rfl : x = kk := by cases h9; rfl
              exact absurd ((ba_iff _ _).2 rfl) hxk
end Go.Proofs.YtdpgbmmgeooahaaGreatDoorBesrefl
