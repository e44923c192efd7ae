/-
  The hand table of the fields of zzOuter; NatureOf; maps of Natures. No condition.
-/
import Derived.Test.YtdpgbmmgeooahaaGreatDoorBesreflG6
import Derived.Test.YtdpgbmmgeooahaaGreatDoorBesreflTy54
import Derived.WalkSpells
import Derived.StillTailTactics
import Derived.Deep.RegionHeld3
import Derived.Deep.RegionLaw
import Derived.Deep.RegionLawGrows
import Derived.Deep.AppendLies
import Derived.Deep.Cut
import Derived.Deep.CutRange
import Derived.Deep.RegionWith
import Derived.Lib.Hide
import Derived.Deep.LoopGhost
import Derived.Deep.DeepCutAuto
import Derived.Defers
import Derived.Maps.Range
namespace Go.Proofs.YtdpgbmmgeooahaaGreatDoorBesrefl
open Go.RowKit
set_option maxRecDepth 100000
set_option maxHeartbeats 1000000
set_option linter.unusedVariables false
abbrev exT : (ByteArray → Option Value) → Option Addr → Prop := fun _ _ => True
theorem exOk (n : Nat) (fs : Nat → Fd) : ExOk n fs exT := ⟨fun _ _ _ _ _ _ _ _ => trivial, fun _ _ => trivial, trivial⟩
theorem Fr.le {B C : Nat} {w v : World} (h : Fr C w v) (hB : B ≤ C) : Fr B w v := ⟨h.bel.mono hB, h.kept, h.grow, Nat.le_trans hB h.low⟩
theorem ca_new (w : World) : Ca (w.alloc (.cells #[.map none, .map none] 41)) w.heap.size none := heap_alloc_new w _
theorem q_ne (l : List UInt8) (name : ByteArray) (h : ((⟨l.toArray⟩ : ByteArray) == name) = false) : (name.toList == l) = false := by
  rw [ba_list] at h
  cases h2 : (name.toList == l) with
  | false => rfl
  | true =>
    rw [eq_of_beq h2] at h
    simp at h
theorem kind25_54 (w : World) : (callFunc 171 #[.pointer (some ⟨4, 54, none⟩)]).run Tryz.prog w = .ok (.value (.int .u64 25)) w := by kernel_rfl
theorem nf_54 (w : World) : (callFunc 177 #[.pointer (some ⟨4, 54, none⟩)]).run Tryz.prog w = .ok (.value (.int .i64 (7 : Nat))) w := by kernel_rfl
theorem zs_55 (w : World) : (zeroValue 48).run Tryz.prog w = .ok (.agg #[.nilIface, .int .u64 0, .pointer none, .pointer none, .bool false, .bool false, .bool false, .bool false, .bool false]) w := by kernel_rfl
@[go_sem] theorem sl_55 (r : Nat) (k : ByteArray) (ok : Bool) (w : World) (h : strOk (mapAt w r) = true) : (Instr.lookup 55 (.map (some r)) (.string k) ok).run Tryz.prog w = .ok (orZero (strLook (mapAt w r) k) (.agg #[.nilIface, .int .u64 0, .pointer none, .pointer none, .bool false, .bool false, .bool false, .bool false, .bool false]) ok) w :=
  look_str Tryz.underlying55 Tryz.underlying9 (zs_55 w) h
@[go_sem] theorem su_55 (r : Nat) (k : ByteArray) (v : Value) (w : World) (h : strOk (mapAt w r) = true) : (Instr.mapUpdate 55 (.map (some r)) (.string k) v).run Tryz.prog w = .ok () (put w r (mapSet (mapAt w r) k v)) :=
  run_set_str Tryz.underlying55 Tryz.underlying9 h
@[go_sem] theorem mkm_55 (w : World) : (Instr.makeMap 55 none).run Tryz.prog w = .ok (.map (some w.heap.size)) (w.alloc (.map #[] 0)) := by kernel_rfl
theorem len_map (w : World) (r : Nat) (es : Array MapEntry) (cl : Nat) (ty : TypeId) (h : mapAt w r = some (es, cl)) : (Builtin.len_ #[55] ty #[.map (some r)]).run Tryz.prog w = .ok (.int .i64 es.size) w := by
  simp [Builtin.len_, run_underlying Tryz.underlying55, MapKept.run_getObj_map (mapAt_some h), goInt, Result.andThen]
theorem len_le : ∀ (l1 l2 : List ByteArray), l1.Pairwise (· ≠ ·) → (∀ a ∈ l1, a ∈ l2) → l1.length ≤ l2.length := by
  have inst : LawfulBEq ByteArray := { eq_of_beq := fun h => (ba_iff _ _).1 h, rfl := (ba_iff _ _).2 rfl }
  intro l1
  induction l1 with
  | nil => intro l2 _ _; exact Nat.zero_le _
  | cons a l1 ih =>
    intro l2 hp hs
    rw [List.pairwise_cons] at hp
    have ha := hs a List.mem_cons_self
    have h := ih (l2.erase a) hp.2 (fun b hb => (List.mem_erase_of_ne (fun e => hp.1 b hb e.symm)).2 (hs b (List.mem_cons_of_mem _ hb)))
    rw [List.length_erase_of_mem ha] at h
    have := List.length_pos_of_mem ha
    simp
    omega
def kstr (e : MapEntry) : ByteArray := match e.key with | .string s => s | _ => ByteArray.empty
theorem size_dom {es : Array MapEntry} {cl : Nat} {H : ByteArray → Option Value} {L : List ByteArray} (h : MI es cl) (hf : ∀ k, strFind k es.toList = H k) (hL : L.Pairwise (· ≠ ·)) (hd : ∀ x, H x ≠ none ↔ x ∈ L) : es.size = L.length := by
  have hk : (es.toList.map kstr).Pairwise (· ≠ ·) := by
    rw [List.pairwise_map]
    refine h.keys.imp_of_mem ?_
    intro a b ha hb hne e
    obtain ⟨s, hs⟩ := mem_allStr h.str a ha
    obtain ⟨t, ht⟩ := mem_allStr h.str b hb
    refine hne ?_
    unfold kstr at e
    rw [hs, ht] at e
    rw [hs, ht]
    exact congrArg Value.string e
  have h1 : (es.toList.map kstr).length ≤ L.length := len_le _ _ hk (fun x hx => by
    obtain ⟨e, he, rfl⟩ := List.mem_map.1 hx
    obtain ⟨s, hs⟩ := mem_allStr h.str e he
    have h2 : kstr e = s := by unfold kstr; rw [hs]
    rw [h2, ← hd, ← hf, strFind_of_mem h.keys e he hs]
    exact fun h => by cases h)
  have h2 : L.length ≤ (es.toList.map kstr).length := len_le _ _ hL (fun x hx => by
    have := (hd x).2 hx
    rw [← hf] at this
    cases hs : strFind x es.toList with
    | none => exact absurd hs this
    | some v =>
      obtain ⟨e, he, hk, _⟩ := strFind_mem hs
      exact List.mem_map.2 ⟨e, he, by unfold kstr; rw [hk]⟩)
  rw [List.length_map] at h1 h2
  have h3 : es.toList.length = es.size := Array.length_toList
  omega
theorem kk_v (w : World) : (callFunc 171 #[.pointer (some ⟨4, 54, none⟩)]).run Tryz.prog w = .ok (.value (.int .u64 25)) w := by kernel_rfl
theorem tk_v (w : World) : Calls Tryz.prog 37 #[.iface 105 (.pointer (some ⟨4, 54, none⟩)), .int .u64 25] w fun e w' => e = .returned (.tuple #[.iface 105 (.pointer (some ⟨4, 54, none⟩)), .int .u64 25, .bool false]) ∧ w' = w := by
  go_enter Tryz.func37, Tryz.ntmps37
  go_wp2
  refine wp_loop_rounds 1 ?_
  rw [rounds_succ]
  go_wp2
  go_ret3
  exact ⟨rfl, rfl⟩
theorem kk_p (w : World) : (callFunc 171 #[.pointer (some ⟨4, 69, none⟩)]).run Tryz.prog w = .ok (.value (.int .u64 22)) w := by kernel_rfl
theorem ke_p (w : World) : (callFunc 171 #[.pointer (some ⟨4, 54, none⟩)]).run Tryz.prog w = .ok (.value (.int .u64 25)) w := by kernel_rfl
theorem el_p (w : World) : (callFunc 159 #[.pointer (some ⟨4, 69, none⟩)]).run Tryz.prog w = .ok (.value (.iface 105 (.pointer (some ⟨4, 54, none⟩)))) w := by kernel_rfl
theorem tk_p (w : World) : Calls Tryz.prog 37 #[.iface 105 (.pointer (some ⟨4, 69, none⟩)), .int .u64 22] w fun e w' => e = .returned (.tuple #[.iface 105 (.pointer (some ⟨4, 54, none⟩)), .int .u64 25, .bool true]) ∧ w' = w := by
  have h1 := ke_p
  have h2 := el_p
  go_enter Tryz.func37, Tryz.ntmps37
  go_wp2
  refine wp_loop_rounds 2 ?_
  rw [rounds_succ]
  go_wp2
  rw [rounds_succ]
  go_wp2
  go_ret3
  exact ⟨rfl, rfl⟩
theorem co_Name (td : Option Addr) (w : World) : Calls Tryz.prog 14 #[.agg (natc 9 24 td false false)] w fun e w' => e = .returned (.int .i64 1) ∧ w.alloc (.cells (natc 9 24 td false false) 48) = w' := by
  go_enter Tryz.func14, Tryz.ntmps14
  go_wp2_with (first | (go_at_call 40; go_in) | (go_at_call 41; go_in) | (go_at_call 42; go_in))
  go_ret
  exact ⟨rfl, rfl⟩
theorem sc_Name (w : World) : Calls Tryz.prog 13 #[.string ⟨#[78, 97, 109, 101]⟩] w fun e w' => e = .returned (.int .i64 1) ∧ w = w' := by
  go_enter Tryz.func13, Tryz.ntmps13
  go_wp2
  go_ret
  exact ⟨rfl, rfl⟩
theorem co_total (td : Option Addr) (w : World) : Calls Tryz.prog 14 #[.agg (natc 3 2 td true false)] w fun e w' => e = .returned (.int .i64 2) ∧ w.alloc (.cells (natc 3 2 td true false) 48) = w' := by
  go_enter Tryz.func14, Tryz.ntmps14
  go_wp2_with (first | (go_at_call 40; go_in) | (go_at_call 41; go_in) | (go_at_call 42; go_in))
  go_ret
  exact ⟨rfl, rfl⟩
theorem sc_total (w : World) : Calls Tryz.prog 13 #[.string ⟨#[116, 111, 116, 97, 108]⟩] w fun e w' => e = .returned (.int .i64 2) ∧ w = w' := by
  go_enter Tryz.func13, Tryz.ntmps13
  go_wp2
  go_ret
  exact ⟨rfl, rfl⟩
theorem co_Shared (td : Option Addr) (w : World) : Calls Tryz.prog 14 #[.agg (natc 27 14 td false true)] w fun e w' => e = .returned (.int .i64 3) ∧ w.alloc (.cells (natc 27 14 td false true) 48) = w' := by
  go_enter Tryz.func14, Tryz.ntmps14
  go_wp2_with (first | (go_at_call 40; go_in) | (go_at_call 41; go_in) | (go_at_call 42; go_in))
  go_ret
  exact ⟨rfl, rfl⟩
theorem sc_Shared (w : World) : Calls Tryz.prog 13 #[.string ⟨#[83, 104, 97, 114, 101, 100]⟩] w fun e w' => e = .returned (.int .i64 3) ∧ w = w' := by
  go_enter Tryz.func13, Tryz.ntmps13
  go_wp2
  go_ret
  exact ⟨rfl, rfl⟩
theorem co_Deep (td : Option Addr) (w : World) : Calls Tryz.prog 14 #[.agg (natc 3 2 td true false)] w fun e w' => e = .returned (.int .i64 2) ∧ w.alloc (.cells (natc 3 2 td true false) 48) = w' := by
  go_enter Tryz.func14, Tryz.ntmps14
  go_wp2_with (first | (go_at_call 40; go_in) | (go_at_call 41; go_in) | (go_at_call 42; go_in))
  go_ret
  exact ⟨rfl, rfl⟩
theorem sc_Deep (w : World) : Calls Tryz.prog 13 #[.string ⟨#[68, 101, 101, 112]⟩] w fun e w' => e = .returned (.int .i64 2) ∧ w = w' := by
  go_enter Tryz.func13, Tryz.ntmps13
  go_wp2
  go_ret
  exact ⟨rfl, rfl⟩
theorem co_Flag (td : Option Addr) (w : World) : Calls Tryz.prog 14 #[.agg (natc 4 1 td false false)] w fun e w' => e = .returned (.int .i64 4) ∧ w.alloc (.cells (natc 4 1 td false false) 48) = w' := by
  go_enter Tryz.func14, Tryz.ntmps14
  go_wp2_with (first | (go_at_call 40; go_in) | (go_at_call 41; go_in) | (go_at_call 42; go_in))
  go_ret
  exact ⟨rfl, rfl⟩
theorem sc_Flag (w : World) : Calls Tryz.prog 13 #[.string ⟨#[70, 108, 97, 103]⟩] w fun e w' => e = .returned (.int .i64 4) ∧ w = w' := by
  go_enter Tryz.func13, Tryz.ntmps13
  go_wp2
  go_ret
  exact ⟨rfl, rfl⟩
theorem co_Tags (td : Option Addr) (w : World) : Calls Tryz.prog 14 #[.agg (natc 74 23 td false false)] w fun e w' => e = .returned (.int .i64 5) ∧ w.alloc (.cells (natc 74 23 td false false) 48) = w' := by
  go_enter Tryz.func14, Tryz.ntmps14
  go_wp2_with (first | (go_at_call 40; go_in) | (go_at_call 41; go_in) | (go_at_call 42; go_in))
  go_ret
  exact ⟨rfl, rfl⟩
theorem sc_Tags (w : World) : Calls Tryz.prog 13 #[.string ⟨#[84, 97, 103, 115]⟩] w fun e w' => e = .returned (.int .i64 5) ∧ w = w' := by
  go_enter Tryz.func13, Tryz.ntmps13
  go_wp2
  go_ret
  exact ⟨rfl, rfl⟩
theorem sc_other (x : ByteArray) (a0 : (x.toList == [78, 97, 109, 101]) = false) (a1 : (x.toList == [116, 111, 116, 97, 108]) = false) (a2 : (x.toList == [83, 104, 97, 114, 101, 100]) = false) (a3 : (x.toList == [68, 101, 101, 112]) = false) (a4 : (x.toList == [70, 108, 97, 103]) = false) (a5 : (x.toList == [84, 97, 103, 115]) = false) (w : World) : Calls Tryz.prog 13 #[.string x] w fun e w' => e = .returned (.int .i64 0) ∧ w = w' := by
  go_enter Tryz.func13, Tryz.ntmps13
  go_wp2
  go_ret
  exact ⟨rfl, rfl⟩
theorem sc_no (x : ByteArray) (w : World) (h : tab54 x = none) : Calls Tryz.prog 13 #[.string x] w fun e w' => e = .returned (.int .i64 0) ∧ w = w' := by
  unfold tab54 at h
  by_cases h0 : ((⟨#[78, 97, 109, 101]⟩ : ByteArray) == x) = true
  · rw [if_pos h0] at h
    cases h
  rw [if_neg h0] at h
  by_cases h1 : ((⟨#[116, 111, 116, 97, 108]⟩ : ByteArray) == x) = true
  · rw [if_pos h1] at h
    cases h
  rw [if_neg h1] at h
  by_cases h2 : ((⟨#[83, 104, 97, 114, 101, 100]⟩ : ByteArray) == x) = true
  · rw [if_pos h2] at h
    cases h
  rw [if_neg h2] at h
  by_cases h3 : ((⟨#[68, 101, 101, 112]⟩ : ByteArray) == x) = true
  · rw [if_pos h3] at h
    cases h
  rw [if_neg h3] at h
  by_cases h4 : ((⟨#[70, 108, 97, 103]⟩ : ByteArray) == x) = true
  · rw [if_pos h4] at h
    cases h
  rw [if_neg h4] at h
  by_cases h5 : ((⟨#[84, 97, 103, 115]⟩ : ByteArray) == x) = true
  · rw [if_pos h5] at h
    cases h
  rw [if_neg h5] at h
  clear h
  exact sc_other x (q_ne [78, 97, 109, 101] x (by simpa using h0)) (q_ne [116, 111, 116, 97, 108] x (by simpa using h1)) (q_ne [83, 104, 97, 114, 101, 100] x (by simpa using h2)) (q_ne [68, 101, 101, 112] x (by simpa using h3)) (q_ne [70, 108, 97, 103] x (by simpa using h4)) (q_ne [84, 97, 103, 115] x (by simpa using h5)) w
theorem sc_yes (x : ByteArray) (E : Ent) (h : tab54 x = some E) : ∃ c : Int, (c = 1 ∨ c = 2 ∨ c = 3 ∨ c = 4 ∨ c = 5) ∧ (∀ w, Calls Tryz.prog 13 #[.string x] w fun e w' => e = .returned (.int .i64 c) ∧ w = w') ∧ ∀ (td : Option Addr) (w : World), Calls Tryz.prog 14 #[.agg (natc E.t E.k td E.i E.f)] w fun e w' => e = .returned (.int .i64 c) ∧ w.alloc (.cells (natc E.t E.k td E.i E.f) 48) = w' := by
  unfold tab54 at h
  by_cases h0 : ((⟨#[78, 97, 109, 101]⟩ : ByteArray) == x) = true
  · rw [if_pos h0] at h
    cases h
    obtain rfl := (ba_iff _ _).1 h0
    exact ⟨1, by omega, sc_Name, co_Name⟩
  rw [if_neg h0] at h
  by_cases h1 : ((⟨#[116, 111, 116, 97, 108]⟩ : ByteArray) == x) = true
  · rw [if_pos h1] at h
    cases h
    obtain rfl := (ba_iff _ _).1 h1
    exact ⟨2, by omega, sc_total, co_total⟩
  rw [if_neg h1] at h
  by_cases h2 : ((⟨#[83, 104, 97, 114, 101, 100]⟩ : ByteArray) == x) = true
  · rw [if_pos h2] at h
    cases h
    obtain rfl := (ba_iff _ _).1 h2
    exact ⟨3, by omega, sc_Shared, co_Shared⟩
  rw [if_neg h2] at h
  by_cases h3 : ((⟨#[68, 101, 101, 112]⟩ : ByteArray) == x) = true
  · rw [if_pos h3] at h
    cases h
    obtain rfl := (ba_iff _ _).1 h3
    exact ⟨2, by omega, sc_Deep, co_Deep⟩
  rw [if_neg h3] at h
  by_cases h4 : ((⟨#[70, 108, 97, 103]⟩ : ByteArray) == x) = true
  · rw [if_pos h4] at h
    cases h
    obtain rfl := (ba_iff _ _).1 h4
    exact ⟨4, by omega, sc_Flag, co_Flag⟩
  rw [if_neg h4] at h
  by_cases h5 : ((⟨#[84, 97, 103, 115]⟩ : ByteArray) == x) = true
  · rw [if_pos h5] at h
    cases h
    obtain rfl := (ba_iff _ _).1 h5
    exact ⟨5, by omega, sc_Tags, co_Tags⟩
  rw [if_neg h5] at h
  cases h
theorem dom (x : ByteArray) : tab54 x ≠ none ↔ x ∈ ([⟨#[78, 97, 109, 101]⟩, ⟨#[116, 111, 116, 97, 108]⟩, ⟨#[83, 104, 97, 114, 101, 100]⟩, ⟨#[68, 101, 101, 112]⟩, ⟨#[70, 108, 97, 103]⟩, ⟨#[84, 97, 103, 115]⟩] : List ByteArray) := by
  constructor
  · intro h
    cases hE : tab54 x with
    | none => exact absurd hE h
    | some E =>
      clear h
      unfold tab54 at hE
      by_cases h0 : ((⟨#[78, 97, 109, 101]⟩ : ByteArray) == x) = true
      · rw [if_pos h0] at hE
        obtain rfl := (ba_iff _ _).1 h0
        simp
      rw [if_neg h0] at hE
      by_cases h1 : ((⟨#[116, 111, 116, 97, 108]⟩ : ByteArray) == x) = true
      · rw [if_pos h1] at hE
        obtain rfl := (ba_iff _ _).1 h1
        simp
      rw [if_neg h1] at hE
      by_cases h2 : ((⟨#[83, 104, 97, 114, 101, 100]⟩ : ByteArray) == x) = true
      · rw [if_pos h2] at hE
        obtain rfl := (ba_iff _ _).1 h2
        simp
      rw [if_neg h2] at hE
      by_cases h3 : ((⟨#[68, 101, 101, 112]⟩ : ByteArray) == x) = true
      · rw [if_pos h3] at hE
        obtain rfl := (ba_iff _ _).1 h3
        simp
      rw [if_neg h3] at hE
      by_cases h4 : ((⟨#[70, 108, 97, 103]⟩ : ByteArray) == x) = true
      · rw [if_pos h4] at hE
        obtain rfl := (ba_iff _ _).1 h4
        simp
      rw [if_neg h4] at hE
      by_cases h5 : ((⟨#[84, 97, 103, 115]⟩ : ByteArray) == x) = true
      · rw [if_pos h5] at hE
        obtain rfl := (ba_iff _ _).1 h5
        simp
      rw [if_neg h5] at hE
      cases hE
  · intro h
    simp only [List.mem_cons, List.not_mem_nil, or_false] at h
    rcases h with rfl | rfl | rfl | rfl | rfl | rfl
    all_goals decide
theorem size6 {es : Array MapEntry} {cl : Nat} {H : ByteArray → Option Value} (h : MI es cl) (hf : ∀ k, strFind k es.toList = H k) (hs : ∀ x v, H x = some v → ∃ E td', tab54 x = some E ∧ v = .agg (natc E.t E.k td' E.i E.f)) (hc : ∀ x, tab54 x ≠ none → H x ≠ none) : es.size = 6 :=
  size_dom (L := [⟨#[78, 97, 109, 101]⟩, ⟨#[116, 111, 116, 97, 108]⟩, ⟨#[83, 104, 97, 114, 101, 100]⟩, ⟨#[68, 101, 101, 112]⟩, ⟨#[70, 108, 97, 103]⟩, ⟨#[84, 97, 103, 115]⟩]) h hf (by decide) (fun x => by
    rw [← dom]
    refine ⟨fun hx => ?_, hc x⟩
    cases hv : H x with
    | none => exact absurd hv hx
    | some v =>
      obtain ⟨E, _, hE, _⟩ := hs x v hv
      rw [hE]
      exact fun h => by cases h)
theorem spec {H : ByteArray → Option Value} (hs : ∀ x v, H x = some v → ∃ E td', tab54 x = some E ∧ v = .agg (natc E.t E.k td' E.i E.f)) (hc : ∀ x, tab54 x ≠ none → H x ≠ none) (x : ByteArray) : (∃ E td', tab54 x = some E ∧ H x = some (.agg (natc E.t E.k td' E.i E.f))) ∨ (tab54 x = none ∧ H x = none) := by
  cases hv : H x with
  | some v =>
    obtain ⟨E, td', hE, rfl⟩ := hs x v hv
    exact Or.inl ⟨E, td', hE, rfl⟩
  | none =>
    right
    refine ⟨?_, rfl⟩
    cases hE : tab54 x with
    | none => rfl
    | some E => exact absurd hv (hc x (by rw [hE]; exact fun h => by cases h))
theorem no_thr (v : Value) (cb : Nat) (w : World) (Q : Nat → World → Prop) (hFT : Calls Tryz.prog 35 #[.pointer (pt cb), .iface 105 (.pointer (some ⟨4, 54, none⟩))] (w.alloc (.cells zcs 48)) fun e w1 => ∃ td, e = .returned (.agg (natc 54 25 (pt td) false false)) ∧ Q td w1 ∧ ∃ B0, Fr B0 (w.alloc (.cells zcs 48)) w1) :
    Calls Tryz.prog 11 #[.pointer (pt cb), .iface 54 v] w (Thr 54 w.heap.size Q) := by
  have HG := Lib.hid hFT
  clear hFT
  go_enter Tryz.func11, Tryz.ntmps11
  go_wp2_with (go_at_call 35; ((with_reducible refine HG.out.mono ?_); rintro e w1 ⟨td, rfl, hQ, B0, hf⟩; have hres := hf.kept w.heap.size _ (heap_alloc_new w _) rfl; have hrp : Plain w1 w.heap.size := ⟨_, _, hres⟩; have hrc := cellsAt_of hres; have hrl := hrp.lt; have hrz : (cellsAt w1 w.heap.size).size = 9 := (by rw [hrc]; rfl); have HQ := Lib.hid hQ; have HR := Lib.hid hres; clear hQ hres hf))
  refine bodyPost_ret (v := .agg (natc 54 25 (pt td) false false)) (by simp [results, Tryz.results11, go_sem, hrp, hrc]) rfl ?_
  refine ⟨td, w1, rfl, HQ.out, ⟨fun b hb => ?_, _, _, HR.out⟩, fun B0 w0 hf hl => ?_⟩
  · repeat rw [Below.heap_setCell _ _ _ _ hb]
  · repeat (first | with_reducible exact hf | with_reducible refine Fr.setN ?_ hl _ _)
theorem no_first (v : Value) (cb B : Nat) (w : World) (hC : Ca w cb none) (hB : B ≤ cb) (hBw : B ≤ w.heap.size) : Calls Tryz.prog 11 #[.pointer (pt cb), .iface 54 v] w (First B cb 54 7 fs54 tab54 ks54 exT w) :=
  thr_first hBw (no_thr v cb w) (ftop_first top54 (exOk _ _) kind25_54 nf_54 (hC.alloc _) hB (by simp; omega))
@[go_sem] theorem kind_69 (w : World) : (callFunc 171 #[.pointer (some ⟨4, 69, none⟩)]).run Tryz.prog w = .ok (.value (.int .u64 22)) w := by kernel_rfl

theorem from_69 (c : Option Addr) (w : World) : Calls Tryz.prog 35 #[.pointer c, .iface 105 (.pointer (some ⟨4, 69, none⟩))] w fun e w' => e = .returned (.agg #[.iface 105 (.pointer (some ⟨4, 69, none⟩)), .int .u64 22, .pointer none, .pointer none, .bool false, .bool false, .bool false, .bool false, .bool false]) ∧ w.alloc (.cells #[.iface 105 (.pointer (some ⟨4, 69, none⟩)), .int .u64 22, .pointer none, .pointer none, .bool false, .bool false, .bool false, .bool false, .bool false] 48) = w' :=
  from_plain c 69 22 kind_69 rfl rfl rfl rfl rfl rfl rfl rfl rfl rfl rfl rfl rfl rfl rfl w

theorem nop (cb : Option Addr) (v : Value) (w : World) : Calls Tryz.prog 11 #[.pointer cb, .iface 69 v] w fun e w' => e = .returned (.agg #[.iface 105 (.pointer (some ⟨4, 69, none⟩)), .int .u64 22, .pointer none, .pointer none, .bool false, .bool false, .bool false, .bool false, .bool false]) ∧ Fr w.heap.size w w' := by
  go_enter Tryz.func11, Tryz.ntmps11
  go_wp2_with (go_at_call 35; ((with_reducible refine (from_69 _ _).mono ?_); rintro e w1 ⟨rfl, rfl⟩))
  refine bodyPost_ret (v := .agg #[.iface 105 (.pointer (some ⟨4, 69, none⟩)), .int .u64 22, .pointer none, .pointer none, .bool false, .bool false, .bool false, .bool false, .bool false]) (by simp [results, Tryz.results11, go_sem]) rfl ⟨rfl, ?_⟩
  repeat (first | with_reducible exact Fr.refl _ w (Nat.le_refl _) | with_reducible refine Fr.setN ?_ (Nat.le_refl _) _ _ | with_reducible refine Fr.alloc ?_ _)
end Go.Proofs.YtdpgbmmgeooahaaGreatDoorBesrefl
