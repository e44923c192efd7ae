/-
  The hand table of the fields of zzOuter; its data on a Cache. No condition.
-/
import Derived.Test.YtdpgbmmgeooahaaGreatDoorBesreflG6
import Derived.Test.YtdpgbmmgeooahaaGreatDoorBesreflTy99
import Derived.WalkSpells
import Derived.StillTailTactics
import Derived.Deep.RegionHeld3
import Derived.Deep.RegionLaw
import Derived.Deep.RegionLawGrows
import Derived.Deep.AppendLies
import Derived.Deep.Cut
import Derived.Deep.CutRange
import Derived.Deep.RegionWith
import Derived.Lib.Hide
import Derived.Deep.LoopGhost
import Derived.Deep.DeepCutAuto
namespace Go.Proofs.YtdpgbmmgeooahaaGreatDoorBesrefl
open Go.RowKit
set_option maxRecDepth 100000
set_option maxHeartbeats 1000000
set_option linter.unusedVariables false
abbrev exT : (ByteArray → Option Value) → Option Addr → Prop := fun _ _ => True
theorem exOk (n : Nat) (fs : Nat → Fd) : ExOk n fs exT := ⟨fun _ _ _ _ _ _ _ _ => trivial, fun _ _ => trivial, trivial⟩
theorem Fr.le {B C : Nat} {w v : World} (h : Fr C w v) (hB : B ≤ C) : Fr B w v := ⟨h.bel.mono hB, h.kept, h.grow, Nat.le_trans hB h.low⟩
theorem ca_new (w : World) : Ca (w.alloc (.cells #[.map none, .map none] 41)) w.heap.size none := heap_alloc_new w _
theorem q_ne (l : List UInt8) (name : ByteArray) (h : ((⟨l.toArray⟩ : ByteArray) == name) = false) : (name.toList == l) = false := by
  rw [ba_list] at h
  cases h2 : (name.toList == l) with
  | false => rfl
  | true =>
    rw [eq_of_beq h2] at h
    simp at h
theorem kind25_99 (w : World) : (callFunc 171 #[.pointer (some ⟨4, 99, none⟩)]).run Tryz.prog w = .ok (.value (.int .u64 25)) w := by kernel_rfl
theorem nf_99 (w : World) : (callFunc 177 #[.pointer (some ⟨4, 99, none⟩)]).run Tryz.prog w = .ok (.value (.int .i64 (5 : Nat))) w := by kernel_rfl
theorem add0 (b i : Nat) : (⟨b, 0, none⟩ : Addr).add i = ⟨b, i, none⟩ := by by_cases h : i = 0 <;> simp [Addr.add, h]
theorem add_block (a : Addr) (i : Nat) : (a.add i).block = a.block := by unfold Addr.add; split <;> rfl
theorem ix_shape {w : World} {v : Value} {zs : List Int} (h : Ix w v zs false) : ∃ o cap, v = .slice o zs.length cap ∧ ∀ i, i < zs.length → ∃ a, o = some a ∧ a.block < w.heap.size ∧ w.cell? (a.add i) = some (.int .i64 (zs.getD i 0)) := by
  rcases h with ⟨rfl, rfl⟩ | ⟨gg, cap, cur, fr, rfl, h1, h2, _, h4⟩
  · exact ⟨none, 0, rfl, fun i hi => absurd hi (Nat.not_lt_zero _)⟩
  · refine ⟨some ⟨gg, 0, none⟩, cap, rfl, fun i hi => ⟨_, rfl, (Array.getElem?_eq_some_iff.1 h1).1, ix_cells h1 h4 i _ ?_⟩⟩
    rw [List.getElem?_map, List.getElem?_eq_getElem hi, List.getD_eq_getElem?_getD, List.getElem?_eq_getElem hi]
    rfl
theorem eqi {w : World} {a b : Value} {zs : List Int} (ha : Ix w a zs false) (hb : Ix w b zs false) (hl : zs.length ≤ 1000000) : Calls Tryz.prog 19 #[a, b] w fun e w' => e = .returned (.bool true) ∧ Fr w.heap.size w w' := by
  obtain ⟨oa, ca, rfl, hA⟩ := ix_shape ha
  obtain ⟨ob, cb, rfl, hB⟩ := ix_shape hb
  obtain ⟨n, hn⟩ : ∃ n, zs.length = n := ⟨_, rfl⟩
  rw [hn] at hA hB hl ⊢
  have HA := Lib.hid hA
  have HB := Lib.hid hB
  have HL := Lib.hid hl
  clear ha hb hA hB hn hl
  go_enter Tryz.func19, Tryz.ntmps19
  go_wp2
  go_loopg [5] n (fun g i wr => ∃ j : Nat, g = n - j ∧ j ≤ n ∧ i = .int .i64 j ∧ Fr w.heap.size w wr)
  case atStart => exact ⟨0, by simp, Nat.zero_le _, rfl, Fr.refl _ w (Nat.le_refl _)⟩
  case round =>
    obtain ⟨j, hg, hj, rfl, hF⟩ := hrel
    have HG := Lib.hid hg
    have HF := Lib.hid hF
    clear hg hF
    by_cases c1 : j < n
    · obtain ⟨x, hx, hxb, hxc⟩ := HA.out j c1
      obtain ⟨y, hy, hyb, hyc⟩ := HB.out j c1
      subst hx hy
      have c2 : wr.cell? (x.add j) = some (.int .i64 (zs.getD j 0)) := (HF.out.bel.cell (p := x.add j) (by rw [add_block]; exact hxb)).trans hxc
      have c3 : wr.cell? (y.add j) = some (.int .i64 (zs.getD j 0)) := (HF.out.bel.cell (p := y.add j) (by rw [add_block]; exact hyb)).trans hyc
      have hjm : (j : Int) ≤ 1000000 := by have := HL.out; omega
      clear hxc hyc hxb hyb
      go_wp2
      go_quiet (fail)
      go_wp2
      go_roundg (n - (j + 1))
      case measure => (have := HG.out; omega)
      case rel => exact ⟨j + 1, rfl, c1, by simp, HF.out.drewN _⟩
    · go_wp2
      go_ret
      exact ⟨rfl, HF.out⟩
theorem sl_eq (u : World) (o : Option Addr) (n c : Nat) : (binOp .eql 64 (.slice o n c) (.slice none 0 0)).run Tryz.prog u = .ok (.bool o.isNone) u := by
  simp only [binOp]
  simp [Op.equal, Op.maxDepth, Lib.run_equalIn_slice_nil u 9999 64 3 o n c 0 0 Tryz.underlying64]
theorem zo_first (cb B : Nat) (w : World) (hC : Ca w cb none) (hB : B ≤ cb) (hBw : B ≤ w.heap.size) : Calls Tryz.prog 16 #[.pointer (pt cb)] w fun e w' => ∃ tdt s, e = .returned (.pointer (pt s)) ∧ Fr B w w' ∧ B ≤ s ∧ Top [] (fun _ => none) B cb tdt s 99 5 fs99 tab99 ks99 exT none 0 (-1) none (.slice none 0 0) (fun _ => none) w' := by
  have HC := Lib.hid hC
  clear hC
  go_enter Tryz.func16, Tryz.ntmps16
  go_wp2_with (go_at_call 38; ((with_reducible refine (top_first top99 (exOk _ _) nf_99 HC.out hB hBw).mono ?_); rintro e w1 ⟨td, s, rfl, hf, _, h1, hT⟩; obtain ⟨tp, tc⟩ := sz14 w1 td s hT.td; have HT := Lib.hid (And.intro hf (And.intro h1 hT)); clear hf h1 hT))
  go_ret
  exact ⟨td, s, rfl, HT.out⟩
theorem zsf {B cb tdt s : Nat} {mo : Option Nat} {own : Nat} {an : Int} {ch : Option Addr} {ix : Value} {F : ByteArray → Option Value} {w : World} (x : ByteArray) (h1 : B ≤ s) (h : Top [] (fun _ => none) B cb tdt s 99 5 fs99 tab99 ks99 exT mo own an ch ix F w) :
    Calls Tryz.prog 17 #[.pointer (pt cb), .pointer (pt s), .string x] w (Ans [] (fun _ => none) B cb tdt s 99 5 fs99 tab99 ks99 exT own an x w) := by
  have HT := Lib.hid h
  have H1 := Lib.hid h1
  clear h h1
  go_enter Tryz.func17, Tryz.ntmps17
  go_wp2_with (go_at_call 39; ((with_reducible refine (top_sf top99 (exOk _ _) H1.out x HT.out).mono ?_); rintro e w1 ⟨r, m, own', an', ch', ix', F', rfl, hR⟩; have HR := Lib.hid hR; clear hR))
  go_ret
  exact ⟨r, m, own', an', ch', ix', F', rfl, HR.out⟩
theorem zsf_hit {B cb tdt s m p : Nat} {own : Nat} {an : Int} {ch : Option Addr} {ix : Value} {F : ByteArray → Option Value} {w : World} (x : ByteArray) (h : Top [] (fun _ => none) B cb tdt s 99 5 fs99 tab99 ks99 exT (some m) own an ch ix F w) (hF : F x = some (.pointer (pt p))) :
    Calls Tryz.prog 17 #[.pointer (pt cb), .pointer (pt s), .string x] w fun e w' => e = .returned (.pointer (pt p)) ∧ w = w' := by
  have HT := Lib.hid h
  have HF := Lib.hid hF
  clear h hF
  go_enter Tryz.func17, Tryz.ntmps17
  go_wp2_with (go_at_call 39; ((with_reducible refine (sf_hit s 99 m p _ _ an none ch ix F (pt cb) none x w HT.out.sd HT.out.fm.2 HF.out).mono ?_); rintro e w' ⟨rfl, rfl⟩))
  go_ret
  exact ⟨rfl, rfl⟩
def St (B cb td s : Nat) (w : World) : Prop := ∃ mo own an ch ix F, Top [] (fun _ => none) B cb td s 99 5 fs99 tab99 ks99 exT mo own an ch ix F w
theorem St.mv {B cb td s : Nat} {w u : World} (h : St B cb td s w) (hf : Fr B w u) (hb : ∀ b, b < w.heap.size → u.heap[b]? = w.heap[b]?) : St B cb td s u := by
  obtain ⟨mo, own, an, ch, ix, F, h⟩ := h
  exact ⟨mo, own, an, ch, ix, F, h.mv hf hb⟩
theorem St.low {B cb td s : Nat} {w : World} (h : St B cb td s w) : B ≤ w.heap.size := by
  obtain ⟨mo, own, an, ch, ix, F, h⟩ := h
  exact h.low
theorem St.on {B cb td s : Nat} {w u : World} (h : St B cb td s w) (hf : Fr w.heap.size w u) : St B cb td s u := h.mv (hf.le h.low) (fun b hb => hf.bel.block b hb)
theorem sfS {B cb td s : Nat} {w : World} (x : ByteArray) (h1 : B ≤ s) (h : St B cb td s w) : Calls Tryz.prog 17 #[.pointer (pt cb), .pointer (pt s), .string x] w fun e w' => Fr B w w' ∧ St B cb td s w' ∧
    ((tab99 x = none ∧ e = .returned (.pointer none)) ∨ ∃ p td' E, tab99 x = some E ∧ e = .returned (.pointer (pt p)) ∧ IsSF w' p E.t E.k td' E.i E.f E.zs) := by
  obtain ⟨mo, own, an, ch, ix, F, h⟩ := h
  refine (zsf x h1 h).mono ?_
  rintro e w' ⟨r, m, own', an', ch', ix', F', rfl, hf, hT, hor⟩
  refine ⟨hf, ⟨_, _, _, _, _, _, hT⟩, ?_⟩
  rcases hor with ⟨rfl, hE, _⟩ | ⟨p, td', E, rfl, _, hE, hI, _⟩
  · exact Or.inl ⟨hE, rfl⟩
  · exact Or.inr ⟨p, td', E, hE, rfl, hI⟩
theorem zfi {w : World} {p t : Nat} {k : Int} {td : Option Addr} {i f : Bool} {zs : List Int} (h : IsSF w p t k td i f zs) : Calls Tryz.prog 20 #[.pointer (pt p)] w fun e w' => ∃ v, e = .returned v ∧ Ix w v zs false ∧ w = w' := by
  obtain ⟨v, hq, hv⟩ := h
  have hqp : Plain w p := ⟨_, _, hq⟩
  have hqc : cellsAt w p = _ := cellsAt_of hq
  have HV := Lib.hid hv
  clear hq hv
  go_enter Tryz.func20, Tryz.ntmps20
  go_wp2
  go_ret
  exact ⟨v, rfl, HV.out, rfl⟩
theorem wo_A (w : World) : Calls Tryz.prog 18 #[.string ⟨#[65]⟩] w fun e w' => e = .returned (.slice (some ⟨w.heap.size, 0, none⟩) 1 1) ∧ w.alloc (.cells #[.int .i64 0] 3) = w' := by
  go_enter Tryz.func18, Tryz.ntmps18
  go_wp2
  go_ret
  exact ⟨rfl, rfl⟩
theorem wo_C (w : World) : Calls Tryz.prog 18 #[.string ⟨#[67]⟩] w fun e w' => e = .returned (.slice (some ⟨w.heap.size, 0, none⟩) 1 1) ∧ w.alloc (.cells #[.int .i64 3] 3) = w' := by
  go_enter Tryz.func18, Tryz.ntmps18
  go_wp2
  go_ret
  exact ⟨rfl, rfl⟩
theorem wo_X (w : World) : Calls Tryz.prog 18 #[.string ⟨#[88]⟩] w fun e w' => e = .returned (.slice (some ⟨w.heap.size, 0, none⟩) 2 2) ∧ w.alloc (.cells #[.int .i64 1, .int .i64 0] 3) = w' := by
  go_enter Tryz.func18, Tryz.ntmps18
  go_wp2
  go_ret
  exact ⟨rfl, rfl⟩
theorem wo_Y (w : World) : Calls Tryz.prog 18 #[.string ⟨#[89]⟩] w fun e w' => e = .returned (.slice (some ⟨w.heap.size, 0, none⟩) 2 2) ∧ w.alloc (.cells #[.int .i64 1, .int .i64 1] 3) = w' := by
  go_enter Tryz.func18, Tryz.ntmps18
  go_wp2
  go_ret
  exact ⟨rfl, rfl⟩
theorem wo_tee (w : World) : Calls Tryz.prog 18 #[.string ⟨#[116, 101, 101]⟩] w fun e w' => e = .returned (.slice (some ⟨w.heap.size, 0, none⟩) 2 2) ∧ w.alloc (.cells #[.int .i64 1, .int .i64 3] 3) = w' := by
  go_enter Tryz.func18, Tryz.ntmps18
  go_wp2
  go_ret
  exact ⟨rfl, rfl⟩
theorem wo_D (w : World) : Calls Tryz.prog 18 #[.string ⟨#[68]⟩] w fun e w' => e = .returned (.slice (some ⟨w.heap.size, 0, none⟩) 2 2) ∧ w.alloc (.cells #[.int .i64 4, .int .i64 0] 3) = w' := by
  go_enter Tryz.func18, Tryz.ntmps18
  go_wp2
  go_ret
  exact ⟨rfl, rfl⟩
theorem wo_other (x : ByteArray) (a0 : (x.toList == [65]) = false) (a1 : (x.toList == [67]) = false) (a2 : (x.toList == [88]) = false) (a3 : (x.toList == [89]) = false) (a4 : (x.toList == [116, 101, 101]) = false) (a5 : (x.toList == [68]) = false) (w : World) : Calls Tryz.prog 18 #[.string x] w fun e w' => e = .returned (.slice none 0 0) ∧ w = w' := by
  go_enter Tryz.func18, Tryz.ntmps18
  go_wp2
  go_ret
  exact ⟨rfl, rfl⟩
theorem wo_yes (x : ByteArray) (E : Ent) (w : World) (h : tab99 x = some E) : Calls Tryz.prog 18 #[.string x] w fun e w' => ∃ g n, e = .returned (.slice (some ⟨g, 0, none⟩) n n) ∧ Fr w.heap.size w w' ∧ Ix w' (.slice (some ⟨g, 0, none⟩) n n) E.zs false := by
  unfold tab99 at h
  by_cases h0 : ((⟨#[65]⟩ : ByteArray) == x) = true
  · rw [if_pos h0] at h
    cases h
    obtain rfl := (ba_iff _ _).1 h0
    refine (wo_A w).mono ?_
    rintro e w' ⟨rfl, rfl⟩
    exact ⟨_, _, rfl, (Fr.refl _ w (Nat.le_refl _)).alloc _, Or.inr ⟨w.heap.size, 1, _, (0, 0), rfl, heap_alloc_new w _, by simp, (fun h => by cases h), by simp⟩⟩
  rw [if_neg h0] at h
  by_cases h1 : ((⟨#[67]⟩ : ByteArray) == x) = true
  · rw [if_pos h1] at h
    cases h
    obtain rfl := (ba_iff _ _).1 h1
    refine (wo_C w).mono ?_
    rintro e w' ⟨rfl, rfl⟩
    exact ⟨_, _, rfl, (Fr.refl _ w (Nat.le_refl _)).alloc _, Or.inr ⟨w.heap.size, 1, _, (0, 0), rfl, heap_alloc_new w _, by simp, (fun h => by cases h), by simp⟩⟩
  rw [if_neg h1] at h
  by_cases h2 : ((⟨#[88]⟩ : ByteArray) == x) = true
  · rw [if_pos h2] at h
    cases h
    obtain rfl := (ba_iff _ _).1 h2
    refine (wo_X w).mono ?_
    rintro e w' ⟨rfl, rfl⟩
    exact ⟨_, _, rfl, (Fr.refl _ w (Nat.le_refl _)).alloc _, Or.inr ⟨w.heap.size, 2, _, (0, 0), rfl, heap_alloc_new w _, by simp, (fun h => by cases h), by simp⟩⟩
  rw [if_neg h2] at h
  by_cases h3 : ((⟨#[89]⟩ : ByteArray) == x) = true
  · rw [if_pos h3] at h
    cases h
    obtain rfl := (ba_iff _ _).1 h3
    refine (wo_Y w).mono ?_
    rintro e w' ⟨rfl, rfl⟩
    exact ⟨_, _, rfl, (Fr.refl _ w (Nat.le_refl _)).alloc _, Or.inr ⟨w.heap.size, 2, _, (0, 0), rfl, heap_alloc_new w _, by simp, (fun h => by cases h), by simp⟩⟩
  rw [if_neg h3] at h
  by_cases h4 : ((⟨#[116, 101, 101]⟩ : ByteArray) == x) = true
  · rw [if_pos h4] at h
    cases h
    obtain rfl := (ba_iff _ _).1 h4
    refine (wo_tee w).mono ?_
    rintro e w' ⟨rfl, rfl⟩
    exact ⟨_, _, rfl, (Fr.refl _ w (Nat.le_refl _)).alloc _, Or.inr ⟨w.heap.size, 2, _, (0, 0), rfl, heap_alloc_new w _, by simp, (fun h => by cases h), by simp⟩⟩
  rw [if_neg h4] at h
  by_cases h5 : ((⟨#[68]⟩ : ByteArray) == x) = true
  · rw [if_pos h5] at h
    cases h
    obtain rfl := (ba_iff _ _).1 h5
    refine (wo_D w).mono ?_
    rintro e w' ⟨rfl, rfl⟩
    exact ⟨_, _, rfl, (Fr.refl _ w (Nat.le_refl _)).alloc _, Or.inr ⟨w.heap.size, 2, _, (0, 0), rfl, heap_alloc_new w _, by simp, (fun h => by cases h), by simp⟩⟩
  rw [if_neg h5] at h
  cases h
theorem wo_no (x : ByteArray) (w : World) (h : tab99 x = none) : Calls Tryz.prog 18 #[.string x] w fun e w' => e = .returned (.slice none 0 0) ∧ w = w' := by
  unfold tab99 at h
  by_cases h0 : ((⟨#[65]⟩ : ByteArray) == x) = true
  · rw [if_pos h0] at h
    cases h
  rw [if_neg h0] at h
  by_cases h1 : ((⟨#[67]⟩ : ByteArray) == x) = true
  · rw [if_pos h1] at h
    cases h
  rw [if_neg h1] at h
  by_cases h2 : ((⟨#[88]⟩ : ByteArray) == x) = true
  · rw [if_pos h2] at h
    cases h
  rw [if_neg h2] at h
  by_cases h3 : ((⟨#[89]⟩ : ByteArray) == x) = true
  · rw [if_pos h3] at h
    cases h
  rw [if_neg h3] at h
  by_cases h4 : ((⟨#[116, 101, 101]⟩ : ByteArray) == x) = true
  · rw [if_pos h4] at h
    cases h
  rw [if_neg h4] at h
  by_cases h5 : ((⟨#[68]⟩ : ByteArray) == x) = true
  · rw [if_pos h5] at h
    cases h
  rw [if_neg h5] at h
  clear h
  exact wo_other x (q_ne [65] x (by simpa using h0)) (q_ne [67] x (by simpa using h1)) (q_ne [88] x (by simpa using h2)) (q_ne [89] x (by simpa using h3)) (q_ne [116, 101, 101] x (by simpa using h4)) (q_ne [68] x (by simpa using h5)) w
theorem zs_le (x : ByteArray) (E : Ent) (h : tab99 x = some E) : E.zs.length ≤ 1000000 := by
  unfold tab99 at h
  by_cases h0 : ((⟨#[65]⟩ : ByteArray) == x) = true
  · rw [if_pos h0] at h
    cases h
    simp
  rw [if_neg h0] at h
  by_cases h1 : ((⟨#[67]⟩ : ByteArray) == x) = true
  · rw [if_pos h1] at h
    cases h
    simp
  rw [if_neg h1] at h
  by_cases h2 : ((⟨#[88]⟩ : ByteArray) == x) = true
  · rw [if_pos h2] at h
    cases h
    simp
  rw [if_neg h2] at h
  by_cases h3 : ((⟨#[89]⟩ : ByteArray) == x) = true
  · rw [if_pos h3] at h
    cases h
    simp
  rw [if_neg h3] at h
  by_cases h4 : ((⟨#[116, 101, 101]⟩ : ByteArray) == x) = true
  · rw [if_pos h4] at h
    cases h
    simp
  rw [if_neg h4] at h
  by_cases h5 : ((⟨#[68]⟩ : ByteArray) == x) = true
  · rw [if_pos h5] at h
    cases h
    simp
  rw [if_neg h5] at h
  cases h
/-- the n strings at o read as ss -/
def Rs (w : World) (o : Option Addr) (n : Nat) (ss : List ByteArray) : Prop := n ≤ ss.length ∧ ∀ i, i < n → ∃ a, o = some a ∧ a.block < w.heap.size ∧ w.cell? (a.add i) = some (.string (ss.getD i ByteArray.empty))
theorem Rs.fr {w u : World} {o : Option Addr} {n : Nat} {ss : List ByteArray} (h : Rs w o n ss) (hf : Below w.heap.size w u) : Rs u o n ss :=
  ⟨h.1, fun i hi => by
    obtain ⟨a, ha, hb, hc⟩ := h.2 i hi
    exact ⟨a, ha, Nat.lt_of_lt_of_le hb hf.size, (hf.cell (p := a.add i) (by rw [add_block]; exact hb)).trans hc⟩⟩
theorem zsb (o : Option Addr) (n c : Nat) (ss : List ByteArray) (hn : n ≤ 4096) (hs : ∀ i, i < n → (ss.getD i ByteArray.empty).size ≤ 1048576) (w : World) (h : Rs w o n ss) : Calls Tryz.prog 29 #[.slice o n c] w fun e w' => ∃ t : Nat, e = .returned (.int .i64 t) ∧ t ≤ 4299161600 ∧ w = w' := by
  have HR := Lib.hid h
  have HN := Lib.hid hn
  have HS := Lib.hid hs
  clear h hn hs
  go_enter Tryz.func29, Tryz.ntmps29
  go_wp2
  go_loopg [3, 4] n (fun k z i wr => ∃ (j t : Nat), k = n - j ∧ j ≤ n ∧ z = .int .i64 t ∧ i = .int .i64 j ∧ t ≤ j * 1048592 ∧ wr = w)
  case atStart => exact ⟨0, 0, by simp, Nat.zero_le _, rfl, rfl, by omega, rfl⟩
  case round =>
    obtain ⟨j, t, hg, hj, rfl, rfl, ht, rfl⟩ := hrel
    have HG := Lib.hid hg
    clear hg
    have hn := HN.out
    by_cases c1 : j < n
    · obtain ⟨a, ha, hb, hc⟩ := HR.out.2 j c1
      subst ha
      have hz := HS.out j c1
      rw [List.getD_eq_getElem?_getD] at hz
      have ht2 : t ≤ 4299161600 := by omega
      go_wp2
      go_roundg (n - (j + 1))
      case measure => (have := HG.out; omega)
      case rel => exact ⟨j + 1, t + (16 + (ss[j]?.getD ByteArray.empty).size), rfl, c1, by simp, by simp, by omega, rfl⟩
    · go_wp2
      go_ret
      exact ⟨t, rfl, by omega, rfl⟩
end Go.Proofs.YtdpgbmmgeooahaaGreatDoorBesrefl
