/-
  zzFlat and zzOuter on one Cache. No condition.
-/
import Derived.Test.YtdpgbmmgeooahaaGreatDoorBesreflN107
import Derived.Test.YtdpgbmmgeooahaaGreatDoorBesreflTy103
import Derived.WalkSpells
import Derived.StillTailTactics
import Derived.Deep.RegionHeld3
import Derived.Deep.RegionLaw
import Derived.Deep.RegionLawGrows
import Derived.Deep.AppendLies
import Derived.Deep.Cut
import Derived.Deep.CutRange
import Derived.Deep.RegionWith
import Derived.Lib.Hide
import Derived.Deep.LoopGhost
import Derived.Deep.DeepCutAuto
namespace Go.Proofs.YtdpgbmmgeooahaaGreatDoorBesrefl
open Go.RowKit
set_option maxRecDepth 100000
set_option maxHeartbeats 1000000
set_option linter.unusedVariables false
theorem kind25_103 (w : World) : (callFunc 171 #[.pointer (some ⟨4, 103, none⟩)]).run Tryz.prog w = .ok (.value (.int .u64 25)) w := by kernel_rfl
theorem nf_103 (w : World) : (callFunc 177 #[.pointer (some ⟨4, 103, none⟩)]).run Tryz.prog w = .ok (.value (.int .i64 (2 : Nat))) w := by kernel_rfl
/-- zzOuter is never finished: once X is found a child is pending -/
abbrev exO : (ByteArray → Option Value) → Option Addr → Prop := fun F ch => F ⟨#[88]⟩ ≠ none → ch ≠ none
theorem exOk2 : ExOk 5 fs99 exO := ⟨fun j hj he hv v F ch h hx => h (by
    have hk : ¬ ((fs99 j).key == ⟨#[88]⟩) = true := by
      have hc : j = 0 ∨ j = 1 ∨ j = 2 ∨ j = 3 ∨ j = 4 := by omega
      rcases hc with rfl | rfl | rfl | rfl | rfl <;> decide
    unfold plus at hx
    rw [if_neg hk] at hx
    exact hx), fun _ _ _ h => (by cases h), fun h => absurd rfl h⟩
/-- the memory beside zzFlat's data -/
def IF (w0 : World) : (ByteArray → Option Value) → Option Addr → Value → Option (Nat × Nat) → List Nat → World → Prop := fun _ ch _ pd X w => ch = none ∧ pd = none ∧ w0.heap.size ≤ w.heap.size ∧ ∀ b, b < w0.heap.size → b ∉ X → w.heap[b]? = w0.heap[b]?
theorem if_fr {B : Nat} {w0 w u : World} {F : ByteArray → Option Value} {ch : Option Addr} {ix : Value} {pd : Option (Nat × Nat)} {X : List Nat} (h : IF w0 F ch ix pd X w) (hf : Fr B w u) (hb : ∀ b, b < w.heap.size → b ∉ X → u.heap[b]? = w.heap[b]?) : IF w0 F ch ix pd X u :=
  ⟨h.1, h.2.1, Nat.le_trans h.2.2.1 hf.grow, fun b hl hn => (hb b (Nat.lt_of_lt_of_le hl h.2.2.1) hn).trans (h.2.2.2 b hl hn)⟩
theorem flatGen {B s cb : Nat} (hBs : B ≤ s) (w0 : World) : Gen B s cb 103 2 fs103 tab103 kT103 kK103 (fun _ _ => True) none (IF w0) where
  n0 := top103.n0
  n64 := top103.n64
  Bs := hBs
  fld := top103.fld
  iex := top103.iex
  fnm := top103.fnm
  key := top103.key
  mkm := top103.mkm
  tk := top103.tk
  add := fun _ _ _ _ _ _ _ _ _ _ _ h => h
  fr := fun _ _ _ _ _ _ _ h hf hb => if_fr h hf hb
  new := fun _ _ _ _ _ _ _ h _ => ⟨h.1, h.2.1, h.2.2.1, fun b hb hn => h.2.2.2 b hb (fun c => hn (List.mem_cons_of_mem _ c))⟩
  ft := by
    intro j hj he hv F ch ix m w hI lm ls
    rcases top103.ft j hj he hv with h | ⟨K, hK, _⟩
    · refine (h (pt cb) w).mono ?_
      rintro e w' ⟨rfl, rfl⟩
      have hB : B ≤ w.heap.size := by omega
      have hf := (Fr.refl B w hB).alloc (.cells (natc (fs103 j).t (fs103 j).k none (fs103 j).i (fs103 j).f) 48)
      exact ⟨none, rfl, hf, fun x _ hl => Below.heap_alloc w _ x hl, if_fr hI hf (fun b hl _ => Below.heap_alloc w _ b hl)⟩
    · cases hK
  ts := fun p h => by cases h
  kd := top103.kd
  D0 := fun _ _ _ _ => trivial
  Dm := fun _ _ _ _ _ => trivial
  gs := by
    intro j hj he hk
    obtain ⟨K, hK, _⟩ := top103.kid j hj he hk
    cases hK
  fe := by
    rintro j sd F ch ix ixv m an name w hj ⟨_, h, _⟩
    cases h
  re := by
    rintro c F ix m an name w ⟨h, _⟩
    cases h
/-- zzFlat's data between lookups; saw: a name other than P was looked up -/
structure FlatS (B s : Nat) (saw : Bool) (mo : Option Nat) (own : Nat) (an : Int) (ix : Value) (F : ByteArray → Option Value) (w : World) : Prop where
  pre : Pre B s 103 2 fs103 tab103 (fun _ _ => True) (IF w) mo own an none ix F w
  yes : saw = true → own = 2 ∧ (2 : Int) ≤ an
  no : saw = false → own < 2
theorem FlatS.lt {B s : Nat} {saw : Bool} {mo : Option Nat} {own : Nat} {an : Int} {ix : Value} {F : ByteArray → Option Value} {w : World} (h : FlatS B s saw mo own an ix F w) : ∀ b ∈ mo.toList ++ [s], b < w.heap.size ∧ ∀ c f, w.heap[b]? ≠ some (.cells c 48 f) := by
  intro b hb
  rcases List.mem_append.1 hb with hb | hb
  · cases mo with
    | none => cases hb
    | some q =>
      simp at hb
      subst hb
      exact ⟨h.pre.fm.2.lt, fun c f h2 => mi_cells h.pre.fm.2 h2⟩
  · simp at hb
    subst hb
    refine ⟨h.pre.sd.lt, fun c f h2 => ?_⟩
    have h3 := h.pre.sd
    rw [SD, h2] at h3
    simp at h3
theorem FlatS.on {B s : Nat} {saw : Bool} {mo : Option Nat} {own : Nat} {an : Int} {ix : Value} {F : ByteArray → Option Value} {w u : World} (h : FlatS B s saw mo own an ix F w) (hf : Fr B w u) (hb : ∀ b ∈ mo.toList ++ [s], u.heap[b]? = w.heap[b]?) : FlatS B s saw mo own an ix F u := by
  refine ⟨⟨(hb s (by simp)).trans h.pre.sd, h.pre.le, ?_, h.pre.so.carry hf, h.pre.has, h.pre.lo, rfl, rfl, Nat.le_refl _, fun _ _ _ => rfl⟩, h.yes, h.no⟩
  have h1 := h.pre.fm
  cases mo with
  | none => exact h1
  | some m => exact ⟨h1.1, h1.2.heap (hb m (by simp))⟩
theorem tab_P (x : ByteArray) (E : Ent) (h : tab103 x = some E) : ((⟨#[80]⟩ : ByteArray) == x) = true ∧ E = ⟨3, 2, true, false, [0]⟩ := by
  unfold tab103 at h
  by_cases h0 : ((⟨#[80]⟩ : ByteArray) == x) = true
  · rw [if_pos h0] at h
    cases h
    exact ⟨h0, rfl⟩
  · rw [if_neg h0] at h
    cases h
theorem flS {B s cb : Nat} {saw : Bool} {mo : Option Nat} {own : Nat} {an : Int} {ix : Value} {F : ByteArray → Option Value} {w : World} (hBs : B ≤ s) (x : ByteArray) (h : FlatS B s saw mo own an ix F w) :
    Calls Tryz.prog 39 #[.pointer (pt s), .pointer (pt cb), .pointer none, .string x] w fun e w' => ∃ r, e = .returned r ∧ ∃ m own' an' ix' F', Fr B w w' ∧ (∀ q, mo = some q → m = q) ∧ (mo = none → w.heap.size ≤ m) ∧ (∀ b, b < w.heap.size → b ≠ m → b ≠ s → w'.heap[b]? = w.heap[b]?) ∧
      FlatS B s (if ((⟨#[80]⟩ : ByteArray) == x) = true then saw else true) (some m) own' an' ix' F' w' ∧ (((⟨#[80]⟩ : ByteArray) == x) = true → ∃ p td, r = .pointer (pt p) ∧ IsSF w' p 3 2 td true false [0]) ∧ (¬ ((⟨#[80]⟩ : ByteArray) == x) = true → r = .pointer none) := by
  have hB : B ≤ w.heap.size := Nat.le_trans hBs (Nat.le_of_lt h.pre.sd.lt)
  cases hF : F x with
  | some v =>
    obtain ⟨p, td, E, rfl, hE, hI⟩ := h.pre.so x v hF
    obtain ⟨hx, rfl⟩ := tab_P x E hE
    cases mo with
    | none =>
      have h1 : F = fun _ => none := h.pre.fm
      rw [h1] at hF
      cases hF
    | some m =>
      refine (sf_hit s 103 m p _ _ an none none ix F (pt cb) none x w h.pre.sd h.pre.fm.2 hF).mono ?_
      rintro e w' ⟨rfl, rfl⟩
      refine ⟨_, rfl, m, own, an, ix, F, Fr.refl B w hB, fun q e => (by cases e; rfl), fun e => (by cases e), fun _ _ _ _ => rfl, ?_, fun _ => ⟨p, td, rfl, hI⟩, fun hn => absurd hx hn⟩
      rw [if_pos hx]
      exact h
  | none =>
    refine (sf_gen (flatGen (cb := cb) hBs w) mo own an none ix F x w h.pre hB).mono ?_
    rintro e w' ⟨r, m, own', an', ch', ix', F', rfl, hf, hP, _, hm1, hm2, hres⟩
    obtain ⟨hc, _, _, hfr⟩ := hP.re
    subst hc
    have hP2 : Pre B s 103 2 fs103 tab103 (fun _ _ => True) (IF w') (some m) own' an' none ix' F' w' := ⟨hP.sd, hP.le, hP.fm, hP.so, hP.has, hP.lo, rfl, rfl, Nat.le_refl _, fun _ _ _ => rfl⟩
    refine ⟨r, rfl, m, own', an', ix', F', hf, hm1, hm2, fun b hb h1 h2 => hfr b hb (by simp [h1, h2]), ?_⟩
    rcases hres with ⟨rfl, hn, rfl, ha, _⟩ | ⟨p, rfl, hp, h3⟩
    · have hx : ¬ ((⟨#[80]⟩ : ByteArray) == x) = true := by
        intro hx
        obtain rfl := (ba_iff _ _).1 hx
        exact hP.has 0 (by decide) rfl rfl hn
      rw [if_neg hx]
      refine ⟨⟨hP2, fun _ => ⟨rfl, ?_⟩, fun h => by cases h⟩, fun h => absurd h hx, fun _ => rfl⟩
      rcases ha with ha | ha
      · rcases hP.lo with ⟨_, h5⟩ | ⟨h5, _⟩
        · exact absurd (h5 1 (by decide)) (by decide)
        · omega
      · exact ha
    · obtain ⟨p', td, E, he, hE, hI⟩ := hP.so x _ hp
      obtain rfl : p = p' := by simpa using he
      obtain ⟨hx, rfl⟩ := tab_P x E hE
      rw [if_pos hx]
      refine ⟨⟨hP2, fun hs => ?_, fun hs => ?_⟩, fun _ => ⟨p, td, rfl, hI⟩, fun hn => absurd hx hn⟩
      · exfalso
        obtain ⟨h6, _⟩ := h.yes hs
        obtain rfl := (ba_iff _ _).1 hx
        exact h.pre.has 0 (by omega) rfl rfl hF
      · have h6 := h.no hs
        rcases h3 with ⟨rfl, _⟩ | ⟨j, hj, rfl, _⟩ | h3
        · exact h6
        · exact hj
        · exact absurd rfl h3
theorem finF {B s : Nat} {saw : Bool} {mo : Option Nat} {own : Nat} {an : Int} {ix : Value} {F : ByteArray → Option Value} {w : World} (h : FlatS B s saw mo own an ix F w) : Calls Tryz.prog 45 #[.pointer (pt s)] w fun e w' => e = .returned (.bool saw) ∧ ∃ k, w' = w.drewN k := by
  cases saw with
  | false =>
    have := h.no rfl
    exact fin_a _ _ _ _ _ _ _ _ _ _ h.pre.sd (by omega)
  | true =>
    obtain ⟨h1, h2⟩ := h.yes rfl
    exact fin_c _ _ _ _ _ _ _ _ _ _ h.pre.sd (by omega) (by omega)
theorem finO {ob : List Nat} {val : Nat → Option Obj} {B cb td s : Nat} {mo : Option Nat} {own : Nat} {an : Int} {ch : Option Addr} {ix : Value} {F : ByteArray → Option Value} {w : World} (h : Top ob val B cb td s 99 5 fs99 tab99 ks99 exO mo own an ch ix F w) : Calls Tryz.prog 45 #[.pointer (pt s)] w fun e w' => e = .returned (.bool false) ∧ ∃ k, w' = w.drewN k := by
  by_cases h1 : (own : Int) < 5
  · exact fin_a _ _ _ _ _ _ _ _ _ _ h.sd h1
  by_cases h2 : an < 5
  · exact fin_b _ _ _ _ _ _ _ _ _ _ h.sd (by omega) h2
  have hch : ch ≠ none := by
    obtain ⟨mc, G, g, hF, _, _, hx⟩ := h.re
    refine hx ?_
    rcases h.lo with ⟨h5, _⟩ | ⟨_, _, _, h5⟩
    · omega
    · exact h5 1 (by omega) kid99_1 (by simp) rfl ⟨#[88]⟩ (by decide)
  refine (fin_c _ _ _ _ _ _ _ _ _ _ h.sd (by omega) (by omega)).mono ?_
  rintro e w' ⟨rfl, hk⟩
  cases ch with
  | none => exact absurd rfl hch
  | some c => exact ⟨rfl, hk⟩
/-- both together -/
def J (B cb td s sF : Nat) (saw : Bool) (w : World) : Prop := B ≤ s ∧ B ≤ sF ∧ ∃ moF ownF anF ixF FF, FlatS B sF saw moF ownF anF ixF FF w ∧ ∃ mo own an ch ix F, Top (moF.toList ++ [sF]) (fun b => w.heap[b]?) B cb td s 99 5 fs99 tab99 ks99 exO mo own an ch ix F w
theorem J.low {B cb td s sF : Nat} {saw : Bool} {w : World} (h : J B cb td s sF saw w) : B ≤ w.heap.size := by
  obtain ⟨_, _, moF, ownF, anF, ixF, FF, h1, mo, own, an, ch, ix, F, h2⟩ := h
  exact h2.low
theorem J.on {B cb td s sF : Nat} {saw : Bool} {w u : World} (h : J B cb td s sF saw w) (hf : Fr w.heap.size w u) : J B cb td s sF saw u := by
  have hl := h.low
  obtain ⟨b1, b2, moF, ownF, anF, ixF, FF, h1, mo, own, an, ch, ix, F, h2⟩ := h
  have hk := h1.lt
  have h3 := h1.on (hf.le hl) (fun b hb => hf.bel.block b (hk b hb).1)
  exact ⟨b1, b2, moF, ownF, anF, ixF, FF, h3, mo, own, an, ch, ix, F, h2.oth (hf.le hl) (fun b hb _ => hf.bel.block b hb) (fun b hb => ⟨Or.inl hb, (h3.lt b hb).1, rfl, (h3.lt b hb).2⟩)⟩
theorem zsf_thr (cb s : Nat) (x : ByteArray) (w : World) (R : Value → World → Prop) (h : Calls Tryz.prog 39 #[.pointer (pt s), .pointer (pt cb), .pointer none, .string x] w fun e w' => ∃ r, e = .returned r ∧ R r w') :
    Calls Tryz.prog 17 #[.pointer (pt cb), .pointer (pt s), .string x] w fun e w' => ∃ r, e = .returned r ∧ R r w' := by
  have H := Lib.hid h
  clear h
  go_enter Tryz.func17, Tryz.ntmps17
  go_wp2_with (go_at_call 39; ((with_reducible refine H.out.mono ?_); rintro e w1 ⟨r, rfl, hR⟩; have HR := Lib.hid hR; clear hR))
  go_ret
  exact ⟨r, rfl, HR.out⟩
theorem zfin_thr (s : Nat) (b : Bool) (w : World) (h : Calls Tryz.prog 45 #[.pointer (pt s)] w fun e w' => e = .returned (.bool b) ∧ ∃ k, w' = w.drewN k) : Calls Tryz.prog 31 #[.pointer (pt s)] w fun e w' => e = .returned (.bool b) ∧ ∃ k, w' = w.drewN k := by
  have H := Lib.hid h
  clear h
  go_enter Tryz.func31, Tryz.ntmps31
  go_wp2_with (go_at_call 45; ((with_reducible refine H.out.mono ?_); rintro e w' ⟨rfl, k, rfl⟩))
  go_ret
  exact ⟨rfl, k, rfl⟩
theorem jF {B cb td s sF : Nat} {saw : Bool} {w : World} (x : ByteArray) (h : J B cb td s sF saw w) : Calls Tryz.prog 17 #[.pointer (pt cb), .pointer (pt sF), .string x] w fun e w' => ∃ r, e = .returned r ∧ Fr B w w' ∧ J B cb td s sF (if ((⟨#[80]⟩ : ByteArray) == x) = true then saw else true) w' ∧
    (((⟨#[80]⟩ : ByteArray) == x) = true → ∃ p td', r = .pointer (pt p) ∧ IsSF w' p 3 2 td' true false [0]) ∧ (¬ ((⟨#[80]⟩ : ByteArray) == x) = true → r = .pointer none) := by
  obtain ⟨b1, b2, moF, ownF, anF, ixF, FF, h1, mo, own, an, ch, ix, F, h2⟩ := h
  refine zsf_thr cb sF x w _ ((flS (cb := cb) b2 x h1).mono ?_)
  rintro e w' ⟨r, rfl, m, own', an', ix', F', hf, hm1, hm2, hb, hFl, hr⟩
  refine ⟨r, rfl, hf, ⟨b1, b2, some m, own', an', ix', F', hFl, mo, own, an, ch, ix, F, ?_⟩, hr⟩
  refine h2.oth hf (fun b hl hn => hb b hl (fun e => hn ?_) (fun e => hn (by simp [e]))) (fun b hm => ⟨?_, (hFl.lt b hm).1, rfl, (hFl.lt b hm).2⟩)
  · subst e
    cases moF with
    | none => have := hm2 rfl; omega
    | some q => simp [hm1 q rfl]
  · rcases List.mem_append.1 hm with hm | hm
    · simp at hm
      subst hm
      cases moF with
      | none => exact Or.inr (hm2 rfl)
      | some q => exact Or.inl (by simp [hm1 q rfl])
    · exact Or.inl (List.mem_append.2 (Or.inr hm))
theorem jO {B cb td s sF : Nat} {saw : Bool} {w : World} (x : ByteArray) (h : J B cb td s sF saw w) : Calls Tryz.prog 17 #[.pointer (pt cb), .pointer (pt s), .string x] w fun e w' => ∃ r, e = .returned r ∧ Fr B w w' ∧ J B cb td s sF saw w' := by
  obtain ⟨b1, b2, moF, ownF, anF, ixF, FF, h1, mo, own, an, ch, ix, F, h2⟩ := h
  refine zsf_thr cb s x w _ ((top_sf top99 exOk2 b1 x h2).mono ?_)
  rintro e w' ⟨r, m, own', an', ch', ix', F', rfl, hf, hT, _⟩
  have h3 := h1.on hf (fun b hb => hT.held hb)
  exact ⟨r, rfl, hf, b1, b2, moF, ownF, anF, ixF, FF, h3, _, _, _, _, _, _, hT.oth (Fr.refl B w' hT.low) (fun _ _ _ => rfl) (fun b hm => ⟨Or.inl hm, (h3.lt b hm).1, rfl, (h3.lt b hm).2⟩)⟩
theorem jfinF {B cb td s sF : Nat} {saw : Bool} {w : World} (h : J B cb td s sF saw w) : Calls Tryz.prog 31 #[.pointer (pt sF)] w fun e w' => e = .returned (.bool saw) ∧ ∃ k, w' = w.drewN k := by
  obtain ⟨b1, b2, moF, ownF, anF, ixF, FF, h1, _⟩ := h
  exact zfin_thr sF saw w (finF h1)
theorem jfinO {B cb td s sF : Nat} {saw : Bool} {w : World} (h : J B cb td s sF saw w) : Calls Tryz.prog 31 #[.pointer (pt s)] w fun e w' => e = .returned (.bool false) ∧ ∃ k, w' = w.drewN k := by
  obtain ⟨b1, b2, moF, ownF, anF, ixF, FF, h1, mo, own, an, ch, ix, F, h2⟩ := h
  exact zfin_thr s false w (finO h2)
theorem zf_raw (cb B : Nat) (w : World) (hC : Ca w cb none) (hB : B ≤ cb) (hBw : B ≤ w.heap.size) : Calls Tryz.prog 34 #[.pointer (pt cb)] w fun e w' => ∃ s mc G, e = .returned (.pointer (pt s)) ∧ Fr B w w' ∧ Ca w' cb (some mc) ∧ Ty w' mc G ∧ G 99 = none ∧ (∀ K ∈ ks99, G K.T = none) ∧ SD w' s (sdc 103 none ((2 : Nat) : Int) 0 (-1) none none (.slice none 0 0)) ∧ B ≤ s ∧ B ≤ mc := by
  have HC := Lib.hid hC
  clear hC
  go_enter Tryz.func34, Tryz.ntmps34
  go_wp2_with (go_at_call 38; ((with_reducible refine (gs_first 103 cb B ((2 : Nat) : Int) nf_103 _ HC.out hB hBw).mono ?_); rintro e w1 ⟨td, s, mc, rfl, hf, _, hCa, hTy, hTD, hSD, l1, l2, l3⟩; obtain ⟨tp, tc⟩ := sz14 w1 td s hTD; have HT := Lib.hid (And.intro hf (And.intro hCa (And.intro hTy hSD))); clear hf hCa hTy hTD hSD))
  go_ret
  exact ⟨s, mc, _, rfl, HT.out.1, HT.out.2.1, HT.out.2.2.1, if_neg (by decide), fun K hK => (by
    simp only [List.mem_cons, List.not_mem_nil, or_false] at hK
    rcases hK with rfl | rfl <;> exact if_neg (by decide)), HT.out.2.2.2, by omega, by omega⟩
theorem zo_next {B cb mc sF : Nat} {G : Nat → Option Nat} (w : World) (hC : Ca w cb (some mc)) (hT : Ty w mc G) (hG : G 99 = none) (hGk : ∀ K ∈ ks99, G K.T = none) (hS : SD w sF (sdc 103 none ((2 : Nat) : Int) 0 (-1) none none (.slice none 0 0))) (hB : B ≤ mc) (hBc : B ≤ cb) (hBs : B ≤ sF) (hBw : B ≤ w.heap.size) :
    Calls Tryz.prog 16 #[.pointer (pt cb)] w fun e w' => ∃ td s, e = .returned (.pointer (pt s)) ∧ Fr B w w' ∧ J B cb td s sF false w' := by
  have hob : ∀ b ∈ [sF], b ≠ cb ∧ b ≠ mc ∧ w.heap[b]? = (fun b => w.heap[b]?) b ∧ b < w.heap.size ∧ ∀ c f, (fun b => w.heap[b]?) b ≠ some (.cells c 48 f) := by
    intro b hb
    rw [List.mem_singleton] at hb
    subst hb
    refine ⟨fun e => ?_, fun e => hT.ne hS e.symm, rfl, hS.lt, fun c f h2 => ?_⟩
    · subst e
      rw [SD, hC] at hS
      cases hS
    · rw [SD] at hS
      dsimp only at h2
      rw [h2] at hS
      simp at hS
  have H := Lib.hid (top_next (ob := [sF]) (val := fun b => w.heap[b]?) top99 exOk2 nf_99 hC hT hG hGk hB hBc hBw hob)
  have HS := Lib.hid hS
  clear hob hC hT hS hG hGk
  go_enter Tryz.func16, Tryz.ntmps16
  go_wp2_with (go_at_call 38; ((with_reducible refine H.out.mono ?_); rintro e w1 ⟨td, s, rfl, hf, ho, h1, _, hT⟩; obtain ⟨tp, tc⟩ := sz14 w1 td s hT.td; have HT := Lib.hid (And.intro hf (And.intro h1 hT)); clear hf ho h1 hT))
  go_ret
  have hT := HT.out.2.2
  have h0 : w1.heap[sF]? = w.heap[sF]? := hT.held (by simp)
  have hF : FlatS B sF false none 0 (-1) (.slice none 0 0) (fun _ => none) w1 := ⟨⟨h0.trans HS.out, Nat.zero_le _, rfl, Sound.none _ _, fun j hj => absurd hj (Nat.not_lt_zero _), Or.inl ⟨rfl, fun a ha => absurd ha (Nat.not_lt_zero _)⟩, rfl, rfl, Nat.le_refl _, fun _ _ _ => rfl⟩, fun h => (by cases h), fun _ => (by decide)⟩
  exact ⟨td, s, rfl, HT.out.1, HT.out.2.1, hBs, none, 0, -1, _, _, hF, _, _, _, _, _, _, hT.oth (Fr.refl B w1 hT.low) (fun _ _ _ => rfl) (fun b hm => ⟨Or.inl hm, (hF.lt b hm).1, rfl, (hF.lt b hm).2⟩)⟩
end Go.Proofs.YtdpgbmmgeooahaaGreatDoorBesrefl
