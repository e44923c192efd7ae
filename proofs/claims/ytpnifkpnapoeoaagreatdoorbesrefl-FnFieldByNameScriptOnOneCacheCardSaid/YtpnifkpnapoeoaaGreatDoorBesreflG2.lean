/-
  structField, over whatever struct type. No condition.
-/
import Derived.Test.YtpnifkpnapoeoaaGreatDoorBesreflG1
import Derived.StillTailTactics
import Derived.Deep.RegionHeld3
import Derived.Deep.RegionLaw
import Derived.Deep.RegionLawGrows
import Derived.Deep.AppendLies
import Derived.Deep.Cut
import Derived.Deep.CutRange
import Derived.Deep.RegionWith
import Derived.Lib.Hide
import Derived.Deep.LoopGhost
import Derived.Deep.DeepCutAuto
namespace Go.Proofs.YtpnifkpnapoeoaaGreatDoorBesrefl
open Go.RowKit
set_option maxRecDepth 100000
set_option maxHeartbeats 1000000
set_option linter.unusedVariables false
theorem fin_own {s t n own : Nat} {m : Option Nat} {an : Int} {par ch : Option Addr} {ix : Value} {w : World} (h : SD w s (sdc t m n own an par ch ix)) (hc : own ≤ n) :
    Calls Tryz.prog 43 #[.pointer (pt s)] w fun e w' => (∃ k, w' = w.drewN k) ∧ (e = .returned (.bool false) ∨ (e = .returned (.bool true) ∧ own = n ∧ (n : Int) ≤ an)) := by
  by_cases h1 : (own : Int) < n
  · exact (fin_a _ _ _ _ _ _ _ _ _ _ h h1).mono fun e w' ⟨he, hk⟩ => ⟨hk, Or.inl he⟩
  by_cases h2 : an < n
  · exact (fin_b _ _ _ _ _ _ _ _ _ _ h (by omega) h2).mono fun e w' ⟨he, hk⟩ => ⟨hk, Or.inl he⟩
  · refine (fin_c _ _ _ _ _ _ _ _ _ _ h (by omega) (by omega)).mono fun e w' ⟨he, hk⟩ => ⟨hk, ?_⟩
    cases ch with
    | none => exact Or.inr ⟨he, by omega, by omega⟩
    | some c => exact Or.inl he
/-- the state at the head of structField, behind the making of the map -/
def Mid (B s T n : Nat) (fs : Nat → Fd) (tab : ByteArray → Option Ent) (D : Nat → (ByteArray → Option Value) → Prop)
    (I : (ByteArray → Option Value) → Option Addr → Value → Option (Nat × Nat) → List Nat → World → Prop) (mo : Option Nat) (own : Nat) (an : Int) (ch : Option Addr) (ix : Value) (F : ByteArray → Option Value) (w wx : World) : Prop :=
  ∃ m, Pre B s T n fs tab D I (some m) own an ch ix F wx ∧ Fr B w wx ∧ (∀ q, mo = some q → m = q) ∧ (mo = none → w.heap.size ≤ m)
def RelG (B s T n : Nat) (fs : Nat → Fd) (tab : ByteArray → Option Ent) (D : Nat → (ByteArray → Option Value) → Prop)
    (I : (ByteArray → Option Value) → Option Addr → Value → Option (Nat × Nat) → List Nat → World → Prop) (m : Nat) (ch : Option Addr) (ix : Value) (F : ByteArray → Option Value) (name : ByteArray) (w : World) (g : Nat) (wr : World) : Prop :=
  ∃ own an F', g = n - own ∧ Pre B s T n fs tab D I (some m) own an ch ix F' wr ∧ F' name = none ∧ Fr B w wr ∧ (∀ x, F x ≠ none → F' x ≠ none)
def RelA (B s T n : Nat) (fs : Nat → Fd) (tab : ByteArray → Option Ent) (D : Nat → (ByteArray → Option Value) → Prop)
    (I : (ByteArray → Option Value) → Option Addr → Value → Option (Nat × Nat) → List Nat → World → Prop) (m : Nat) (F : ByteArray → Option Value) (name : ByteArray) (w : World) (g : Nat) (wr : World) : Prop :=
  ∃ an ch ix F', g = ((n : Int) - an).toNat ∧ Pre B s T n fs tab D I (some m) n an ch ix F' wr ∧ F' name = none ∧ Fr B w wr ∧ (∀ x, F x ≠ none → F' x ≠ none)
section
variable {B s cb T n : Nat} {fs : Nat → Fd} {tab : ByteArray → Option Ent} {kT : Nat → Nat} {kK : Nat → Int} {D : Nat → (ByteArray → Option Value) → Prop} {par : Option Addr}
    {I : (ByteArray → Option Value) → Option Addr → Value → Option (Nat × Nat) → List Nat → World → Prop}
/-- a world in which nothing of the state was touched -/
theorem Pre.move {m own : Nat} {an : Int} {ch : Option Addr} {ix : Value} {F : ByteArray → Option Value} {w u : World} (h : Pre B s T n fs tab D I (some m) own an ch ix F w) (H : Gen B s cb T n fs tab kT kK D par I) (hf : Fr B w u) (hb : ∀ b, b < w.heap.size → u.heap[b]? = w.heap[b]?) : Pre B s T n fs tab D I (some m) own an ch ix F u :=
  ⟨(hb s h.sd.lt).trans h.sd, h.le, ⟨h.fm.1, h.fm.2.heap (hb m h.fm.2.lt)⟩, h.so.carry hf, h.has, h.lo, H.fr _ _ _ _ _ _ _ h.re hf (fun b hl _ => hb b hl)⟩
/-- anonIdx, written -/
theorem Pre.setA {m own : Nat} {an : Int} {ch : Option Addr} {ix : Value} {F : ByteArray → Option Value} {w : World} (h : Pre B s T n fs tab D I (some m) own an ch ix F w) (H : Gen B s cb T n fs tab kT kK D par I) {an' : Int}
    (hl : (an' = -1 ∧ ∀ a, a < own → (fs a).emb = false) ∨ (0 ≤ an' ∧ an' ≤ n ∧ (∃ a, a < n ∧ (fs a).emb = true) ∧ ∀ a : Nat, (a : Int) < an' → D a F)) : Pre B s T n fs tab D I (some m) own an' ch ix F (w.setCell ⟨s, 4, none⟩ (.int .i64 an')) := by
  have hf : Fr B w (w.setCell ⟨s, 4, none⟩ (.int .i64 an')) := (Fr.refl B w (Nat.le_trans h.fm.1 (Nat.le_of_lt h.fm.2.lt))).setOld (p := ⟨s, 4, none⟩) H.Bs h.sd.loose _
  exact ⟨h.sd.set (i := 4) _, h.le, ⟨h.fm.1, h.fm.2.setCell _ _⟩, h.so.carry hf, h.has, hl, H.fr _ _ _ _ _ _ _ h.re hf (fun b hb hn => Below.heap_setCell _ _ _ _ (fun e => hn (by subst e; simp)))⟩
/-- ownIdx, written -/
theorem Pre.setO {m own : Nat} {an : Int} {ch : Option Addr} {ix : Value} {F : ByteArray → Option Value} {w : World} (h : Pre B s T n fs tab D I (some m) own an ch ix F w) (H : Gen B s cb T n fs tab kT kK D par I) (hj : own < n)
    (hk : (fs own).exp = true → (fs own).vis = true → F (fs own).key ≠ none) (he : an = -1 → (fs own).emb = false) : Pre B s T n fs tab D I (some m) (own + 1) an ch ix F (w.setCell ⟨s, 3, none⟩ (.int .i64 ((own + 1 : Nat) : Int))) := by
  have hf : Fr B w (w.setCell ⟨s, 3, none⟩ (.int .i64 ((own + 1 : Nat) : Int))) := (Fr.refl B w (Nat.le_trans h.fm.1 (Nat.le_of_lt h.fm.2.lt))).setOld (p := ⟨s, 3, none⟩) H.Bs h.sd.loose _
  refine ⟨h.sd.set (i := 3) _, hj, ⟨h.fm.1, h.fm.2.setCell _ _⟩, h.so.carry hf, fun j hj2 h1 h2 => ?_, ?_, H.fr _ _ _ _ _ _ _ h.re hf (fun b hb hn => Below.heap_setCell _ _ _ _ (fun e => hn (by subst e; simp)))⟩
  · rcases Nat.lt_succ_iff_lt_or_eq.1 hj2 with h3 | rfl
    · exact h.has j h3 h1 h2
    · exact hk h1 h2
  · rcases h.lo with ⟨e, h1⟩ | h1
    · refine Or.inl ⟨e, fun a ha => ?_⟩
      rcases Nat.lt_succ_iff_lt_or_eq.1 ha with h3 | rfl
      · exact h1 a h3
      · exact he e
    · exact Or.inr h1
theorem Pre.ltD {m own : Nat} {an : Int} {ch : Option Addr} {ix : Value} {F : ByteArray → Option Value} {w : World} (h : Pre B s T n fs tab D I (some m) own an ch ix F w) (k : Nat) : m < (w.drewN k).heap.size ∧ s < (w.drewN k).heap.size := ⟨h.fm.2.lt, h.sd.lt⟩
theorem Pre.ret {m own : Nat} {an : Int} {ch : Option Addr} {ix : Value} {F : ByteArray → Option Value} {w : World} (h : Pre B s T n fs tab D I (some m) own an ch ix F w) : I F ch ix none [m, s] w := h.re
theorem Pre.ins {m own : Nat} {an : Int} {ch : Option Addr} {ix : Value} {F : ByteArray → Option Value} {w : World} (h : Pre B s T n fs tab D I (some m) own an ch ix F w) (H : Gen B s cb T n fs tab kT kK D par I) (k : Nat) : I F ch ix none [m, s] (w.drewN k) :=
  H.fr _ _ _ _ _ _ _ h.re ((Fr.refl B w (Nat.le_trans h.fm.1 (Nat.le_of_lt h.fm.2.lt))).drewN k) (fun _ _ _ => rfl)
/-- behind a call that left the structData and its map -/
theorem Pre.call {m own k : Nat} {an : Int} {ch : Option Addr} {ix : Value} {F : ByteArray → Option Value} {w u : World} (h : Pre B s T n fs tab D I (some m) own an ch ix F w) (_ : Gen B s cb T n fs tab kT kK D par I) (hf : Fr B (w.drewN k) u) (hs : Same [m, s] (w.drewN k) u) (hI : I F ch ix none [m, s] u) : Pre B s T n fs tab D I (some m) own an ch ix F u :=
  ⟨(hs s (by simp) h.sd.lt).trans h.sd, h.le, ⟨h.fm.1, h.fm.2.heap (hs m (by simp) h.fm.2.lt)⟩, (h.so.carry ((Fr.refl 0 w (Nat.zero_le _)).drewN k)).carry hf, h.has, h.lo, hI⟩
theorem Fld.call {w u : World} {fb ib k : Nat} {j : Int} {c : Array Value} (h : Fld w fb ib j c) (hf : Fr B (w.drewN k) u) : Fld u fb ib j c := ⟨hf.kept fb _ h.1 rfl, hf.kept ib _ h.2 rfl⟩
theorem plus_ne {F : ByteArray → Option Value} {key : ByteArray} {v : Value} (x : ByteArray) (h : F x ≠ none) : plus F key v x ≠ none := ext_ne x h
theorem plus_self {F : ByteArray → Option Value} {key : ByteArray} {v : Value} : plus F key v key ≠ none := by
  unfold plus
  rw [if_pos ((ba_iff _ _).2 rfl)]
  exact fun h => by cases h
/-- a field is found: its structField lies, and the map says so -/
theorem Pre.newf {m own : Nat} {an : Int} {ch : Option Addr} {ix : Value} {F : ByteArray → Option Value} {w : World} (h : Pre B s T n fs tab D I (some m) own an ch ix F w) (H : Gen B s cb T n fs tab kT kK D par I) {key : ByteArray} {E : Ent} {v : Value} (td : Option Addr) (hE : tab key = some E) (hv : Ix w v E.zs false) (a : Obj)
    (W : World) (hW : ((put w m (mapSet (mapAt w m) key (.pointer (pt (w.heap.size + 1))))).alloc a).alloc (.cells (sfc E.t E.k td E.i E.f v) 91) = W) :
    Fr B w W ∧ SD W s (sdc T (some m) n own an none ch ix) ∧ MapIs W m (plus F key (.pointer (pt (w.heap.size + 1)))) ∧ I F ch ix none [m, s] W ∧ IsSF W (w.heap.size + 1) E.t E.k td E.i E.f E.zs ∧ Sound W (plus F key (.pointer (pt (w.heap.size + 1)))) tab := by
  subst hW
  obtain ⟨hBm, hM⟩ := h.fm
  obtain ⟨x, hx⟩ := hM.some
  have hB : B ≤ w.heap.size := Nat.le_trans hBm (Nat.le_of_lt hM.lt)
  have hF := (((Fr.refl B w hB).put hBm hM.loose (mapSet (mapAt w m) key (.pointer (pt (w.heap.size + 1))))).alloc a).alloc (.cells (sfc E.t E.k td E.i E.f v) 91)
  have hS := ((h.sd.put hx (mapSet (mapAt w m) key (.pointer (pt (w.heap.size + 1))))).alloc a).alloc (.cells (sfc E.t E.k td E.i E.f v) 91)
  have hMM := ((hM.set key (.pointer (pt (w.heap.size + 1)))).alloc a).alloc (.cells (sfc E.t E.k td E.i E.f v) 91)
  have hI : IsSF (((put w m (mapSet (mapAt w m) key (.pointer (pt (w.heap.size + 1))))).alloc a).alloc (.cells (sfc E.t E.k td E.i E.f v) 91)) (w.heap.size + 1) E.t E.k td E.i E.f E.zs := ⟨v, sf_new _ _ _ (by simp [put_size]), hv.carry hF⟩
  refine ⟨hF, hS, hMM, H.fr _ _ _ _ _ _ _ h.re hF (fun b hb hn => ?_), hI, (h.so.carry hF).set hE hI⟩
  rw [Below.heap_alloc _ _ _ (by simp [put_size]; omega), Below.heap_alloc _ _ _ (by simp [put_size]; omega), heap_put _ _ _ _ (fun e => hn (by subst e; simp))]
theorem Pre.plus {m own : Nat} {an : Int} {ch : Option Addr} {ix : Value} {F : ByteArray → Option Value} {w u : World} (h : Pre B s T n fs tab D I (some m) own an ch ix F w) (H : Gen B s cb T n fs tab kT kK D par I) {key : ByteArray} {v : Value} (hS : SD u s (sdc T (some m) n own an none ch ix)) (hM : MapIs u m (plus F key v)) (hso : Sound u (plus F key v) tab) (hI : I (plus F key v) ch ix none [m, s] u) :
    Pre B s T n fs tab D I (some m) own an ch ix (plus F key v) u :=
  ⟨hS, h.le, ⟨h.fm.1, hM⟩, hso, fun j h1 h2 h3 => plus_ne _ (h.has j h1 h2 h3), (by
    rcases h.lo with h1 | ⟨h1, h2, h4, h3⟩
    · exact Or.inl h1
    · exact Or.inr ⟨h1, h2, h4, fun a ha => H.Dm a _ _ (h3 a ha) (fun x => plus_ne x)⟩), hI⟩
theorem Pre.fe {m : Nat} {an : Int} {ch c : Option Addr} {ix ixv : Value} {F G : ByteArray → Option Value} {w u : World} (h : Pre B s T n fs tab D I (some m) n an ch ix F w) (H : Gen B s cb T n fs tab kT kK D par I) (hS : SD u s (sdc T (some m) n n an none c ixv)) (hM : MapIs u m G) (hso : Sound u G tab) (hx : ∀ x, F x ≠ none → G x ≠ none) (hI : I G c ixv none [m, s] u) :
    Pre B s T n fs tab D I (some m) n an c ixv G u :=
  ⟨hS, h.le, ⟨h.fm.1, hM⟩, hso, fun j h1 h2 h3 => hx _ (h.has j h1 h2 h3), (by
    rcases h.lo with h1 | ⟨h1, h2, h4, h3⟩
    · exact Or.inl h1
    · exact Or.inr ⟨h1, h2, h4, fun a ha => H.Dm a _ _ (h3 a ha) hx⟩), hI⟩
theorem Dstep {a : Nat} {F : ByteArray → Option Value} (h : ∀ b : Nat, (b : Int) < (a : Int) → D b F) (ha : D a F) (b : Nat) (hb : (b : Int) < (a : Int) + 1) : D b F := by
  by_cases e : b = a
  · subst e; exact ha
  · exact h b (by omega)
/-- where a child has been fetched -/
structure PreC (B s T n : Nat) (fs : Nat → Fd) (tab : ByteArray → Option Ent) (D : Nat → (ByteArray → Option Value) → Prop)
    (I : (ByteArray → Option Value) → Option Addr → Value → Option (Nat × Nat) → List Nat → World → Prop) (m : Nat) (an : Int) (ch : Option Addr) (ix : Value) (pd : Nat × Nat) (F : ByteArray → Option Value) (w : World) : Prop where
  sd : SD w s (sdc T (some m) n n an none ch ix)
  fm : B ≤ m ∧ MapIs w m F
  so : Sound w F tab
  has : ∀ q, q < n → (fs q).exp = true → (fs q).vis = true → F (fs q).key ≠ none
  re : I F ch ix (some pd) [m, s] w
theorem Pre.calls {m a sd : Nat} {an : Int} {ch : Option Addr} {ix : Value} {F : ByteArray → Option Value} {w u : World} (h : Pre B s T n fs tab D I (some m) n an ch ix F w) (hf : Fr B w u) (hs : Same [m, s] w u) (hI : I F ch ix (some (a, sd)) [m, s] u) : PreC B s T n fs tab D I m an ch ix (a, sd) F u :=
  ⟨(hs s (by simp) h.sd.lt).trans h.sd, ⟨h.fm.1, h.fm.2.heap (hs m (by simp) h.fm.2.lt)⟩, h.so.carry hf, h.has, hI⟩
theorem PreC.fe {m : Nat} {an : Int} {ch ch0 c : Option Addr} {ix ix0 ixv : Value} {pd : Nat × Nat} {F G : ByteArray → Option Value} {w u w0 : World} (_ : PreC B s T n fs tab D I m an ch ix pd F w) (H : Gen B s cb T n fs tab kT kK D par I) (h : Pre B s T n fs tab D I (some m) n an ch0 ix0 F w0) (hS : SD u s (sdc T (some m) n n an none c ixv)) (hM : MapIs u m G) (hso : Sound u G tab) (hx : ∀ x, F x ≠ none → G x ≠ none) (hI : I G c ixv none [m, s] u) :
    Pre B s T n fs tab D I (some m) n an c ixv G u := h.fe H hS hM hso hx hI
theorem Fld.setS {w : World} {fb ib s : Nat} {j : Int} {c c' : Array Value} (h : Fld w fb ib j c) (hS : SD w s c') (i : Nat) (v : Value) : Fld (w.setCell ⟨s, i, none⟩ v) fb ib j c :=
  ⟨(Below.heap_setCell _ _ _ _ (fun e => h.ne hS e.symm)).trans h.1, (Below.heap_setCell _ _ _ _ (fun e => by subst e; rw [SD, h.2] at hS; cases hS)).trans h.2⟩
theorem Pre.low {m own : Nat} {an : Int} {ch : Option Addr} {ix : Value} {F : ByteArray → Option Value} {w : World} (h : Pre B s T n fs tab D I (some m) own an ch ix F w) : B ≤ w.heap.size := Nat.le_trans h.fm.1 (Nat.le_of_lt h.fm.2.lt)
theorem Pre.drewN {m own : Nat} {an : Int} {ch : Option Addr} {ix : Value} {F : ByteArray → Option Value} {w : World} (h : Pre B s T n fs tab D I (some m) own an ch ix F w) (H : Gen B s cb T n fs tab kT kK D par I) (k : Nat) : Pre B s T n fs tab D I (some m) own an ch ix F (w.drewN k) :=
  h.move H ((Fr.refl B w h.low).drewN k) (fun _ _ => rfl)
theorem Pre.drew {m own : Nat} {an : Int} {ch : Option Addr} {ix : Value} {F : ByteArray → Option Value} {w : World} (h : Pre B s T n fs tab D I (some m) own an ch ix F w) (H : Gen B s cb T n fs tab kT kK D par I) : Pre B s T n fs tab D I (some m) own an ch ix F w.drew :=
  h.move H (Fr.refl B w h.low).drew (fun _ _ => rfl)
theorem Pre.alloc {m own : Nat} {an : Int} {ch : Option Addr} {ix : Value} {F : ByteArray → Option Value} {w : World} (h : Pre B s T n fs tab D I (some m) own an ch ix F w) (H : Gen B s cb T n fs tab kT kK D par I) (o : Obj) : Pre B s T n fs tab D I (some m) own an ch ix F (w.alloc o) :=
  h.move H ((Fr.refl B w h.low).alloc o) (fun b hb => Below.heap_alloc w o b hb)
end
set_option maxHeartbeats 40000000 in
theorem sf_miss {B s cb T n : Nat} {fs : Nat → Fd} {tab : ByteArray → Option Ent} {kT : Nat → Nat} {kK : Nat → Int} {D : Nat → (ByteArray → Option Value) → Prop} {par : Option Addr}
    {I : (ByteArray → Option Value) → Option Addr → Value → Option (Nat × Nat) → List Nat → World → Prop} (H : Gen B s cb T n fs tab kT kK D par I)
    (mo : Option Nat) (own : Nat) (an : Int) (ch : Option Addr) (ix : Value) (F : ByteArray → Option Value) (name : ByteArray) (w : World) (hP : Pre B s T n fs tab D I mo own an ch ix F w) (hF : F name = none) (hBw : B ≤ w.heap.size) :
    Calls Tryz.prog 34 #[.pointer (pt s), .pointer (pt cb), .pointer par, .string name] w (Post B s T n fs tab D I mo own an F name w) := by
  have hp := hP.sd.plain
  have hs := hP.sd.cells
  have hslt := hP.sd.lt
  have hn0 := H.n0
  have hmk := H.mkm
  have HP := Lib.hid hP
  have HF := Lib.hid hF
  have HG := Lib.hid H
  clear hP hF H
  go_enter Tryz.func34, Tryz.ntmps34
  go_upto_if 26 with (fail)
  go_cut [] from 22 to 47 (fun wx => Mid B s T n fs tab D I mo own an ch ix F w wx)
  case first =>
    cases mo with
    | none =>
      have hn : decide ((n : Int) > 0) = true := by simp; exact hn0
      go_wp2
      go_meet
      have hFe : F = fun _ => none := HP.out.fm
      have hX : Fr B w ((w.setCell ⟨s, 1, none⟩ (.map (some w.heap.size))).alloc (.map #[] 0)) := ((Fr.refl B w hBw).setOld (p := ⟨s, 1, none⟩) HG.out.Bs HP.out.sd.loose _).alloc _
      refine ⟨w.heap.size, ⟨(HP.out.sd.set (i := 1) (.map (some w.heap.size))).alloc _, HP.out.le, ⟨hBw, ?_⟩, ?_, HP.out.has, HP.out.lo, ?_⟩, hX, fun q h => (by cases h), fun _ => Nat.le_refl _⟩
      · rw [hFe]; exact MapIs.at_new (size_set ..)
      · rw [hFe]; exact Sound.none _ _
      · refine HG.out.fr _ _ _ _ _ w _ (HG.out.new _ _ _ _ _ _ _ HP.out.re (Nat.le_refl _)) hX (fun b hb hn => ?_)
        rw [Below.heap_alloc _ _ _ (by rw [size_set]; exact hb), Below.heap_setCell _ _ _ _ (fun e => hn (by subst e; simp))]
    | some m =>
      have hl : strLook (mapAt w m) name = none := (HP.out.fm.2.look name).trans HF.out
      have hm := HP.out.fm.2.ok
      go_wp2
      go_meet
      exact ⟨m, HP.out, Fr.refl B w hBw, fun q h => by cases h; rfl, fun h => by cases h⟩
  case rest =>
    obtain ⟨m, hM, hFr, hq1, hq2⟩ := hcut
    have hp := hM.sd.plain
    have HS := Lib.hid hM.sd
    have HL := Lib.hid hM.le
    have HM := Lib.hid hM
    have HR := Lib.hid hFr
    have HQ := Lib.hid (And.intro hq1 hq2)
    clear hp hs hslt hn0 hmk hM hFr hq1 hq2
    go_wp2_with (go_at_call 43; ((with_reducible refine (fin_own HS.out HL.out).mono ?_); rintro e w' ⟨⟨k, rfl⟩, rfl | ⟨rfl, h1, h2⟩⟩))
    · go_loopg [10] (n - own) (fun g _ wr => RelG B s T n fs tab D I m ch ix F name w g wr)
      case atStart => exact ⟨own, an, F, rfl, HM.out.drewN HG.out k, HF.out, HR.out.drewN k, fun _ h => h⟩
      case round =>
        obtain ⟨own1, an1, F1, hg, hI, hN, hFr, hext⟩ := hrel
        have HG1 := Lib.hid hg
        have HX := Lib.hid hext
        clear HM HR HS HL hg hext hp
        have hp := hI.sd.plain
        have hs := hI.sd.cells
        have hm := hI.fm.2.ok
        have hslt := hI.sd.lt
        have hmlt := hI.fm.2.lt
        have hms := hI.sd.ne hI.fm.2
        have hn64 := HG.out.n64
        have HI := Lib.hid hI
        have HN := Lib.hid hN
        by_cases hj : own1 < n
        ·
          have hfl := HG.out.fld own1 hj
          have hie := HG.out.iex own1 hj
          have HFN := Lib.hid (HG.out.fnm own1 hj)
          have HKY := Lib.hid (HG.out.key own1 hj)
          have HTK := Lib.hid (HG.out.tk own1 hj)
          have HAD := Lib.hid (fun h => HG.out.add h own1 hj)
          have HFT := Lib.hid (HG.out.ft own1 hj)
          have HD0 := Lib.hid (fun F => HG.out.D0 own1 F hj)
          obtain ⟨d, hd⟩ : ∃ d, fs own1 = d := ⟨_, rfl⟩
          rw [hd] at hfl hie HFN HKY HTK HAD HFT HD0
          have HD := Lib.hid hd
          clear hd hI hN
          cases d with | mk nm pk t tg off emb exp vis key k i f
          dsimp only at hfl hie HFN HKY HTK HAD HFT HD0 HD
          go_wp2
          go_quiet (fail)
          go_wp2
          generalize hgw : wr.drewN _ = w2
          have hF2 : Fr B w w2 := by rw [← hgw]; exact hFr.drewN _
          have hI2 : Pre B s T n fs tab D I (some m) own1 an1 ch ix F1 w2 := by rw [← hgw]; exact HI.out.drewN HG.out _
          clear hgw hp hs hm hslt hmlt hms HI hFr
          have hp := hI2.sd.plain
          have hs := hI2.sd.cells
          have hslt := hI2.sd.lt
          have HI := Lib.hid hI2
          clear hI2
          go_cut [10] from 51 to 135 (fun x wx => ∃ fb ib, x = .pointer (some ⟨fb, 0, none⟩) ∧ Fld wx fb ib own1 #[.string nm, .string pk, .iface 105 (.pointer (some ⟨4, t, none⟩)), .string tg, .int .u64 off, .slice (some ⟨ib, 0, none⟩) 1 1, .bool emb] ∧ Pre B s T n fs tab D I (some m) own1 an1 ch ix F1 wx ∧ Fr B w wx)
          case first =>
            go_region
            all_goals
              go_wp2
              go_meet
            case rel => exact ⟨_, _, rfl, (fld_a _ _ _).drew, ((HI.out.alloc HG.out _).alloc HG.out _).drew HG.out, ((hF2.alloc _).alloc _).drew⟩
            case rel => exact ⟨_, _, rfl, (fld_b _ _ _).drew, ((HI.out.alloc HG.out _).alloc HG.out _).drew HG.out, ((hF2.alloc _).alloc _).drew⟩
          case rest =>
            obtain ⟨fb, ib, rfl, hfl2, hI3, hF3⟩ := hcut
            clear hp hs hslt HI hF2 hfl
            have hp := hI3.sd.plain
            have hs := hI3.sd.cells
            have hslt := hI3.sd.lt
            have hfp := hfl2.plain
            have hfc := hfl2.cells
            have hfz : (cellsAt wc fb).size = 7 := by rw [hfc]; rfl
            have hsf := hfl2.ne hI3.sd
            have HI := Lib.hid hI3
            have HL2 := Lib.hid hfl2
            clear hI3 hfl2
            go_upto_region 12 with (fail)
            go_cut [86] from 51 to 135 (fun x wx => x = .bool (emb && decide (an1 < 0)) ∧ wx = wc)
            case first =>
              cases emb
              all_goals
                go_wp2
                go_meet
              all_goals exact ⟨rfl, rfl⟩
            case rest =>
              obtain ⟨rfl, rfl⟩ := hcut
              obtain ⟨b, hb⟩ : ∃ b, (emb && decide (an1 < 0)) = b := ⟨_, rfl⟩
              rw [hb]
              have HB := Lib.hid hb
              clear hb
              go_upto_if 86 with (fail)
              go_cut [] from 51 to 135 (fun wx => ∃ an2, Fld wx fb ib own1 #[.string nm, .string pk, .iface 105 (.pointer (some ⟨4, t, none⟩)), .string tg, .int .u64 off, .slice (some ⟨ib, 0, none⟩) 1 1, .bool emb] ∧ Pre B s T n fs tab D I (some m) own1 an2 ch ix F1 wx ∧ Fr B w wx ∧ (an2 = -1 → emb = false))
              case first =>
                cases b
                · go_wp2
                  go_meet
                  refine ⟨an1, HL2.out, HI.out, hF3, fun h => ?_⟩
                  have h2 := HB.out
                  rw [h] at h2
                  simpa using h2
                · go_wp2
                  go_meet
                  have h2 := HB.out
                  simp at h2
                  refine ⟨own1, HL2.out.setS HI.out.sd _ _, HI.out.setA HG.out (Or.inr ⟨by omega, by have := HI.out.le; omega, ⟨own1, hj, by rw [HD.out]; exact h2.1⟩, fun a ha => ?_⟩), hF3.trans ((Fr.refl B wc HI.out.low).setOld (p := ⟨s, 4, none⟩) HG.out.Bs HI.out.sd.loose _), fun h => (by omega)⟩
                  rcases HI.out.lo with ⟨_, h3⟩ | ⟨h3, _⟩
                  · exact HG.out.D0 a F1 (by have := HI.out.le; omega) (Or.inl (h3 a (by omega)))
                  · omega
              case rest =>
                obtain ⟨an2, hL3, hI4, hF4, ha2⟩ := hcut
                clear hp hs hslt HI hF3 hfp hfc hfz hsf HL2 HB
                have hp := hI4.sd.plain
                have hs := hI4.sd.cells
                have hslt := hI4.sd.lt
                have hfp := hL3.plain
                have hfc := hL3.cells
                have hfz : (cellsAt wc fb).size = 7 := by rw [hfc]; rfl
                have hsf := hL3.ne hI4.sd
                have HI := Lib.hid hI4
                have HL3 := Lib.hid hL3
                have HA2 := Lib.hid ha2
                clear hI4 hL3 ha2
                by_cases hev : exp = true ∧ vis = true
                · obtain ⟨rfl, rfl⟩ := hev
                  have hk1 := HKY.out rfl
                  have hk2 : ¬ key.toList = [] := by intro h; rw [h] at hk1; cases hk1
                  have hk3 : (key.toList == []) = false := by simpa using hk2
                  go_upto_if 127 with (first | (go_at_call 45; ((with_reducible refine (HFN.out (by simp) _).mono ?_); rintro e w' ⟨rfl, mm, rfl⟩)) | (go_at_call 31; go_loud ((with_reducible refine (HFT.out (by simp) (by simp) F1 ch ix m _ (HI.out.ins HG.out mm) (HI.out.ltD mm).1 (HI.out.ltD mm).2).mono ?_); rintro e w1 ⟨td, rfl, hf5, hsm, hI5⟩; have hP5 := HI.out.call HG.out hf5 hsm hI5; have hL5 := HL3.out.call (k := mm) hf5; have hF5 : Fr B w w1 := (hF4.drewN mm).trans hf5; clear hp hs hslt hfp hfc hfz hsf hf5 hsm hI5 hF4; have hp := hP5.sd.plain; have hs := hP5.sd.cells; have hm := hP5.fm.2.ok; have hslt := hP5.sd.lt; have hmlt := hP5.fm.2.lt; have hms := hP5.sd.ne hP5.fm.2; have hfp := hL5.plain; have hfc := hL5.cells; have hfz : (cellsAt w1 fb).size = 7 := (by rw [hfc]; rfl); have hsf := hL5.ne hP5.sd; have hmf := hL5.ne2 hP5.fm.2; have hflt := hfp.lt; obtain ⟨s1, s2, s3, s4⟩ := szs hslt; obtain ⟨m1, m2, m3, m4⟩ := szs hmlt; obtain ⟨f1, f2, f3, f4⟩ := szs hflt; have HP5 := Lib.hid hP5; have HL5 := Lib.hid hL5; clear hP5 hL5)))
                  have htk : tab key = some ⟨t, k, i, f, [(own1 : Int)]⟩ := HTK.out (by simp) (by simp)
                  generalize hgx : World.alloc _ _ = W3
                  obtain ⟨hF6, hS6, hM6, hI6, hQ6, hO6⟩ := HP5.out.newf HG.out td htk HL5.out.ix.any _ W3 hgx
                  clear hgx hp hs hm hslt hmlt hms hfp hfc hfz hsf hmf hflt s1 s2 s3 s4 m1 m2 m3 m4 f1 f2 f3 f4 hk1 hk2 hk3
                  have HTk := Lib.hid htk
                  have HQ6 := Lib.hid (And.intro hF6 (And.intro hS6 (And.intro hM6 (And.intro hI6 (And.intro hQ6 hO6)))))
                  have hsl := hS6.lt
                  clear htk hF6 hS6 hM6 hI6 hQ6 hO6
                  go_cut [] from 51 to 135 (fun wx => Pre B s T n fs tab D I (some m) own1 an2 ch ix (plus F1 key (.pointer (pt (w1.heap.size + 1)))) wx ∧ Fr B w wx)
                  case first =>
                    obtain ⟨hF6, hS6, hM6, hI6, hQ6, hO6⟩ := HQ6.out
                    have HG2 := HG
                    cases par with
                    | none =>
                      clear hF6 hS6 hM6 hI6 hQ6 hO6
                      go_wp2
                      go_meet
                      obtain ⟨hF6, hS6, hM6, hI6, hQ6, hO6⟩ := HQ6.out
                      exact ⟨HP5.out.plus HG.out hS6 hM6 hO6 (HAD.out (by simp) (by simp) (by simp) _ _ _ _ _ _ hI6), hF5.trans hF6⟩
                    | some p =>
                      have HTS := Lib.hid (HG.out.ts p rfl key (w1.heap.size + 1) _ td F1 ch ix m W3 hI6 HTk.out hQ6)
                      clear hF6 hS6 hM6 hI6 hQ6 hO6
                      go_wp2_with (go_at_call 46; ((with_reducible refine HTS.out.mono ?_); rintro e w4 ⟨rfl, hF7, hsm7, hI7⟩; have HQ7 := Lib.hid (And.intro hF7 (And.intro hsm7 hI7)); clear hF7 hsm7 hI7))
                      go_meet
                      obtain ⟨hF6, hS6, hM6, hI6, hQ6, hO6⟩ := HQ6.out
                      obtain ⟨hF7, hsm7, hI7⟩ := HQ7.out
                      exact ⟨HP5.out.plus HG.out ((hsm7 s (by simp) hS6.lt).trans hS6) (hM6.heap (hsm7 m (by simp) hM6.lt)) (hO6.carry hF7) hI7, (hF5.trans hF6).trans hF7⟩
                  case rest =>
                    obtain ⟨hP8, hF8⟩ := hcut
                    have hp := hP8.sd.plain
                    have hs := hP8.sd.cells
                    have hslt := hP8.sd.lt
                    have HP8 := Lib.hid hP8
                    clear hP8 hF5 hsl
                    by_cases hk : (key == name) = true
                    · obtain rfl := (ba_iff _ _).1 hk
                      clear hk
                      go_wp2
                      go_ret
                      exact ⟨_, m, own1, an2, ch, ix, _, rfl, hF8, HP8.out, fun x hx => plus_ne x (HX.out x hx), HQ.out.1, HQ.out.2, Or.inr ⟨_, rfl, if_pos ((ba_iff _ _).2 rfl), Or.inr (Or.inl ⟨own1, hj, rfl, by rw [HD.out]⟩)⟩⟩
                    · have hk1 : ¬ key = name := fun e => hk ((ba_iff _ _).2 e)
                      have hk2 : (key.toList == name.toList) = false := by
                        cases h : (key.toList == name.toList) with
                        | false => rfl
                        | true => exact absurd (ba_toList (eq_of_beq h)) hk1
                      have HK := Lib.hid hk
                      clear hk hk1
                      go_wp2
                      go_roundg (n - (own1 + 1))
                      case measure => (have := HG1.out; omega)
                      case rel => exact ⟨own1 + 1, an2, _, rfl, HP8.out.setO HG.out hj (fun _ _ => by rw [HD.out]; exact plus_self) (fun h => by rw [HD.out]; exact HA2.out h), (if_neg HK.out).trans HN.out, hF8.trans ((Fr.refl B wc HP8.out.low).setOld (p := ⟨s, 3, none⟩) HG.out.Bs HP8.out.sd.loose _), fun x hx => plus_ne x (HX.out x hx)⟩
                · cases exp
                  · go_wp2
                    go_roundg (n - (own1 + 1))
                    case measure => (have := HG1.out; omega)
                    case rel => exact ⟨own1 + 1, an2, _, rfl, HI.out.setO HG.out hj (fun h1 _ => by rw [HD.out] at h1; cases h1) (fun h => by rw [HD.out]; exact HA2.out h), HN.out, hF4.trans ((Fr.refl B wc HI.out.low).setOld (p := ⟨s, 3, none⟩) HG.out.Bs HI.out.sd.loose _), HX.out⟩
                  · cases vis
                    · go_wp2_with (first | (go_at_call 45; ((with_reducible refine (HFN.out (by simp) _).mono ?_); rintro e w' ⟨rfl, mm, rfl⟩)))
                      go_roundg (n - (own1 + 1))
                      case measure => (have := HG1.out; omega)
                      case rel => exact ⟨own1 + 1, an2, _, rfl, (HI.out.drewN HG.out mm).setO HG.out hj (fun _ h1 => by rw [HD.out] at h1; cases h1) (fun h => by rw [HD.out]; exact HA2.out h), HN.out, (hF4.drewN mm).trans ((Fr.refl B (wc.drewN mm) HI.out.low).setOld (p := ⟨s, 3, none⟩) HG.out.Bs HI.out.sd.loose _), HX.out⟩
                    · exact absurd ⟨rfl, rfl⟩ hev
        · obtain rfl : n = own1 := by have := HI.out.le; omega
          go_wp2
          go_quiet (fail)
          generalize hgw : wr.drewN _ = w2
          have hF2 : Fr B w w2 := by rw [← hgw]; exact hFr.drewN _
          have hI2 : Pre B s T n fs tab D I (some m) n an1 ch ix F1 w2 := by rw [← hgw]; exact HI.out.drewN HG.out _
          clear hgw hp hs hm hslt hmlt hms HI hFr
          have hp := hI2.sd.plain
          have hs := hI2.sd.cells
          have hslt := hI2.sd.lt
          have HI := Lib.hid hI2
          clear hI2
          go_upto_if 140 with (fail)
          go_cut [] from 136 (fun wx => ∃ ch2 ix2 F2, Pre B s T n fs tab D I (some m) n an1 ch2 ix2 F2 wx ∧ F2 name = none ∧ Fr B w wx ∧ (∀ x, F x ≠ none → F2 x ≠ none))
          case first =>
            cases ch with
            | none =>
              go_wp2
              go_meet
              exact ⟨none, ix, F1, HI.out, HN.out, hF2, HX.out⟩
            | some c =>
              go_wp2
              go_still_tail 12, (by kernel_rfl)
              change wpList _ _ _ _ _ w2.drew
              have HRE := Lib.hid (HG.out.re c F1 ix m an1 name w2.drew (HI.out.drew HG.out).re HI.out.fm.1 HI.out.sd (HI.out.fm.2) (HI.out.drew HG.out).so HN.out HI.out.has)
              generalize hgw : w2.drew = w3
              rw [hgw] at HRE
              have HF3 : Fr B w w3 := by rw [← hgw]; exact hF2.drew
              have HI3 := Lib.hid (HI.out.drew HG.out)
              rw [hgw] at HI3
              clear hgw hp hs hslt hF2
              go_wp2_with (go_at_call 47; ((with_reducible refine HRE.out.mono ?_); rintro e w4 ⟨r, F2, rfl, hF7, hS7, hM7, hO7, hx7, hI7, hr7⟩; have HQ7 := Lib.hid (And.intro hF7 (And.intro hS7 (And.intro hM7 (And.intro hO7 (And.intro hx7 hI7))))); clear hF7 hS7 hM7 hO7 hx7 hI7; rcases hr7 with ⟨rfl, hn7, _⟩ | ⟨q, rfl, hq7⟩))
              · go_meet
                obtain ⟨hF7, hS7, hM7, hO7, hx7, hI7⟩ := HQ7.out
                exact ⟨some c, ix, F2, HI3.out.fe HG.out hS7 hM7 hO7 hx7 hI7, hn7, HF3.trans hF7, fun x hx => hx7 x (HX.out x hx)⟩
              · go_ret
                obtain ⟨hF7, hS7, hM7, hO7, hx7, hI7⟩ := HQ7.out
                exact ⟨_, m, n, an1, some c, ix, F2, rfl, HF3.trans hF7, HI3.out.fe HG.out hS7 hM7 hO7 hx7 hI7, fun x hx => hx7 x (HX.out x hx), HQ.out.1, HQ.out.2, Or.inr ⟨q, rfl, hq7, Or.inr (Or.inr (fun h => by cases h))⟩⟩
          case rest =>
            obtain ⟨ch2, ix2, F2, hI3, hN3, hF3, hx3⟩ := hcut
            have HR3 := Lib.hid (And.intro hI3 (And.intro hN3 (And.intro hF3 hx3)))
            clear hp hs hslt HI hF2 HN HX HG1 hI3 hN3 hF3 hx3
            go_wp2
            go_loopg [16] (n - an1).toNat (fun g _ wr => RelA B s T n fs tab D I m F name w g wr)
            case atStart => exact ⟨an1, ch2, ix2, F2, rfl, HR3.out⟩
            case round =>
              clear HR3
              obtain ⟨an3, ch3, ix3, F3, hg, hI, hN, hFr, hext⟩ := hrel
              have HG1 := Lib.hid hg
              have HX := Lib.hid hext
              have HN := Lib.hid hN
              have hp := hI.sd.plain
              have hs := hI.sd.cells
              have hslt := hI.sd.lt
              have hn64 := HG.out.n64
              have HI := Lib.hid hI
              have hlo := hI.lo
              clear hg hext hN hI
              rcases hlo with ⟨rfl, hno⟩ | ⟨h0, h1, hex, hD⟩
              · have HNO := Lib.hid hno
                clear hno
                go_wp2
                go_quiet (fail)
                go_wp2
                go_ret
                exact ⟨_, m, n, -1, ch3, ix3, F3, rfl, hFr.drewN _, HI.out.drewN HG.out _, HX.out, HQ.out.1, HQ.out.2, Or.inl ⟨rfl, HN.out, rfl, Or.inl rfl, fun a ha => HG.out.D0 a _ ha (Or.inl (HNO.out a ha))⟩⟩
              · have HDD := Lib.hid hD
                have HEX := Lib.hid hex
                clear hD hex
                obtain ⟨a, rfl⟩ := Int.eq_ofNat_of_zero_le h0
                by_cases ha : a < n
                ·
                  have hfl := HG.out.fld a ha
                  have HKD := Lib.hid (HG.out.kd a ha)
                  have HD0 := Lib.hid (fun F => HG.out.D0 a F ha)
                  have HGS := Lib.hid (HG.out.gs a ha)
                  obtain ⟨d, hd⟩ : ∃ d, fs a = d := ⟨_, rfl⟩
                  obtain ⟨kt, hkt⟩ : ∃ kt, kT a = kt := ⟨_, rfl⟩
                  obtain ⟨kk, hkk⟩ : ∃ kk, kK a = kk := ⟨_, rfl⟩
                  rw [hd] at hfl
                  rw [hd, hkt, hkk] at HKD HGS
                  rw [hd, hkk] at HD0
                  clear hd hkt hkk
                  cases d with | mk nm pk t tg off emb exp vis key k i f
                  dsimp only at hfl HKD HD0 HGS
                  go_wp2
                  go_quiet (fail)
                  go_wp2
                  generalize hgw : wr.drewN _ = w2
                  have hF2 : Fr B w w2 := by rw [← hgw]; exact hFr.drewN _
                  have hI2 : Pre B s T n fs tab D I (some m) n a ch3 ix3 F3 w2 := by rw [← hgw]; exact HI.out.drewN HG.out _
                  clear hgw hp hs hslt HI hFr
                  have hp := hI2.sd.plain
                  have hs := hI2.sd.cells
                  have hslt := hI2.sd.lt
                  have HI := Lib.hid hI2
                  clear hI2
                  go_cut [16] from 157 to 223 (fun x wx => ∃ fb ib, x = .pointer (some ⟨fb, 0, none⟩) ∧ Fld wx fb ib a #[.string nm, .string pk, .iface 105 (.pointer (some ⟨4, t, none⟩)), .string tg, .int .u64 off, .slice (some ⟨ib, 0, none⟩) 1 1, .bool emb] ∧ Pre B s T n fs tab D I (some m) n a ch3 ix3 F3 wx ∧ Fr B w wx)
                  case first =>
                    go_region
                    all_goals
                      go_wp2
                      go_meet
                    case rel => exact ⟨_, _, rfl, (fld_a _ _ _).drew, ((HI.out.alloc HG.out _).alloc HG.out _).drew HG.out, ((hF2.alloc _).alloc _).drew⟩
                    case rel => exact ⟨_, _, rfl, (fld_b _ _ _).drew, ((HI.out.alloc HG.out _).alloc HG.out _).drew HG.out, ((hF2.alloc _).alloc _).drew⟩
                  case rest =>
                    obtain ⟨fb, ib, rfl, hfl2, hI3, hF3⟩ := hcut
                    clear hp hs hslt HI hF2 hfl
                    have hp := hI3.sd.plain
                    have hs := hI3.sd.cells
                    have hslt := hI3.sd.lt
                    have hfp := hfl2.plain
                    have hfc := hfl2.cells
                    have hfz : (cellsAt wc fb).size = 7 := by rw [hfc]; rfl
                    have hsf := hfl2.ne hI3.sd
                    have HI := Lib.hid hI3
                    have HL2 := Lib.hid hfl2
                    clear hI3 hfl2
                    cases emb with
                    | false =>
                      go_wp2
                      go_roundg ((n : Int) - ((a : Int) + 1)).toNat
                      case measure => (have := HG1.out; omega)
                      case rel => exact ⟨(a : Int) + 1, ch3, ix3, F3, rfl, HI.out.setA HG.out (Or.inr ⟨by omega, by omega, HEX.out, fun b hb => Dstep HDD.out (HD0.out F3 (by simp)) b hb⟩), HN.out, hF3.trans ((Fr.refl B wc HI.out.low).setOld (p := ⟨s, 4, none⟩) HG.out.Bs HI.out.sd.loose _), HX.out⟩
                    | true =>
                      obtain ⟨k0, b0, hk0, htk⟩ := HKD.out (by simp)
                      have HTK := Lib.hid htk
                      clear htk
                      go_wp2
                      go_quiet ((go_at_call 48; exact Calls.quiet_of_same (HTK.out _)))
                      generalize hgw : wc.drewN _ = w2
                      have hF2 : Fr B w w2 := by rw [← hgw]; exact hF3.drewN _
                      have hI2 : Pre B s T n fs tab D I (some m) n a ch3 ix3 F3 w2 := by rw [← hgw]; exact HI.out.drewN HG.out _
                      have hL2 : Fld w2 fb ib a #[.string nm, .string pk, .iface 105 (.pointer (some ⟨4, t, none⟩)), .string tg, .int .u64 off, .slice (some ⟨ib, 0, none⟩) 1 1, .bool true] := by rw [← hgw]; exact HL2.out
                      clear hgw hp hs hslt hfp hfc hfz hsf HI HL2 hF3
                      have hp := hI2.sd.plain
                      have hs := hI2.sd.cells
                      have hslt := hI2.sd.lt
                      have HI := Lib.hid hI2
                      have HL2 := Lib.hid hL2
                      clear hI2 hL2
                      by_cases hk : kk = 25
                      · subst hk
                        go_wp2_with (first | (go_at_call 33; ((with_reducible refine (HGS.out (by simp) (by simp) F3 ch3 ix3 m _ HI.out.ret HI.out.fm.2.lt HI.out.sd.lt).mono ?_); rintro e w4 ⟨td, sd, rfl, hF4, hsm4, hT4, hI4⟩; have hP4 := HI.out.calls (sd := sd) hF4 hsm4 hI4; have hL4 := (HL2.out.call (k := 0) hF4); have hF5 : Fr B w w4 := hF2.trans hF4; clear hp hs hslt hF4 hsm4 hI4 hF2; have hfp := hL4.plain; have hfc := hL4.cells; have hfz : (cellsAt w4 fb).size = 7 := (by rw [hfc]; rfl); have htp : Plain w4 td := ⟨_, _, hT4⟩; have htc := cellsAt_of hT4; have HL4 := Lib.hid hL4; have HP4 := Lib.hid hP4; clear hL4 hP4 hT4)) | (go_at_call 47; ((with_reducible refine (HG.out.fe a sd F3 ch3 ix3 _ m a name _ ha HP4.out.re HP4.out.fm.1 HP4.out.sd HP4.out.fm.2 HP4.out.so HN.out HP4.out.has HL4.out.ix).mono ?_); rintro e w5 ⟨r, F5, rfl, hF7, hS7, hM7, hO7, hx7, hI7, hr7⟩; have HQ7 := Lib.hid (And.intro hF7 (And.intro hS7 (And.intro hM7 (And.intro hO7 (And.intro hx7 hI7))))); have hp := hS7.plain; have hs := hS7.cells; have hslt := hS7.lt; clear hF7 hS7 hM7 hO7 hx7 hI7 hfp hfc hfz htp htc; rcases hr7 with ⟨rfl, hn7, hd7⟩ | ⟨q, rfl, hq7⟩)))
                        · obtain ⟨hF7, hS7, hM7, hO7, hx7, hI7⟩ := HQ7.out
                          have hP7 := HP4.out.fe HG.out HI.out hS7 hM7 hO7 hx7 hI7
                          go_roundg ((n : Int) - ((a : Int) + 1)).toNat
                          case measure => (have := HG1.out; omega)
                          case rel => exact ⟨(a : Int) + 1, _, _, F5, rfl, hP7.setA HG.out (Or.inr ⟨by omega, by omega, HEX.out, fun b hb => Dstep (fun b hb => HG.out.Dm _ _ _ (HDD.out b hb) hx7) hd7 b hb⟩), hn7, (hF5.trans hF7).trans ((Fr.refl B w5 hP7.low).setOld (p := ⟨s, 4, none⟩) HG.out.Bs hP7.sd.loose _), fun x hx => hx7 x (HX.out x hx)⟩
                        · go_ret
                          obtain ⟨hF7, hS7, hM7, hO7, hx7, hI7⟩ := HQ7.out
                          exact ⟨_, m, n, a, _, _, F5, rfl, hF5.trans hF7, HP4.out.fe HG.out HI.out hS7 hM7 hO7 hx7 hI7, fun x hx => hx7 x (HX.out x hx), HQ.out.1, HQ.out.2, Or.inr ⟨q, rfl, hq7, Or.inr (Or.inr (fun h => by cases h))⟩⟩
                      · have hk2 : (kk == 25) = false := by simpa using hk
                        go_wp2
                        go_roundg ((n : Int) - ((a : Int) + 1)).toNat
                        case measure => (have := HG1.out; omega)
                        case rel => exact ⟨(a : Int) + 1, ch3, ix3, F3, rfl, HI.out.setA HG.out (Or.inr ⟨by omega, by omega, HEX.out, fun b hb => Dstep HDD.out (HD0.out F3 (Or.inr hk)) b hb⟩), HN.out, hF2.trans ((Fr.refl B w2 HI.out.low).setOld (p := ⟨s, 4, none⟩) HG.out.Bs HI.out.sd.loose _), HX.out⟩
                · go_wp2
                  go_quiet (fail)
                  go_wp2
                  go_ret
                  exact ⟨_, m, n, a, ch3, ix3, F3, rfl, hFr.drewN _, HI.out.drewN HG.out _, HX.out, HQ.out.1, HQ.out.2, Or.inl ⟨rfl, HN.out, rfl, Or.inr (by omega), fun b hb => HDD.out b (by omega)⟩⟩
    · go_ret
      exact ⟨_, m, own, an, ch, ix, F, rfl, HR.out.drewN k, HM.out.drewN HG.out k, fun _ h => h, HQ.out.1, HQ.out.2, Or.inl ⟨rfl, HF.out, h1, Or.inr h2, fun a ha => by
        rcases HM.out.lo with ⟨h3, _⟩ | ⟨_, _, _, h3⟩
        · omega
        · exact h3 a (by omega)⟩⟩
end Go.Proofs.YtpnifkpnapoeoaaGreatDoorBesrefl
