/-
  findInEmbedded, over whatever struct type without embedded fields. No condition.
-/
import Derived.Test.YtdpgbmmgeooahaaGreatDoorBesreflG2
import Derived.StillTailTactics
import Derived.Deep.RegionHeld3
import Derived.Deep.RegionLaw
import Derived.Deep.RegionLawGrows
import Derived.Deep.AppendLies
import Derived.Deep.Cut
import Derived.Deep.CutRange
import Derived.Deep.RegionWith
import Derived.Lib.Hide
import Derived.Deep.LoopGhost
import Derived.Deep.DeepCutAuto
import Derived.Defers
import Derived.Maps.Range
namespace Go.Proofs.YtdpgbmmgeooahaaGreatDoorBesrefl
open Go.RowKit
set_option maxRecDepth 100000
set_option maxHeartbeats 1000000
set_option linter.unusedVariables false
/-- what the model says of a struct type -/
structure TyFacts (T n : Nat) (fs : Nat → Fd) : Prop where
  n0 : 0 < n
  n64 : n ≤ 64
  fld : ∀ j : Nat, j < n → ∀ w : World, (callFunc 160 #[.pointer (some ⟨4, T, none⟩), .int .i64 j]).run Tryz.prog w = .ok (.value (.agg (frec (fs j) (.slice (some ⟨w.heap.size, 0, none⟩) 1 1)))) (w.alloc (.cells #[.int .i64 j] 3 (0, 1)))
  iex : ∀ j, j < n → ∀ (ix : Value) (w : World), (callFunc 51 #[.agg (frec (fs j) ix)]).run Tryz.prog w = .ok (.value (.bool (fs j).exp)) w
  fnm : ∀ j, j < n → (fs j).exp = true → ∀ w : World, Calls Tryz.prog 52 #[.string (fs j).nm, .string (fs j).tg] w fun e w' => e = .returned (.tuple #[.string (fs j).key, .bool (fs j).vis]) ∧ ∃ m, w' = w.drewN m
  key : ∀ j, j < n → (fs j).vis = true → (fs j).key.toList.isEmpty = false
  mkm : ∀ w : World, (Instr.makeMap 89 (some (.int .i64 n))).run Tryz.prog w = .ok (.map (some w.heap.size)) (w.alloc (.map #[] 0))
/-- a struct type without embedded fields, and its table -/
structure LeafFacts (T n : Nat) (fs : Nat → Fd) (tab : ByteArray → Option Ent) : Prop extends TyFacts T n fs where
  tk : ∀ j : Nat, j < n → (fs j).exp = true → (fs j).vis = true → tab (fs j).key = some ⟨(fs j).t, (fs j).k, (fs j).i, (fs j).f, [(j : Int)]⟩
  emb : ∀ j, j < n → (fs j).emb = false
  ft : ∀ j, j < n → (fs j).exp = true → (fs j).vis = true → ∀ (c : Option Addr) (w : World), Calls Tryz.prog 35 #[.pointer c, .iface 105 (.pointer (some ⟨4, (fs j).t, none⟩))] w fun e w' =>
    e = .returned (.agg (natc (fs j).t (fs j).k none (fs j).i (fs j).f)) ∧ w.alloc (.cells (natc (fs j).t (fs j).k none (fs j).i (fs j).f) 48) = w'
  rng : ∀ x E, tab x = some E → ∃ j, j < n ∧ (fs j).exp = true ∧ (fs j).vis = true ∧ (fs j).key = x
  zs : ∀ x E, tab x = some E → E.zs ≠ [] ∧ E.zs.length ≤ 9
/-- the rest of the memory, as a lookup in an embedded struct sees it -/
structure RestOk (B : Nat) (kt : ByteArray → Option Ent) (R : (ByteArray → Option Value) → List Nat → World → Prop) : Prop where
  add : ∀ G X w x v, R G X w → kt x ≠ none → R (plus G x v) X w
  fr : ∀ G X w u, R G X w → Fr B w u → (∀ b, b < w.heap.size → b ∉ X → u.heap[b]? = w.heap[b]?) → R G X u
  new : ∀ G X w x, R G X w → w.heap.size ≤ x → R G (x :: X) w
  anti : ∀ G X Y w, R G X w → (∀ y ∈ Y, y ∈ X) → R G Y w
/-- the memory beside a child, while the child is looked into: the parent s and the rest -/
def LeafI (s T m : Nat) (n own an : Int) (cp : Option Addr) (ixv : Value) (zs : List Int) (ptab : ByteArray → Option Ent) (F0 : ByteArray → Option Value) (R : (ByteArray → Option Value) → List Nat → World → Prop) :
    (ByteArray → Option Value) → Option Addr → Value → Option (Nat × Nat) → List Nat → World → Prop := fun Fk ch _ pd X w =>
  ch = none ∧ pd = none ∧ ∃ G, SD w s (sdc T (some m) n own an none cp ixv) ∧ MapIs w m G ∧ Sound w G ptab ∧ (∀ x, G x ≠ none ↔ (F0 x ≠ none ∨ Fk x ≠ none)) ∧ Ix w ixv zs true ∧ s ∉ X ∧ m ∉ X ∧ R G (m :: s :: X) w
theorem leafGen {B c s cb T m Tc nc : Nat} {n own an : Int} {cp : Option Addr} {ixv : Value} {zs : List Int} {fc : Nat → Fd} {tabc ptab : ByteArray → Option Ent} {F0 : ByteArray → Option Value} {R : (ByteArray → Option Value) → List Nat → World → Prop}
    (L : LeafFacts Tc nc fc tabc) (RO : RestOk B tabc R) (hBc : B ≤ c) (hBm : B ≤ m) (hBs : B ≤ s) (hlen : zs.length ≤ 90000)
    (hcomp : ∀ x E, tabc x = some E → F0 x ≠ none ∨ ptab x = some ⟨E.t, E.k, E.i, E.f, zs ++ E.zs⟩) :
    Gen B c cb Tc nc fc tabc (fun _ => 0) (fun _ => 0) (fun _ _ => True) (pt s) (LeafI s T m n own an cp ixv zs ptab F0 R) where
  n0 := L.n0
  n64 := L.n64
  Bs := hBc
  fld := L.fld
  iex := L.iex
  fnm := L.fnm
  key := L.key
  mkm := L.mkm
  tk := L.tk
  add := fun h => by cases h
  fr := by
    rintro F ch ix pd X w u ⟨h1, h2, G, hS, hM, hSo, hx, hIx, hs, hm, hR⟩ hf hb
    exact ⟨h1, h2, G, (hb s hS.lt hs).trans hS, hM.heap (hb m hM.lt hm), hSo.carry hf, hx, hIx.carry hf, hs, hm, RO.fr _ _ _ _ hR hf (fun b hl hn => hb b hl (fun h => hn (by simp [h])))⟩
  new := by
    rintro F ch ix pd X w x ⟨h1, h2, G, hS, hM, hSo, hxx, hIx, hs, hm, hR⟩ hx
    have l1 := hS.lt
    have l2 := hM.lt
    refine ⟨h1, h2, G, hS, hM, hSo, hxx, hIx, fun h => ?_, fun h => ?_, RO.anti _ _ _ _ (RO.new _ _ _ _ hR hx) (fun y hy => ?_)⟩
    · rcases List.mem_cons.1 h with h | h
      · omega
      · exact hs h
    · rcases List.mem_cons.1 h with h | h
      · omega
      · exact hm h
    · simp only [List.mem_cons] at hy ⊢
      rcases hy with h | h | h | h
      · exact Or.inr (Or.inl h)
      · exact Or.inr (Or.inr (Or.inl h))
      · exact Or.inl h
      · exact Or.inr (Or.inr (Or.inr h))
  ft := by
    rintro j hj he hv F ch ix m' w ⟨h1, h2, G, hS, hM, hSo, hxx, hIx, hs, hm, hR⟩ _ _
    refine (L.ft j hj he hv (pt cb) w).mono ?_
    rintro e w' ⟨rfl, rfl⟩
    have hf : Fr B w (w.alloc (.cells (natc (fc j).t (fc j).k none (fc j).i (fc j).f) 48)) := (Fr.refl B w (Nat.le_trans hBs (Nat.le_of_lt hS.lt))).alloc _
    exact ⟨none, rfl, hf, fun x _ hl => Below.heap_alloc w _ x hl, h1, h2, G, hS.alloc _, hM.alloc _, hSo.carry hf, hxx, hIx.carry hf, hs, hm, RO.fr _ _ _ _ hR hf (fun b hl _ => Below.heap_alloc w _ b hl)⟩
  ts := by
    rintro p hp key q E td F ch ix m' w ⟨h1, h2, G, hS, hM, hSo, hxx, hIx, hs, hm, hR⟩ hE hQ
    obtain rfl : p = ⟨s, 0, none⟩ := by cases hp; rfl
    have hk0 : tabc key ≠ none := by rw [hE]; exact fun h => by cases h
    have hiff : ∀ (v v' : Value) (H : ByteArray → Option Value), (∀ x, H x ≠ none ↔ (G x ≠ none ∨ key = x)) → ∀ x, H x ≠ none ↔ (F0 x ≠ none ∨ plus F key v x ≠ none) := by
      intro v v' H hH x
      rw [hH, hxx]
      unfold plus
      by_cases e : key = x
      · subst e
        rw [if_pos ((ba_iff _ _).2 rfl)]
        simp
      · rw [if_neg (fun h => e ((ba_iff _ _).1 h))]
        simp [e]
    by_cases hk : G key = none
    · refine (ts_miss s T m n own an cp ixv G key q E.t E.k td E.i E.f zs E.zs B w hS hM hk hIx hQ (L.zs _ _ hE).1 (by have := (L.zs _ _ hE).2; omega) hBm (Nat.le_trans hBs (Nat.le_of_lt hS.lt))).mono ?_
      rintro e w' ⟨rfl, p, hF', hS', hM', hO', hQ'⟩
      have hc : ptab key = some ⟨E.t, E.k, E.i, E.f, zs ++ E.zs⟩ := by
        rcases hcomp key E hE with h | h
        · exact absurd ((hxx key).2 (Or.inl h)) (by rw [hk]; simp)
        · exact h
      refine ⟨rfl, hF', fun x hx hl => hO' x hl (fun e => hm (by rw [← e]; exact hx)), h1, h2, plus G key (.pointer (pt p)), hS', hM', (hSo.carry hF').set hc hQ', hiff _ (.pointer none) _ (fun x => ?_), hIx.carry hF', hs, hm, RO.add _ _ _ _ _ (RO.fr _ _ _ _ hR hF' (fun b hl hn => hO' b hl (fun e => hn (by simp [e])))) hk0⟩
      unfold plus
      by_cases e : key = x
      · subst e
        rw [if_pos ((ba_iff _ _).2 rfl)]
        simp
      · rw [if_neg (fun h => e ((ba_iff _ _).1 h))]
        simp [e]
    · obtain ⟨v, hv⟩ : ∃ v, G key = some v := by
        cases h : G key with
        | none => exact absurd h hk
        | some v => exact ⟨v, rfl⟩
      refine (ts_hit s T m n own an cp ixv G key (.pointer (pt q)) v w hS hM hv).mono ?_
      rintro e w' ⟨rfl, rfl⟩
      refine ⟨rfl, Fr.refl B w (Nat.le_trans hBs (Nat.le_of_lt hS.lt)), fun _ _ _ => rfl, h1, h2, G, hS, hM, hSo, hiff _ (.pointer none) _ (fun x => ?_), hIx, hs, hm, hR⟩
      exact ⟨Or.inl, fun h => h.elim id (fun e => by rw [← e]; exact hk)⟩
  kd := fun j hj h => by rw [L.emb j hj] at h; cases h
  D0 := fun _ _ _ _ => trivial
  Dm := fun _ _ _ _ _ => trivial
  gs := fun j hj h => by rw [L.emb j hj] at h; cases h
  fe := fun j sd F ch ix ixv m an name w hj h => by obtain ⟨_, h2, _⟩ := h; cases h2
  re := fun c F ix m an name w h => by obtain ⟨h1, _⟩ := h; cases h1
/-- where a struct without embedded fields stands between two calls -/
structure Kst (B c T n : Nat) (fs : Nat → Fd) (tab : ByteArray → Option Ent) (mo : Option Nat) (own : Nat) (ix : Value) (F : ByteArray → Option Value) (w : World) : Prop where
  sd : SD w c (sdc T mo n own (-1) none none ix)
  le : own ≤ n
  fm : match mo with | some m => B ≤ m ∧ MapIs w m F | none => F = fun _ => none
  so : Sound w F tab
  has : ∀ j, j < own → (fs j).exp = true → (fs j).vis = true → F (fs j).key ≠ none
theorem Kst.fr {B c T n : Nat} {fs : Nat → Fd} {tab : ByteArray → Option Ent} {mo : Option Nat} {own : Nat} {ix : Value} {F : ByteArray → Option Value} {w u : World} (h : Kst B c T n fs tab mo own ix F w) (hf : Fr B w u) (hc : u.heap[c]? = w.heap[c]?) (hm : ∀ q, mo = some q → u.heap[q]? = w.heap[q]?) : Kst B c T n fs tab mo own ix F u := by
  refine ⟨hc.trans h.sd, h.le, ?_, h.so.carry hf, h.has⟩
  have h1 := h.fm
  cases mo with
  | none => exact h1
  | some q => exact ⟨h1.1, h1.2.heap (hm q rfl)⟩
theorem Kst.mlt {B c T n : Nat} {fs : Nat → Fd} {tab : ByteArray → Option Ent} {mo : Option Nat} {own : Nat} {ix : Value} {F : ByteArray → Option Value} {w : World} (h : Kst B c T n fs tab mo own ix F w) {q : Nat} (hq : mo = some q) : q < w.heap.size := by
  subst hq
  exact h.fm.2.lt
theorem Kst.map {B c T n : Nat} {fs : Nat → Fd} {tab : ByteArray → Option Ent} {mo : Option Nat} {own : Nat} {ix : Value} {F : ByteArray → Option Value} {w : World} (h : Kst B c T n fs tab mo own ix F w) {q : Nat} (hq : mo = some q) : MapIs w q F := by
  subst hq
  exact h.fm.2
/-- the whole of structField -/
theorem sf_gen {B s cb T n : Nat} {fs : Nat → Fd} {tab : ByteArray → Option Ent} {kT : Nat → Nat} {kK : Nat → Int} {D : Nat → (ByteArray → Option Value) → Prop} {par : Option Addr}
    {I : (ByteArray → Option Value) → Option Addr → Value → Option (Nat × Nat) → List Nat → World → Prop} (H : Gen B s cb T n fs tab kT kK D par I)
    (mo : Option Nat) (own : Nat) (an : Int) (ch : Option Addr) (ix : Value) (F : ByteArray → Option Value) (name : ByteArray) (w : World) (hP : Pre B s T n fs tab D I mo own an ch ix F w) (hBw : B ≤ w.heap.size) :
    Calls Tryz.prog 39 #[.pointer (pt s), .pointer (pt cb), .pointer par, .string name] w (Post B s T n fs tab D I mo own an F name w) := by
  cases hF : F name with
  | none => exact sf_miss H mo own an ch ix F name w hP hF hBw
  | some v =>
    obtain ⟨p, td, E, rfl, _, _⟩ := hP.so name v hF
    cases mo with
    | none =>
      have h := hP.fm
      rw [show F = fun _ => none from h] at hF
      cases hF
    | some m =>
      refine (sf_hit s T m p n own an none ch ix F (pt cb) par name w hP.sd hP.fm.2 hF).mono ?_
      rintro e w' ⟨rfl, rfl⟩
      exact ⟨_, m, own, an, ch, ix, F, rfl, Fr.refl B w hBw, hP, fun _ h => h, fun q h => (by cases h; rfl), fun h => (by cases h), Or.inr ⟨p, rfl, hF, Or.inl ⟨rfl, rfl⟩⟩⟩
theorem fin_leaf {c T n own : Nat} {mo : Option Nat} {ix : Value} {w : World} (h : SD w c (sdc T mo n own (-1) none none ix)) :
    Calls Tryz.prog 45 #[.pointer (pt c)] w fun e w' => e = .returned (.bool false) ∧ ∃ k, w' = w.drewN k := by
  by_cases h1 : (own : Int) < n
  · exact fin_a _ _ _ _ _ _ _ _ _ _ h h1
  · exact fin_b _ _ _ _ _ _ _ _ _ _ h (by omega) (by omega)
/-- a box that holds a pointer to a structData -/
def Bx (w : World) (b a : Nat) : Prop := w.heap[b]? = some (.cells #[.pointer (pt a)] 60 (0, 0))
theorem Bx.plain {w : World} {b a : Nat} (h : Bx w b a) : Plain w b := ⟨_, _, h⟩
theorem Bx.cells {w : World} {b a : Nat} (h : Bx w b a) : cellsAt w b = #[.pointer (pt a)] := cellsAt_of h
theorem Bx.lt {w : World} {b a : Nat} (h : Bx w b a) : b < w.heap.size := h.plain.lt
theorem Bx.ne {w : World} {b a s : Nat} {c : Array Value} (h : Bx w b a) (hS : SD w s c) : b ≠ s := by
  rintro rfl
  rw [SD, h] at hS
  cases hS
theorem Bx.ne2 {w : World} {b a m : Nat} {F : ByteArray → Option Value} (h : Bx w b a) (hM : MapIs w m F) : b ≠ m := by
  rintro rfl
  obtain ⟨es, cl, h1, _⟩ := hM
  have := mapAt_some h1
  rw [h] at this
  cases this
theorem SD.off {w : World} {c s i : Nat} {x : Array Value} (h : SD w c x) (hne : c ≠ s) (v : Value) : SD (w.setCell ⟨s, i, none⟩ v) c x := (Below.heap_setCell _ _ _ _ hne).trans h
theorem fe1 (b6 b9 s c T Tc nc oc : Nat) (m mo : Option Nat) (n own an : Int) (par ch : Option Addr) (ixv ixc : Value) (u : FrameMode) (w : World) (h6 : Bx w b6 s) (h9 : Bx w b9 c)
    (hS : SD w s (sdc T m n own an par ch ixv)) (hC : SD w c (sdc Tc mo nc oc (-1) none none ixc)) (hcs : c ≠ s) :
    CallsD Tryz.prog 54 #[.pointer (pt b6), .pointer (pt b9)] u w fun e u' w' => u' = u ∧ e = .returned (.tuple #[]) ∧ ∃ k, w' = (w.setCell ⟨s, 5, none⟩ (.pointer none)).drewN k := by
  have p6 := h6.plain
  have c6 := h6.cells
  have p9 := h9.plain
  have c9 := h9.cells
  have n6 := h6.ne hS
  have n9 := h9.ne hS
  have hp := hS.plain
  have hs := hS.cells
  have HC := Lib.hid (hC.off (i := 5) hcs (.pointer none))
  clear h6 h9 hS hC
  go_enter_d Tryz.func54, Tryz.ntmps54
  go_wp2_with (go_at_call 45; ((with_reducible refine (fin_leaf HC.out).mono ?_); rintro e w' ⟨rfl, k, rfl⟩))
  go_end0
  exact ⟨rfl, k, rfl⟩
theorem range_at (w : World) (mc : Nat) (es : Array MapEntry) (cl : Nat) (h : mapAt w mc = some (es, cl)) : (Instr.range 89 (.map (some mc))).run Tryz.prog w = .ok (.pointer (some ⟨w.heap.size, 0, none⟩)) (w.alloc (.mapIter (some mc) cl #[] cl)) :=
  run_range_map w 89 _ _ mc es cl Tryz.underlying89 (mapAt_some h)
theorem range_nil (w : World) : (Instr.range 89 (.map none)).run Tryz.prog w = .ok (.pointer (some ⟨w.heap.size, 0, none⟩)) (w.alloc (.mapIter none 0 #[] 0)) :=
  run_range_nilMap w 89 _ _ Tryz.underlying89
/-- the state inside findInEmbedded: b6 = b and b9 = b + 1 are the boxes -/
structure FeS (B s c T m Tc nc : Nat) (fc : Nat → Fd) (tabc ptab : ByteArray → Option Ent) (R : (ByteArray → Option Value) → List Nat → World → Prop) (n own an : Int) (ixv : Value) (zs : List Int) (F : ByteArray → Option Value) (mo : Option Nat) (oc : Nat) (ixc : Value) (Fc : ByteArray → Option Value) (b : Nat) (w u : World) : Prop where
  f : Fr B w u
  sd : SD u s (sdc T (some m) n own an none (pt c) ixv)
  mp : MapIs u m F
  so : Sound u F ptab
  ix : Ix u ixv zs true
  k : Kst B c Tc nc fc tabc mo oc ixc Fc u
  r : R F (mo.toList ++ [c, m, s]) u
  b6 : Bx u b s
  b9 : Bx u (b + 1) c
section
variable {B s c T m Tc nc b : Nat} {fc : Nat → Fd} {tabc ptab : ByteArray → Option Ent} {R : (ByteArray → Option Value) → List Nat → World → Prop} {n own an : Int} {ixv : Value} {zs : List Int} {F : ByteArray → Option Value} {mo : Option Nat} {oc : Nat} {ixc : Value} {Fc : ByteArray → Option Value} {w u v : World}
theorem FeS.mv (h : FeS B s c T m Tc nc fc tabc ptab R n own an ixv zs F mo oc ixc Fc b w u) (RO : RestOk B tabc R) (hf : Fr B u v) (hb : ∀ k, k < u.heap.size → v.heap[k]? = u.heap[k]?) : FeS B s c T m Tc nc fc tabc ptab R n own an ixv zs F mo oc ixc Fc b w v :=
  ⟨h.f.trans hf, (hb s h.sd.lt).trans h.sd, h.mp.heap (hb m h.mp.lt), h.so.carry hf, h.ix.carry hf, h.k.fr hf (hb c h.k.sd.lt) (fun q hq => hb q (h.k.mlt hq)), RO.fr _ _ _ _ h.r hf (fun k hk _ => hb k hk), (hb _ h.b6.lt).trans h.b6, (hb _ h.b9.lt).trans h.b9⟩
theorem FeS.dr (h : FeS B s c T m Tc nc fc tabc ptab R n own an ixv zs F mo oc ixc Fc b w u) (RO : RestOk B tabc R) (k : Nat) : FeS B s c T m Tc nc fc tabc ptab R n own an ixv zs F mo oc ixc Fc b w (u.drewN k) :=
  h.mv RO ((Fr.refl B u (Nat.le_trans h.f.low h.f.grow)).drewN k) (fun _ _ => rfl)
theorem FeS.low (h : FeS B s c T m Tc nc fc tabc ptab R n own an ixv zs F mo oc ixc Fc b w u) : B ≤ u.heap.size := Nat.le_trans h.f.low h.f.grow
/-- behind the deferred call -/
theorem FeS.done (h : FeS B s c T m Tc nc fc tabc ptab R n own an ixv zs F mo oc ixc Fc b w u) (RO : RestOk B tabc R) (hBs : B ≤ s) (hcs : c ≠ s) (k : Nat) : FeS B s c T m Tc nc fc tabc ptab R n own an ixv zs F mo oc ixc Fc b w ((u.setCell ⟨s, 5, none⟩ (.pointer none)).drewN k) := by
  have hf : Fr B u ((u.setCell ⟨s, 5, none⟩ (.pointer none)).drewN k) := ((Fr.refl B u h.low).setOld (p := ⟨s, 5, none⟩) hBs h.sd.loose _).drewN k
  have ho : ∀ x, x ≠ s → ((u.setCell ⟨s, 5, none⟩ (.pointer none)).drewN k).heap[x]? = u.heap[x]? := fun x hx => Below.heap_setCell _ _ _ _ hx
  exact ⟨h.f.trans hf, h.sd.set (i := 5) (.pointer none), h.mp.heap (ho m (h.sd.ne h.mp)), h.so.carry hf, h.ix.carry hf, h.k.fr hf (ho c hcs) (fun q hq => ho q (h.sd.ne (h.k.map hq))), RO.fr _ _ _ _ h.r hf (fun x _ hx => ho x (fun e => hx (by simp [e]))), (ho _ (h.b6.ne h.sd)).trans h.b6, (ho _ (h.b9.ne h.sd)).trans h.b9⟩
theorem FeS.pre (h : FeS B s c T m Tc nc fc tabc ptab R n own an ixv zs F mo oc ixc Fc b w u) (L : LeafFacts Tc nc fc tabc) (RO : RestOk B tabc R) (hcs : c ≠ s) (hmm : mo ≠ some m) (hsub : ∀ x, Fc x ≠ none → F x ≠ none) :
    Pre B c Tc nc fc tabc (fun _ _ => True) (LeafI s T m n own an (pt c) ixv zs ptab F R) mo oc (-1) none ixc Fc u := by
  refine ⟨h.k.sd, h.k.le, (by have h1 := h.k.fm; cases mo with | none => exact h1 | some q => exact h1), h.k.so, h.k.has, Or.inl ⟨rfl, fun a ha => L.emb a (Nat.lt_of_lt_of_le ha h.k.le)⟩, rfl, rfl, F, h.sd, h.mp, h.so, fun x => ⟨Or.inl, fun hx => hx.elim id (hsub x)⟩, h.ix, fun hx => ?_, fun hx => ?_, RO.anti _ _ _ _ h.r (fun y hy => ?_)⟩
  · rcases List.mem_append.1 hx with hx | hx
    · cases mo with
      | none => cases hx
      | some q =>
        simp at hx
        subst hx
        exact h.sd.ne (h.k.map rfl) rfl
    · simp at hx
      exact hcs hx.symm
  · rcases List.mem_append.1 hx with hx | hx
    · cases mo with
      | none => cases hx
      | some q =>
        simp at hx
        subst hx
        exact hmm rfl
    · simp at hx
      subst hx
      exact h.k.sd.ne h.mp rfl
  · rcases List.mem_cons.1 hy with rfl | hy
    · simp
    · rcases List.mem_cons.1 hy with rfl | hy
      · simp
      · rcases List.mem_append.1 hy with hy | hy
        · exact List.mem_append.2 (Or.inl hy)
        · simp at hy
          subst hy
          simp
theorem preDr {D : Nat → (ByteArray → Option Value) → Prop} {I : (ByteArray → Option Value) → Option Addr → Value → Option (Nat × Nat) → List Nat → World → Prop} {m0 : Option Nat} {o0 : Nat} {a0 : Int} {ch : Option Addr} {i0 : Value} {G : ByteArray → Option Value} (h : Pre B c Tc nc fc tabc D I m0 o0 a0 ch i0 G u) (hI : ∀ k, I G ch i0 none (m0.toList ++ [c]) (u.drewN k)) (k : Nat) : Pre B c Tc nc fc tabc D I m0 o0 a0 ch i0 G (u.drewN k) := by
  refine ⟨h.sd, h.le, ?_, h.so, h.has, h.lo, hI k⟩
  have h1 := h.fm
  cases m0 with
  | none => exact h1
  | some q => exact h1
/-- behind the child's structField -/
theorem FeS.post (h : FeS B s c T m Tc nc fc tabc ptab R n own an ixv zs F mo oc ixc Fc b w u) (L : LeafFacts Tc nc fc tabc) (RO : RestOk B tabc R) {name : ByteArray} (hN : F name = none) {e : Ending}
    (hp : Post B c Tc nc fc tabc (fun _ _ => True) (LeafI s T m n own an (pt c) ixv zs ptab F R) mo oc (-1) Fc name u e v) :
    ∃ r G mc' oc' ixc' Fc', e = .returned r ∧ FeS B s c T m Tc nc fc tabc ptab R n own an ixv zs G (some mc') oc' ixc' Fc' b w v ∧ (∀ x, F x ≠ none → G x ≠ none) ∧ (∀ x, Fc' x ≠ none → G x ≠ none) ∧ mc' ≠ m ∧
      ((r = .pointer none ∧ G name = none ∧ oc' = nc) ∨ ∃ p q, r = .pointer (pt p) ∧ G name = some (.pointer (pt q)) ∧ strLook (mapAt v m) name = some (.pointer (pt q))) := by
  obtain ⟨r, mc', oc', an', ch', ix', Fc', rfl, hf, hP, _, _, _, hr⟩ := hp
  obtain ⟨rfl, _, G, hS, hM, hSo, hx, hIx, hs, hm, hR⟩ := hP.re
  have hmc : mc' ≠ m := fun e => hm (by simp [e])
  have han : an' = -1 := by
    rcases hP.lo with ⟨h1, _⟩ | ⟨_, _, ⟨a, ha, he⟩, _⟩
    · exact h1
    · rw [L.emb a ha] at he
      cases he
  subst han
  refine ⟨r, G, mc', oc', ix', Fc', rfl, ⟨h.f.trans hf, hS, hM, hSo, hIx, ⟨hP.sd, hP.le, hP.fm, hP.so, hP.has⟩, RO.anti _ _ _ _ hR (fun y hy => ?_), hf.kept _ _ h.b6 rfl, hf.kept _ _ h.b9 rfl⟩, fun x h => (hx x).2 (Or.inl h), fun x h => (hx x).2 (Or.inr h), hmc, ?_⟩
  · simp only [Option.toList, List.singleton_append, List.mem_cons, List.not_mem_nil, or_false] at hy ⊢
    rcases hy with h | h | h | h
    · exact Or.inr (Or.inr (Or.inl h))
    · exact Or.inr (Or.inr (Or.inr h))
    · exact Or.inl h
    · exact Or.inr (Or.inl h)
  · rcases hr with ⟨rfl, hn, ho, _⟩ | ⟨p, rfl, hp, _⟩
    · refine Or.inl ⟨rfl, ?_, ho⟩
      cases hG : G name with
      | none => rfl
      | some v =>
        rcases (hx name).1 (by rw [hG]; exact fun h => by cases h) with h | h
        · exact absurd hN h
        · exact absurd hn h
    · right
      cases hG : G name with
      | none => exact absurd hG ((hx name).2 (Or.inr (by rw [hp]; exact fun h => by cases h)))
      | some v =>
        obtain ⟨q, _, _, rfl, _⟩ := hSo name v hG
        exact ⟨p, q, rfl, rfl, (hM.look name).trans hG⟩
end
set_option maxHeartbeats 40000000 in
theorem fe_kid {B s cb T m c Tc nc : Nat} {fc : Nat → Fd} {tabc ptab : ByteArray → Option Ent} {R : (ByteArray → Option Value) → List Nat → World → Prop} (L : LeafFacts Tc nc fc tabc) (RO : RestOk B tabc R)
    (n own an : Int) (ch0 : Option Addr) (ix0 ixv : Value) (zs : List Int) (F : ByteArray → Option Value) (name : ByteArray) (mo : Option Nat) (oc : Nat) (ixc : Value) (Fc : ByteArray → Option Value) (w : World)
    (hBs : B ≤ s) (hBm : B ≤ m) (hBc : B ≤ c) (hlen : zs.length ≤ 90000) (hcomp : ∀ x E, tabc x = some E → F x ≠ none ∨ ptab x = some ⟨E.t, E.k, E.i, E.f, zs ++ E.zs⟩)
    (hS : SD w s (sdc T (some m) n own an none ch0 ix0)) (hM : MapIs w m F) (hSo : Sound w F ptab) (hIx : Ix w ixv zs true) (hK : Kst B c Tc nc fc tabc mo oc ixc Fc w) (hsub : ∀ x, Fc x ≠ none → F x ≠ none)
    (hcs : c ≠ s) (hmm : mo ≠ some m) (hR : R F (mo.toList ++ [c, m, s]) w) :
    Calls Tryz.prog 43 #[.pointer (pt s), .pointer (pt cb), .pointer none, .pointer (pt c), ixv, .string name] w fun e w' =>
      ∃ r F' mo' oc' ixc' Fc', e = .returned r ∧ Fr B w w' ∧ SD w' s (sdc T (some m) n own an none (pt c) ixv) ∧ MapIs w' m F' ∧ Sound w' F' ptab ∧ (∀ x, F x ≠ none → F' x ≠ none) ∧ Kst B c Tc nc fc tabc mo' oc' ixc' Fc' w' ∧ (∀ x, Fc' x ≠ none → F' x ≠ none) ∧ mo' ≠ some m ∧
        R F' (mo'.toList ++ [c, m, s]) w' ∧ ((r = .pointer none ∧ F' name = none ∧ oc' = nc) ∨ ∃ p, r = .pointer (pt p) ∧ F' name = some r) := by
  have hmf : ∀ (fn : Fn) (first cap : Array Value) (w : World), (Instr.makeFunc fn first cap).run Tryz.prog w = .ok (.func fn first cap) w := fun _ _ _ _ => rfl
  obtain ⟨ao, ln, cp, rfl⟩ : ∃ ao ln cp, ixv = Value.slice ao ln cp := by
    rcases hIx with ⟨h, _⟩ | ⟨g, cap, cur, fr, h, _⟩
    · exact ⟨_, _, _, h⟩
    · exact ⟨_, _, _, h⟩
  have hp := hS.plain
  have hs := hS.cells
  have hslt := hS.lt
  have hpc := hK.sd.plain
  have hsc := hK.sd.cells
  have hclt := hK.sd.lt
  obtain ⟨s1, s2, s3, s4⟩ := szs hslt
  obtain ⟨c1, c2, c3, c4⟩ := szs hclt
  have HS := Lib.hid hS
  have HM := Lib.hid hM
  have HK := Lib.hid hK
  clear hS hM hK
  go_enter_defers Tryz.func43, Tryz.ntmps43
  go_upto_region 5 with (fail)
  generalize hgw : World.alloc _ _ = W0
  have hO : ∀ b, b < w.heap.size → b ≠ s → W0.heap[b]? = w.heap[b]? := fun b hb hn => by
    rw [← hgw, Below.heap_alloc _ _ _ (by simp; omega), Below.heap_alloc _ _ _ (by simp; omega), Below.heap_setCell _ _ _ _ hn, Below.heap_setCell _ _ _ _ hn, Below.heap_setCell _ _ _ _ hn]
  have hF0 : Fr B w W0 := by
    rw [← hgw]
    exact (((((Fr.refl B w (Nat.le_trans hBs (Nat.le_of_lt hslt))).setOld (p := ⟨s, 5, none⟩) hBs HS.out.loose _).setOld (p := ⟨s, 6, none⟩) hBs HS.out.loose _).setOld (p := ⟨s, 7, none⟩) hBs HS.out.loose _).alloc _).alloc _
  have hS1 : SD W0 s (sdc T (some m) n own an none (pt c) (.slice ao ln cp)) := by
    rw [← hgw]
    exact ((((HS.out.set (i := 5) _).set (i := 6) _).set (i := 7) _).alloc _).alloc _
  have hsz : W0.heap.size = w.heap.size + 1 + 1 := by rw [← hgw]; simp
  have hB6 : Bx W0 w.heap.size s := by
    rw [← hgw]
    exact (Below.heap_alloc _ _ _ (by simp)).trans (sf_new _ _ _ (by simp))
  have hB9 : Bx W0 (w.heap.size + 1) c := by
    rw [← hgw]
    exact sf_new _ _ _ (by simp)
  have hM1 : MapIs W0 m F := HM.out.heap (hO m HM.out.lt (fun e => HS.out.ne HM.out e))
  have hK1 : Kst B c Tc nc fc tabc mo oc ixc Fc W0 := HK.out.fr hF0 (hO c hclt hcs) (fun q hq => hO q (HK.out.mlt hq) (fun e => HS.out.ne (HK.out.map hq) e))
  have hR1 : R F (mo.toList ++ [c, m, s]) W0 := RO.fr _ _ _ _ hR hF0 (fun b hb hn => hO b hb (fun e => hn (by simp [e])))
  have hSt : FeS B s c T m Tc nc fc tabc ptab R n own an (.slice ao ln cp) zs F mo oc ixc Fc w.heap.size w W0 := ⟨hF0, hS1, hM1, hSo.carry hF0, hIx.carry hF0, hK1, hR1, hB6, hB9⟩
  have HSt := Lib.hid hSt
  clear hgw hO hF0 hS1 hsz hB6 hB9 hM1 hK1 hR1 hSt hp hs hslt hpc hsc hclt s1 s2 s3 s4 c1 c2 c3 c4 HS HM HK hR hSo hIx
  have hp := HSt.out.sd.plain
  have hpc := HSt.out.k.sd.plain
  have hsc := HSt.out.k.sd.cells
  have p9 := HSt.out.b9.plain
  have q9 := HSt.out.b9.cells
  cases mo with
  | none =>
    have hrn := range_nil
    have hnx := fun ty => run_next_nilMap (P := Tryz.prog) W0 ty 0 0 #[]
    go_wp2
    refine wp_loop_rounds 1 ?_
    rw [rounds_succ]
    go_upto_region 9 with (fail)
    clear hrn hnx hp hpc hsc p9 q9
    generalize hgw : World.alloc W0 _ = W1
    have hSt1 : FeS B s c T m Tc nc fc tabc ptab R n own an (.slice ao ln cp) zs F none oc ixc Fc w.heap.size w W1 := by
      rw [← hgw]
      exact HSt.out.mv RO ((Fr.refl B W0 HSt.out.low).alloc _) (fun k hk => Below.heap_alloc _ _ _ hk)
    have HS1 := Lib.hid hSt1
    have hp := hSt1.sd.plain
    have hs := hSt1.sd.cells
    have p6 := hSt1.b6.plain
    have q6 := hSt1.b6.cells
    have p9 := hSt1.b9.plain
    have q9 := hSt1.b9.cells
    have hm := hSt1.mp.ok
    cases hN : F name with
    | some v0 =>
      obtain ⟨q, tq, Eq, rfl, _⟩ := hSt1.so name v0 hN
      have hl : strLook (mapAt W1 m) name = some (.pointer (pt q)) := (hSt1.mp.look name).trans hN
      have HN := Lib.hid hN
      clear hSt1 hN hgw
      go_wp2
      refine leaves_cons (f := 54) (args := #[.pointer (pt w.heap.size), .pointer (pt (w.heap.size + 1))]) (by simp) (by simp [go_sem]) ?_
      refine (fe1 w.heap.size (w.heap.size + 1) s c T Tc nc oc (some m) none n own an none (pt c) (.slice ao ln cp) ixc .returning _ HS1.out.b6 HS1.out.b9 HS1.out.sd HS1.out.k.sd hcs).mono ?_
      rintro e u' w'' ⟨rfl, rfl, k, rfl⟩
      have hD := HS1.out.done RO hBs hcs k
      exact ⟨.pointer (pt q), results_tmp (fn := Tryz.f43) (t := 12) rfl _ _ _, .pointer (pt q), F, none, oc, ixc, Fc, rfl, hD.f, hD.sd, hD.mp, hD.so, fun _ h => h, hD.k, hsub, hmm, hD.r, Or.inr ⟨q, rfl, HN.out⟩⟩
    | none =>
      have hl : strLook (mapAt W1 m) name = none := (hSt1.mp.look name).trans hN
      have HN := Lib.hid hN
      have HFI := Lib.hid (fin_leaf hSt1.k.sd)
      clear hSt1 hN hgw
      go_wp2_with (first | (go_at_call 45; ((with_reducible refine HFI.out.mono ?_); rintro e w' ⟨rfl, k0, rfl⟩)) | (go_at_call 39; ((with_reducible refine (sf_gen (leafGen (cb := cb) L RO hBc hBm hBs hlen hcomp) none oc (-1) none ixc Fc name _ ((HS1.out.dr RO k0).pre L RO hcs hmm hsub) (Nat.le_trans HS1.out.low (Nat.le_refl _))).mono ?_); rintro e w2 hpost; obtain ⟨r, G, mc', oc', ixc', Fc', rfl, hS2, hx2, hsub2, hmm2, hr2⟩ := (HS1.out.dr RO k0).post L RO HN.out hpost; have HS2 := Lib.hid hS2; have HX2 := Lib.hid (And.intro hx2 (And.intro hsub2 hmm2)); clear hpost hx2 hsub2 hmm2 hp hs p6 q6 p9 q9 hm hl; have hp := hS2.sd.plain; have hs := hS2.sd.cells; have p6 := hS2.b6.plain; have q6 := hS2.b6.cells; have p9 := hS2.b9.plain; have q9 := hS2.b9.cells; have hm := hS2.mp.ok; have HLK := Lib.hid hS2.mp.look; clear hS2; (rcases hr2 with ⟨rfl, hn2, ho2⟩ | ⟨p2, q2, rfl, hq2, hl⟩) <;> first | (have HQ2 := Lib.hid hq2; clear hq2) | (have HN2 := Lib.hid (And.intro hn2 ho2); clear hn2 ho2))))
      ·
        refine leaves_cons (f := 54) (args := #[.pointer (pt w.heap.size), .pointer (pt (w.heap.size + 1))]) (by simp) (by simp [go_sem]) ?_
        refine (fe1 w.heap.size (w.heap.size + 1) s c T Tc nc oc' (some m) (some mc') n own an none (pt c) (.slice ao ln cp) ixc' .returning _ HS2.out.b6 HS2.out.b9 HS2.out.sd HS2.out.k.sd hcs).mono ?_
        rintro e u' w'' ⟨rfl, rfl, k, rfl⟩
        have hD := HS2.out.done RO hBs hcs k
        exact ⟨.pointer none, results_tmp (fn := Tryz.f43) (t := 12) rfl _ _ _, .pointer none, G, some mc', oc', ixc', Fc', rfl, hD.f, hD.sd, hD.mp, hD.so, HX2.out.1, hD.k, HX2.out.2.1, fun e => HX2.out.2.2 (by cases e; rfl), hD.r, Or.inl ⟨rfl, HN2.out.1, HN2.out.2⟩⟩
      ·
        refine leaves_cons (f := 54) (args := #[.pointer (pt w.heap.size), .pointer (pt (w.heap.size + 1))]) (by simp) (by simp [go_sem]) ?_
        refine (fe1 w.heap.size (w.heap.size + 1) s c T Tc nc oc' (some m) (some mc') n own an none (pt c) (.slice ao ln cp) ixc' .returning _ HS2.out.b6 HS2.out.b9 HS2.out.sd HS2.out.k.sd hcs).mono ?_
        rintro e u' w'' ⟨rfl, rfl, k, rfl⟩
        have hD := HS2.out.done RO hBs hcs k
        exact ⟨.pointer (pt q2), results_tmp (fn := Tryz.f43) (t := 12) rfl _ _ _, .pointer (pt q2), G, some mc', oc', ixc', Fc', rfl, hD.f, hD.sd, hD.mp, hD.so, HX2.out.1, hD.k, HX2.out.2.1, fun e => HX2.out.2.2 (by cases e; rfl), hD.r, Or.inr ⟨q2, rfl, HQ2.out⟩⟩
  | some mc =>
    obtain ⟨es, cl, hmp, hMI, hfi⟩ := HSt.out.k.map rfl
    have hrn := range_at W0 mc es cl hmp
    go_wp2
    clear hrn hp hpc hsc p9 q9
    have hb0 := mapAt_some hmp
    have hl0 : mc < W0.heap.size := mapAt_lt hmp
    have HB := Lib.hid (And.intro hb0 (And.intro hMI hfi))
    clear hb0 hMI hfi hmp
    go_loopg [13] (leftOf es #[]).size (fun g _ wr => ∃ seen c0, g = (leftOf es seen).size ∧ cl ≤ c0 ∧ wr.heap[W0.heap.size]? = some (.mapIter (some mc) cl seen c0) ∧ (∀ b, b < W0.heap.size → wr.heap[b]? = W0.heap[b]?) ∧ Fr B W0 wr)
    case atStart => exact ⟨#[], cl, rfl, Nat.le_refl _, heap_alloc_new W0 _, fun b hb => Below.heap_alloc _ _ _ hb, (Fr.refl B W0 HSt.out.low).alloc _⟩
    case round =>
      obtain ⟨seen, c0, hg, hc0, hit, hsm, hfr⟩ := hrel
      have hStr := HSt.out.mv RO hfr hsm
      have hb1 := (hsm mc hl0).trans HB.out.1
      have HGG := Lib.hid hg
      have HSM := Lib.hid (And.intro hsm hfr)
      have HIT := Lib.hid hit
      have hnext := run_next_at (P := Tryz.prog) wr 0 W0.heap.size mc cl c0 seen es cl hit hb1 HB.out.2.1.young hc0
      have HSR := Lib.hid hStr
      clear hg hsm hfr hit hb1 hc0
      rcases hnext with ⟨h0, hrun⟩ | ⟨e, he, w1, hal, hrun⟩
      · clear h0
        have hgw0 : True := trivial
        go_upto_region 9 with (fail)
        clear hrun hgw0 hStr
        generalize hgw : wr = W1
        have hSt1 : FeS B s c T m Tc nc fc tabc ptab R n own an (.slice ao ln cp) zs F (some mc) oc ixc Fc w.heap.size w W1 := by
          rw [← hgw]
          exact HSR.out
        have HS1 := Lib.hid hSt1
        have hp := hSt1.sd.plain
        have hs := hSt1.sd.cells
        have p6 := hSt1.b6.plain
        have q6 := hSt1.b6.cells
        have p9 := hSt1.b9.plain
        have q9 := hSt1.b9.cells
        have hm := hSt1.mp.ok
        cases hN : F name with
        | some v0 =>
          obtain ⟨q, tq, Eq, rfl, _⟩ := hSt1.so name v0 hN
          have hl : strLook (mapAt W1 m) name = some (.pointer (pt q)) := (hSt1.mp.look name).trans hN
          have HN := Lib.hid hN
          clear hSt1 hN hgw
          go_wp2
          refine leaves_cons (f := 54) (args := #[.pointer (pt w.heap.size), .pointer (pt (w.heap.size + 1))]) (by simp) (by simp [go_sem]) ?_
          refine (fe1 w.heap.size (w.heap.size + 1) s c T Tc nc oc (some m) (some mc) n own an none (pt c) (.slice ao ln cp) ixc .returning _ HS1.out.b6 HS1.out.b9 HS1.out.sd HS1.out.k.sd hcs).mono ?_
          rintro e u' w'' ⟨rfl, rfl, k, rfl⟩
          have hD := HS1.out.done RO hBs hcs k
          exact ⟨.pointer (pt q), results_tmp (fn := Tryz.f43) (t := 12) rfl _ _ _, .pointer (pt q), F, (some mc), oc, ixc, Fc, rfl, hD.f, hD.sd, hD.mp, hD.so, fun _ h => h, hD.k, hsub, hmm, hD.r, Or.inr ⟨q, rfl, HN.out⟩⟩
        | none =>
          have hl : strLook (mapAt W1 m) name = none := (hSt1.mp.look name).trans hN
          have HN := Lib.hid hN
          have HFI := Lib.hid (fin_leaf hSt1.k.sd)
          clear hSt1 hN hgw
          go_wp2_with (first | (go_at_call 45; ((with_reducible refine HFI.out.mono ?_); rintro e w' ⟨rfl, k0, rfl⟩)) | (go_at_call 39; ((with_reducible refine (sf_gen (leafGen (cb := cb) L RO hBc hBm hBs hlen hcomp) (some mc) oc (-1) none ixc Fc name _ ((HS1.out.dr RO k0).pre L RO hcs hmm hsub) (Nat.le_trans HS1.out.low (Nat.le_refl _))).mono ?_); rintro e w2 hpost; obtain ⟨r, G, mc', oc', ixc', Fc', rfl, hS2, hx2, hsub2, hmm2, hr2⟩ := (HS1.out.dr RO k0).post L RO HN.out hpost; have HS2 := Lib.hid hS2; have HX2 := Lib.hid (And.intro hx2 (And.intro hsub2 hmm2)); clear hpost hx2 hsub2 hmm2 hp hs p6 q6 p9 q9 hm hl; have hp := hS2.sd.plain; have hs := hS2.sd.cells; have p6 := hS2.b6.plain; have q6 := hS2.b6.cells; have p9 := hS2.b9.plain; have q9 := hS2.b9.cells; have hm := hS2.mp.ok; have HLK := Lib.hid hS2.mp.look; clear hS2; (rcases hr2 with ⟨rfl, hn2, ho2⟩ | ⟨p2, q2, rfl, hq2, hl⟩) <;> first | (have HQ2 := Lib.hid hq2; clear hq2) | (have HN2 := Lib.hid (And.intro hn2 ho2); clear hn2 ho2))))
          ·
            refine leaves_cons (f := 54) (args := #[.pointer (pt w.heap.size), .pointer (pt (w.heap.size + 1))]) (by simp) (by simp [go_sem]) ?_
            refine (fe1 w.heap.size (w.heap.size + 1) s c T Tc nc oc' (some m) (some mc') n own an none (pt c) (.slice ao ln cp) ixc' .returning _ HS2.out.b6 HS2.out.b9 HS2.out.sd HS2.out.k.sd hcs).mono ?_
            rintro e u' w'' ⟨rfl, rfl, k, rfl⟩
            have hD := HS2.out.done RO hBs hcs k
            exact ⟨.pointer none, results_tmp (fn := Tryz.f43) (t := 12) rfl _ _ _, .pointer none, G, some mc', oc', ixc', Fc', rfl, hD.f, hD.sd, hD.mp, hD.so, HX2.out.1, hD.k, HX2.out.2.1, fun e => HX2.out.2.2 (by cases e; rfl), hD.r, Or.inl ⟨rfl, HN2.out.1, HN2.out.2⟩⟩
          ·
            refine leaves_cons (f := 54) (args := #[.pointer (pt w.heap.size), .pointer (pt (w.heap.size + 1))]) (by simp) (by simp [go_sem]) ?_
            refine (fe1 w.heap.size (w.heap.size + 1) s c T Tc nc oc' (some m) (some mc') n own an none (pt c) (.slice ao ln cp) ixc' .returning _ HS2.out.b6 HS2.out.b9 HS2.out.sd HS2.out.k.sd hcs).mono ?_
            rintro e u' w'' ⟨rfl, rfl, k, rfl⟩
            have hD := HS2.out.done RO hBs hcs k
            exact ⟨.pointer (pt q2), results_tmp (fn := Tryz.f43) (t := 12) rfl _ _ _, .pointer (pt q2), G, some mc', oc', ixc', Fc', rfl, hD.f, hD.sd, hD.mp, hD.so, HX2.out.1, hD.k, HX2.out.2.1, fun e => HX2.out.2.2 (by cases e; rfl), hD.r, Or.inr ⟨q2, rfl, HQ2.out⟩⟩
      · obtain ⟨hem, hes⟩ := mem_left he
        obtain ⟨kk, hkk⟩ := mem_allStr HB.out.2.1.str e hem
        have hfc : Fc kk = some e.val := by rw [← HB.out.2.2 kk]; exact strFind_of_mem HB.out.2.1.keys e hem hkk
        obtain ⟨pv, tv, Ev, hval, _⟩ := hStr.k.so kk e.val hfc
        obtain ⟨v2, hv2⟩ : ∃ v2, F kk = some v2 := by
          cases h : F kk with
          | none => exact absurd h (hsub kk (by rw [hfc]; exact fun h => by cases h))
          | some v2 => exact ⟨v2, rfl⟩
        obtain ⟨W2, hW2⟩ : ∃ W2, Go.ChangeMaps.setBlock w1 W0.heap.size (.mapIter (some mc) cl (seen.push e.born) cl) = W2 := ⟨_, rfl⟩
        rw [hW2, hkk, hval] at hrun
        have hr1 : w1.heap[W0.heap.size]? = some (.mapIter (some mc) cl seen c0) := by
          rcases hal with rfl | rfl
          · exact HIT.out
          · exact HIT.out
        have hset : W2.heap[W0.heap.size]? = some (.mapIter (some mc) cl (seen.push e.born) cl) ∧ ∀ k, k ≠ W0.heap.size → W2.heap[k]? = w1.heap[k]? := by
          rw [← hW2]
          exact MapKept.heap_set hr1
        have hsz1 : w1.heap.size = wr.heap.size := by rcases hal with rfl | rfl <;> rfl
        have hlt1 : W0.heap.size < w1.heap.size := (Array.getElem?_eq_some_iff.1 hr1).1
        have hsm2 : ∀ b, b < W0.heap.size → W2.heap[b]? = W0.heap[b]? := fun b hb => by
          rw [hset.2 b (by omega)]
          rcases hal with rfl | rfl
          · exact HSM.out.1 b hb
          · exact HSM.out.1 b hb
        have hfw1 : Fr B W0 w1 := by
          rcases hal with rfl | rfl
          · exact HSM.out.2
          · exact HSM.out.2.drew
        have hfr2 : Fr B W0 W2 := hfw1.other W0.heap.size HSt.out.low (fun o ho => by rw [Array.getElem?_eq_none (Nat.le_refl _)] at ho; cases ho) (by rw [← hW2]; simp [Go.ChangeMaps.setBlock]) hset.2 (by rw [← hW2]; rfl) (by rw [← hW2]; rfl) (by rw [← hW2]; rfl)
        have hS2 := HSt.out.mv RO hfr2 hsm2
        have hb2 : W2.heap[mc]? = some (.map es cl) := (hsm2 mc hl0).trans HB.out.1
        have hent := run_entry_at (P := Tryz.prog) W2 W0.heap.size mc cl seen es cl e hset.1 hb2 hem (by rw [List.nodup_iff_pairwise_ne, List.pairwise_map]; exact HB.out.2.1.born)
        rw [hkk, hval] at hent
        have HTS := Lib.hid (ts_hit s T m n own an (pt c) (.slice ao ln cp) F kk (.pointer (pt pv)) v2 W2 hS2.sd hS2.mp hv2)
        have HRL := Lib.hid (And.intro hset.1 (And.intro hsm2 (And.intro hfr2 (left_shrinks es seen e he))))
        have p6 := hS2.b6.plain
        have q6 := hS2.b6.cells
        clear hem hes hkk hfc hval hv2 hW2 hr1 hset hsz1 hlt1 hsm2 hfw1 hfr2 hS2 hb2 hal hStr he
        go_wp2_with (go_at_call 53; ((with_reducible refine HTS.out.mono ?_); rintro e w' ⟨rfl, rfl⟩))
        go_roundg (leftOf es (seen.push e.born)).size
        case measure => (rw [HGG.out]; exact HRL.out.2.2.2)
        case rel => exact ⟨seen.push e.born, cl, rfl, Nat.le_refl _, HRL.out.1, HRL.out.2.1, HRL.out.2.2.1⟩
end Go.Proofs.YtdpgbmmgeooahaaGreatDoorBesrefl
