/-
  getStruct, the Cache and all it holds; lookups over struct types with embedded fields. No condition.
-/
import Derived.Test.YtdpgbmmgeooahaaGreatDoorBesreflG3
import Derived.StillTailTactics
import Derived.Deep.RegionHeld3
import Derived.Deep.RegionLaw
import Derived.Deep.RegionLawGrows
import Derived.Deep.AppendLies
import Derived.Deep.Cut
import Derived.Deep.CutRange
import Derived.Deep.RegionWith
import Derived.Lib.Hide
import Derived.Deep.LoopGhost
import Derived.Deep.DeepCutAuto
namespace Go.Proofs.YtdpgbmmgeooahaaGreatDoorBesrefl
open Go.RowKit
set_option maxRecDepth 100000
set_option maxHeartbeats 1000000
set_option linter.unusedVariables false
theorem Ty.lt {w : World} {mc : Nat} {G : Nat → Option Nat} (h : Ty w mc G) : mc < w.heap.size := by
  have h1 := h.1
  cases hm : mapAt w mc with
  | none => rw [hm] at h1; cases h1
  | some x =>
    obtain ⟨es, cl⟩ := x
    exact (Array.getElem?_eq_some_iff.1 (mapAt_some hm)).1
theorem Ty.heap {w u : World} {mc : Nat} {G : Nat → Option Nat} (h : Ty w mc G) (e : u.heap[mc]? = w.heap[mc]?) : Ty u mc G := by
  have em : mapAt u mc = mapAt w mc := by unfold mapAt; rw [e]
  exact ⟨by rw [em]; exact h.1, fun a => by rw [em]; exact h.2 a⟩
theorem Ty.ne {w : World} {mc n : Nat} {G : Nat → Option Nat} {c : Array Value} {t : TypeId} {fr : Nat × Nat} (h : Ty w mc G) (k : w.heap[n]? = some (.cells c t fr)) : mc ≠ n := by
  rintro rfl
  have := h.1
  simp [mapAt, k, tyOk] at this
theorem Ty.loose {w : World} {mc : Nat} {G : Nat → Option Nat} (h : Ty w mc G) : ∀ o, w.heap[mc]? = some o → keep o = false := by
  intro o ho
  have h1 := h.1
  cases o with
  | map es cl => rfl
  | _ => simp [mapAt, ho, tyOk] at h1
theorem allTy_append {R g : Nat} (t : Nat) (v : Value) (n : Nat) : ∀ (es : List MapEntry), allTy R g es = true → allTy R g (es ++ [⟨.iface R (.pointer (some ⟨g, t, none⟩)), v, n⟩]) = true := by
  intro es
  induction es with
  | nil => intro _; simp [allTy]
  | cons e es ih =>
    intro h
    rw [List.cons_append]
    unfold allTy at h ⊢
    simp only [Bool.and_eq_true] at h ⊢
    exact ⟨h.1, ih h.2⟩
def tyIs (a : Nat) (k : Value) : Bool := match k with | .iface _ (.pointer (some ⟨_, o, _⟩)) => a == o | _ => false
theorem tyFind_cons' (a : Nat) (e : MapEntry) (es : List MapEntry) : tyFind a (e :: es) = if tyIs a e.key = true then some e.val else tyFind a es := rfl
theorem tyFind_append {R g : Nat} (a t : Nat) (v : Value) (n : Nat) : ∀ (es : List MapEntry), tyFind a (es ++ [⟨.iface R (.pointer (some ⟨g, t, none⟩)), v, n⟩]) = match tyFind a es with | some x => some x | none => if a = t then some v else none := by
  intro es
  induction es with
  | nil =>
    rw [List.nil_append, tyFind_cons, tyFind_nil]
    by_cases h : a = t <;> simp [h]
  | cons e es ih =>
    rw [List.cons_append, tyFind_cons', tyFind_cons']
    by_cases h : tyIs a e.key = true
    · rw [if_pos h, if_pos h]
    · rw [if_neg h, if_neg h]
      exact ih
theorem Ty.push {w : World} {mc : Nat} {G : Nat → Option Nat} (h : Ty w mc G) (t td : Nat) (hn : G t = none) :
    Ty (put w mc (mapPush (mapAt w mc) (.iface 105 (.pointer (some ⟨4, t, none⟩))) (.agg (natc t 25 (some ⟨td, 0, none⟩) false false)))) mc (fun a => if a = t then some td else G a) := by
  obtain ⟨es, cl, hm, hall⟩ := tyOk_get h.1
  have hlt := h.lt
  have e : mapAt (put w mc (mapPush (mapAt w mc) (.iface 105 (.pointer (some ⟨4, t, none⟩))) (.agg (natc t 25 (some ⟨td, 0, none⟩) false false)))) mc = some (es.push ⟨.iface 105 (.pointer (some ⟨4, t, none⟩)), .agg (natc t 25 (some ⟨td, 0, none⟩) false false), cl⟩, cl + 1) := by
    rw [hm]
    exact mapAt_put _ _ _ _ hlt
  refine ⟨?_, fun a => ?_⟩
  · rw [e]
    show allTy 105 4 (es.push _).toList = true
    rw [Array.toList_push]
    exact allTy_append t _ cl _ hall
  · rw [e]
    have h2 := h.2 a
    rw [hm] at h2
    change tyFind a es.toList = _ at h2
    show tyFind a (es.push _).toList = _
    rw [Array.toList_push, tyFind_append, h2]
    by_cases ha : a = t
    · subst ha
      simp [hn]
    · simp only [ha, if_false]
      cases G a <;> rfl
theorem ty_one {w : World} {mc td : Nat} (t : Nat) (h : w.heap[mc]? = some (.map #[{ key := .iface 105 (.pointer (some ⟨4, t, none⟩)), val := .agg (natc t 25 (some ⟨td, 0, none⟩) false false), born := 0 }] 1)) :
    Ty w mc (fun a => if a = t then some td else none) := by
  have hm : mapAt w mc = some (#[{ key := .iface 105 (.pointer (some ⟨4, t, none⟩)), val := .agg (natc t 25 (some ⟨td, 0, none⟩) false false), born := 0 }], 1) := by simp [mapAt, h]
  refine ⟨by rw [hm]; rfl, fun a => ?_⟩
  rw [hm, tyLook_some]
  simp only [tyFind_cons, tyFind_nil]
  by_cases ha : a = t
  · subst ha; simp
  · have : ¬ (a == t) = true := by simpa using ha
    simp [ha]
/-- all old blocks but those of L lie as they lay -/
def Oth (L : List Nat) (w u : World) : Prop := ∀ b, b < w.heap.size → b ∉ L → u.heap[b]? = w.heap[b]?
theorem gs_first (t cb B : Nat) (nf : Int) (hnf : ∀ w : World, (callFunc 177 #[.pointer (some ⟨4, t, none⟩)]).run Tryz.prog w = .ok (.value (.int .i64 nf)) w) (w : World) (hC : Ca w cb none) (hB : B ≤ cb) (hBw : B ≤ w.heap.size) : Calls Tryz.prog 38 #[.pointer (pt cb), .iface 105 (.pointer (some ⟨4, t, none⟩))] w fun e w' =>
    ∃ td sd mc, e = .returned (.agg (natc t 25 (pt td) false false)) ∧ Fr B w w' ∧ Oth [cb] w w' ∧ Ca w' cb (some mc) ∧ Ty w' mc (fun a => if a = t then some td else none) ∧ TDa w' td sd ∧ SD w' sd (sdc t none nf 0 (-1) none none (.slice none 0 0)) ∧ w.heap.size ≤ td ∧ w.heap.size ≤ sd ∧ w.heap.size ≤ mc := by
  have hp : Plain w cb := ⟨_, _, hC⟩
  have hc : cellsAt w cb = _ := cellsAt_of hC
  have hlt := hp.lt
  obtain ⟨s1, s2, s3, s4⟩ := szs hlt
  have HC := Lib.hid hC
  have hcn : ¬ w.heap.size + 1 = cb := by omega
  clear hC
  go_enter Tryz.func38, Tryz.ntmps38
  go_wp2
  go_region
  go_wp2
  obtain ⟨c1, c2, c3, c4⟩ := chain5 (w.setCell ⟨cb, 1, none⟩ (.map (some (w.heap.size + 1)))) _ _ _ _ _ w.heap.size (size_set ..)
  refine bodyPost_ret (v := .agg (natc t 25 (some ⟨w.heap.size + 1 + 1 + 1, 0, none⟩) false false)) (by simp [results, Tryz.results38, go_sem]) rfl ?_
  exact ⟨_, w.heap.size + 1 + 1, w.heap.size + 1, rfl, ((((((Fr.refl B w hBw).setOld (p := ⟨cb, 1, none⟩) hB HC.out.loose _).alloc _).alloc _).alloc _).alloc _).alloc _ |>.drew, fun b hb hn => (c4 b hb).trans (Below.heap_setCell _ _ _ _ (fun e => hn (by subst e; simp))), (c4 cb hlt).trans (HC.out.set _), ty_one t c1, c3, c2, by omega, by omega, by omega⟩
theorem gs_hit (t td mc cb B : Nat) (G : Nat → Option Nat) (w : World) (hC : Ca w cb (some mc)) (hT : Ty w mc G) (hG : G t = some td) (hBw : B ≤ w.heap.size) : Calls Tryz.prog 38 #[.pointer (pt cb), .iface 105 (.pointer (some ⟨4, t, none⟩))] w fun e w' =>
    e = .returned (.agg (natc t 25 (pt td) false false)) ∧ Fr B w w' ∧ Oth [] w w' := by
  have hp : Plain w cb := ⟨_, _, hC⟩
  have hc : cellsAt w cb = _ := cellsAt_of hC
  have hlt := hp.lt
  obtain ⟨s1, s2, s3, s4⟩ := szs hlt
  have hmlt := hT.lt
  obtain ⟨r1, r2, r3, r4⟩ := szs hmlt
  have hm := hT.1
  have hl : tyLook (mapAt w mc) t = some (.agg (natc t 25 (some ⟨td, 0, none⟩) false false)) := (hT.2 t).trans (by rw [hG]; rfl)
  clear hC hT hG
  go_enter Tryz.func38, Tryz.ntmps38
  go_wp2
  refine bodyPost_ret (v := .agg (natc t 25 (some ⟨td, 0, none⟩) false false)) (by simp [results, Tryz.results38, go_sem]) rfl ?_
  exact ⟨rfl, ((Fr.refl B w hBw).alloc _).alloc _, fun b hb _ => (Below.heap_alloc _ _ _ (by simp; omega)).trans (Below.heap_alloc _ _ _ hb)⟩
theorem gs_next (t mc cb B : Nat) (nf : Int) (hnf : ∀ w : World, (callFunc 177 #[.pointer (some ⟨4, t, none⟩)]).run Tryz.prog w = .ok (.value (.int .i64 nf)) w) (G : Nat → Option Nat) (w : World) (hC : Ca w cb (some mc)) (hT : Ty w mc G) (hG : G t = none) (hB : B ≤ mc) (hBw : B ≤ w.heap.size) : Calls Tryz.prog 38 #[.pointer (pt cb), .iface 105 (.pointer (some ⟨4, t, none⟩))] w fun e w' =>
    ∃ td sd, e = .returned (.agg (natc t 25 (pt td) false false)) ∧ Fr B w w' ∧ Oth [mc] w w' ∧ Ty w' mc (fun a => if a = t then some td else G a) ∧ TDa w' td sd ∧ SD w' sd (sdc t none nf 0 (-1) none none (.slice none 0 0)) ∧ w.heap.size ≤ td ∧ w.heap.size ≤ sd := by
  have hp : Plain w cb := ⟨_, _, hC⟩
  have hc : cellsAt w cb = _ := cellsAt_of hC
  have hlt := hp.lt
  obtain ⟨s1, s2, s3, s4⟩ := szs hlt
  have hmlt := hT.lt
  obtain ⟨r1, r2, r3, r4⟩ := szs hmlt
  have hm := hT.1
  have hl : tyLook (mapAt w mc) t = none := (hT.2 t).trans (by rw [hG]; rfl)
  have hmc : ¬ mc = cb := hT.ne hC
  have HT := Lib.hid hT
  have HG := Lib.hid hG
  clear hC hT hG
  go_enter Tryz.func38, Tryz.ntmps38
  go_wp2
  go_region
  go_wp2
  obtain ⟨c1, c2, c3, c4⟩ := chain5 (put w mc (mapPush (mapAt w mc) (.iface 105 (.pointer (some ⟨4, t, none⟩))) (.agg (natc t 25 (some ⟨w.heap.size + 1 + 1 + 1, 0, none⟩) false false)))) _ _ _ _ _ w.heap.size (put_size ..)
  refine bodyPost_ret (v := .agg (natc t 25 (some ⟨w.heap.size + 1 + 1 + 1, 0, none⟩) false false)) (by simp [results, Tryz.results38, go_sem]) rfl ?_
  exact ⟨_, w.heap.size + 1 + 1, rfl, ((((((Fr.refl B w hBw).put hB HT.out.loose _).alloc _).alloc _).alloc _).alloc _).alloc _ |>.drew, fun b hb hn => (c4 b hb).trans (heap_put _ _ _ _ (fun e => hn (by subst e; simp))), (HT.out.push t _ HG.out).heap (c4 mc hmlt), c3, c2, by omega, by omega⟩
/-- a struct type that is embedded: the field's number, and what is known of the type -/
structure Kid where
  j : Nat
  T : Nat
  n : Nat
  fs : Nat → Fd
  tab : ByteArray → Option Ent
/-- where a child stands -/
structure KG where
  td : Nat
  sd : Nat
  mo : Option Nat
  oc : Nat
  ix : Value
  F : ByteArray → Option Value
/-- one child's part of the memory -/
def KidIn (B mc : Nat) (F : ByteArray → Option Value) (X : List Nat) (w : World) (G : Nat → Option Nat) (K : Kid) : Option KG → Prop
  | none => G K.T = none
  | some k => G K.T = some k.td ∧ TDa w k.td k.sd ∧ Kst B k.sd K.T K.n K.fs K.tab k.mo k.oc k.ix k.F w ∧ B ≤ k.sd ∧ (∀ x, k.F x ≠ none → F x ≠ none) ∧ k.sd ∉ X ∧ (∀ q, k.mo = some q → q ∉ X ∧ q ≠ mc)
/-- the Cache, its types' map, and all children -/
structure Fam (B cb : Nat) (tp : Nat × Nat × Nat × List Nat × (Nat → Option Obj)) (ks : List Kid) (F : ByteArray → Option Value) (X : List Nat) (w : World) (mc : Nat) (G : Nat → Option Nat) (g : Nat → Option KG) : Prop where
  ca : Ca w cb (some mc)
  ty : Ty w mc G
  bc : B ≤ cb
  bm : B ≤ mc
  cx : cb ∉ X
  mx : mc ∉ X
  top : G tp.1 = some tp.2.1 ∧ TDa w tp.2.1 tp.2.2.1
  kid : ∀ K ∈ ks, KidIn B mc F X w G K (g K.T)
  sep : ∀ K ∈ ks, ∀ K' ∈ ks, K.T ≠ K'.T → ∀ k k' q, g K.T = some k → g K'.T = some k' → k.mo = some q → k'.mo ≠ some q
  ot : ∀ b ∈ tp.2.2.2.1, b ∉ X ∧ b ≠ cb ∧ b ≠ mc ∧ w.heap[b]? = tp.2.2.2.2 b ∧ b < w.heap.size ∧ (∀ c f, tp.2.2.2.2 b ≠ some (.cells c 48 f)) ∧ ∀ K ∈ ks, ∀ k, g K.T = some k → k.sd ≠ b ∧ k.mo ≠ some b
theorem KidIn.fr {B mc : Nat} {F : ByteArray → Option Value} {X : List Nat} {w u : World} {G : Nat → Option Nat} {K : Kid} {g : Option KG} (h : KidIn B mc F X w G K g) (hf : Fr B w u) (hb : ∀ b, b < w.heap.size → b ∉ X → u.heap[b]? = w.heap[b]?) : KidIn B mc F X u G K g := by
  cases g with
  | none => exact h
  | some k =>
    obtain ⟨h1, h2, h3, h4, h5, h6, h7⟩ := h
    exact ⟨h1, hf.kept _ _ h2 rfl, h3.fr hf (hb _ h3.sd.lt h6) (fun q hq => hb q (h3.mlt hq) (h7 q hq).1), h4, h5, h6, h7⟩
theorem Ca.lt {w : World} {cb : Nat} {x : Option Nat} (h : Ca w cb x) : cb < w.heap.size := (Array.getElem?_eq_some_iff.1 h).1
section
variable {B cb : Nat} {tp : Nat × Nat × Nat × List Nat × (Nat → Option Obj)} {ks : List Kid} {F : ByteArray → Option Value} {X Y : List Nat} {w u : World} {mc : Nat} {G : Nat → Option Nat} {g : Nat → Option KG}
theorem Fam.fr (h : Fam B cb tp ks F X w mc G g) (hf : Fr B w u) (hb : ∀ b, b < w.heap.size → b ∉ X → u.heap[b]? = w.heap[b]?) : Fam B cb tp ks F X u mc G g :=
  ⟨(hb cb h.ca.lt h.cx).trans h.ca, h.ty.heap (hb mc h.ty.lt h.mx), h.bc, h.bm, h.cx, h.mx, ⟨h.top.1, hf.kept _ _ h.top.2 rfl⟩, fun K hK => (h.kid K hK).fr hf hb, h.sep, fun b hm => by
    obtain ⟨o1, o2, o3, o4, o5, o6⟩ := h.ot b hm
    exact ⟨o1, o2, o3, (hb b o5 o1).trans o4, Nat.lt_of_lt_of_le o5 hf.grow, o6⟩⟩
theorem KidIn.to {G' : ByteArray → Option Value} {K : Kid} {g : Option KG} (h : KidIn B mc F X w G K g) (hF : ∀ x, F x ≠ none → G' x ≠ none) (hY : ∀ k, g = some k → k.sd ∉ Y ∧ ∀ q, k.mo = some q → q ∉ Y) : KidIn B mc G' Y w G K g := by
  cases g with
  | none => exact h
  | some k =>
    obtain ⟨h1, h2, h3, h4, h5, h6, h7⟩ := h
    obtain ⟨y1, y2⟩ := hY k rfl
    exact ⟨h1, h2, h3, h4, fun x hx => hF x (h5 x hx), y1, fun q hq => ⟨y2 q hq, (h7 q hq).2⟩⟩
theorem Fam.mono {F' : ByteArray → Option Value} (h : Fam B cb tp ks F X w mc G g) (hF : ∀ x, F x ≠ none → F' x ≠ none) : Fam B cb tp ks F' X w mc G g :=
  ⟨h.ca, h.ty, h.bc, h.bm, h.cx, h.mx, h.top, fun K hK => (h.kid K hK).to hF (fun k hk => by
    have h1 := h.kid K hK
    rw [hk] at h1
    exact ⟨h1.2.2.2.2.2.1, fun q hq => (h1.2.2.2.2.2.2 q hq).1⟩), h.sep, h.ot⟩
theorem Fam.anti (h : Fam B cb tp ks F X w mc G g) (hY : ∀ y ∈ Y, y ∈ X) : Fam B cb tp ks F Y w mc G g :=
  ⟨h.ca, h.ty, h.bc, h.bm, fun c => h.cx (hY _ c), fun c => h.mx (hY _ c), h.top, fun K hK => (h.kid K hK).to (fun _ h => h) (fun k hk => by
    have h1 := h.kid K hK
    rw [hk] at h1
    exact ⟨fun c => h1.2.2.2.2.2.1 (hY _ c), fun q hq c => (h1.2.2.2.2.2.2 q hq).1 (hY _ c)⟩), h.sep, fun b hm => ⟨fun c => (h.ot b hm).1 (hY _ c), (h.ot b hm).2⟩⟩
theorem Fam.new (h : Fam B cb tp ks F X w mc G g) {x : Nat} (hx : w.heap.size ≤ x) : Fam B cb tp ks F (x :: X) w mc G g := by
  have l1 := h.ca.lt
  have l2 := h.ty.lt
  have hc : ∀ b, b < w.heap.size → b ∉ X → b ∉ x :: X := fun b hb hn hm => by
    rcases List.mem_cons.1 hm with e | e
    · omega
    · exact hn e
  exact ⟨h.ca, h.ty, h.bc, h.bm, hc _ l1 h.cx, hc _ l2 h.mx, h.top, fun K hK => (h.kid K hK).to (fun _ h => h) (fun k hk => by
    have h1 := h.kid K hK
    rw [hk] at h1
    exact ⟨hc _ h1.2.2.1.sd.lt h1.2.2.2.2.2.1, fun q hq => hc _ (h1.2.2.1.mlt hq) (h1.2.2.2.2.2.2 q hq).1⟩), h.sep, fun b hm => ⟨hc b (h.ot b hm).2.2.2.2.1 (h.ot b hm).1, (h.ot b hm).2⟩⟩
end
/-- the memory beside a struct with embedded fields -/
def FamI (B cb : Nat) (tp : Nat × Nat × Nat × List Nat × (Nat → Option Obj)) (ks : List Kid) (ex : (ByteArray → Option Value) → Option Addr → Prop) : (ByteArray → Option Value) → Option Addr → Value → Option (Nat × Nat) → List Nat → World → Prop := fun F ch ix pd X w =>
  ∃ mc G g, Fam B cb tp ks F X w mc G g ∧ (∀ c, ch = some c → ∃ K ∈ ks, ∃ k, g K.T = some k ∧ c = ⟨k.sd, 0, none⟩ ∧ Ix w ix [(K.j : Int)] true) ∧ (∀ a sd, pd = some (a, sd) → ∃ K ∈ ks, K.j = a ∧ ∃ k, g K.T = some k ∧ k.sd = sd) ∧ ex F ch
/-- what is known of a struct type with embedded fields -/
structure TopFacts (T n : Nat) (fs : Nat → Fd) (tab : ByteArray → Option Ent) (kT : Nat → Nat) (kK : Nat → Int) (ks : List Kid) : Prop extends TyFacts T n fs where
  tk : ∀ j : Nat, j < n → (fs j).exp = true → (fs j).vis = true → tab (fs j).key = some ⟨(fs j).t, (fs j).k, (fs j).i, (fs j).f, [(j : Int)]⟩
  ft : ∀ j, j < n → (fs j).exp = true → (fs j).vis = true → (∀ (c : Option Addr) (w : World), Calls Tryz.prog 35 #[.pointer c, .iface 105 (.pointer (some ⟨4, (fs j).t, none⟩))] w fun e w' =>
      e = .returned (.agg (natc (fs j).t (fs j).k none (fs j).i (fs j).f)) ∧ w.alloc (.cells (natc (fs j).t (fs j).k none (fs j).i (fs j).f) 48) = w') ∨
    ∃ K ∈ ks, (fs j).t = K.T ∧ (fs j).k = 25 ∧ (fs j).i = false ∧ (fs j).f = false
  kd : ∀ j, j < n → (fs j).emb = true → ∃ (k0 : Int) (b : Bool), (∀ w : World, (callFunc 171 #[.pointer (some ⟨4, (fs j).t, none⟩)]).run Tryz.prog w = .ok (.value (.int .u64 k0)) w) ∧ ∀ w : World, Calls Tryz.prog 37 #[.iface 105 (.pointer (some ⟨4, (fs j).t, none⟩)), .int .u64 k0] w fun e w' =>
    e = .returned (.tuple #[.iface 105 (.pointer (some ⟨4, kT j, none⟩)), .int .u64 (kK j), .bool b]) ∧ w' = w
  kid : ∀ j, j < n → (fs j).emb = true → kK j = 25 → ∃ K ∈ ks, K.j = j ∧ K.T = kT j
  kj : ∀ K ∈ ks, (fs K.j).emb = true ∧ kK K.j = 25 ∧ K.T ≠ T
  inj : ∀ K ∈ ks, ∀ K' ∈ ks, (K.T = K'.T → K = K') ∧ (K.j = K'.j → K = K')
  leaf : ∀ K ∈ ks, LeafFacts K.T K.n K.fs K.tab
  nf : ∀ K ∈ ks, ∀ w : World, (callFunc 177 #[.pointer (some ⟨4, K.T, none⟩)]).run Tryz.prog w = .ok (.value (.int .i64 (K.n : Int))) w
  kkind : ∀ K ∈ ks, ∀ w : World, (callFunc 171 #[.pointer (some ⟨4, K.T, none⟩)]).run Tryz.prog w = .ok (.value (.int .u64 25)) w
  comp : ∀ K ∈ ks, ∀ x E, K.tab x = some E → (∃ j, j < n ∧ (fs j).exp = true ∧ (fs j).vis = true ∧ (fs j).key = x) ∨ tab x = some ⟨E.t, E.k, E.i, E.f, (K.j : Int) :: E.zs⟩
  cov : ∀ x E, tab x = some E → (∃ j, j < n ∧ (fs j).exp = true ∧ (fs j).vis = true ∧ (fs j).key = x) ∨ ∃ K ∈ ks, K.tab x ≠ none
  kjl : ∀ K ∈ ks, K.j < n
theorem Fr.setN {B n : Nat} {w v : World} (h : Fr B w v) (hn : w.heap.size ≤ n) (i : Nat) (x : Value) : Fr B w (v.setCell ⟨n, i, none⟩ x) := h.setNew h.low (p := ⟨n, i, none⟩) hn x
/-- FromType of a struct type, with a Cache: what getStruct hands back -/
theorem ft_thr (t cb : Nat) (hk : ∀ w : World, (callFunc 171 #[.pointer (some ⟨4, t, none⟩)]).run Tryz.prog w = .ok (.value (.int .u64 25)) w) (w : World) (Q : Nat → World → Prop)
    (hGS : Calls Tryz.prog 38 #[.pointer (pt cb), .iface 105 (.pointer (some ⟨4, t, none⟩))] (w.alloc (.cells #[.nilIface, .int .u64 0, .pointer none, .pointer none, .bool false, .bool false, .bool false, .bool false, .bool false] 48)) fun e w1 => ∃ td, e = .returned (.agg (natc t 25 (pt td) false false)) ∧ Q td w1 ∧
      w1.heap[w.heap.size]? = some (.cells #[.nilIface, .int .u64 0, .pointer none, .pointer none, .bool false, .bool false, .bool false, .bool false, .bool false] 48 (0, 0))) :
    Calls Tryz.prog 35 #[.pointer (pt cb), .iface 105 (.pointer (some ⟨4, t, none⟩))] w fun e w' => ∃ td w1, e = .returned (.agg (natc t 25 (pt td) false false)) ∧ Q td w1 ∧ (∀ b, b ≠ w.heap.size → w'.heap[b]? = w1.heap[b]?) ∧ (∀ (B0 : Nat) (w0 : World), Fr B0 w0 w1 → w0.heap.size ≤ w.heap.size → Fr B0 w0 w') := by
  have HG := Lib.hid hGS
  clear hGS
  go_enter Tryz.func35, Tryz.ntmps35
  go_wp2_with (go_at_call 38; ((with_reducible refine HG.out.mono ?_); rintro e w1 ⟨td, rfl, hQ, hres⟩; have hrp : Plain w1 w.heap.size := ⟨_, _, hres⟩; have hrc := cellsAt_of hres; have hrl := hrp.lt; have hrz : (cellsAt w1 w.heap.size).size = 9 := (by rw [hrc]; rfl); have HQ := Lib.hid hQ; clear hQ hres))
  refine bodyPost_ret (v := .agg (natc t 25 (pt td) false false)) (by simp [results, Tryz.results35, go_sem, hrp, hrc]) rfl ?_
  refine ⟨td, w1, rfl, HQ.out, fun b hb => ?_, fun B0 w0 hf hl => ?_⟩
  · repeat rw [Below.heap_setCell _ _ _ _ hb]
  · repeat (first | with_reducible exact hf | with_reducible refine Fr.setN ?_ hl _ _)
/-- from w to u block z alone has turned, which holds a Nature -/
structure Tw (z : Nat) (w u : World) : Prop where
  same : ∀ b, b ≠ z → u.heap[b]? = w.heap[b]?
  nat : ∃ c f, w.heap[z]? = some (.cells c 48 f)
theorem Tw.other {z b : Nat} {w u : World} {c : Array Value} {t : TypeId} {f : Nat × Nat} (h : Tw z w u) (hb : w.heap[b]? = some (.cells c t f)) (hne : t ≠ 48) : u.heap[b]? = some (.cells c t f) := by
  rw [h.same b (fun e => ?_)]
  · exact hb
  · subst e
    obtain ⟨c', f', h2⟩ := h.nat
    rw [hb] at h2
    cases h2
    exact hne rfl
theorem Tw.map {z m : Nat} {w u : World} {F : ByteArray → Option Value} (h : Tw z w u) (hM : MapIs w m F) : MapIs u m F := by
  refine hM.heap (h.same m (fun e => ?_))
  subst e
  obtain ⟨c', f', h2⟩ := h.nat
  obtain ⟨es, cl, h1, _⟩ := hM
  rw [mapAt_some h1] at h2
  cases h2
theorem Ix.tw {z : Nat} {w u : World} {v : Value} {zs : List Int} {full : Bool} (h : Ix w v zs full) (k : Tw z w u) : Ix u v zs full := by
  rcases h with h | ⟨g, cap, cur, fr, h1, h2, h3⟩
  · exact Or.inl h
  · exact Or.inr ⟨g, cap, cur, fr, h1, k.other h2 (by decide), h3⟩
theorem Sound.tw {z : Nat} {w u : World} {F : ByteArray → Option Value} {tab : ByteArray → Option Ent} (h : Sound w F tab) (k : Tw z w u) : Sound u F tab := by
  intro x v hx
  obtain ⟨p, td, E, h1, h2, v', h3, h4⟩ := h x v hx
  exact ⟨p, td, E, h1, h2, v', k.other h3 (by decide), h4.tw k⟩
theorem Kst.tw {z B c T n : Nat} {fs : Nat → Fd} {tab : ByteArray → Option Ent} {mo : Option Nat} {own : Nat} {ix : Value} {F : ByteArray → Option Value} {w u : World} (h : Kst B c T n fs tab mo own ix F w) (k : Tw z w u) : Kst B c T n fs tab mo own ix F u := by
  refine ⟨k.other h.sd (by decide), h.le, ?_, h.so.tw k, h.has⟩
  have h1 := h.fm
  cases mo with
  | none => exact h1
  | some q => exact ⟨h1.1, k.map h1.2⟩
theorem Fam.tw {z B cb mc : Nat} {tp : Nat × Nat × Nat × List Nat × (Nat → Option Obj)} {ks : List Kid} {F : ByteArray → Option Value} {X : List Nat} {w u : World} {G : Nat → Option Nat} {g : Nat → Option KG} (h : Fam B cb tp ks F X w mc G g) (k : Tw z w u) : Fam B cb tp ks F X u mc G g := by
  refine ⟨k.other h.ca (by decide), h.ty.heap (k.same mc (fun e => ?_)), h.bc, h.bm, h.cx, h.mx, ⟨h.top.1, k.other h.top.2 (by decide)⟩, fun K hK => ?_, h.sep, fun b hm => ?_⟩
  · obtain ⟨c', f', h2⟩ := k.nat
    subst e
    exact h.ty.ne h2 rfl
  · have h1 := h.kid K hK
    cases hg : g K.T with
    | none =>
      rw [hg] at h1
      exact h1
    | some q =>
      rw [hg] at h1
      obtain ⟨a1, a2, a3, a4⟩ := h1
      exact ⟨a1, k.other a2 (by decide), a3.tw k, a4⟩
  · obtain ⟨o1, o2, o3, o4, o5, o6, o7⟩ := h.ot b hm
    have hz : b ≠ z := by
      rintro rfl
      obtain ⟨c', f', h2⟩ := k.nat
      rw [o4] at h2
      exact o6 _ _ h2
    have he := (k.same b hz).trans o4
    refine ⟨o1, o2, o3, he, ?_, o6, o7⟩
    rw [o4.symm] at he
    rw [Array.getElem?_eq_getElem o5] at he
    exact (Array.getElem?_eq_some_iff.1 he).1
section
variable {B cb : Nat} {tp : Nat × Nat × Nat × List Nat × (Nat → Option Obj)} {ks : List Kid} {F : ByteArray → Option Value} {X : List Nat} {w u : World} {mc : Nat} {G : Nat → Option Nat} {g : Nat → Option KG} {T n : Nat} {fs : Nat → Fd} {tab : ByteArray → Option Ent} {kT : Nat → Nat} {kK : Nat → Int}
theorem Fam.low (h : Fam B cb tp ks F X w mc G g) : B ≤ w.heap.size := Nat.le_trans h.bc (Nat.le_of_lt h.ca.lt)
/-- what getStruct of an embedded type leaves -/
def Got (B cb : Nat) (tp : Nat × Nat × Nat × List Nat × (Nat → Option Obj)) (ks : List Kid) (F : ByteArray → Option Value) (X : List Nat) (mc : Nat) (g : Nat → Option KG) (K : Kid) (w : World) (td : Nat) (w' : World) : Prop :=
  ∃ G' g' k, Fr B w w' ∧ Same X w w' ∧ Fam B cb tp ks F X w' mc G' g' ∧ g' K.T = some k ∧ k.td = td ∧ TDa w' td k.sd ∧ ∀ t k, g t = some k → g' t = some k
theorem gsFam (TF : TopFacts T n fs tab kT kK ks) (htp : tp.1 = T) (h : Fam B cb tp ks F X w mc G g) (hX : ∀ x ∈ X, x < w.heap.size) {K : Kid} (hK : K ∈ ks) :
    Calls Tryz.prog 38 #[.pointer (pt cb), .iface 105 (.pointer (some ⟨4, K.T, none⟩))] w fun e w' => ∃ td, e = .returned (.agg (natc K.T 25 (pt td) false false)) ∧ Got B cb tp ks F X mc g K w td w' := by
  have hk := h.kid K hK
  cases hg : g K.T with
  | some k =>
    rw [hg] at hk
    refine (gs_hit K.T k.td mc cb B G w h.ca h.ty hk.1 h.low).mono ?_
    rintro e w' ⟨rfl, hf, ho⟩
    have hf2 := h.fr hf (fun b hb _ => ho b hb (by simp))
    exact ⟨k.td, rfl, G, g, k, hf, fun x _ hx => ho x hx (by simp), hf2, hg, rfl, hf.kept _ _ hk.2.1 rfl, fun _ _ h => h⟩
  | none =>
    rw [hg] at hk
    refine (gs_next K.T mc cb B K.n (TF.nf K hK) G w h.ca h.ty hk h.bm h.low).mono ?_
    rintro e w' ⟨td, sd, rfl, hf, ho, hT, hTD, hSD, l1, l2⟩
    have hcm : cb ≠ mc := fun e => h.ty.ne h.ca e.symm
    have hlow := h.low
    have hmx : ∀ b, b < w.heap.size → b ∉ X → b ≠ mc → w'.heap[b]? = w.heap[b]? := fun b hb _ hn => ho b hb (by simp [hn])
    refine ⟨td, rfl, (fun a => if a = K.T then some td else G a), (fun t => if t = K.T then some ⟨td, sd, none, 0, .slice none 0 0, fun _ => none⟩ else g t), ⟨td, sd, none, 0, .slice none 0 0, fun _ => none⟩, hf, fun x hx hl => ho x hl (by simp; rintro rfl; exact h.mx hx), ?_, if_pos rfl, rfl, hTD, fun t k ht => ?_⟩
    · refine ⟨(hmx cb h.ca.lt h.cx hcm).trans h.ca, hT, h.bc, h.bm, h.cx, h.mx, ⟨?_, hf.kept _ _ h.top.2 rfl⟩, fun K' hK' => ?_, fun K1 h1 K2 h2 hne k1 k2 q e1 e2 e3 => ?_, fun b hm => ?_⟩
      · show (if tp.1 = K.T then some td else G tp.1) = _
        rw [if_neg (by rw [htp]; exact fun e => (TF.kj K hK).2.2 e.symm)]
        exact h.top.1
      · by_cases e : K'.T = K.T
        · obtain rfl := (TF.inj K' hK' K hK).1 e
          show KidIn B mc F X w' _ K' (if K'.T = K'.T then _ else _)
          rw [if_pos rfl]
          exact ⟨if_pos rfl, hTD, ⟨hSD, Nat.zero_le _, rfl, Sound.none _ _, fun j hj => absurd hj (Nat.not_lt_zero _)⟩, (show B ≤ sd by omega), fun x hx => absurd rfl hx, fun hx => absurd (hX sd hx) (by omega), fun q hq => by cases hq⟩
        · show KidIn B mc F X w' _ K' (if K'.T = K.T then _ else _)
          rw [if_neg e]
          have h3 := h.kid K' hK'
          cases hg' : g K'.T with
          | none =>
            rw [hg'] at h3
            show (if K'.T = K.T then some td else G K'.T) = none
            rw [if_neg e]
            exact h3
          | some k' =>
            rw [hg'] at h3
            obtain ⟨a1, a2, a3, a4, a5, a6, a7⟩ := h3
            refine ⟨?_, hf.kept _ _ a2 rfl, a3.fr hf (hmx _ a3.sd.lt a6 (fun e => h.ty.ne a3.sd e.symm)) (fun q hq => hmx q (a3.mlt hq) (a7 q hq).1 (a7 q hq).2), a4, a5, a6, a7⟩
            show (if K'.T = K.T then some td else G K'.T) = _
            rw [if_neg e]
            exact a1
      · have q1 : ∀ (K0 : Kid) (k0 : KG), (if K0.T = K.T then some (⟨td, sd, none, 0, .slice none 0 0, fun _ => none⟩ : KG) else g K0.T) = some k0 → ∀ q, k0.mo = some q → g K0.T = some k0 := by
          intro K0 k0 h0 q hq
          by_cases e : K0.T = K.T
          · rw [if_pos e] at h0
            cases h0
            cases hq
          · rwa [if_neg e] at h0
        intro e4
        exact h.sep K1 h1 K2 h2 hne k1 k2 q (q1 K1 k1 e1 q e3) (q1 K2 k2 e2 q e4) e3 e4
      · obtain ⟨o1, o2, o3, o4, o5, o6, o7⟩ := h.ot b hm
        refine ⟨o1, o2, o3, (hmx b o5 o1 o3).trans o4, Nat.lt_of_lt_of_le o5 hf.grow, o6, fun K' hK' k' e' => ?_⟩
        by_cases e : K'.T = K.T
        · rw [if_pos e] at e'
          cases e'
          exact ⟨(show sd ≠ b by omega), fun h => by cases h⟩
        · rw [if_neg e] at e'
          exact o7 K' hK' k' e'
    · show (if t = K.T then _ else g t) = _
      rw [if_neg (fun e => by rw [e, hg] at ht; cases ht)]
      exact ht
theorem ftFam (TF : TopFacts T n fs tab kT kK ks) (htp : tp.1 = T) (h : Fam B cb tp ks F X w mc G g) (hX : ∀ x ∈ X, x < w.heap.size) {K : Kid} (hK : K ∈ ks) :
    Calls Tryz.prog 35 #[.pointer (pt cb), .iface 105 (.pointer (some ⟨4, K.T, none⟩))] w fun e w' => ∃ td, e = .returned (.agg (natc K.T 25 (pt td) false false)) ∧ Got B cb tp ks F X mc g K w td w' := by
  have hf0 := (Fr.refl B w h.low).alloc (.cells #[.nilIface, .int .u64 0, .pointer none, .pointer none, .bool false, .bool false, .bool false, .bool false, .bool false] 48)
  have h2 : Fam B cb tp ks F (w.heap.size :: X) (w.alloc (.cells #[.nilIface, .int .u64 0, .pointer none, .pointer none, .bool false, .bool false, .bool false, .bool false, .bool false] 48)) mc G g := (h.new (Nat.le_refl _)).fr hf0 (fun b hb _ => Below.heap_alloc w _ b hb)
  refine (ft_thr K.T cb (TF.kkind K hK) w (fun td w1 => Got B cb tp ks F (w.heap.size :: X) mc g K (w.alloc (.cells #[.nilIface, .int .u64 0, .pointer none, .pointer none, .bool false, .bool false, .bool false, .bool false, .bool false] 48)) td w1) ((gsFam TF htp h2 (fun x hx => ?_) hK).mono ?_)).mono ?_
  · rcases List.mem_cons.1 hx with rfl | hx
    · simp
    · have := hX x hx
      simp
      omega
  · rintro e w1 ⟨td, rfl, hG⟩
    refine ⟨td, rfl, hG, ?_⟩
    obtain ⟨_, _, _, hf, _⟩ := hG
    exact hf.kept _ _ (heap_alloc_new w _) rfl
  · rintro e w' ⟨td, w1, rfl, ⟨G', g', k, hf, hsm, hF, hg, htd, hTD, hx⟩, hb, hfr⟩
    have hfw : Fr B w w1 := hf0.trans hf
    have ht : Tw w.heap.size w1 w' := ⟨hb, _, _, hf.kept _ _ (heap_alloc_new w _) rfl⟩
    exact ⟨td, rfl, G', g', k, hfr B w hfw (Nat.le_refl _), fun x hx hl => (hb x (by omega)).trans ((hsm x (by simp [hx]) (by simp; omega)).trans (Below.heap_alloc w _ x hl)), (hF.anti (fun y hy => by simp [hy])).tw ht, hg, htd, ht.other hTD (by decide), hx⟩
end
theorem mem_mo {mo : Option Nat} {q : Nat} {X : List Nat} {c : Nat} (h : q ∈ mo.toList ++ c :: X) : mo = some q ∨ q = c ∨ q ∈ X := by
  rcases List.mem_append.1 h with h | h
  · left
    cases mo with
    | none => cases h
    | some a => simp at h; rw [h]
  · rcases List.mem_cons.1 h with h | h
    · exact Or.inr (Or.inl h)
    · exact Or.inr (Or.inr h)
theorem mi_cells {w : World} {q : Nat} {F : ByteArray → Option Value} {c : Array Value} {t : TypeId} {f : Nat × Nat} (h : MapIs w q F) (k : w.heap[q]? = some (.cells c t f)) : False := by
  obtain ⟨es, cl, h1, _⟩ := h
  rw [mapAt_some h1] at k
  cases k
theorem sd_T {w : World} {c t t' : Nat} {m m' : Option Nat} {n n' o o' a a' : Int} {p p' d d' : Option Addr} {ix ix' : Value} (h : SD w c (sdc t m n o a p d ix)) (k : SD w c (sdc t' m' n' o' a' p' d' ix')) : t = t' := by
  rw [SD, h] at k
  simp at k
  exact k.1
section
variable {B cb : Nat} {tp : Nat × Nat × Nat × List Nat × (Nat → Option Obj)} {ks : List Kid} {F : ByteArray → Option Value} {X : List Nat} {w u : World} {mc : Nat} {G : Nat → Option Nat} {g : Nat → Option KG} {K : Kid}
/-- all children but one, whose blocks are set apart -/
theorem Fam.rest {k : KG} (h : Fam B cb tp ks F X w mc G g) (hK : K ∈ ks) (hg : g K.T = some k) : Fam B cb tp (ks.filter fun K' => decide (K'.T ≠ K.T)) F (k.mo.toList ++ k.sd :: X) w mc G g := by
  have hk := h.kid K hK
  rw [hg] at hk
  obtain ⟨a1, a2, a3, a4, a5, a6, a7⟩ := hk
  refine ⟨h.ca, h.ty, h.bc, h.bm, fun c => ?_, fun c => ?_, h.top, fun K' hK' => ?_, fun K1 h1 K2 h2 => h.sep K1 (List.mem_filter.1 h1).1 K2 (List.mem_filter.1 h2).1, fun b hm => ?_⟩
  · rcases mem_mo c with c | c | c
    · exact mi_cells (a3.map c) h.ca
    · have h2 := a3.sd
      rw [← c, SD, h.ca] at h2
      cases h2
    · exact h.cx c
  · rcases mem_mo c with c | c | c
    · exact (a7 _ c).2 rfl
    · exact h.ty.ne a3.sd c
    · exact h.mx c
  · obtain ⟨hK'', hne⟩ := List.mem_filter.1 hK'
    have hne : K'.T ≠ K.T := by simpa using hne
    have h3 := h.kid K' hK''
    cases hg' : g K'.T with
    | none =>
      rw [hg'] at h3
      exact h3
    | some k' =>
      rw [hg'] at h3
      obtain ⟨b1, b2, b3, b4, b5, b6, b7⟩ := h3
      refine ⟨b1, b2, b3, b4, b5, fun c => ?_, fun q hq => ⟨fun c => ?_, (b7 q hq).2⟩⟩
      · rcases mem_mo c with c | c | c
        · exact mi_cells (a3.map c) b3.sd
        · have h2 := b3.sd
          rw [c] at h2
          exact hne (sd_T h2 a3.sd)
        · exact b6 c
      · rcases mem_mo c with c | c | c
        · exact h.sep K hK K' hK'' (fun e => hne e.symm) k k' q hg hg' c hq
        · subst c
          exact mi_cells (b3.map hq) a3.sd
        · exact (b7 q hq).1 c
  · obtain ⟨o1, o2, o3, o4, o5, o6, o7⟩ := h.ot b hm
    refine ⟨fun c => ?_, o2, o3, o4, o5, o6, fun K' hK' => o7 K' (List.mem_filter.1 hK').1⟩
    rcases mem_mo c with c | c | c
    · exact (o7 K hK k hg).2 c
    · exact (o7 K hK k hg).1 c.symm
    · exact o1 c
/-- and the one is laid back -/
theorem Fam.back {td sd oc : Nat} {mo : Option Nat} {ix : Value} {Fc : ByteArray → Option Value} (h : Fam B cb tp (ks.filter fun K' => decide (K'.T ≠ K.T)) F (mo.toList ++ sd :: X) w mc G g) (hinj : ∀ K' ∈ ks, K'.T = K.T → K' = K) (htd : G K.T = some td) (hTD : TDa w td sd)
    (hs : Kst B sd K.T K.n K.fs K.tab mo oc ix Fc w) (hB : B ≤ sd) (hsub : ∀ x, Fc x ≠ none → F x ≠ none) (hsX : sd ∉ X) (hmX : ∀ q, mo = some q → q ∉ X) : Fam B cb tp ks F X w mc G (fun t => if t = K.T then some ⟨td, sd, mo, oc, ix, Fc⟩ else g t) := by
  have inX : ∀ b, b ∉ mo.toList ++ sd :: X → b ∉ X := fun b hb c => hb (List.mem_append.2 (Or.inr (List.mem_cons_of_mem _ c)))
  have inM : ∀ b, b ∉ mo.toList ++ sd :: X → mo ≠ some b := fun b hb c => hb (List.mem_append.2 (Or.inl (by rw [c]; simp)))
  refine ⟨h.ca, h.ty, h.bc, h.bm, inX _ h.cx, inX _ h.mx, h.top, fun K' hK' => ?_, fun K1 h1 K2 h2 hne k1 k2 q e1 e2 e3 e4 => ?_, fun b hm => ?_⟩
  · by_cases e : K'.T = K.T
    · obtain rfl := hinj K' hK' e
      show KidIn B mc F X w G K' (if K'.T = K'.T then _ else _)
      rw [if_pos rfl]
      exact ⟨htd, hTD, hs, hB, hsub, hsX, fun q hq => ⟨hmX q hq, fun c => by subst c; exact inM _ h.mx hq⟩⟩
    · show KidIn B mc F X w G K' (if K'.T = K.T then _ else _)
      rw [if_neg e]
      have h3 := h.kid K' (List.mem_filter.2 ⟨hK', by simpa using e⟩)
      cases hg' : g K'.T with
      | none =>
        rw [hg'] at h3
        exact h3
      | some k' =>
        rw [hg'] at h3
        obtain ⟨b1, b2, b3, b4, b5, b6, b7⟩ := h3
        exact ⟨b1, b2, b3, b4, b5, inX _ b6, fun q hq => ⟨inX _ (b7 q hq).1, (b7 q hq).2⟩⟩
  ·
    by_cases c1 : K1.T = K.T
    · have c2 : ¬ K2.T = K.T := fun c => hne (c1.trans c.symm)
      rw [if_pos c1] at e1
      rw [if_neg c2] at e2
      cases e1
      have h3 := h.kid K2 (List.mem_filter.2 ⟨h2, by simpa using c2⟩)
      rw [e2] at h3
      exact inM _ (h3.2.2.2.2.2.2 q e4).1 e3
    · rw [if_neg c1] at e1
      by_cases c2 : K2.T = K.T
      · rw [if_pos c2] at e2
        cases e2
        have h3 := h.kid K1 (List.mem_filter.2 ⟨h1, by simpa using c1⟩)
        rw [e1] at h3
        exact inM _ (h3.2.2.2.2.2.2 q e3).1 e4
      · rw [if_neg c2] at e2
        exact h.sep K1 (List.mem_filter.2 ⟨h1, by simpa using c1⟩) K2 (List.mem_filter.2 ⟨h2, by simpa using c2⟩) hne k1 k2 q e1 e2 e3 e4
  · obtain ⟨o1, o2, o3, o4, o5, o6, o7⟩ := h.ot b hm
    refine ⟨inX _ o1, o2, o3, o4, o5, o6, fun K' hK' k' e' => ?_⟩
    by_cases e : K'.T = K.T
    · rw [if_pos e] at e'
      cases e'
      exact ⟨fun c => o1 (List.mem_append.2 (Or.inr (by rw [← c]; exact List.mem_cons_self))), inM _ o1⟩
    · rw [if_neg e] at e'
      exact o7 K' (List.mem_filter.2 ⟨hK', by simpa using e⟩) k' e'
end
theorem feFam {ob : List Nat} {val : Nat → Option Obj} {B s cb tdt T n m mc : Nat} {fs : Nat → Fd} {tab : ByteArray → Option Ent} {kT : Nat → Nat} {kK : Nat → Int} {ks : List Kid} {ex : (ByteArray → Option Value) → Option Addr → Prop} {F : ByteArray → Option Value} {w : World} {G : Nat → Option Nat} {g : Nat → Option KG} {K : Kid} {k : KG} {an : Int} {ch : Option Addr} {ix ixv : Value} {name : ByteArray}
    (TF : TopFacts T n fs tab kT kK ks) (hexC : ∀ F c, ex F (some c)) (hBs : B ≤ s) (hF : Fam B cb (T, tdt, s, ob, val) ks F [m, s] w mc G g) (hK : K ∈ ks) (hg : g K.T = some k) (hBm : B ≤ m) (hS : SD w s (sdc T (some m) n n an none ch ix)) (hM : MapIs w m F) (hSo : Sound w F tab)
    (hown : ∀ q, q < n → (fs q).exp = true → (fs q).vis = true → F (fs q).key ≠ none) (hIx : Ix w ixv [(K.j : Int)] true) :
    Calls Tryz.prog 43 #[.pointer (pt s), .pointer (pt cb), .pointer none, .pointer (pt k.sd), ixv, .string name] w fun e w' => ∃ r F', e = .returned r ∧ Fr B w w' ∧ SD w' s (sdc T (some m) n n an none (pt k.sd) ixv) ∧ MapIs w' m F' ∧ Sound w' F' tab ∧ (∀ x, F x ≠ none → F' x ≠ none) ∧ FamI B cb (T, tdt, s, ob, val) ks ex F' (pt k.sd) ixv none [m, s] w' ∧
      ((r = .pointer none ∧ F' name = none ∧ ∀ x, K.tab x ≠ none → F' x ≠ none) ∨ ∃ p, r = .pointer (pt p) ∧ F' name = some r) := by
  have hk := hF.kid K hK
  rw [hg] at hk
  obtain ⟨a1, a2, a3, a4, a5, a6, a7⟩ := hk
  have RO : RestOk B K.tab (fun F X w => Fam B cb (T, tdt, s, ob, val) (ks.filter fun K' => decide (K'.T ≠ K.T)) F X w mc G g ∧ TDa w k.td k.sd) :=
    ⟨fun _ _ _ _ _ h _ => ⟨h.1.mono (fun x => plus_ne x), h.2⟩, fun _ _ _ _ h hf hb => ⟨h.1.fr hf hb, hf.kept _ _ h.2 rfl⟩, fun _ _ _ _ h hx => ⟨h.1.new hx, h.2⟩, fun _ _ _ _ h hy => ⟨h.1.anti hy, h.2⟩⟩
  have hcs : k.sd ≠ s := fun e => a6 (by simp [e])
  have hmm : k.mo ≠ some m := fun e => (a7 m e).1 (by simp)
  refine (fe_kid (TF.leaf K hK) RO n n an ch ix ixv [(K.j : Int)] F name k.mo k.oc k.ix k.F w hBs hBm a4 (by simp) (fun x E hx => ?_) hS hM hSo hIx a3 a5 hcs hmm ⟨hF.rest hK hg, a2⟩).mono ?_
  · rcases TF.comp K hK x E hx with ⟨j, h1, h2, h3, rfl⟩ | h
    · exact Or.inl (hown j h1 h2 h3)
    · exact Or.inr h
  · rintro e w' ⟨r, F', mo', oc', ixc', Fc', rfl, hf, hS', hM', hSo', hx', hK', hsub', hmm', ⟨hR', hTD'⟩, hres⟩
    have hb := hR'.back (fun K' h e => (TF.inj K' h K hK).1 e) a1 hTD' hK' a4 hsub' a6 (fun q hq => by
      simp only [List.mem_cons, List.not_mem_nil, or_false]
      rintro (rfl | rfl)
      · exact hmm' hq
      · exact mi_cells (hK'.map hq) hS')
    refine ⟨r, F', rfl, hf, hS', hM', hSo', hx', ⟨mc, G, _, hb, fun c hc => ?_, fun _ _ h => (by cases h), hexC _ _⟩, hres.imp (fun ⟨h1, h2, h3⟩ => ⟨h1, h2, fun x hx => ?_⟩) id⟩
    · cases hc
      exact ⟨K, hK, _, if_pos rfl, rfl, hIx.carry hf⟩
    · cases hE : K.tab x with
      | none => exact absurd hE hx
      | some E =>
        obtain ⟨j, q1, q2, q3, rfl⟩ := (TF.leaf K hK).rng x E hE
        exact hsub' _ (hK'.has j (by omega) q2 q3)
theorem famGen {ob : List Nat} {val : Nat → Option Obj} {B s cb tdt T n : Nat} {fs : Nat → Fd} {tab : ByteArray → Option Ent} {kT : Nat → Nat} {kK : Nat → Int} {ks : List Kid} (TF : TopFacts T n fs tab kT kK ks) (ex : (ByteArray → Option Value) → Option Addr → Prop)
    (hexA : ∀ j, j < n → (fs j).exp = true → (fs j).vis = true → ∀ v F ch, ex F ch → ex (plus F (fs j).key v) ch) (hexC : ∀ F c, ex F (some c)) (hBs : B ≤ s) :
    Gen B s cb T n fs tab kT kK (fun j F => ∀ K ∈ ks, K.j = j → ∀ x, K.tab x ≠ none → F x ≠ none) none (FamI B cb (T, tdt, s, ob, val) ks ex) where
  n0 := TF.n0
  n64 := TF.n64
  Bs := hBs
  fld := TF.fld
  iex := TF.iex
  fnm := TF.fnm
  key := TF.key
  mkm := TF.mkm
  tk := TF.tk
  add := by
    rintro _ j hj he hv v F ch ix X w ⟨mc, G, g, hF, hc, hp, hx⟩
    exact ⟨mc, G, g, hF.mono (fun x => plus_ne x), hc, hp, hexA j hj he hv v F ch hx⟩
  fr := by
    rintro F ch ix pd X w u ⟨mc, G, g, hF, hc, hp, hx⟩ hf hb
    exact ⟨mc, G, g, hF.fr hf hb, fun c h => by
      obtain ⟨K, hK, k, h1, h2, h3⟩ := hc c h
      exact ⟨K, hK, k, h1, h2, h3.carry hf⟩, hp, hx⟩
  new := by
    rintro F ch ix pd X w x ⟨mc, G, g, hF, hc, hp, hx⟩ hl
    exact ⟨mc, G, g, hF.new hl, hc, hp, hx⟩
  ft := by
    rintro j hj he hv F ch ix m w ⟨mc, G, g, hF, hc, hp, hx⟩ lm ls
    rcases TF.ft j hj he hv with h | ⟨K, hK, e1, e2, e3, e4⟩
    · refine (h (pt cb) w).mono ?_
      rintro e w' ⟨rfl, rfl⟩
      have hf : Fr B w (w.alloc (.cells (natc (fs j).t (fs j).k none (fs j).i (fs j).f) 48)) := (Fr.refl B w hF.low).alloc _
      exact ⟨none, rfl, hf, fun x _ hl => Below.heap_alloc w _ x hl, mc, G, g, hF.fr hf (fun b hl _ => Below.heap_alloc w _ b hl), fun c h => by
        obtain ⟨K, hK, k, h1, h2, h3⟩ := hc c h
        exact ⟨K, hK, k, h1, h2, h3.carry hf⟩, hp, hx⟩
    · rw [e1, e2, e3, e4]
      refine (ftFam TF rfl hF (fun x hx => by simp at hx; omega) hK).mono ?_
      rintro e w' ⟨td, rfl, G', g', k, hf, hsm, hF', hg, htd, hTD, hgg⟩
      exact ⟨_, rfl, hf, hsm, mc, G', g', hF', fun c h => by
        obtain ⟨K, hK, k, h1, h2, h3⟩ := hc c h
        exact ⟨K, hK, k, hgg _ _ h1, h2, h3.carry hf⟩, fun _ _ h => (by cases h), hx⟩
  ts := fun p h => by cases h
  kd := TF.kd
  D0 := by
    rintro j F hj h K hK rfl
    obtain ⟨h1, h2, _⟩ := TF.kj K hK
    rcases h with h | h
    · rw [h1] at h; cases h
    · exact absurd h2 h
  Dm := fun j F G h hx K hK e x hk => hx x (h K hK e x hk)
  gs := by
    rintro j hj he hk F ch ix m w ⟨mc, G, g, hF, hc, hp, hx⟩ lm ls
    obtain ⟨K, hK, hKj, hKT⟩ := TF.kid j hj he hk
    rw [← hKT]
    refine (gsFam TF rfl hF (fun x hx => by simp at hx; omega) hK).mono ?_
    rintro e w' ⟨td, rfl, G', g', k, hf, hsm, hF', hg, htd, hTD, hgg⟩
    exact ⟨td, k.sd, rfl, hf, hsm, hTD, mc, G', g', hF', fun c h => by
      obtain ⟨K, hK, k, h1, h2, h3⟩ := hc c h
      exact ⟨K, hK, k, hgg _ _ h1, h2, h3.carry hf⟩, fun a sd h => by
      cases h
      exact ⟨K, hK, hKj, k, hg, rfl⟩, hx⟩
  fe := by
    rintro j sd F ch ix ixv m an name w hj ⟨mc, G, g, hF, hc, hp, hx⟩ hBm hS hM hSo hN hown hIx
    obtain ⟨K, hK, hKj, k, hg, rfl⟩ := hp j sd rfl
    subst hKj
    refine (feFam TF hexC hBs hF hK hg hBm hS hM hSo hown hIx).mono ?_
    rintro e w' ⟨r, F', hr, hf, hS', hM', hSo', hx', hI, hres⟩
    exact ⟨r, F', hr, hf, hS', hM', hSo', hx', hI, hres.imp (fun ⟨a, b, c⟩ => ⟨a, b, fun K' hK' e => by
      obtain rfl := (TF.inj K' hK' K hK).2 e
      exact c⟩) id⟩
  re := by
    rintro c F ix m an name w ⟨mc, G, g, hF, hc, hp, hx⟩ hBm hS hM hSo hN hown
    obtain ⟨K, hK, k, hg, rfl, hIx⟩ := hc c rfl
    refine (feFam TF hexC hBs hF hK hg hBm hS hM hSo hown hIx).mono ?_
    rintro e w' ⟨r, F', hr, hf, hS', hM', hSo', hx', hI, hres⟩
    exact ⟨r, F', hr, hf, hS', hM', hSo', hx', hI, hres.imp (fun ⟨a, b, _⟩ => ⟨a, b, trivial⟩) id⟩
end Go.Proofs.YtdpgbmmgeooahaaGreatDoorBesrefl
