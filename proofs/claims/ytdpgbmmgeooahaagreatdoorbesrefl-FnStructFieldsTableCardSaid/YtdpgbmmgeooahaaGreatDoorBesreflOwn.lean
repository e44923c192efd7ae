/-
  What the walk over a struct type's own fields stands on. No condition.
-/
import Derived.Test.YtdpgbmmgeooahaaGreatDoorBesreflTry
import Derived.StillTailTactics
import Derived.Deep.RegionHeld3
import Derived.Deep.RegionLaw
import Derived.Deep.RegionLawGrows
import Derived.Deep.AppendLies
import Derived.Deep.Cut
import Derived.Deep.CutRange
import Derived.Deep.RegionWith
import Derived.Lib.Hide
import Derived.Deep.LoopGhost
import Derived.Deep.DeepCutAuto
namespace Go.Proofs.YtdpgbmmgeooahaaGreatDoorBesrefl
open Go.RowKit
set_option maxRecDepth 100000
set_option maxHeartbeats 1000000
set_option linter.unusedVariables false
@[go_sem] theorem meq0_89 (w : World) : (binOp .eql 89 (.map none) (.map none)).run Tryz.prog w = .ok (.bool true) w := by kernel_rfl
@[go_sem] theorem meq1_89 (r : Nat) (w : World) : (binOp .eql 89 (.map (some r)) (.map none)).run Tryz.prog w = .ok (.bool false) w := by kernel_rfl
@[go_sem] theorem size_drewN (w : World) (n : Nat) : (w.drewN n).heap.size = w.heap.size := rfl
@[go_sem] theorem size_drew (w : World) : w.drew.heap.size = w.heap.size := rfl
theorem szs {n k : Nat} (h : n < k) : n < k + 1 ∧ n < k + 1 + 1 ∧ n < k + 1 + 1 + 1 ∧ n < k + 1 + 1 + 1 + 1 := by omega
theorem ba_toList {a b : ByteArray} (h : a.toList = b.toList) : a = b := by
  obtain ⟨x⟩ := a
  obtain ⟨y⟩ := b
  rw [ByteArray.toList_eq, ByteArray.toList_eq] at h
  have : x = y := Array.toList_inj.1 h
  rw [this]
theorem ba_list (l : List UInt8) (n : ByteArray) : ((⟨l.toArray⟩ : ByteArray) == n) = (l == n.toList) := by
  rw [Bool.eq_iff_iff, ba_iff, beq_iff_eq]
  constructor
  · rintro rfl
    exact (ByteArray.toList_mk l).symm
  · intro h
    exact ba_toList ((ByteArray.toList_mk l).trans h)
theorem nsz_111 : (Tryz.prog.info? 111).map (·.size) = some 7 := by kernel_rfl
@[go_sem ↓] theorem lda_111 (w : World) (n : Nat) (hp : Plain w n) (hs : (cellsAt w n).size = 7) : (Instr.loadAt 111 (.pointer (some ⟨n, 0, none⟩))).run Tryz.prog w = .ok (.agg (cellsAt w n)) w := by
  obtain ⟨t, h⟩ := hp.row
  have := run_loadVar_row w n t 111 _ _ _ h Tryz.underlying111 rfl (by rw [hs]; exact nsz_111)
  simp only [Instr.loadAt, Instr.sureAddr, Sem.run_bind, Sem.run_pure, Result.andThen_ok, this]
/-- block fb holds the answer of Field(j), whose index lies in block ib -/
def Fld (w : World) (fb ib : Nat) (j : Int) (c : Array Value) : Prop := w.heap[fb]? = some (.cells c 111 (0, 0)) ∧ w.heap[ib]? = some (.cells #[.int .i64 j] 3 (0, 1))
theorem fld_a (w : World) (j : Int) (c : Array Value) : Fld ((w.alloc (.cells #[.int .i64 j] 3 (0, 1))).alloc (.cells c 111)) (w.heap.size + 1) w.heap.size j c :=
  ⟨sf_new _ _ _ (by simp), (Below.heap_alloc _ _ _ (by simp)).trans (heap_alloc_new w _)⟩
theorem fld_b (w : World) (j : Int) (c : Array Value) : Fld ((w.alloc (.cells c 111)).alloc (.cells #[.int .i64 j] 3 (0, 1))) w.heap.size (w.heap.size + 1) j c :=
  ⟨(Below.heap_alloc _ _ _ (by simp)).trans (heap_alloc_new w _), sf_new _ _ _ (by simp)⟩
theorem Fld.plain {w : World} {fb ib : Nat} {j : Int} {c : Array Value} (h : Fld w fb ib j c) : Plain w fb := ⟨_, _, h.1⟩
theorem Fld.cells {w : World} {fb ib : Nat} {j : Int} {c : Array Value} (h : Fld w fb ib j c) : cellsAt w fb = c := cellsAt_of h.1
theorem Fld.ne {w : World} {fb ib s : Nat} {j : Int} {c c' : Array Value} (h : Fld w fb ib j c) (hS : SD w s c') : s ≠ fb := by
  rintro rfl
  rw [SD, h.1] at hS
  cases hS
theorem Fld.drew {w : World} {fb ib : Nat} {j : Int} {c : Array Value} (h : Fld w fb ib j c) : Fld w.drew fb ib j c := h
theorem Fld.ix {w : World} {fb ib : Nat} {j : Int} {c : Array Value} (h : Fld w fb ib j c) : Ix w (.slice (some ⟨ib, 0, none⟩) 1 1) [j] true :=
  Or.inr ⟨ib, 1, _, _, rfl, h.2, by simp, fun _ => rfl, by simp⟩
theorem Fld.ne2 {w : World} {fb ib m : Nat} {j : Int} {c : Array Value} {F : ByteArray → Option Value} (h : Fld w fb ib j c) (hm : MapIs w m F) : m ≠ fb := by
  rintro rfl
  obtain ⟨es, cl, h1, _⟩ := hm
  have := h.1
  rw [mapAt_some h1] at this
  cases this
/-- what a lookup of a name should find -/
structure Ent where
  t : Nat
  k : Int
  i : Bool
  f : Bool
  zs : List Int
/-- what the fields' map holds is so -/
def Sound (w : World) (F : ByteArray → Option Value) (tab : ByteArray → Option Ent) : Prop :=
  ∀ x v, F x = some v → ∃ p td E, v = .pointer (some ⟨p, 0, none⟩) ∧ tab x = some E ∧ IsSF w p E.t E.k td E.i E.f E.zs
theorem Sound.carry {B : Nat} {w u : World} {F : ByteArray → Option Value} {tab : ByteArray → Option Ent} (h : Sound w F tab) (hf : Fr B w u) : Sound u F tab := by
  intro x v hx
  obtain ⟨p, td, E, h1, h2, h3⟩ := h x v hx
  exact ⟨p, td, E, h1, h2, h3.carry hf⟩
theorem Sound.set {w : World} {F : ByteArray → Option Value} {tab : ByteArray → Option Ent} (h : Sound w F tab) {x : ByteArray} {p : Nat} {td : Option Addr} {E : Ent} (h2 : tab x = some E) (h3 : IsSF w p E.t E.k td E.i E.f E.zs) :
    Sound w (fun y => if (x == y) = true then some (.pointer (some ⟨p, 0, none⟩)) else F y) tab := by
  intro y v hy
  dsimp only at hy
  by_cases hxy : (x == y) = true
  · rw [if_pos hxy] at hy
    cases hy
    have := (ba_iff _ _).1 hxy
    subst this
    exact ⟨p, td, E, rfl, h2, h3⟩
  · rw [if_neg hxy] at hy
    exact h y v hy
theorem Sound.none (w : World) (tab : ByteArray → Option Ent) : Sound w (fun _ => .none) tab := fun _ _ h => by cases h
/-- all of these names are in the map -/
def Has (F : ByteArray → Option Value) (l : List ByteArray) : Prop := ∀ x ∈ l, F x ≠ none
theorem Has.set {F : ByteArray → Option Value} {l : List ByteArray} (h : Has F l) (x : ByteArray) (v : Value) : Has (fun y => if (x == y) = true then some v else F y) (l ++ [x]) := by
  intro y hy
  dsimp only
  by_cases hxy : (x == y) = true
  · rw [if_pos hxy]; simp
  · rw [if_neg hxy]
    rcases List.mem_append.1 hy with hy | hy
    · exact h y hy
    · simp at hy; subst hy; exact absurd ((ba_iff _ _).2 rfl) hxy
theorem Fr.low0 {B : Nat} {w v : World} (h : Fr B w v) : Fr 0 w v := ⟨⟨h.bel.os, h.bel.tape, h.bel.output, h.grow, fun _ hk => absurd hk (Nat.not_lt_zero _)⟩, h.kept, h.grow, Nat.zero_le _⟩
/-- behind a found field: a structField of its own, and the map says so -/
theorem fin3 {wc X : World} {s m : Nat} {c' : Array Value} {F : ByteArray → Option Value} {tab : ByteArray → Option Ent} {key : ByteArray} {E : Ent} {v : Value} (td : Option Addr) (a b : Obj)
    (hM : MapIs X m (fun y => if (key == y) = true then some (.pointer (some ⟨wc.heap.size + 1 + 1, 0, none⟩)) else F y)) (hS : SD X s c') (hX : Fr 0 wc X) (hz : X.heap.size = wc.heap.size) (hSo : Sound wc F tab) (hE : tab key = some E) (hI : Ix wc v E.zs false) :
    MapIs (((X.alloc a).alloc b).alloc (.cells (sfc E.t E.k td E.i E.f v) 93)) m (fun y => if (key == y) = true then some (.pointer (some ⟨wc.heap.size + 1 + 1, 0, none⟩)) else F y) ∧ SD (((X.alloc a).alloc b).alloc (.cells (sfc E.t E.k td E.i E.f v) 93)) s c' ∧
      Sound (((X.alloc a).alloc b).alloc (.cells (sfc E.t E.k td E.i E.f v) 93)) (fun y => if (key == y) = true then some (.pointer (some ⟨wc.heap.size + 1 + 1, 0, none⟩)) else F y) tab := by
  have hW : Fr 0 wc (((X.alloc a).alloc b).alloc (.cells (sfc E.t E.k td E.i E.f v) 93)) := ((hX.alloc a).alloc b).alloc _
  exact ⟨((hM.alloc a).alloc b).alloc _, ((hS.alloc a).alloc b).alloc _, (hSo.carry hW).set hE ⟨v, sf_new _ _ _ (by simp [hz]), hI.carry hW⟩⟩
theorem SD.set {w : World} {s i : Nat} {c : Array Value} (h : SD w s c) (v : Value) : SD (w.setCell ⟨s, i, none⟩ v) s (c.setIfInBounds i v) := by
  have := setRow_heap w s c (c.setIfInBounds i v) 91 _ h
  rw [← setCell_eq_setRow w s i _ 91 _ v h] at this
  exact this
theorem MapIs.setCell {w : World} {m : Nat} {F : ByteArray → Option Value} (h : MapIs w m F) (a : Addr) (v : Value) : MapIs (w.setCell a v) m F := h.carry (mapAt_set w a v m)
theorem Has.mono {F G : ByteArray → Option Value} {l : List ByteArray} (h : Has F l) (k : ∀ x, F x ≠ none → G x ≠ none) : Has G l := fun x hx => k x (h x hx)
theorem ext_ne {F : ByteArray → Option Value} {key : ByteArray} {v : Value} (x : ByteArray) (h : F x ≠ none) : (if (key == x) = true then some v else F x) ≠ none := by
  split
  · simp
  · exact h
theorem size_set (w : World) (a : Addr) (v : Value) : (w.setCell a v).heap.size = w.heap.size := Array.size_modify ..
theorem Ix.any {w : World} {v : Value} {zs : List Int} (h : Ix w v zs true) : Ix w v zs false := by
  rcases h with h | ⟨g, cap, cur, fr, h1, h2, h3, _, h5⟩
  · exact Or.inl h
  · exact Or.inr ⟨g, cap, cur, fr, h1, h2, h3, (fun h => by cases h), h5⟩
@[go_sem] theorem mk_2 (w : World) : (Instr.makeMap 89 (some (.int .i64 2))).run Tryz.prog w = .ok (.map (some w.heap.size)) (w.alloc (.map #[] 0)) := by kernel_rfl
@[go_sem] theorem mk_3 (w : World) : (Instr.makeMap 89 (some (.int .i64 3))).run Tryz.prog w = .ok (.map (some w.heap.size)) (w.alloc (.map #[] 0)) := by kernel_rfl
@[go_sem] theorem mk_5 (w : World) : (Instr.makeMap 89 (some (.int .i64 5))).run Tryz.prog w = .ok (.map (some w.heap.size)) (w.alloc (.map #[] 0)) := by kernel_rfl
@[go_sem] theorem mk_7 (w : World) : (Instr.makeMap 89 (some (.int .i64 7))).run Tryz.prog w = .ok (.map (some w.heap.size)) (w.alloc (.map #[] 0)) := by kernel_rfl
theorem MapIs.at_new {X : World} {n cl : Nat} (h : X.heap.size = n) : MapIs (X.alloc (.map #[] cl)) n (fun _ => none) := by
  subst h
  exact MapIs.new X cl
@[go_sem] theorem plain_pastD (w : World) (o : Obj) (n m : Nat) (hn : n < w.heap.size) : Plain ((w.drewN m).alloc o) n = Plain w n := plain_past (w.drewN m) o n hn
@[go_sem] theorem cellsAt_pastD (w : World) (o : Obj) (n m : Nat) (hn : n < w.heap.size) : cellsAt ((w.drewN m).alloc o) n = cellsAt w n := cellsAt_past (w.drewN m) o n hn
@[go_sem] theorem mapAt_pastD (w : World) (o : Obj) (n m : Nat) (hn : n < w.heap.size) : mapAt ((w.drewN m).alloc o) n = mapAt w n := mapAt_past (w.drewN m) o n hn
@[go_sem] theorem put_pastD (w : World) (o o' : Obj) (n m : Nat) (hn : n < w.heap.size) : put ((w.drewN m).alloc o) n o' = (put (w.drewN m) n o').alloc o := put_past (w.drewN m) o o' n hn
end Go.Proofs.YtdpgbmmgeooahaaGreatDoorBesrefl
