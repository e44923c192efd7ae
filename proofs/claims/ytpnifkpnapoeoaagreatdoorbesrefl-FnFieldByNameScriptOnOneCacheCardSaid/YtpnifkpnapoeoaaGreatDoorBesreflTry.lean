/-
  trySet, and what a structField is. No condition.
-/
import Derived.Test.YtpnifkpnapoeoaaGreatDoorBesreflKit
import Derived.StillTailTactics
import Derived.Deep.RegionHeld3
import Derived.Deep.RegionLaw
import Derived.Deep.RegionLawGrows
import Derived.Deep.AppendLies
import Derived.Deep.Cut
import Derived.Deep.CutRange
import Derived.Deep.RegionWith
import Derived.Lib.Hide
import Derived.Deep.LoopGhost
import Derived.Deep.DeepCutAuto
namespace Go.Proofs.YtpnifkpnapoeoaaGreatDoorBesrefl
open Go.RowKit
set_option maxRecDepth 100000
set_option maxHeartbeats 1000000
set_option linter.unusedVariables false
theorem Fr.grown {B : Nat} {w v u : World} (h : Fr B w v) (g : v.grownBy u none) : Fr B w u :=
  ⟨⟨g.os.trans h.bel.os, g.tape.trans h.bel.tape, g.output.trans h.bel.output, Nat.le_trans h.bel.size g.size, fun k hk => (g.block k (by have := h.low; have := h.grow; omega) (by simp)).trans (h.bel.block k hk)⟩,
   fun n o a c => by
    have h3 := h.kept n o a c
    exact (g.block n (Array.getElem?_eq_some_iff.1 h3).1 (by simp)).trans h3, Nat.le_trans h.grow g.size, h.low⟩
theorem SD.put {w : World} {s m : Nat} {c : Array Value} {x : Array MapEntry × Nat} (h : SD w s c) (hm : mapAt w m = some x) (o : Obj) : SD (put w m o) s c := by
  have hne : m ≠ s := by
    rintro rfl
    obtain ⟨es, cl⟩ := x
    rw [SD, mapAt_some hm] at h
    cases h
  exact (heap_put w m o s hne).trans h
theorem SD.alloc {w : World} {s : Nat} {c : Array Value} (h : SD w s c) (o : Obj) : SD (w.alloc o) s c := (Below.heap_alloc w o s h.lt).trans h
theorem SD.grown {w u : World} {s : Nat} {c : Array Value} (h : SD w s c) (g : w.grownBy u none) : SD u s c := (g.block s h.lt (by simp)).trans h
theorem MapIs.heap {w v : World} {m : Nat} {F : ByteArray → Option Value} (h : MapIs w m F) (e : v.heap[m]? = w.heap[m]?) : MapIs v m F :=
  h.carry (by unfold mapAt; rw [e])
theorem MapIs.alloc {w : World} {m : Nat} {F : ByteArray → Option Value} (h : MapIs w m F) (o : Obj) : MapIs (w.alloc o) m F := h.heap (Below.heap_alloc w o m h.lt)
theorem MapIs.grown {w u : World} {m : Nat} {F : ByteArray → Option Value} (h : MapIs w m F) (g : w.grownBy u none) : MapIs u m F := h.heap (g.block m h.lt (by simp))
theorem MapIs.some {w : World} {m : Nat} {F : ByteArray → Option Value} (h : MapIs w m F) : ∃ x, mapAt w m = some x := by
  obtain ⟨es, cl, h1, _⟩ := h
  exact ⟨_, h1⟩
theorem MapIs.loose {w : World} {m : Nat} {F : ByteArray → Option Value} (h : MapIs w m F) : ∀ o, w.heap[m]? = Option.some o → keep o = false := by
  intro o ho
  obtain ⟨es, cl, h1, _⟩ := h
  rw [mapAt_some h1] at ho
  cases ho
  rfl
@[go_sem] theorem plain_put (w : World) (m n : Nat) (o : Obj) (h : m ≠ n) : Plain (put w m o) n = Plain w n := by
  unfold Plain
  rw [heap_put w m o n h]
@[go_sem] theorem cellsAt_put (w : World) (m n : Nat) (o : Obj) (h : m ≠ n) : cellsAt (put w m o) n = cellsAt w n := cellsAt_heap (heap_put w m o n h)
theorem SD.ne {w : World} {s m : Nat} {c : Array Value} {F : ByteArray → Option Value} (h : SD w s c) (hm : MapIs w m F) : m ≠ s := by
  rintro rfl
  obtain ⟨es, cl, h1, _⟩ := hm
  rw [SD, mapAt_some h1] at h
  cases h
theorem zs_100 (w : World) : (zeroValue 88).run Tryz.prog w = .ok (.pointer none) w := by kernel_rfl
@[go_sem] theorem sl_100 (r : Nat) (k : ByteArray) (ok : Bool) (w : World) (h : strOk (mapAt w r) = true) : (Instr.lookup 100 (.map (some r)) (.string k) ok).run Tryz.prog w = .ok (orZero (strLook (mapAt w r) k) (.pointer none) ok) w :=
  look_str Tryz.underlying100 Tryz.underlying9 (zs_100 w) h
@[go_sem] theorem su_100 (r : Nat) (k : ByteArray) (v : Value) (w : World) (h : strOk (mapAt w r) = true) : (Instr.mapUpdate 100 (.map (some r)) (.string k) v).run Tryz.prog w = .ok () (put w r (mapSet (mapAt w r) k v)) :=
  run_set_str Tryz.underlying100 Tryz.underlying9 h
theorem nsz_48 : (Tryz.prog.info? 48).map (·.size) = some 9 := by kernel_rfl
theorem run_loadVar_part {P : Program} (w : World) (g o : Nat) (t ty : TypeId) (cs xs : Array Value) (fr : Nat × Nat) (d : TypeDesc) (hg : w.heap[g]? = some (.cells cs t fr))
    (hu : P.underlying ty = some d) (hd : (match d with | .struct _ | .array _ _ => true | _ => false) = true) (hi : (P.info? ty).map (·.size) = some xs.size) (hx : ∀ j v, xs[j]? = some v → cs[o + j]? = some v) :
    (loadVar ty ⟨g, o, none⟩).run P w = .ok (.agg xs) w := by
  have hl : (loadCells ⟨g, o, none⟩ xs.toList.length).run P w = .ok xs.toList.toArray w :=
    run_loadCells_list (P := P) w ⟨g, o, none⟩ xs.toList (fun j v hv => by
      have hadd : (⟨g, o, none⟩ : Addr).add j = ⟨g, o + j, none⟩ := by unfold Addr.add; split <;> simp_all
      rw [hadd, cell_of_row w g (o + j) cs t fr hg]
      exact hx j v (by simpa using hv))
  cases hq : P.info? ty with
  | none => simp [hq] at hi
  | some i =>
    have hs : i.size = xs.size := by simpa [hq] using hi
    have hagg : (isAgg ty).run P w = .ok true w := by
      unfold isAgg
      rw [Sem.run_bind, run_underlying hu w]
      cases d <;> simp_all
    simp only [Array.length_toList, Array.toArray_toList] at hl
    simp [loadVar, Sem.run_bind, hagg, sizeOf, typeInfo, hq, hs, hl]
@[go_sem ↓] theorem ldn (w : World) (n : Nat) (hp : Plain w n) (hs : (cellsAt w n).size = 10) : (Instr.loadAt 48 (.pointer (some ⟨n, 0, none⟩))).run Tryz.prog w = .ok (.agg ((cellsAt w n).extract 0 9)) w := by
  obtain ⟨t, h⟩ := hp.row
  have := run_loadVar_part (P := Tryz.prog) w n 0 t 48 (cellsAt w n) ((cellsAt w n).extract 0 9) (0, 0) _ h Tryz.underlying48 rfl (by rw [Array.size_extract, hs]; exact nsz_48) (fun j v hv => by
    rw [Array.getElem?_extract] at hv
    split at hv
    · simpa using hv
    · cases hv)
  simp only [Instr.loadAt, Instr.sureAddr, Sem.run_bind, Sem.run_pure, Result.andThen_ok, this]
/-- the nine cells of a nature that has a type -/
abbrev natc (t : Nat) (k : Int) (td : Option Addr) (i f : Bool) : Array Value :=
  #[.iface 105 (.pointer (some ⟨4, t, none⟩)), .int .u64 k, .pointer td, .pointer none, .bool false, .bool false, .bool false, .bool i, .bool f]
abbrev sfc (t : Nat) (k : Int) (td : Option Addr) (i f : Bool) (v : Value) : Array Value :=
  #[.iface 105 (.pointer (some ⟨4, t, none⟩)), .int .u64 k, .pointer td, .pointer none, .bool false, .bool false, .bool false, .bool i, .bool f, v]
/-- the slice v of ints reads as zs -/
def Ix (w : World) (v : Value) (zs : List Int) (full : Bool) : Prop :=
  (v = .slice none 0 0 ∧ zs = []) ∨ ∃ g cap cur fr, v = .slice (some ⟨g, 0, none⟩) zs.length cap ∧ w.heap[g]? = some (.cells cur 3 fr) ∧ zs.length ≤ cap ∧ (full = true → cap = zs.length) ∧ cur.toList.take zs.length = zs.map (Value.int .i64)
theorem Ix.carry {B : Nat} {w u : World} {v : Value} {zs : List Int} {full : Bool} (h : Ix w v zs full) (hf : Fr B w u) : Ix u v zs full := by
  rcases h with h | ⟨g, cap, cur, fr, h1, h2, h3⟩
  · exact Or.inl h
  · exact Or.inr ⟨g, cap, cur, fr, h1, hf.kept g _ h2 rfl, h3⟩
/-- block q is a structField: the nature of type t, and the index zs -/
def IsSF (w : World) (q t : Nat) (k : Int) (td : Option Addr) (i f : Bool) (zs : List Int) : Prop :=
  ∃ v, w.heap[q]? = some (.cells (sfc t k td i f v) 91 (0, 0)) ∧ Ix w v zs false
theorem IsSF.carry {B : Nat} {w u : World} {q t : Nat} {k : Int} {td : Option Addr} {i f : Bool} {zs : List Int} (h : IsSF w q t k td i f zs) (hf : Fr B w u) : IsSF u q t k td i f zs := by
  obtain ⟨v, h1, h2⟩ := h
  exact ⟨v, hf.kept q _ h1 rfl, h2.carry hf⟩
theorem ts_hit (s : Nat) (t m : Nat) (n own an : Int) (ch : Option Addr) (ix : Value) (F : ByteArray → Option Value) (name : ByteArray) (sf v : Value) (w : World)
    (hS : SD w s (sdc t (some m) n own an none ch ix)) (hM : MapIs w m F) (hF : F name = some v) :
    Calls Tryz.prog 46 #[.pointer (some ⟨s, 0, none⟩), .string name, sf] w fun e w' => e = .returned (.tuple #[]) ∧ w = w' := by
  have hp := hS.plain
  have hs := hS.cells
  have hm := hM.ok
  have hl : strLook (mapAt w m) name = some v := (hM.look name).trans hF
  clear hS hM
  go_enter Tryz.func46, Tryz.ntmps46
  go_wp2
  refine bodyPost_ret (results_none rfl _ _ _) rfl ?_
  exact ⟨rfl, rfl⟩
theorem inf3 : (Tryz.prog.info? 3).map (fun i => (i.zero, i.size, i.bytes)) = some (some (.int .i64 0), 1, 8) := by kernel_rfl
theorem ix_cells {w : World} {g : Nat} {cur : Array Value} {fr : Nat × Nat} {zs : List Int} (hg : w.heap[g]? = some (.cells cur 3 fr)) (ht : cur.toList.take zs.length = zs.map (Value.int .i64)) :
    ∀ j u, (zs.map (Value.int .i64))[j]? = some u → w.cell? ((⟨g, 0, none⟩ : Addr).add j) = some u := by
  intro j u hj
  have hadd : (⟨g, 0, none⟩ : Addr).add j = ⟨g, j, none⟩ := by unfold Addr.add; split <;> simp_all
  rw [hadd, cell_of_row w g j cur 3 fr hg]
  rw [← ht, List.getElem?_take] at hj
  split at hj
  · simpa using hj
  · cases hj
theorem ints_one (zs : List Int) : ∀ u ∈ zs.map (Value.int .i64), u.oneCell' = true := by
  intro u hu
  simp only [List.mem_map] at hu
  obtain ⟨x, _, rfl⟩ := hu
  rfl
theorem own_shape {w : World} {base n : Nat} {v : Value} {xs : List Value} (h : w.ownsRow base 3 1 v n xs) (hn : 0 < n) :
    ∃ gg cp cu, v = .slice (some ⟨gg, 0, none⟩) n cp ∧ base ≤ gg ∧ w.heap[gg]? = some (.cells cu 3 (0, 0)) ∧ n ≤ cp ∧ cu.toList.take n = xs := by
  obtain ⟨_, ⟨rfl, h0⟩ | ⟨gg, cp, cu, rfl, hb, hg, hle, _, _, ht⟩⟩ := h
  · omega
  · exact ⟨gg, cp, cu, rfl, hb, hg, hle, by simpa using ht⟩
theorem pg {w u : World} {n : Nat} (h : w.grownBy u none) (hp : Plain w n) : Plain u n ∧ cellsAt u n = cellsAt w n :=
  ⟨plain_heap (h.block n hp.lt (by simp)) hp, cellsAt_heap (h.block n hp.lt (by simp))⟩
theorem pga {w u : World} {n : Nat} (h : w.grownBy u none) (hp : Plain w n) (o : Obj) : Plain (u.alloc o) n ∧ cellsAt (u.alloc o) n = cellsAt w n :=
  have hh := Below.heap_alloc u o n (pg h hp).1.lt
  ⟨plain_heap hh (pg h hp).1, (cellsAt_heap hh).trans (pg h hp).2⟩
theorem ix_app {w : World} {gg cp : Nat} {cu : Array Value} {fr : Nat × Nat} {zs ys : List Int} (h1 : w.heap[gg]? = some (.cells cu 3 fr)) (h2 : zs.length + ys.length ≤ cp) (h3 : cu.toList.take (zs.length + ys.length) = zs.map (Value.int .i64) ++ ys.map (Value.int .i64)) :
    Ix w (.slice (some ⟨gg, 0, none⟩) (zs.length + ys.length) cp) (zs ++ ys) false := by
  refine Or.inr ⟨gg, cp, cu, fr, by rw [List.length_append], h1, by rw [List.length_append]; exact h2, (fun h => by cases h), ?_⟩
  rw [List.length_append, List.map_append]
  exact h3
theorem sf_new (w : World) (o : Obj) (n : Nat) (h : w.heap.size = n) : (w.alloc o).heap[n]? = some o := by
  subst h
  exact heap_alloc_new w o
theorem oth_put {w w1 : World} {m : Nat} {o o' : Obj} (h : ∀ b, b < w.heap.size → w1.heap[b]? = w.heap[b]?) (hg : w.heap.size ≤ w1.heap.size) : ∀ b, b < w.heap.size → b ≠ m → ((put w1 m o).alloc o').heap[b]? = w.heap[b]? := fun b hb hm =>
  (Below.heap_alloc _ _ _ (by rw [put_size]; omega)).trans ((heap_put w1 m o b (fun e => hm e.symm)).trans (h b hb))
theorem ts_miss (s : Nat) (t m : Nat) (n own an : Int) (ch : Option Addr) (ix : Value) (F : ByteArray → Option Value) (name : ByteArray) (q tt : Nat) (k : Int) (td : Option Addr) (i f : Bool) (zs ys : List Int) (B : Nat) (w : World)
    (hS : SD w s (sdc t (some m) n own an none ch ix)) (hM : MapIs w m F) (hF : F name = none) (hI : Ix w ix zs true) (hQ : IsSF w q tt k td i f ys) (hne : ys ≠ []) (hlen : zs.length + ys.length ≤ 100000) (hB : B ≤ m) (hBw : B ≤ w.heap.size) :
    Calls Tryz.prog 46 #[.pointer (some ⟨s, 0, none⟩), .string name, .pointer (some ⟨q, 0, none⟩)] w fun e w' => e = .returned (.tuple #[]) ∧ ∃ p, Fr B w w' ∧ SD w' s (sdc t (some m) n own an none ch ix) ∧ MapIs w' m (fun x => if (name == x) = true then some (.pointer (some ⟨p, 0, none⟩)) else F x) ∧ (∀ b, b < w.heap.size → b ≠ m → w'.heap[b]? = w.heap[b]?) ∧ IsSF w' p tt k td i f (zs ++ ys) := by
  have hp := hS.plain
  have hs := hS.cells
  have hm := hM.ok
  have hl : strLook (mapAt w m) name = none := (hM.look name).trans hF
  obtain ⟨v, hq, hv⟩ := hQ
  have hqp : Plain w q := ⟨_, _, hq⟩
  have hqc : cellsAt w q = _ := cellsAt_of hq
  have hsz : (cellsAt w q).size = 10 := by rw [hqc]; rfl
  obtain ⟨i0, hi0, hz0, hz1, hz2⟩ := info_parts inf3
  have hN : Ix w v ys false := hv
  rcases hv with ⟨_, hv⟩ | ⟨g2, cap2, cur2, fr2, rfl, hg2, hle2, _, ht2⟩
  · exact absurd hv hne
  have hy : 0 < ys.length := List.length_pos_iff.2 hne
  have c2 := ix_cells hg2 ht2
  rcases hI with ⟨rfl, rfl⟩ | ⟨g1, cap1, cur1, fr1, rfl, hg1, hle1, hfull, ht1⟩
  · have H2 := Lib.hid c2
    clear c2
    go_enter Tryz.func46, Tryz.ntmps46
    go_wp2
    go_region_held3 (fun w' => Plain w' q ∧ cellsAt w' q = sfc tt k td i f (.slice (some ⟨g2, 0, none⟩) ys.length cap2) ∧ Plain w' s ∧ cellsAt w' s = sdc t (some m) n own an none ch (.slice none 0 0))
      (first | go_keep | exact ⟨hqp, hqc, hp, hs⟩ | exact ⟨(pg hgrow hqp).1, (pg hgrow hqp).2.trans hqc, (pg hgrow hp).1, (pg hgrow hp).2.trans hs⟩ | exact ⟨(pga hgrow hqp _).1, (pga hgrow hqp _).2.trans hqc, (pga hgrow hp _).1, (pga hgrow hp _).2.trans hs⟩)
      ((refine step_append_grows (by rfl) _ _ 53 (by rfl) 3 i0 _ 1 8 Tryz.underlying53 hi0 hz0 hz1 hz2 rfl (by omega) none 0 0 [] (by rfl) (fun _ => ⟨rfl, rfl⟩) (by simp) (fun b hb => by cases hb) ⟨g2, 0, none⟩ ys.length cap2 (ys.map (Value.int .i64)) (by rfl) (by simp) H2.out (ints_one ys) (by omega) (by simp at hlen; unfold maxLen; omega) (by simp at hlen; omega) ?_; intro v' w1 hown hgrow; obtain ⟨gg, cp, cu, rfl, hgb, hgu, hcl, hct⟩ := own_shape hown (by omega)))
    have hgd : w.drew.grownBy w1 none := hgrow
    have hp1 := (pg hgrow hp).1
    have hs1 := (pg hgrow hp).2.trans hs
    have hM1 : MapIs w1 m F := MapIs.grown (w := w.drew) hM hgrow
    have hS1 : SD w1 s _ := SD.grown (w := w.drew) hS hgrow
    have hm1 := hM1.ok
    have hmlt := hM1.lt
    have hslt := hS1.lt
    have hF1 : Fr B w w1 := (Fr.refl B w hBw).drew.grown hgrow
    have hIx := ix_app (zs := []) hgu (by simpa using hcl) (by simpa using hct)
    have hH := Lib.hid hIx
    have hms := hS1.ne hM1
    have hcl2 := Lib.hid hcl
    have HO1 : Hid (∀ b, b < w.heap.size → w1.heap[b]? = w.heap[b]?) := Lib.hid (fun b hb => hgd.block b hb (by simp))
    clear hgrow hgd hown hgb hgu hct hIx hcl hq hN hg2 hle2 ht2 hs hp hqp hqc hsz hl hS
    go_wp2
    go_end0
    obtain ⟨x, hx⟩ := hM1.some
    exact ⟨rfl, w1.heap.size, (hF1.put hB hM.loose _).alloc _, (hS1.put hx _).alloc _, (hM1.set name _).alloc _, oth_put HO1.out hF1.grow, _, sf_new _ _ _ (put_size ..), (show Ix w1 (.slice (some ⟨gg, 0, none⟩) ys.length cp) ys false from by simpa using hH.out).carry (((Fr.refl 0 w1 (Nat.zero_le _)).put (Nat.zero_le _) hM1.loose _).alloc _)⟩
  have hcap := hfull rfl
  subst hcap
  have c1 := ix_cells hg1 ht1
  have H1 := Lib.hid c1
  have H2 := Lib.hid c2
  clear c1 c2 hfull
  go_enter Tryz.func46, Tryz.ntmps46
  go_wp2
  go_region_held3 (fun w' => Plain w' q ∧ cellsAt w' q = sfc tt k td i f (.slice (some ⟨g2, 0, none⟩) ys.length cap2) ∧ Plain w' s ∧ cellsAt w' s = sdc t (some m) n own an none ch (.slice (some ⟨g1, 0, none⟩) zs.length zs.length))
    (first | go_keep | exact ⟨hqp, hqc, hp, hs⟩ | exact ⟨(pg hgrow hqp).1, (pg hgrow hqp).2.trans hqc, (pg hgrow hp).1, (pg hgrow hp).2.trans hs⟩ | exact ⟨(pga hgrow hqp _).1, (pga hgrow hqp _).2.trans hqc, (pga hgrow hp _).1, (pga hgrow hp _).2.trans hs⟩)
    ((refine step_append_grows (by rfl) _ _ 53 (by rfl) 3 i0 _ 1 8 Tryz.underlying53 hi0 hz0 hz1 hz2 rfl (by omega) (some ⟨g1, 0, none⟩) zs.length zs.length (zs.map (Value.int .i64)) (by rfl) (by simp) (by simp) (fun b hb => by cases hb; exact H1.out) ⟨g2, 0, none⟩ ys.length cap2 (ys.map (Value.int .i64)) (by rfl) (by simp) H2.out (ints_one ys) (by omega) (by unfold maxLen; omega) (by omega) ?_; intro v' w1 hown hgrow; obtain ⟨gg, cp, cu, rfl, hgb, hgu, hcl, hct⟩ := own_shape hown (by omega)))
  have hgd : w.drew.grownBy w1 none := hgrow
  have hp1 := (pg hgrow hp).1
  have hs1 := (pg hgrow hp).2.trans hs
  have hM1 : MapIs w1 m F := MapIs.grown (w := w.drew) hM hgrow
  have hS1 : SD w1 s _ := SD.grown (w := w.drew) hS hgrow
  have hm1 := hM1.ok
  have hmlt := hM1.lt
  have hslt := hS1.lt
  have hF1 : Fr B w w1 := (Fr.refl B w hBw).drew.grown hgrow
  have hIx := ix_app hgu hcl hct
  have hH := Lib.hid hIx
  have hms := hS1.ne hM1
  have hcl2 := Lib.hid hcl
  have HO1 : Hid (∀ b, b < w.heap.size → w1.heap[b]? = w.heap[b]?) := Lib.hid (fun b hb => hgd.block b hb (by simp))
  clear hgrow hgd hown hgb hgu hct hIx hcl hq hN hle1 ht1 hg1 hg2 hle2 ht2 hs hp hqp hqc hsz hl hS
  go_wp2
  go_end0
  obtain ⟨x, hx⟩ := hM1.some
  exact ⟨rfl, w1.heap.size, (hF1.put hB hM.loose _).alloc _, (hS1.put hx _).alloc _, (hM1.set name _).alloc _, oth_put HO1.out hF1.grow, _, sf_new _ _ _ (put_size ..), hH.out.carry (((Fr.refl 0 w1 (Nat.zero_le _)).put (Nat.zero_le _) hM1.loose _).alloc _)⟩
end Go.Proofs.YtpnifkpnapoeoaaGreatDoorBesrefl
