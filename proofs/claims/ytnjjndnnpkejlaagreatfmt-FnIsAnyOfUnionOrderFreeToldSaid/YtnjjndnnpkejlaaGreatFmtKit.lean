/-
  Blocks: what the walks of this seat stand on. No condition.
-/
import Derived.Test.YtnjjndnnpkejlaaGreatFmtBase
import Derived.OpenShut
import Derived.Deep.RegionWith
import Derived.RegionTactic
import Derived.ChangeAlike
import Derived.Deep.QuietTactic
import Derived.BigQuiet
import Derived.WalkSmall
import Derived.Carry
import Derived.LaidEqlPtr
import Derived.Lib.Builder
import Derived.Laws.NewBlocks
import Derived.Below
import Derived.Laws.CopyOwn
import Derived.OwnWalk
import Derived.Deep.OwnRows
import Derived.Deep.Cut
import Derived.Deep.CutRange
import Derived.MapKept
import Derived.Outline
import Derived.Lib.Hide
namespace Go.Proofs.YtnjjndnnpkejlaaGreatFmt
open Go.RowKit
set_option maxRecDepth 100000
set_option maxHeartbeats 1000000
set_option linter.unusedVariables false
/-- block n of w is a row of cells of which nothing is frozen -/
def Plain (w : World) (n : Nat) : Prop := ∃ c t, w.heap[n]? = some (.cells c t (0, 0))
theorem Plain.lt {w : World} {n : Nat} (h : Plain w n) : n < w.heap.size := by
  obtain ⟨c, t, h⟩ := h
  exact (Array.getElem?_eq_some_iff.1 h).1
@[go_sem] theorem plain_at (w : World) (c : Array Value) (t : TypeId) (n : Nat) (hn : n = w.heap.size) : Plain (w.alloc (.cells c t)) n = True := by
  subst hn
  exact eq_true ⟨c, t, (show (w.heap.push (.cells c t))[w.heap.size]? = some (.cells c t) by simp)⟩
@[go_sem] theorem plain_past (w : World) (o : Obj) (n : Nat) (hn : n < w.heap.size) : Plain (w.alloc o) n = Plain w n := by
  unfold Plain
  rw [Below.heap_alloc w o n hn]
@[go_sem] theorem plain_drew (w : World) (n : Nat) : Plain w.drew n = Plain w n := rfl
@[go_sem] theorem plain_drewN (w : World) (m n : Nat) : Plain (w.drewN m) n = Plain w n := rfl
@[go_sem] theorem plain_set (w : World) (a : Addr) (v : Value) (n : Nat) : Plain (w.setCell a v) n = Plain w n := by
  unfold Plain
  by_cases h : n = a.block
  · subst h
    simp only [World.setCell, Array.getElem?_modify]
    apply propext
    constructor
    · rintro ⟨c, t, h⟩
      cases ho : w.heap[a.block]? with
      | none => simp [ho] at h
      | some o =>
        simp [ho] at h
        cases o <;> simp at h
        obtain ⟨_, rfl, rfl⟩ := h
        exact ⟨_, _, rfl⟩
    · rintro ⟨c, t, h⟩
      rw [h]
      simp only [if_true, Option.map_some]
      exact ⟨_, t, rfl⟩
  · rw [Below.heap_setCell w a v n h]
/-- the cells of block n of w, where nothing of it is frozen -/
def cellsAt (w : World) (n : Nat) : Array Value := match w.heap[n]? with | some (.cells c _ (0, 0)) => c | _ => #[]
theorem cellsAt_of {w : World} {n : Nat} {c : Array Value} {t : TypeId} (h : w.heap[n]? = some (.cells c t (0, 0))) : cellsAt w n = c := by simp [cellsAt, h]
theorem cellsAt_heap {w u : World} {n : Nat} (h : u.heap[n]? = w.heap[n]?) : cellsAt u n = cellsAt w n := by
  unfold cellsAt
  rw [h]
theorem plain_heap {w u : World} {n : Nat} (h : u.heap[n]? = w.heap[n]?) (p : Plain w n) : Plain u n := by
  obtain ⟨c, t, hp⟩ := p
  exact ⟨c, t, h.trans hp⟩
theorem Plain.row {w : World} {n : Nat} (h : Plain w n) : ∃ t, w.heap[n]? = some (.cells (cellsAt w n) t (0, 0)) := by
  obtain ⟨c, t, h⟩ := h
  exact ⟨t, by rw [cellsAt_of h]; exact h⟩
@[go_sem] theorem cellsAt_at (w : World) (c : Array Value) (t : TypeId) (n : Nat) (hn : n = w.heap.size) : cellsAt (w.alloc (.cells c t)) n = c := by
  subst hn
  exact cellsAt_of (show (w.heap.push (.cells c t))[w.heap.size]? = some (.cells c t) by simp)
@[go_sem] theorem cellsAt_past (w : World) (o : Obj) (n : Nat) (hn : n < w.heap.size) : cellsAt (w.alloc o) n = cellsAt w n := cellsAt_heap (Below.heap_alloc w o n hn)
@[go_sem] theorem cellsAt_drew (w : World) (n : Nat) : cellsAt w.drew n = cellsAt w n := rfl
@[go_sem] theorem cellsAt_drewN (w : World) (m n : Nat) : cellsAt (w.drewN m) n = cellsAt w n := rfl
@[go_sem] theorem cellsAt_row (w : World) (n : Nat) (c : Array Value) (hp : Plain w n) : cellsAt (w.setRow n c) n = c := by
  obtain ⟨t, h⟩ := hp.row
  exact cellsAt_of (setRow_heap w n _ c t _ h)
@[go_sem] theorem cellsAt_row_other (w : World) (n m : Nat) (c : Array Value) (hne : n ≠ m) : cellsAt (w.setRow m c) n = cellsAt w n := cellsAt_heap (setRow_other w m n c hne)
@[go_sem] theorem plain_row (w : World) (n m : Nat) (c : Array Value) (hp : Plain w n) : Plain (w.setRow m c) n := by
  by_cases h : n = m
  · subst h
    obtain ⟨t, h⟩ := hp.row
    exact ⟨_, t, setRow_heap w n _ c t _ h⟩
  · exact plain_heap (setRow_other w m n c h) hp
@[go_sem] theorem cell_plain (w : World) (n i : Nat) (hp : Plain w n) : w.cell? ⟨n, i, none⟩ = (cellsAt w n)[i]? := by
  obtain ⟨t, h⟩ := hp.row
  exact cell_of_row w n i _ t _ h
@[go_sem] theorem frozen_plain (w : World) (n i : Nat) (hp : Plain w n) : w.frozen? ⟨n, i, none⟩ = false := by
  obtain ⟨t, h⟩ := hp.row
  simp [World.frozen?, h]
@[go_sem] theorem cellsAt_setCell (w : World) (n i : Nat) (v : Value) (hp : Plain w n) : cellsAt (w.setCell ⟨n, i, none⟩ v) n = (cellsAt w n).setIfInBounds i v := by
  obtain ⟨t, h⟩ := hp.row
  rw [setCell_eq_setRow w n i _ t _ v h]
  exact cellsAt_of (setRow_heap w n _ _ t _ h)
@[go_sem] theorem cellsAt_setCell_other (w : World) (n m i : Nat) (v : Value) (hne : n ≠ m) : cellsAt (w.setCell ⟨m, i, none⟩ v) n = cellsAt w n := cellsAt_heap (Below.heap_setCell w ⟨m, i, none⟩ v n hne)
attribute [go_sem] setRow_size
/-- block r of w, turned into the object o -/
def put (w : World) (r : Nat) (o : Obj) : World := { w with heap := w.heap.setIfInBounds r o }
/-- the map object in block n of w -/
def mapAt (w : World) (n : Nat) : Option (Array MapEntry × Nat) := match w.heap[n]? with | some (.map es c) => some (es, c) | _ => none
theorem mapAt_some {w : World} {n : Nat} {es : Array MapEntry} {c : Nat} (h : mapAt w n = some (es, c)) : w.heap[n]? = some (.map es c) := by
  unfold mapAt at h
  cases ho : w.heap[n]? with
  | none => simp [ho] at h
  | some o => cases o <;> simp [ho] at h; obtain ⟨rfl, rfl⟩ := h; rfl
@[go_sem] theorem mapAt_at (w : World) (es : Array MapEntry) (c n : Nat) (hn : n = w.heap.size) : mapAt (w.alloc (.map es c)) n = some (es, c) := by
  subst hn
  have h : (w.alloc (.map es c)).heap[w.heap.size]? = some (.map es c) := (show (w.heap.push (.map es c))[w.heap.size]? = some (.map es c) by simp)
  simp only [mapAt, h]
@[go_sem] theorem mapAt_past (w : World) (o : Obj) (n : Nat) (hn : n < w.heap.size) : mapAt (w.alloc o) n = mapAt w n := by
  unfold mapAt
  rw [Below.heap_alloc w o n hn]
@[go_sem] theorem mapAt_drew (w : World) (n : Nat) : mapAt w.drew n = mapAt w n := rfl
@[go_sem] theorem mapAt_drewN (w : World) (m n : Nat) : mapAt (w.drewN m) n = mapAt w n := rfl
@[go_sem] theorem mapAt_set (w : World) (a : Addr) (v : Value) (n : Nat) : mapAt (w.setCell a v) n = mapAt w n := by
  unfold mapAt
  by_cases h : n = a.block
  · subst h
    simp only [World.setCell, Array.getElem?_modify]
    cases ho : w.heap[a.block]? with
    | none => simp
    | some o => cases o <;> simp
  · rw [Below.heap_setCell w a v n h]
@[go_sem] theorem put_at (w : World) (o o' : Obj) (n : Nat) (hn : n = w.heap.size) : put (w.alloc o) n o' = w.alloc o' := by
  subst hn
  unfold put World.alloc
  congr 1
  apply Array.ext_getElem?
  intro k
  simp only [Array.getElem?_setIfInBounds, Array.getElem?_push, Array.size_push]
  by_cases hk : w.heap.size = k
  · subst hk; simp
  · have : ¬ k = w.heap.size := fun e => hk e.symm
    simp [hk, this]
@[go_sem] theorem put_past (w : World) (o o' : Obj) (n : Nat) (hn : n < w.heap.size) : put (w.alloc o) n o' = (put w n o').alloc o := by
  unfold put World.alloc
  congr 1
  apply Array.ext_getElem?
  intro k
  simp only [Array.getElem?_setIfInBounds, Array.getElem?_push, Array.size_push, Array.size_setIfInBounds]
  by_cases hk : k = w.heap.size
  · subst hk
    have : ¬ n = w.heap.size := by omega
    simp [this]
  · simp [hk]
    by_cases h2 : n = k
    · subst h2
      have h3 : n < w.heap.size + 1 := by omega
      simp [h3, hn]
    · simp [h2]
@[go_sem] theorem put_drew (w : World) (n : Nat) (o : Obj) : put w.drew n o = (put w n o).drew := rfl
@[go_sem] theorem put_size (w : World) (n : Nat) (o : Obj) : (put w n o).heap.size = w.heap.size := by simp [put]
theorem heap_put (w : World) (n : Nat) (o : Obj) (k : Nat) (h : n ≠ k) : (put w n o).heap[k]? = w.heap[k]? := by simp [put, h]
@[go_sem] theorem put_cell (w : World) (n : Nat) (o : Obj) (b i : Nat) (h : n ≠ b) : (put w n o).cell? ⟨b, i, none⟩ = w.cell? ⟨b, i, none⟩ := by
  unfold World.cell?
  rw [heap_put w n o b h]
@[go_sem] theorem put_frozen (w : World) (n : Nat) (o : Obj) (b i : Nat) (h : n ≠ b) : (put w n o).frozen? ⟨b, i, none⟩ = w.frozen? ⟨b, i, none⟩ := by
  unfold World.frozen?
  rw [heap_put w n o b h]
theorem Below.put {B : Nat} {a w : World} (h : Below B a w) {n : Nat} (hn : B ≤ n) (o : Obj) : Below B a (put w n o) :=
  ⟨h.os, h.tape, h.output, by rw [put_size]; exact h.size, fun k hk => (heap_put w n o k (by omega)).trans (h.block k hk)⟩
/-- every key is a string -/
def allStr : List MapEntry → Bool
  | [] => true
  | e :: es => (match e.key with | .string _ => true | _ => false) && allStr es
/-- the element under a string key -/
def strFind (k : ByteArray) : List MapEntry → Option Value
  | [] => none
  | e :: es => if (match e.key with | .string s => k == s | _ => false) then some e.val else strFind k es
theorem findNow_str (k : ByteArray) : ∀ (es : List MapEntry) (i : Nat), allStr es = true → ∃ r, Instr.findNow .string (.string k) es i = some r ∧ r.map (·.2) = strFind k es := by
  intro es
  induction es with
  | nil => intro i _; exact ⟨none, rfl, rfl⟩
  | cons e es ih =>
    intro i h
    obtain ⟨key, val, born⟩ := e
    cases key <;> simp [allStr] at h
    rename_i s
    by_cases hks : (k == s) = true
    · exact ⟨some (i, val), by simp [Instr.findNow, Instr.sameNow, hks], by simp [strFind, hks]⟩
    · have hf : (k == s) = false := by simpa using hks
      obtain ⟨r, hr, hr2⟩ := ih (i + 1) h
      exact ⟨r, by simp [Instr.findNow, Instr.sameNow, hf, hr], by simp [strFind, hf, hr2]⟩
theorem run_lookup_str {P : Program} {w : World} {t kt et : TypeId} {r : Nat} {es : Array MapEntry} {cl : Nat} {k : ByteArray} {ok : Bool} {z : Value}
    (hm : P.underlying t = some (.map kt et)) (hk : P.underlying kt = some .string) (hat : mapAt w r = some (es, cl)) (hall : allStr es.toList = true) (hz : (zeroValue et).run P w = .ok z w) :
    (Instr.lookup t (.map (some r)) (.string k) ok).run P w = .ok (match strFind k es.toList with | some v => (if ok then .tuple #[v, .bool true] else v) | none => (if ok then .tuple #[z, .bool false] else z)) w := by
  obtain ⟨x, hx, hx2⟩ := findNow_str k es.toList 0 hall
  have h1 := MapKept.run_getObj_map (P := P) (mapAt_some hat)
  have h2 := MapKept.run_checkKey (P := P) (w := w) (k := .string k) hk (by simp [MapKept.IsKey]) es.isEmpty 9999
  have h3 := MapKept.run_findKey (P := P) (w := w) hk hx
  unfold Instr.lookup
  cases x with
  | none =>
    rw [← hx2]
    cases ok <;> simp [run_underlying hm, h1, h2, h3, hz, Result.andThen]
  | some y =>
    rw [← hx2]
    obtain ⟨i, v⟩ := y
    cases ok <;> simp [run_underlying hm, h1, h2, h3, Result.andThen]
theorem run_update_str {P : Program} {w : World} {t kt et : TypeId} {r : Nat} {es : Array MapEntry} {cl : Nat} {k : ByteArray} {v : Value}
    (hm : P.underlying t = some (.map kt et)) (hk : P.underlying kt = some .string) (hat : mapAt w r = some (es, cl)) (hall : allStr es.toList = true) (hnew : strFind k es.toList = none) :
    (Instr.mapUpdate t (.map (some r)) (.string k) v).run P w = .ok () (put w r (.map (es.push { key := .string k, val := v, born := cl }) (cl + 1))) := by
  obtain ⟨x, hx, hx2⟩ := findNow_str k es.toList 0 hall
  have h0 : x = none := by
    rw [hnew] at hx2
    cases x <;> simp_all
  subst h0
  have h1 := MapKept.run_getObj_map (P := P) (mapAt_some hat)
  have h2 := MapKept.run_checkKey (P := P) (w := w) (k := .string k) hk (by simp [MapKept.IsKey]) false 9999
  have h3 := MapKept.run_findKey (P := P) (w := w) hk hx
  have h4 := MapKept.run_setObj_map (P := P) (.map (es.push { key := .string k, val := v, born := cl }) (cl + 1)) (mapAt_some hat)
  unfold Instr.mapUpdate
  simp [run_underlying hm, h1, h2, h3, h4, Result.andThen, put]
/-- every key is an interface value over R, a pointer into block g -/
def allTy (R g : Nat) : List MapEntry → Bool
  | [] => true
  | e :: es => (match e.key with | .iface r (.pointer (some ⟨b, _, none⟩)) => r == R && b == g | _ => false) && allTy R g es
/-- the element under a type's handle -/
def tyFind (a : Nat) : List MapEntry → Option Value
  | [] => none
  | e :: es => if (match e.key with | .iface _ (.pointer (some ⟨_, o, _⟩)) => a == o | _ => false) then some e.val else tyFind a es
theorem findAsking_ty {P : Program} {w : World} {kt R g : Nat} (heq : ∀ a b, (Op.equal kt (.iface R (.pointer (some ⟨g, a, none⟩))) (.iface R (.pointer (some ⟨g, b, none⟩)))).run P w = .ok (a == b) w) (a : Nat) :
    ∀ (es : List MapEntry) (i : Nat), allTy R g es = true → ∃ r, (Instr.findAsking kt (.iface R (.pointer (some ⟨g, a, none⟩))) es i).run P w = .ok r w ∧ r.map (·.2) = tyFind a es := by
  intro es
  induction es with
  | nil => intro i _; exact ⟨none, rfl, rfl⟩
  | cons e es ih =>
    intro i h
    obtain ⟨key, val, born⟩ := e
    simp only [allTy, Bool.and_eq_true] at h
    obtain ⟨h1, h2⟩ := h
    split at h1 <;> simp at h1
    obtain ⟨rfl, rfl⟩ := h1
    rename_i o
    cases hab : (a == o) with
    | true => exact ⟨some (i, val), by simp [Instr.findAsking, heq, hab, Result.andThen], by simp_all [tyFind]⟩
    | false =>
      obtain ⟨r, hr, hr2⟩ := ih (i + 1) h2
      exact ⟨r, by simp [Instr.findAsking, heq, hab, Result.andThen, hr], by simp_all [tyFind]⟩
theorem findKey_ty {P : Program} {w : World} {kt R g : Nat} {ms : Array (String × TypeId)} (hk : P.underlying kt = some (.interface ms)) (heq : ∀ a b, (Op.equal kt (.iface R (.pointer (some ⟨g, a, none⟩))) (.iface R (.pointer (some ⟨g, b, none⟩)))).run P w = .ok (a == b) w) (a : Nat)
    (es : List MapEntry) (h : allTy R g es = true) : ∃ r, (Instr.findKey kt (.iface R (.pointer (some ⟨g, a, none⟩))) es).run P w = .ok r w ∧ r.map (·.2) = tyFind a es := by
  cases es with
  | nil => exact ⟨none, by simp [Instr.findKey, run_underlying hk, Instr.findNow, Result.andThen], rfl⟩
  | cons e es =>
    obtain ⟨r, hr, hr2⟩ := findAsking_ty heq a (e :: es) 0 h
    refine ⟨r, ?_, hr2⟩
    simp [Instr.findKey, run_underlying hk, Instr.findNow, Instr.sameNow, Result.andThen, hr]
theorem run_lookup_ty {P : Program} {w : World} {t kt et R g : Nat} {ms : Array (String × TypeId)} {r : Nat} {es : Array MapEntry} {cl a : Nat} {ok : Bool} {z : Value}
    (hm : P.underlying t = some (.map kt et)) (hk : P.underlying kt = some (.interface ms)) (heq : ∀ a b, (Op.equal kt (.iface R (.pointer (some ⟨g, a, none⟩))) (.iface R (.pointer (some ⟨g, b, none⟩)))).run P w = .ok (a == b) w)
    (hck : ∀ e, (Instr.checkKey e 10000 kt (.iface R (.pointer (some ⟨g, a, none⟩)))).run P w = .ok () w)
    (hat : mapAt w r = some (es, cl)) (hall : allTy R g es.toList = true) (hz : (zeroValue et).run P w = .ok z w) :
    (Instr.lookup t (.map (some r)) (.iface R (.pointer (some ⟨g, a, none⟩))) ok).run P w = .ok (match tyFind a es.toList with | some v => (if ok then .tuple #[v, .bool true] else v) | none => (if ok then .tuple #[z, .bool false] else z)) w := by
  obtain ⟨x, hx, hx2⟩ := findKey_ty hk heq a es.toList hall
  have h1 := MapKept.run_getObj_map (P := P) (mapAt_some hat)
  unfold Instr.lookup
  cases x with
  | none =>
    rw [← hx2]
    cases ok <;> simp [run_underlying hm, h1, hck, hx, hz, Result.andThen]
  | some y =>
    rw [← hx2]
    obtain ⟨i, v⟩ := y
    cases ok <;> simp [run_underlying hm, h1, hck, hx, Result.andThen]
theorem run_update_ty {P : Program} {w : World} {t kt et R g : Nat} {ms : Array (String × TypeId)} {r : Nat} {es : Array MapEntry} {cl a : Nat} {v : Value}
    (hm : P.underlying t = some (.map kt et)) (hk : P.underlying kt = some (.interface ms)) (heq : ∀ a b, (Op.equal kt (.iface R (.pointer (some ⟨g, a, none⟩))) (.iface R (.pointer (some ⟨g, b, none⟩)))).run P w = .ok (a == b) w)
    (hck : ∀ e, (Instr.checkKey e 10000 kt (.iface R (.pointer (some ⟨g, a, none⟩)))).run P w = .ok () w)
    (hat : mapAt w r = some (es, cl)) (hall : allTy R g es.toList = true) (hnew : tyFind a es.toList = none) :
    (Instr.mapUpdate t (.map (some r)) (.iface R (.pointer (some ⟨g, a, none⟩))) v).run P w = .ok () (put w r (.map (es.push { key := .iface R (.pointer (some ⟨g, a, none⟩)), val := v, born := cl }) (cl + 1))) := by
  obtain ⟨x, hx, hx2⟩ := findKey_ty hk heq a es.toList hall
  have h0 : x = none := by
    rw [hnew] at hx2
    cases x <;> simp_all
  subst h0
  have h1 := MapKept.run_getObj_map (P := P) (mapAt_some hat)
  have h4 := MapKept.run_setObj_map (P := P) (.map (es.push { key := .iface R (.pointer (some ⟨g, a, none⟩)), val := v, born := cl }) (cl + 1)) (mapAt_some hat)
  unfold Instr.mapUpdate
  simp [run_underlying hm, h1, hck, hx, h4, Result.andThen, put]
def tyLook (m : Option (Array MapEntry × Nat)) (a : Nat) : Option Value := match m with | some (es, _) => tyFind a es.toList | none => none
def tyOk (R g : Nat) (m : Option (Array MapEntry × Nat)) : Bool := match m with | some (es, _) => allTy R g es.toList | none => false
def mapPush (m : Option (Array MapEntry × Nat)) (k v : Value) : Obj := match m with | some (es, cl) => .map (es.push { key := k, val := v, born := cl }) (cl + 1) | none => .map #[] 0
def strLook (m : Option (Array MapEntry × Nat)) (k : ByteArray) : Option Value := match m with | some (es, _) => strFind k es.toList | none => none
def strOk (m : Option (Array MapEntry × Nat)) : Bool := match m with | some (es, _) => allStr es.toList | none => false
def orZero (r : Option Value) (z : Value) (ok : Bool) : Value := match r, ok with | some v, true => .tuple #[v, .bool true] | some v, false => v | none, true => .tuple #[z, .bool false] | none, false => z
@[go_sem] theorem orZero_some_t (v z : Value) : orZero (some v) z true = .tuple #[v, .bool true] := rfl
@[go_sem] theorem orZero_some_f (v z : Value) : orZero (some v) z false = v := rfl
@[go_sem] theorem orZero_none_t (z : Value) : orZero none z true = .tuple #[z, .bool false] := rfl
@[go_sem] theorem orZero_none_f (z : Value) : orZero none z false = z := rfl
@[go_sem] theorem tyLook_some (es : Array MapEntry) (c a : Nat) : tyLook (some (es, c)) a = tyFind a es.toList := rfl
@[go_sem] theorem tyOk_some (R g : Nat) (es : Array MapEntry) (c : Nat) : tyOk R g (some (es, c)) = allTy R g es.toList := rfl
@[go_sem] theorem strLook_some (es : Array MapEntry) (c : Nat) (k : ByteArray) : strLook (some (es, c)) k = strFind k es.toList := rfl
@[go_sem] theorem strOk_some (es : Array MapEntry) (c : Nat) : strOk (some (es, c)) = allStr es.toList := rfl
@[go_sem] theorem mapPush_some (es : Array MapEntry) (c : Nat) (k v : Value) : mapPush (some (es, c)) k v = .map (es.push { key := k, val := v, born := c }) (c + 1) := rfl
@[go_sem] theorem tyFind_nil (a : Nat) : tyFind a [] = none := rfl
@[go_sem] theorem tyFind_cons (a R b o n : Nat) (v : Value) (es : List MapEntry) : tyFind a (⟨.iface R (.pointer (some ⟨b, o, none⟩)), v, n⟩ :: es) = if (a == o) = true then some v else tyFind a es := rfl
@[go_sem] theorem allTy_nil (R g : Nat) : allTy R g [] = true := rfl
@[go_sem] theorem allTy_cons (R g o n : Nat) (v : Value) (es : List MapEntry) : allTy R g (⟨.iface R (.pointer (some ⟨g, o, none⟩)), v, n⟩ :: es) = allTy R g es := by simp [allTy]
@[go_sem] theorem strFind_nil (k : ByteArray) : strFind k [] = none := rfl
@[go_sem] theorem strFind_cons (k s : ByteArray) (v : Value) (n : Nat) (es : List MapEntry) : strFind k (⟨.string s, v, n⟩ :: es) = if (k == s) = true then some v else strFind k es := rfl
@[go_sem] theorem allStr_nil : allStr [] = true := rfl
@[go_sem] theorem allStr_cons (s : ByteArray) (v : Value) (n : Nat) (es : List MapEntry) : allStr (⟨.string s, v, n⟩ :: es) = allStr es := rfl
theorem tyOk_get {R g : Nat} {m : Option (Array MapEntry × Nat)} (h : tyOk R g m = true) : ∃ es cl, m = some (es, cl) ∧ allTy R g es.toList = true := by
  unfold tyOk at h
  split at h
  · exact ⟨_, _, rfl, h⟩
  · simp at h
theorem strOk_get {m : Option (Array MapEntry × Nat)} (h : strOk m = true) : ∃ es cl, m = some (es, cl) ∧ allStr es.toList = true := by
  unfold strOk at h
  split at h
  · exact ⟨_, _, rfl, h⟩
  · simp at h
theorem look_ty {P : Program} {w : World} {t kt et R g : Nat} {ms : Array (String × TypeId)} {r a : Nat} {ok : Bool} {z : Value}
    (hm : P.underlying t = some (.map kt et)) (hk : P.underlying kt = some (.interface ms)) (heq : ∀ a b, (Op.equal kt (.iface R (.pointer (some ⟨g, a, none⟩))) (.iface R (.pointer (some ⟨g, b, none⟩)))).run P w = .ok (a == b) w)
    (hck : ∀ e, (Instr.checkKey e 10000 kt (.iface R (.pointer (some ⟨g, a, none⟩)))).run P w = .ok () w) (hz : (zeroValue et).run P w = .ok z w) (h : tyOk R g (mapAt w r) = true) :
    (Instr.lookup t (.map (some r)) (.iface R (.pointer (some ⟨g, a, none⟩))) ok).run P w = .ok (orZero (tyLook (mapAt w r) a) z ok) w := by
  obtain ⟨es, cl, hat, hall⟩ := tyOk_get h
  rw [run_lookup_ty hm hk heq hck hat hall hz, hat, tyLook_some]
  cases tyFind a es.toList <;> cases ok <;> rfl
theorem upd_ty {P : Program} {w : World} {t kt et R g : Nat} {ms : Array (String × TypeId)} {r a : Nat} {v : Value}
    (hm : P.underlying t = some (.map kt et)) (hk : P.underlying kt = some (.interface ms)) (heq : ∀ a b, (Op.equal kt (.iface R (.pointer (some ⟨g, a, none⟩))) (.iface R (.pointer (some ⟨g, b, none⟩)))).run P w = .ok (a == b) w)
    (hck : ∀ e, (Instr.checkKey e 10000 kt (.iface R (.pointer (some ⟨g, a, none⟩)))).run P w = .ok () w) (h : tyOk R g (mapAt w r) = true) (hn : tyLook (mapAt w r) a = none) :
    (Instr.mapUpdate t (.map (some r)) (.iface R (.pointer (some ⟨g, a, none⟩))) v).run P w = .ok () (put w r (mapPush (mapAt w r) (.iface R (.pointer (some ⟨g, a, none⟩))) v)) := by
  obtain ⟨es, cl, hat, hall⟩ := tyOk_get h
  rw [hat, tyLook_some] at hn
  rw [run_update_ty hm hk heq hck hat hall hn, hat, mapPush_some]
theorem look_str {P : Program} {w : World} {t kt et : TypeId} {r : Nat} {k : ByteArray} {ok : Bool} {z : Value}
    (hm : P.underlying t = some (.map kt et)) (hk : P.underlying kt = some .string) (hz : (zeroValue et).run P w = .ok z w) (h : strOk (mapAt w r) = true) :
    (Instr.lookup t (.map (some r)) (.string k) ok).run P w = .ok (orZero (strLook (mapAt w r) k) z ok) w := by
  obtain ⟨es, cl, hat, hall⟩ := strOk_get h
  rw [run_lookup_str hm hk hat hall hz, hat, strLook_some]
  cases strFind k es.toList <;> cases ok <;> rfl
theorem upd_str {P : Program} {w : World} {t kt et : TypeId} {r : Nat} {k : ByteArray} {v : Value}
    (hm : P.underlying t = some (.map kt et)) (hk : P.underlying kt = some .string) (h : strOk (mapAt w r) = true) (hn : strLook (mapAt w r) k = none) :
    (Instr.mapUpdate t (.map (some r)) (.string k) v).run P w = .ok () (put w r (mapPush (mapAt w r) (.string k) v)) := by
  obtain ⟨es, cl, hat, hall⟩ := strOk_get h
  rw [hat, strLook_some] at hn
  rw [run_update_str hm hk hat hall hn, hat, mapPush_some]
theorem szs {n k : Nat} (h : n < k) : n < k + 1 ∧ n < k + 1 + 1 ∧ n < k + 1 + 1 + 1 ∧ n < k + 1 + 1 + 1 + 1 := by omega
theorem blk_new (w : World) (o : Obj) : (w.alloc o).heap[w.heap.size]? = some o := (show (w.heap.push o)[w.heap.size]? = some o by simp)
theorem sf_new (w : World) (o : Obj) (n : Nat) (h : w.heap.size = n) : (w.alloc o).heap[n]? = some o := by
  subst h
  exact blk_new w o
theorem bal {w v : World} (h : Below w.heap.size w v) (o : Obj) : Below w.heap.size w (v.alloc o) := h.alloc h.size o
theorem bdn {B : Nat} {a w : World} (h : Below B a w) (n : Nat) : Below B a (w.drewN n) := ⟨h.os, h.tape, h.output, h.size, h.block⟩
@[go_sem] theorem size_drewN (w : World) (n : Nat) : (w.drewN n).heap.size = w.heap.size := rfl
@[go_sem] theorem size_drew (w : World) : w.drew.heap.size = w.heap.size := rfl
theorem size_set (w : World) (a : Addr) (v : Value) : (w.setCell a v).heap.size = w.heap.size := Array.size_modify ..
/-- the cells of a nature with no Ref -/
abbrev natc (t : Nat) (k : Int) (td : Option Addr) (i f : Bool) : Array Value :=
  #[.iface 78 (.pointer (some ⟨0, t, none⟩)), .int .u64 k, .pointer td, .pointer none, .bool false, .bool false, .bool false, .bool i, .bool f]
/-- block n of w is a row of the cells c, of which nothing is frozen -/
def At (w : World) (n : Nat) (c : Array Value) : Prop := ∃ t, w.heap[n]? = some (.cells c t (0, 0))
theorem At.plain {w : World} {n : Nat} {c : Array Value} (h : At w n c) : Plain w n := by
  obtain ⟨t, h⟩ := h
  exact ⟨c, t, h⟩
theorem At.cells {w : World} {n : Nat} {c : Array Value} (h : At w n c) : cellsAt w n = c := by
  obtain ⟨t, h⟩ := h
  exact cellsAt_of h
theorem At.lt {w : World} {n : Nat} {c : Array Value} (h : At w n c) : n < w.heap.size := h.plain.lt
theorem At.heap {w u : World} {n : Nat} {c : Array Value} (h : At w n c) (e : u.heap[n]? = w.heap[n]?) : At u n c := by
  obtain ⟨t, h⟩ := h
  exact ⟨t, e.trans h⟩
theorem At.alloc {w : World} {n : Nat} {c : Array Value} (h : At w n c) (o : Obj) : At (w.alloc o) n c := h.heap (Below.heap_alloc w o n h.lt)
theorem At.drew {w : World} {n : Nat} {c : Array Value} (h : At w n c) : At w.drew n c := h
theorem At.drewN {w : World} {n : Nat} {c : Array Value} (h : At w n c) (k : Nat) : At (w.drewN k) n c := h
theorem At.new (w : World) (c : Array Value) (t n : Nat) (h : n = w.heap.size) : At (w.alloc (.cells c t)) n c := by
  subst h
  exact ⟨t, blk_new w _⟩
theorem At.set {w : World} {n : Nat} {c : Array Value} (h : At w n c) (i : Nat) (v : Value) : At (w.setCell ⟨n, i, none⟩ v) n (c.setIfInBounds i v) := by
  obtain ⟨t, h⟩ := h
  rw [setCell_eq_setRow w n i _ t _ v h]
  exact ⟨t, setRow_heap w n _ _ t _ h⟩
theorem At.other {w : World} {n : Nat} {c : Array Value} (h : At w n c) (m i : Nat) (v : Value) (hne : n ≠ m) : At (w.setCell ⟨m, i, none⟩ v) n c := h.heap (Below.heap_setCell w ⟨m, i, none⟩ v n hne)
theorem At.put {w : World} {n : Nat} {c : Array Value} (h : At w n c) (m : Nat) (o : Obj) (hne : m ≠ n) : At (put w m o) n c := h.heap (heap_put w m o n hne)
theorem At.bel {w u : World} {n : Nat} {c : Array Value} (h : At w n c) (b : Below w.heap.size w u) : At u n c := h.heap (b.block n h.lt)
/-- from w to u block x alone is written, and blocks are added -/
structure Sole (x : Nat) (w u : World) : Prop where
  bel : Below 0 w u
  block : ∀ k, k < w.heap.size → k ≠ x → u.heap[k]? = w.heap[k]?
theorem Sole.below {x B : Nat} {w u : World} (h : Sole x w u) (hx : B ≤ x) (hw : B ≤ w.heap.size) : Below B w u :=
  ⟨h.bel.os, h.bel.tape, h.bel.output, h.bel.size, fun k hk => h.block k (by omega) (by omega)⟩
theorem Sole.refl (x : Nat) (w : World) : Sole x w w := ⟨Below.refl _ _, fun _ _ _ => rfl⟩
theorem Sole.set {x : Nat} {w u : World} (h : Sole x w u) (i : Nat) (v : Value) : Sole x w (u.setCell ⟨x, i, none⟩ v) :=
  ⟨Below.setCell h.bel (Nat.zero_le _) v, fun k hk hn => (Below.heap_setCell u ⟨x, i, none⟩ v k hn).trans (h.block k hk hn)⟩
theorem Sole.put {x : Nat} {w u : World} (h : Sole x w u) (o : Obj) : Sole x w (put u x o) :=
  ⟨Below.put h.bel (Nat.zero_le _) o, fun k hk hn => (heap_put u x o k (Ne.symm hn)).trans (h.block k hk hn)⟩
theorem Sole.alloc {x : Nat} {w u : World} (h : Sole x w u) (o : Obj) : Sole x w (u.alloc o) :=
  ⟨(h.bel.mono (Nat.zero_le _)).trans (Below.alloc (Below.refl 0 u) (Nat.zero_le _) o), fun k hk hn => (Below.heap_alloc u o k (Nat.lt_of_lt_of_le hk h.bel.size)).trans (h.block k hk hn)⟩
theorem Sole.drew {x : Nat} {w u : World} (h : Sole x w u) : Sole x w u.drew := ⟨h.bel.drew, h.block⟩
theorem Sole.drewN {x : Nat} {w u : World} (h : Sole x w u) (n : Nat) : Sole x w (u.drewN n) := ⟨⟨h.bel.os, h.bel.tape, h.bel.output, h.bel.size, h.bel.block⟩, h.block⟩
theorem Sole.next {x : Nat} {a u v : World} (h : Below a.heap.size a u) (k : Sole x u v) : Sole x a v :=
  ⟨(h.mono (Nat.zero_le _)).trans k.bel, fun j hj hn => (k.block j (Nat.lt_of_lt_of_le hj h.size) hn).trans (h.block j hj)⟩
theorem At.sole {w u : World} {n x : Nat} {c : Array Value} (h : At w n c) (b : Sole x w u) (hn : n ≠ x) : At u n c := h.heap (b.block n h.lt hn)
theorem At.rowOther {w : World} {n : Nat} {c : Array Value} (h : At w n c) (m : Nat) (d : Array Value) (hne : n ≠ m) : At (w.setRow m d) n c := h.heap (setRow_other w m n d hne)
theorem At.row {w : World} {n : Nat} {c : Array Value} (h : At w n c) (d : Array Value) : At (w.setRow n d) n d := by
  obtain ⟨t, h⟩ := h
  exact ⟨t, setRow_heap w n _ d t _ h⟩
theorem Sole.new {x n : Nat} {w u : World} (h : Sole x w u) (hn : w.heap.size ≤ n) (i : Nat) (v : Value) : Sole x w (u.setCell ⟨n, i, none⟩ v) :=
  ⟨Below.setCell h.bel (Nat.zero_le _) v, fun k hk hne => (Below.heap_setCell u ⟨n, i, none⟩ v k (show k ≠ n by omega)).trans (h.block k hk hne)⟩
theorem Sole.rowNew {x n : Nat} {w u : World} (h : Sole x w u) (hn : w.heap.size ≤ n) (d : Array Value) : Sole x w (u.setRow n d) :=
  ⟨⟨h.bel.os, h.bel.tape, h.bel.output, by rw [setRow_size]; exact h.bel.size, fun k hk => absurd hk (Nat.not_lt_zero _)⟩, fun k hk hne => (setRow_other u n k d (by omega)).trans (h.block k hk hne)⟩
theorem bsetNew {B n : Nat} {w u : World} (h : Below B w u) (hn : B ≤ n) (i : Nat) (v : Value) : Below B w (u.setCell ⟨n, i, none⟩ v) := Below.setCell h hn v
theorem browNew {B n : Nat} {w u : World} (h : Below B w u) (hn : B ≤ n) (d : Array Value) : Below B w (u.setRow n d) :=
  ⟨h.os, h.tape, h.output, by rw [setRow_size]; exact h.size, fun k hk => (setRow_other u n k d (by omega)).trans (h.block k hk)⟩
theorem bnext {a u v : World} (h : Below a.heap.size a u) (k : Below u.heap.size u v) : Below a.heap.size a v := Below.trans h (k.mono h.size)
theorem bsole {a u v : World} {x : Nat} (h : Below a.heap.size a u) (k : Sole x u v) (hx : a.heap.size ≤ x) : Below a.heap.size a v := Below.trans h (k.below hx h.size)
end Go.Proofs.YtnjjndnnpkejlaaGreatFmt
