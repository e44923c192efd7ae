/-
  What the walks of the struct-field laws stand on: blocks, maps, the frame of a call. No condition.
-/
import Derived.RegionTactic
import Derived.ChangeAlike
import Derived.Deep.QuietTactic
import Derived.BigQuiet
import Derived.Outline
import Derived.Test.YtpnifkpnapoeoaaGreatDoorBesreflBase
import Derived.MapKept
import Derived.Carry
import Derived.LaidEqlPtr
import Derived.Lib.Builder
import Derived.Laws.NewBlocks
import Derived.Below
import Derived.Laws.CopyOwn
import Derived.OwnWalk
import Derived.Deep.OwnRows
namespace Go.Proofs.YtpnifkpnapoeoaaGreatDoorBesrefl
open Go.RowKit
set_option maxRecDepth 100000
set_option maxHeartbeats 1000000
set_option linter.unusedVariables false
/-- block n of w is a row of cells of which nothing is frozen -/
def Plain (w : World) (n : Nat) : Prop := ∃ c t, w.heap[n]? = some (.cells c t (0, 0))
theorem Plain.lt {w : World} {n : Nat} (h : Plain w n) : n < w.heap.size := by
  obtain ⟨c, t, h⟩ := h
  exact (Array.getElem?_eq_some_iff.1 h).1
@[go_sem] theorem plain_at (w : World) (c : Array Value) (t : TypeId) (n : Nat) (hn : n = w.heap.size) : Plain (w.alloc (.cells c t)) n = True := by
  subst hn
  exact eq_true ⟨c, t, (show (w.heap.push (.cells c t))[w.heap.size]? = some (.cells c t) by simp)⟩
@[go_sem] theorem plain_past (w : World) (o : Obj) (n : Nat) (hn : n < w.heap.size) : Plain (w.alloc o) n = Plain w n := by
  unfold Plain
  rw [Below.heap_alloc w o n hn]
@[go_sem] theorem plain_drew (w : World) (n : Nat) : Plain w.drew n = Plain w n := rfl
@[go_sem] theorem plain_drewN (w : World) (m n : Nat) : Plain (w.drewN m) n = Plain w n := rfl
@[go_sem] theorem plain_set (w : World) (a : Addr) (v : Value) (n : Nat) : Plain (w.setCell a v) n = Plain w n := by
  unfold Plain
  by_cases h : n = a.block
  · subst h
    simp only [World.setCell, Array.getElem?_modify]
    apply propext
    constructor
    · rintro ⟨c, t, h⟩
      cases ho : w.heap[a.block]? with
      | none => simp [ho] at h
      | some o =>
        simp [ho] at h
        cases o <;> simp at h
        obtain ⟨_, rfl, rfl⟩ := h
        exact ⟨_, _, rfl⟩
    · rintro ⟨c, t, h⟩
      rw [h]
      simp only [if_true, Option.map_some]
      exact ⟨_, t, rfl⟩
  · rw [Below.heap_setCell w a v n h]
/-- the cells of block n of w, where nothing of it is frozen -/
def cellsAt (w : World) (n : Nat) : Array Value := match w.heap[n]? with | some (.cells c _ (0, 0)) => c | _ => #[]
theorem cellsAt_of {w : World} {n : Nat} {c : Array Value} {t : TypeId} (h : w.heap[n]? = some (.cells c t (0, 0))) : cellsAt w n = c := by simp [cellsAt, h]
theorem cellsAt_heap {w u : World} {n : Nat} (h : u.heap[n]? = w.heap[n]?) : cellsAt u n = cellsAt w n := by
  unfold cellsAt
  rw [h]
theorem plain_heap {w u : World} {n : Nat} (h : u.heap[n]? = w.heap[n]?) (p : Plain w n) : Plain u n := by
  obtain ⟨c, t, hp⟩ := p
  exact ⟨c, t, h.trans hp⟩
theorem Plain.row {w : World} {n : Nat} (h : Plain w n) : ∃ t, w.heap[n]? = some (.cells (cellsAt w n) t (0, 0)) := by
  obtain ⟨c, t, h⟩ := h
  exact ⟨t, by rw [cellsAt_of h]; exact h⟩
@[go_sem] theorem cellsAt_at (w : World) (c : Array Value) (t : TypeId) (n : Nat) (hn : n = w.heap.size) : cellsAt (w.alloc (.cells c t)) n = c := by
  subst hn
  exact cellsAt_of (show (w.heap.push (.cells c t))[w.heap.size]? = some (.cells c t) by simp)
@[go_sem] theorem cellsAt_past (w : World) (o : Obj) (n : Nat) (hn : n < w.heap.size) : cellsAt (w.alloc o) n = cellsAt w n := cellsAt_heap (Below.heap_alloc w o n hn)
@[go_sem] theorem cellsAt_drew (w : World) (n : Nat) : cellsAt w.drew n = cellsAt w n := rfl
@[go_sem] theorem cellsAt_drewN (w : World) (m n : Nat) : cellsAt (w.drewN m) n = cellsAt w n := rfl
@[go_sem] theorem cellsAt_row (w : World) (n : Nat) (c : Array Value) (hp : Plain w n) : cellsAt (w.setRow n c) n = c := by
  obtain ⟨t, h⟩ := hp.row
  exact cellsAt_of (setRow_heap w n _ c t _ h)
@[go_sem] theorem cellsAt_row_other (w : World) (n m : Nat) (c : Array Value) (hne : n ≠ m) : cellsAt (w.setRow m c) n = cellsAt w n := cellsAt_heap (setRow_other w m n c hne)
@[go_sem] theorem plain_row (w : World) (n m : Nat) (c : Array Value) (hp : Plain w n) : Plain (w.setRow m c) n := by
  by_cases h : n = m
  · subst h
    obtain ⟨t, h⟩ := hp.row
    exact ⟨_, t, setRow_heap w n _ c t _ h⟩
  · exact plain_heap (setRow_other w m n c h) hp
@[go_sem] theorem cell_plain (w : World) (n i : Nat) (hp : Plain w n) : w.cell? ⟨n, i, none⟩ = (cellsAt w n)[i]? := by
  obtain ⟨t, h⟩ := hp.row
  exact cell_of_row w n i _ t _ h
@[go_sem] theorem frozen_plain (w : World) (n i : Nat) (hp : Plain w n) : w.frozen? ⟨n, i, none⟩ = false := by
  obtain ⟨t, h⟩ := hp.row
  simp [World.frozen?, h]
@[go_sem] theorem cellsAt_setCell (w : World) (n i : Nat) (v : Value) (hp : Plain w n) : cellsAt (w.setCell ⟨n, i, none⟩ v) n = (cellsAt w n).setIfInBounds i v := by
  obtain ⟨t, h⟩ := hp.row
  rw [setCell_eq_setRow w n i _ t _ v h]
  exact cellsAt_of (setRow_heap w n _ _ t _ h)
@[go_sem] theorem cellsAt_setCell_other (w : World) (n m i : Nat) (v : Value) (hne : n ≠ m) : cellsAt (w.setCell ⟨m, i, none⟩ v) n = cellsAt w n := cellsAt_heap (Below.heap_setCell w ⟨m, i, none⟩ v n hne)
attribute [go_sem] setRow_size
/-- block r of w, turned into the object o -/
def put (w : World) (r : Nat) (o : Obj) : World := { w with heap := w.heap.setIfInBounds r o }
/-- the map object in block n of w -/
def mapAt (w : World) (n : Nat) : Option (Array MapEntry × Nat) := match w.heap[n]? with | some (.map es c) => some (es, c) | _ => none
theorem mapAt_some {w : World} {n : Nat} {es : Array MapEntry} {c : Nat} (h : mapAt w n = some (es, c)) : w.heap[n]? = some (.map es c) := by
  unfold mapAt at h
  cases ho : w.heap[n]? with
  | none => simp [ho] at h
  | some o => cases o <;> simp [ho] at h; obtain ⟨rfl, rfl⟩ := h; rfl
@[go_sem] theorem mapAt_at (w : World) (es : Array MapEntry) (c n : Nat) (hn : n = w.heap.size) : mapAt (w.alloc (.map es c)) n = some (es, c) := by
  subst hn
  have h : (w.alloc (.map es c)).heap[w.heap.size]? = some (.map es c) := (show (w.heap.push (.map es c))[w.heap.size]? = some (.map es c) by simp)
  simp only [mapAt, h]
@[go_sem] theorem mapAt_past (w : World) (o : Obj) (n : Nat) (hn : n < w.heap.size) : mapAt (w.alloc o) n = mapAt w n := by
  unfold mapAt
  rw [Below.heap_alloc w o n hn]
@[go_sem] theorem mapAt_drew (w : World) (n : Nat) : mapAt w.drew n = mapAt w n := rfl
@[go_sem] theorem mapAt_drewN (w : World) (m n : Nat) : mapAt (w.drewN m) n = mapAt w n := rfl
@[go_sem] theorem mapAt_set (w : World) (a : Addr) (v : Value) (n : Nat) : mapAt (w.setCell a v) n = mapAt w n := by
  unfold mapAt
  by_cases h : n = a.block
  · subst h
    simp only [World.setCell, Array.getElem?_modify]
    cases ho : w.heap[a.block]? with
    | none => simp
    | some o => cases o <;> simp
  · rw [Below.heap_setCell w a v n h]
@[go_sem] theorem put_at (w : World) (o o' : Obj) (n : Nat) (hn : n = w.heap.size) : put (w.alloc o) n o' = w.alloc o' := by
  subst hn
  unfold put World.alloc
  congr 1
  apply Array.ext_getElem?
  intro k
  simp only [Array.getElem?_setIfInBounds, Array.getElem?_push, Array.size_push]
  by_cases hk : w.heap.size = k
  · subst hk; simp
  · have : ¬ k = w.heap.size := fun e => hk e.symm
    simp [hk, this]
@[go_sem] theorem put_past (w : World) (o o' : Obj) (n : Nat) (hn : n < w.heap.size) : put (w.alloc o) n o' = (put w n o').alloc o := by
  unfold put World.alloc
  congr 1
  apply Array.ext_getElem?
  intro k
  simp only [Array.getElem?_setIfInBounds, Array.getElem?_push, Array.size_push, Array.size_setIfInBounds]
  by_cases hk : k = w.heap.size
  · subst hk
    have : ¬ n = w.heap.size := by omega
    simp [this]
  · simp [hk]
    by_cases h2 : n = k
    · subst h2
      have h3 : n < w.heap.size + 1 := by omega
      simp [h3, hn]
    · simp [h2]
@[go_sem] theorem put_drew (w : World) (n : Nat) (o : Obj) : put w.drew n o = (put w n o).drew := rfl
@[go_sem] theorem put_size (w : World) (n : Nat) (o : Obj) : (put w n o).heap.size = w.heap.size := by simp [put]
theorem heap_put (w : World) (n : Nat) (o : Obj) (k : Nat) (h : n ≠ k) : (put w n o).heap[k]? = w.heap[k]? := by simp [put, h]
@[go_sem] theorem put_cell (w : World) (n : Nat) (o : Obj) (b i : Nat) (h : n ≠ b) : (put w n o).cell? ⟨b, i, none⟩ = w.cell? ⟨b, i, none⟩ := by
  unfold World.cell?
  rw [heap_put w n o b h]
@[go_sem] theorem put_frozen (w : World) (n : Nat) (o : Obj) (b i : Nat) (h : n ≠ b) : (put w n o).frozen? ⟨b, i, none⟩ = w.frozen? ⟨b, i, none⟩ := by
  unfold World.frozen?
  rw [heap_put w n o b h]
theorem Below.put {B : Nat} {a w : World} (h : Below B a w) {n : Nat} (hn : B ≤ n) (o : Obj) : Below B a (put w n o) :=
  ⟨h.os, h.tape, h.output, by rw [put_size]; exact h.size, fun k hk => (heap_put w n o k (by omega)).trans (h.block k hk)⟩
/-- every key is a string -/
def allStr : List MapEntry → Bool
  | [] => true
  | e :: es => (match e.key with | .string _ => true | _ => false) && allStr es
/-- the element under a string key -/
def strFind (k : ByteArray) : List MapEntry → Option Value
  | [] => none
  | e :: es => if (match e.key with | .string s => k == s | _ => false) then some e.val else strFind k es
theorem findNow_str (k : ByteArray) : ∀ (es : List MapEntry) (i : Nat), allStr es = true → ∃ r, Instr.findNow .string (.string k) es i = some r ∧ r.map (·.2) = strFind k es := by
  intro es
  induction es with
  | nil => intro i _; exact ⟨none, rfl, rfl⟩
  | cons e es ih =>
    intro i h
    obtain ⟨key, val, born⟩ := e
    cases key <;> simp [allStr] at h
    rename_i s
    by_cases hks : (k == s) = true
    · exact ⟨some (i, val), by simp [Instr.findNow, Instr.sameNow, hks], by simp [strFind, hks]⟩
    · have hf : (k == s) = false := by simpa using hks
      obtain ⟨r, hr, hr2⟩ := ih (i + 1) h
      exact ⟨r, by simp [Instr.findNow, Instr.sameNow, hf, hr], by simp [strFind, hf, hr2]⟩
theorem run_lookup_str {P : Program} {w : World} {t kt et : TypeId} {r : Nat} {es : Array MapEntry} {cl : Nat} {k : ByteArray} {ok : Bool} {z : Value}
    (hm : P.underlying t = some (.map kt et)) (hk : P.underlying kt = some .string) (hat : mapAt w r = some (es, cl)) (hall : allStr es.toList = true) (hz : (zeroValue et).run P w = .ok z w) :
    (Instr.lookup t (.map (some r)) (.string k) ok).run P w = .ok (match strFind k es.toList with | some v => (if ok then .tuple #[v, .bool true] else v) | none => (if ok then .tuple #[z, .bool false] else z)) w := by
  obtain ⟨x, hx, hx2⟩ := findNow_str k es.toList 0 hall
  have h1 := MapKept.run_getObj_map (P := P) (mapAt_some hat)
  have h2 := MapKept.run_checkKey (P := P) (w := w) (k := .string k) hk (by simp [MapKept.IsKey]) es.isEmpty 9999
  have h3 := MapKept.run_findKey (P := P) (w := w) hk hx
  unfold Instr.lookup
  cases x with
  | none =>
    rw [← hx2]
    cases ok <;> simp [run_underlying hm, h1, h2, h3, hz, Result.andThen]
  | some y =>
    rw [← hx2]
    obtain ⟨i, v⟩ := y
    cases ok <;> simp [run_underlying hm, h1, h2, h3, Result.andThen]
theorem run_update_str {P : Program} {w : World} {t kt et : TypeId} {r : Nat} {es : Array MapEntry} {cl : Nat} {k : ByteArray} {v : Value}
    (hm : P.underlying t = some (.map kt et)) (hk : P.underlying kt = some .string) (hat : mapAt w r = some (es, cl)) (hall : allStr es.toList = true) (hnew : strFind k es.toList = none) :
    (Instr.mapUpdate t (.map (some r)) (.string k) v).run P w = .ok () (put w r (.map (es.push { key := .string k, val := v, born := cl }) (cl + 1))) := by
  obtain ⟨x, hx, hx2⟩ := findNow_str k es.toList 0 hall
  have h0 : x = none := by
    rw [hnew] at hx2
    cases x <;> simp_all
  subst h0
  have h1 := MapKept.run_getObj_map (P := P) (mapAt_some hat)
  have h2 := MapKept.run_checkKey (P := P) (w := w) (k := .string k) hk (by simp [MapKept.IsKey]) false 9999
  have h3 := MapKept.run_findKey (P := P) (w := w) hk hx
  have h4 := MapKept.run_setObj_map (P := P) (.map (es.push { key := .string k, val := v, born := cl }) (cl + 1)) (mapAt_some hat)
  unfold Instr.mapUpdate
  simp [run_underlying hm, h1, h2, h3, h4, Result.andThen, put]
/-- every key is an interface value over R, a pointer into block g -/
def allTy (R g : Nat) : List MapEntry → Bool
  | [] => true
  | e :: es => (match e.key with | .iface r (.pointer (some ⟨b, _, none⟩)) => r == R && b == g | _ => false) && allTy R g es
/-- the element under a type's handle -/
def tyFind (a : Nat) : List MapEntry → Option Value
  | [] => none
  | e :: es => if (match e.key with | .iface _ (.pointer (some ⟨_, o, _⟩)) => a == o | _ => false) then some e.val else tyFind a es
theorem findAsking_ty {P : Program} {w : World} {kt R g : Nat} (heq : ∀ a b, (Op.equal kt (.iface R (.pointer (some ⟨g, a, none⟩))) (.iface R (.pointer (some ⟨g, b, none⟩)))).run P w = .ok (a == b) w) (a : Nat) :
    ∀ (es : List MapEntry) (i : Nat), allTy R g es = true → ∃ r, (Instr.findAsking kt (.iface R (.pointer (some ⟨g, a, none⟩))) es i).run P w = .ok r w ∧ r.map (·.2) = tyFind a es := by
  intro es
  induction es with
  | nil => intro i _; exact ⟨none, rfl, rfl⟩
  | cons e es ih =>
    intro i h
    obtain ⟨key, val, born⟩ := e
    simp only [allTy, Bool.and_eq_true] at h
    obtain ⟨h1, h2⟩ := h
    split at h1 <;> simp at h1
    obtain ⟨rfl, rfl⟩ := h1
    rename_i o
    cases hab : (a == o) with
    | true => exact ⟨some (i, val), by simp [Instr.findAsking, heq, hab, Result.andThen], by simp_all [tyFind]⟩
    | false =>
      obtain ⟨r, hr, hr2⟩ := ih (i + 1) h2
      exact ⟨r, by simp [Instr.findAsking, heq, hab, Result.andThen, hr], by simp_all [tyFind]⟩
theorem findKey_ty {P : Program} {w : World} {kt R g : Nat} {ms : Array (String × TypeId)} (hk : P.underlying kt = some (.interface ms)) (heq : ∀ a b, (Op.equal kt (.iface R (.pointer (some ⟨g, a, none⟩))) (.iface R (.pointer (some ⟨g, b, none⟩)))).run P w = .ok (a == b) w) (a : Nat)
    (es : List MapEntry) (h : allTy R g es = true) : ∃ r, (Instr.findKey kt (.iface R (.pointer (some ⟨g, a, none⟩))) es).run P w = .ok r w ∧ r.map (·.2) = tyFind a es := by
  cases es with
  | nil => exact ⟨none, by simp [Instr.findKey, run_underlying hk, Instr.findNow, Result.andThen], rfl⟩
  | cons e es =>
    obtain ⟨r, hr, hr2⟩ := findAsking_ty heq a (e :: es) 0 h
    refine ⟨r, ?_, hr2⟩
    simp [Instr.findKey, run_underlying hk, Instr.findNow, Instr.sameNow, Result.andThen, hr]
theorem run_lookup_ty {P : Program} {w : World} {t kt et R g : Nat} {ms : Array (String × TypeId)} {r : Nat} {es : Array MapEntry} {cl a : Nat} {ok : Bool} {z : Value}
    (hm : P.underlying t = some (.map kt et)) (hk : P.underlying kt = some (.interface ms)) (heq : ∀ a b, (Op.equal kt (.iface R (.pointer (some ⟨g, a, none⟩))) (.iface R (.pointer (some ⟨g, b, none⟩)))).run P w = .ok (a == b) w)
    (hck : ∀ e, (Instr.checkKey e 10000 kt (.iface R (.pointer (some ⟨g, a, none⟩)))).run P w = .ok () w)
    (hat : mapAt w r = some (es, cl)) (hall : allTy R g es.toList = true) (hz : (zeroValue et).run P w = .ok z w) :
    (Instr.lookup t (.map (some r)) (.iface R (.pointer (some ⟨g, a, none⟩))) ok).run P w = .ok (match tyFind a es.toList with | some v => (if ok then .tuple #[v, .bool true] else v) | none => (if ok then .tuple #[z, .bool false] else z)) w := by
  obtain ⟨x, hx, hx2⟩ := findKey_ty hk heq a es.toList hall
  have h1 := MapKept.run_getObj_map (P := P) (mapAt_some hat)
  unfold Instr.lookup
  cases x with
  | none =>
    rw [← hx2]
    cases ok <;> simp [run_underlying hm, h1, hck, hx, hz, Result.andThen]
  | some y =>
    rw [← hx2]
    obtain ⟨i, v⟩ := y
    cases ok <;> simp [run_underlying hm, h1, hck, hx, Result.andThen]
theorem run_update_ty {P : Program} {w : World} {t kt et R g : Nat} {ms : Array (String × TypeId)} {r : Nat} {es : Array MapEntry} {cl a : Nat} {v : Value}
    (hm : P.underlying t = some (.map kt et)) (hk : P.underlying kt = some (.interface ms)) (heq : ∀ a b, (Op.equal kt (.iface R (.pointer (some ⟨g, a, none⟩))) (.iface R (.pointer (some ⟨g, b, none⟩)))).run P w = .ok (a == b) w)
    (hck : ∀ e, (Instr.checkKey e 10000 kt (.iface R (.pointer (some ⟨g, a, none⟩)))).run P w = .ok () w)
    (hat : mapAt w r = some (es, cl)) (hall : allTy R g es.toList = true) (hnew : tyFind a es.toList = none) :
    (Instr.mapUpdate t (.map (some r)) (.iface R (.pointer (some ⟨g, a, none⟩))) v).run P w = .ok () (put w r (.map (es.push { key := .iface R (.pointer (some ⟨g, a, none⟩)), val := v, born := cl }) (cl + 1))) := by
  obtain ⟨x, hx, hx2⟩ := findKey_ty hk heq a es.toList hall
  have h0 : x = none := by
    rw [hnew] at hx2
    cases x <;> simp_all
  subst h0
  have h1 := MapKept.run_getObj_map (P := P) (mapAt_some hat)
  have h4 := MapKept.run_setObj_map (P := P) (.map (es.push { key := .iface R (.pointer (some ⟨g, a, none⟩)), val := v, born := cl }) (cl + 1)) (mapAt_some hat)
  unfold Instr.mapUpdate
  simp [run_underlying hm, h1, hck, hx, h4, Result.andThen, put]
def tyLook (m : Option (Array MapEntry × Nat)) (a : Nat) : Option Value := match m with | some (es, _) => tyFind a es.toList | none => none
def tyOk (R g : Nat) (m : Option (Array MapEntry × Nat)) : Bool := match m with | some (es, _) => allTy R g es.toList | none => false
def mapPush (m : Option (Array MapEntry × Nat)) (k v : Value) : Obj := match m with | some (es, cl) => .map (es.push { key := k, val := v, born := cl }) (cl + 1) | none => .map #[] 0
def strLook (m : Option (Array MapEntry × Nat)) (k : ByteArray) : Option Value := match m with | some (es, _) => strFind k es.toList | none => none
def strOk (m : Option (Array MapEntry × Nat)) : Bool := match m with | some (es, _) => allStr es.toList | none => false
def orZero (r : Option Value) (z : Value) (ok : Bool) : Value := match r, ok with | some v, true => .tuple #[v, .bool true] | some v, false => v | none, true => .tuple #[z, .bool false] | none, false => z
@[go_sem] theorem orZero_some_t (v z : Value) : orZero (some v) z true = .tuple #[v, .bool true] := rfl
@[go_sem] theorem orZero_some_f (v z : Value) : orZero (some v) z false = v := rfl
@[go_sem] theorem orZero_none_t (z : Value) : orZero none z true = .tuple #[z, .bool false] := rfl
@[go_sem] theorem orZero_none_f (z : Value) : orZero none z false = z := rfl
@[go_sem] theorem tyLook_some (es : Array MapEntry) (c a : Nat) : tyLook (some (es, c)) a = tyFind a es.toList := rfl
@[go_sem] theorem tyOk_some (R g : Nat) (es : Array MapEntry) (c : Nat) : tyOk R g (some (es, c)) = allTy R g es.toList := rfl
@[go_sem] theorem strLook_some (es : Array MapEntry) (c : Nat) (k : ByteArray) : strLook (some (es, c)) k = strFind k es.toList := rfl
@[go_sem] theorem strOk_some (es : Array MapEntry) (c : Nat) : strOk (some (es, c)) = allStr es.toList := rfl
@[go_sem] theorem mapPush_some (es : Array MapEntry) (c : Nat) (k v : Value) : mapPush (some (es, c)) k v = .map (es.push { key := k, val := v, born := c }) (c + 1) := rfl
@[go_sem] theorem tyFind_nil (a : Nat) : tyFind a [] = none := rfl
@[go_sem] theorem tyFind_cons (a R b o n : Nat) (v : Value) (es : List MapEntry) : tyFind a (⟨.iface R (.pointer (some ⟨b, o, none⟩)), v, n⟩ :: es) = if (a == o) = true then some v else tyFind a es := rfl
@[go_sem] theorem allTy_nil (R g : Nat) : allTy R g [] = true := rfl
@[go_sem] theorem allTy_cons (R g o n : Nat) (v : Value) (es : List MapEntry) : allTy R g (⟨.iface R (.pointer (some ⟨g, o, none⟩)), v, n⟩ :: es) = allTy R g es := by simp [allTy]
@[go_sem] theorem strFind_nil (k : ByteArray) : strFind k [] = none := rfl
@[go_sem] theorem strFind_cons (k s : ByteArray) (v : Value) (n : Nat) (es : List MapEntry) : strFind k (⟨.string s, v, n⟩ :: es) = if (k == s) = true then some v else strFind k es := rfl
@[go_sem] theorem allStr_nil : allStr [] = true := rfl
@[go_sem] theorem allStr_cons (s : ByteArray) (v : Value) (n : Nat) (es : List MapEntry) : allStr (⟨.string s, v, n⟩ :: es) = allStr es := rfl
theorem tyOk_get {R g : Nat} {m : Option (Array MapEntry × Nat)} (h : tyOk R g m = true) : ∃ es cl, m = some (es, cl) ∧ allTy R g es.toList = true := by
  unfold tyOk at h
  split at h
  · exact ⟨_, _, rfl, h⟩
  · simp at h
theorem strOk_get {m : Option (Array MapEntry × Nat)} (h : strOk m = true) : ∃ es cl, m = some (es, cl) ∧ allStr es.toList = true := by
  unfold strOk at h
  split at h
  · exact ⟨_, _, rfl, h⟩
  · simp at h
theorem look_ty {P : Program} {w : World} {t kt et R g : Nat} {ms : Array (String × TypeId)} {r a : Nat} {ok : Bool} {z : Value}
    (hm : P.underlying t = some (.map kt et)) (hk : P.underlying kt = some (.interface ms)) (heq : ∀ a b, (Op.equal kt (.iface R (.pointer (some ⟨g, a, none⟩))) (.iface R (.pointer (some ⟨g, b, none⟩)))).run P w = .ok (a == b) w)
    (hck : ∀ e, (Instr.checkKey e 10000 kt (.iface R (.pointer (some ⟨g, a, none⟩)))).run P w = .ok () w) (hz : (zeroValue et).run P w = .ok z w) (h : tyOk R g (mapAt w r) = true) :
    (Instr.lookup t (.map (some r)) (.iface R (.pointer (some ⟨g, a, none⟩))) ok).run P w = .ok (orZero (tyLook (mapAt w r) a) z ok) w := by
  obtain ⟨es, cl, hat, hall⟩ := tyOk_get h
  rw [run_lookup_ty hm hk heq hck hat hall hz, hat, tyLook_some]
  cases tyFind a es.toList <;> cases ok <;> rfl
theorem upd_ty {P : Program} {w : World} {t kt et R g : Nat} {ms : Array (String × TypeId)} {r a : Nat} {v : Value}
    (hm : P.underlying t = some (.map kt et)) (hk : P.underlying kt = some (.interface ms)) (heq : ∀ a b, (Op.equal kt (.iface R (.pointer (some ⟨g, a, none⟩))) (.iface R (.pointer (some ⟨g, b, none⟩)))).run P w = .ok (a == b) w)
    (hck : ∀ e, (Instr.checkKey e 10000 kt (.iface R (.pointer (some ⟨g, a, none⟩)))).run P w = .ok () w) (h : tyOk R g (mapAt w r) = true) (hn : tyLook (mapAt w r) a = none) :
    (Instr.mapUpdate t (.map (some r)) (.iface R (.pointer (some ⟨g, a, none⟩))) v).run P w = .ok () (put w r (mapPush (mapAt w r) (.iface R (.pointer (some ⟨g, a, none⟩))) v)) := by
  obtain ⟨es, cl, hat, hall⟩ := tyOk_get h
  rw [hat, tyLook_some] at hn
  rw [run_update_ty hm hk heq hck hat hall hn, hat, mapPush_some]
theorem look_str {P : Program} {w : World} {t kt et : TypeId} {r : Nat} {k : ByteArray} {ok : Bool} {z : Value}
    (hm : P.underlying t = some (.map kt et)) (hk : P.underlying kt = some .string) (hz : (zeroValue et).run P w = .ok z w) (h : strOk (mapAt w r) = true) :
    (Instr.lookup t (.map (some r)) (.string k) ok).run P w = .ok (orZero (strLook (mapAt w r) k) z ok) w := by
  obtain ⟨es, cl, hat, hall⟩ := strOk_get h
  rw [run_lookup_str hm hk hat hall hz, hat, strLook_some]
  cases strFind k es.toList <;> cases ok <;> rfl
theorem upd_str {P : Program} {w : World} {t kt et : TypeId} {r : Nat} {k : ByteArray} {v : Value}
    (hm : P.underlying t = some (.map kt et)) (hk : P.underlying kt = some .string) (h : strOk (mapAt w r) = true) (hn : strLook (mapAt w r) k = none) :
    (Instr.mapUpdate t (.map (some r)) (.string k) v).run P w = .ok () (put w r (mapPush (mapAt w r) (.string k) v)) := by
  obtain ⟨es, cl, hat, hall⟩ := strOk_get h
  rw [hat, strLook_some] at hn
  rw [run_update_str hm hk hat hall hn, hat, mapPush_some]
/-! the frame: what a call may turn of the blocks that lay before it -/
theorem freeze_alloc (w : World) (v : Value) (t : TypeId) : (w.alloc (.cells #[v] t)).freeze ⟨w.heap.size, 0, none⟩ 1 = w.alloc (.cells #[v] t (0, 1)) := by
  unfold World.freeze World.alloc
  simp only [if_neg (by decide : ¬ (1 = 0))]
  congr 1
  apply Array.ext_getElem?
  intro k
  simp only [Array.getElem?_modify, Array.getElem?_push]
  by_cases h : k = w.heap.size
  · subst h; simp
  · have h' : ¬ w.heap.size = k := fun e => h e.symm
    simp [h, h']
/-- a block that no call of this program turns once it lies: neither a structData, nor a Cache, nor a map -/
def keep : Obj → Bool
  | .cells _ t _ => t != 102 && t != 41
  | .map _ _ => false
  | _ => true
/-- below B all is as it was; of the rest, what is kept is as it was -/
structure Fr (B : Nat) (w v : World) : Prop where
  bel : Below B w v
  kept : ∀ (k : Nat) (o : Obj), w.heap[k]? = some o → keep o = true → v.heap[k]? = some o
  grow : w.heap.size ≤ v.heap.size
  low : B ≤ w.heap.size
theorem Fr.refl (B : Nat) (w : World) (hB : B ≤ w.heap.size) : Fr B w w := ⟨(Below.refl _ w).mono hB, fun _ _ h _ => h, Nat.le_refl _, hB⟩
theorem Fr.trans {B : Nat} {w v u : World} (h : Fr B w v) (k : Fr B v u) : Fr B w u :=
  ⟨Below.trans h.bel k.bel, fun n o h1 h2 => k.kept n o (h.kept n o h1 h2) h2, Nat.le_trans h.grow k.grow, h.low⟩
theorem Fr.alloc {B : Nat} {w v : World} (h : Fr B w v) (o : Obj) : Fr B w (v.alloc o) :=
  ⟨h.bel.alloc (Nat.le_trans h.low h.grow) o, fun n x h1 h2 => by
    have h3 := h.kept n x h1 h2
    have hlt : n < v.heap.size := (Array.getElem?_eq_some_iff.1 h3).1
    rw [Below.heap_alloc v o n hlt]; exact h3, by have := h.grow; simp; omega, h.low⟩
theorem Fr.drew {B : Nat} {w v : World} (h : Fr B w v) : Fr B w v.drew := ⟨Below.drew h.bel, h.kept, h.grow, h.low⟩
theorem Fr.drewN {B : Nat} {w v : World} (h : Fr B w v) (n : Nat) : Fr B w (v.drewN n) := ⟨⟨h.bel.os, h.bel.tape, h.bel.output, h.bel.size, h.bel.block⟩, h.kept, h.grow, h.low⟩
theorem Fr.other {B : Nat} {w v u : World} (h : Fr B w v) (b : Nat) (hB : B ≤ b) (hk : ∀ o, w.heap[b]? = some o → keep o = false) (hs : u.heap.size = v.heap.size) (ho : ∀ n, n ≠ b → u.heap[n]? = v.heap[n]?) (h1 : u.os = v.os) (h2 : u.tape = v.tape) (h3 : u.output = v.output) : Fr B w u :=
  ⟨⟨h1.trans h.bel.os, h2.trans h.bel.tape, h3.trans h.bel.output, by rw [hs]; exact h.bel.size, fun k hlt => (ho k (by omega)).trans (h.bel.block k hlt)⟩,
   fun n o a c => by
    by_cases hn : n = b
    · subst hn; rw [hk o a] at c; cases c
    · rw [ho n hn]; exact h.kept n o a c, by rw [hs]; exact h.grow, h.low⟩
/-- a store into a block of the call's own -/
theorem Fr.setNew {B : Nat} {w v : World} (h : Fr B w v) (hB : B ≤ w.heap.size) {p : Addr} (hp : w.heap.size ≤ p.block) (x : Value) : Fr B w (v.setCell p x) :=
  h.other p.block (Nat.le_trans hB hp) (fun o ho => by rw [Array.getElem?_eq_none_iff.2 hp] at ho; cases ho) (Array.size_modify ..) (fun n hn => Below.heap_setCell v p x n hn) rfl rfl rfl
/-- a store into a structData or a Cache that lay there -/
theorem Fr.setOld {B : Nat} {w v : World} (h : Fr B w v) {p : Addr} (hB : B ≤ p.block) (hk : ∀ o, w.heap[p.block]? = some o → keep o = false) (x : Value) : Fr B w (v.setCell p x) :=
  h.other p.block hB hk (Array.size_modify ..) (fun n hn => Below.heap_setCell v p x n hn) rfl rfl rfl
theorem Fr.put {B : Nat} {w v : World} (h : Fr B w v) {m : Nat} (hB : B ≤ m) (hk : ∀ o, w.heap[m]? = some o → keep o = false) (o : Obj) : Fr B w (put v m o) :=
  h.other m hB hk (put_size v m o) (fun n hn => heap_put v m o n (fun e => hn e.symm)) rfl rfl rfl
/-! maps whose keys are strings, whatever they hold -/
def strIdx (k : ByteArray) : List MapEntry → Nat → Option (Nat × Value)
  | [], _ => none
  | e :: es, i => if (match e.key with | .string s => k == s | _ => false) then some (i, e.val) else strIdx k es (i + 1)
theorem findNow_idx (k : ByteArray) : ∀ (es : List MapEntry) (i : Nat), allStr es = true → Instr.findNow .string (.string k) es i = some (strIdx k es i) := by
  intro es
  induction es with
  | nil => intro i _; rfl
  | cons e es ih =>
    intro i h
    obtain ⟨key, val, born⟩ := e
    cases key <;> simp [allStr] at h
    rename_i s
    by_cases hks : (k == s) = true
    · simp [Instr.findNow, Instr.sameNow, strIdx, hks]
    · have hf : (k == s) = false := by simpa using hks
      simp [Instr.findNow, Instr.sameNow, strIdx, hf, ih (i + 1) h]
/-- a map object, written at a string key -/
def mapSet (m : Option (Array MapEntry × Nat)) (k : ByteArray) (v : Value) : Obj :=
  match m with
  | some (es, cl) => (match strIdx k es.toList 0 with
    | some (i, _) => .map (es.modify i fun e => { e with val := v }) cl
    | none => .map (es.push { key := .string k, val := v, born := cl }) (cl + 1))
  | none => .map #[] 0
structure MI (es : Array MapEntry) (cl : Nat) : Prop where
  str : allStr es.toList = true
  young : ∀ e ∈ es.toList, e.born < cl
  born : es.toList.Pairwise (fun a b => a.born ≠ b.born)
  keys : es.toList.Pairwise (fun a b => a.key ≠ b.key)
/-- block m of w is a map with string keys that reads as F -/
def MapIs (w : World) (m : Nat) (F : ByteArray → Option Value) : Prop := ∃ es cl, mapAt w m = some (es, cl) ∧ MI es cl ∧ ∀ k, strFind k es.toList = F k
theorem MapIs.ok {w : World} {m : Nat} {F : ByteArray → Option Value} (h : MapIs w m F) : strOk (mapAt w m) = true := by
  obtain ⟨es, cl, h1, h2, _⟩ := h
  rw [h1]; exact h2.str
theorem MapIs.look {w : World} {m : Nat} {F : ByteArray → Option Value} (h : MapIs w m F) (k : ByteArray) : strLook (mapAt w m) k = F k := by
  obtain ⟨es, cl, h1, _, h3⟩ := h
  rw [h1]; exact h3 k
theorem MapIs.carry {w v : World} {m : Nat} {F : ByteArray → Option Value} (h : MapIs w m F) (e : mapAt v m = mapAt w m) : MapIs v m F := by
  obtain ⟨es, cl, h1, h2⟩ := h
  exact ⟨es, cl, e.trans h1, h2⟩
theorem mem_allStr : ∀ {es : List MapEntry}, allStr es = true → ∀ e ∈ es, ∃ s, e.key = .string s := by
  intro es
  induction es with
  | nil => intro _ e he; cases he
  | cons x es ih =>
    intro h e he
    simp only [allStr, Bool.and_eq_true] at h
    rcases List.mem_cons.1 he with rfl | he
    · cases hk : e.key <;> simp [hk] at h
      exact ⟨_, rfl⟩
    · exact ih h.2 e he
theorem allStr_of : ∀ {es : List MapEntry}, (∀ e ∈ es, ∃ s, e.key = .string s) → allStr es = true := by
  intro es
  induction es with
  | nil => intro _; rfl
  | cons x es ih =>
    intro h
    obtain ⟨s, hs⟩ := h x List.mem_cons_self
    simp only [allStr, hs, Bool.true_and]
    exact ih fun e he => h e (List.mem_cons_of_mem _ he)
theorem ba_iff (a b : ByteArray) : (a == b) = true ↔ a = b := by
  obtain ⟨x⟩ := a
  obtain ⟨y⟩ := b
  constructor
  · intro h
    have h' : (x == y) = true := h
    rw [eq_of_beq h']
  · intro h
    have h' : x = y := by injection h
    subst h'
    exact (show (x == x) = true from beq_self_eq_true x)
def keyIs (k : ByteArray) (v : Value) : Bool := match v with | .string s => k == s | _ => false
theorem keyIs_iff (k : ByteArray) (v : Value) : keyIs k v = true ↔ v = .string k := by
  unfold keyIs
  cases v <;> simp [ba_iff]
  exact ⟨fun h => h.symm, fun h => h.symm⟩
theorem strFind_cons' (k : ByteArray) (x : MapEntry) (es : List MapEntry) : strFind k (x :: es) = if keyIs k x.key = true then some x.val else strFind k es := rfl
theorem strIdx_cons' (k : ByteArray) (x : MapEntry) (es : List MapEntry) (i : Nat) : strIdx k (x :: es) i = if keyIs k x.key = true then some (i, x.val) else strIdx k es (i + 1) := rfl
theorem strFind_none {k : ByteArray} : ∀ {es : List MapEntry}, strFind k es = none → ∀ e ∈ es, e.key ≠ .string k := by
  intro es
  induction es with
  | nil => intro _ e he; cases he
  | cons x es ih =>
    intro h e he
    rw [strFind_cons'] at h
    by_cases hx : keyIs k x.key = true
    · rw [if_pos hx] at h; cases h
    · rw [if_neg hx] at h
      rcases List.mem_cons.1 he with rfl | he
      · exact fun hk => hx ((keyIs_iff _ _).2 hk)
      · exact ih h e he
theorem strFind_mem {k : ByteArray} {v : Value} : ∀ {es : List MapEntry}, strFind k es = some v → ∃ e ∈ es, e.key = .string k ∧ e.val = v := by
  intro es
  induction es with
  | nil => intro h; cases h
  | cons x es ih =>
    intro h
    rw [strFind_cons'] at h
    by_cases hx : keyIs k x.key = true
    · rw [if_pos hx] at h
      exact ⟨x, List.mem_cons_self, (keyIs_iff _ _).1 hx, by simpa using h⟩
    · rw [if_neg hx] at h
      obtain ⟨e, he, h1⟩ := ih h
      exact ⟨e, List.mem_cons_of_mem _ he, h1⟩
theorem strFind_of_mem {k : ByteArray} : ∀ {es : List MapEntry}, es.Pairwise (fun a b => a.key ≠ b.key) → ∀ e ∈ es, e.key = .string k → strFind k es = some e.val := by
  intro es
  induction es with
  | nil => intro _ e he; cases he
  | cons x es ih =>
    intro hp e he hk
    rw [List.pairwise_cons] at hp
    rw [strFind_cons']
    rcases List.mem_cons.1 he with rfl | he
    · rw [if_pos ((keyIs_iff _ _).2 hk)]
    · rw [if_neg, ih hp.2 e he hk]
      intro hx
      exact hp.1 e he (((keyIs_iff _ _).1 hx).trans hk.symm)
theorem strIdx_none {k : ByteArray} : ∀ {es : List MapEntry} {i : Nat}, strIdx k es i = none → strFind k es = none := by
  intro es
  induction es with
  | nil => intro i _; rfl
  | cons x es ih =>
    intro i h
    rw [strIdx_cons'] at h
    rw [strFind_cons']
    by_cases hx : keyIs k x.key = true
    · rw [if_pos hx] at h; cases h
    · rw [if_neg hx] at h ⊢; exact ih h
theorem strIdx_some {k : ByteArray} {j : Nat} {u v : Value} : ∀ {es : List MapEntry} {i : Nat}, strIdx k es i = some (j, u) → i ≤ j ∧ j - i < es.length ∧ (∀ e, es[j - i]? = some e → e.key = .string k) ∧ ∀ q, strFind q (es.modify (j - i) fun e => { e with val := v }) = if (k == q) = true then some v else strFind q es := by
  intro es
  induction es with
  | nil => intro i h; cases h
  | cons x es ih =>
    intro i h
    rw [strIdx_cons'] at h
    by_cases hx : keyIs k x.key = true
    · rw [if_pos hx] at h
      simp only [Option.some.injEq, Prod.mk.injEq] at h
      obtain ⟨rfl, rfl⟩ := h
      have hk := (keyIs_iff _ _).1 hx
      refine ⟨Nat.le_refl _, by simp, fun e he => by simp at he; rw [← he]; exact hk, fun q => ?_⟩
      simp only [Nat.sub_self, List.modify_zero_cons, strFind_cons']
      by_cases hq : (k == q) = true
      · have := (ba_iff _ _).1 hq
        subst this
        rw [if_pos hx, if_pos hq]
      · have h2 : ¬ keyIs q x.key = true := fun h => by
          have := (keyIs_iff _ _).1 h
          rw [hk] at this
          cases this
          exact hq ((ba_iff _ _).2 rfl)
        rw [if_neg h2, if_neg hq, if_neg h2]
    · rw [if_neg hx] at h
      obtain ⟨h1, h2, h4, h3⟩ := ih h
      have e1 : j - i = (j - (i + 1)) + 1 := by omega
      refine ⟨by omega, by simp; omega, fun e he => by rw [e1] at he; exact h4 e (by simpa using he), fun q => ?_⟩
      rw [e1, List.modify_succ_cons, strFind_cons', strFind_cons', h3 q]
      by_cases hq : (k == q) = true
      · have := (ba_iff _ _).1 hq
        subst this
        rw [if_neg hx, if_pos hq, if_pos hq]
      · rw [if_neg hq, if_neg hq]
theorem strFind_append (q : ByteArray) (e : MapEntry) : ∀ (es : List MapEntry), strFind q (es ++ [e]) = match strFind q es with | some v => some v | none => strFind q [e] := by
  intro es
  induction es with
  | nil => rfl
  | cons x es ih =>
    rw [List.cons_append, strFind_cons', strFind_cons']
    by_cases hx : keyIs q x.key = true
    · rw [if_pos hx, if_pos hx]
    · rw [if_neg hx, if_neg hx]; exact ih
theorem pairwise_modify {α : Type} {R : α → α → Prop} {f : α → α} (h : ∀ a b, R a b → R (f a) b ∧ R a (f b)) : ∀ {l : List α} {i : Nat}, l.Pairwise R → (l.modify i f).Pairwise R := by
  intro l
  induction l with
  | nil => intro i _; cases i <;> simp
  | cons x l ih =>
    intro i hp
    rw [List.pairwise_cons] at hp
    cases i with
    | zero =>
      rw [List.modify_zero_cons, List.pairwise_cons]
      exact ⟨fun b hb => (h _ _ (hp.1 b hb)).1, hp.2⟩
    | succ i =>
      rw [List.modify_succ_cons, List.pairwise_cons]
      refine ⟨fun b hb => ?_, ih hp.2⟩
      obtain ⟨j, hj⟩ := List.getElem?_of_mem hb
      rw [List.getElem?_modify] at hj
      cases hl : l[j]? with
      | none => rw [hl] at hj; simp at hj
      | some a =>
        rw [hl] at hj
        have ha := hp.1 a (List.mem_of_getElem? hl)
        by_cases hij : i = j
        · simp [hij] at hj; rw [← hj]; exact (h _ _ ha).2
        · simp [hij] at hj; rw [← hj]; exact ha
theorem mem_modify {α : Type} {f : α → α} {l : List α} {i : Nat} {b : α} (hb : b ∈ l.modify i f) : ∃ a ∈ l, b = a ∨ b = f a := by
  obtain ⟨j, hj⟩ := List.getElem?_of_mem hb
  rw [List.getElem?_modify] at hj
  cases hl : l[j]? with
  | none => rw [hl] at hj; simp at hj
  | some a =>
    rw [hl] at hj
    refine ⟨a, List.mem_of_getElem? hl, ?_⟩
    by_cases hij : i = j
    · simp [hij] at hj; exact Or.inr hj.symm
    · simp [hij] at hj; exact Or.inl hj.symm
theorem MI.empty (cl : Nat) : MI #[] cl := ⟨rfl, by simp, by simp, by simp⟩
/-- a map, written at a string key, reads as it should -/
theorem MI.set {es : Array MapEntry} {cl : Nat} (h : MI es cl) (k : ByteArray) (v : Value) : ∃ es' cl', mapSet (some (es, cl)) k v = .map es' cl' ∧ MI es' cl' ∧ ∀ q, strFind q es'.toList = if (k == q) = true then some v else strFind q es.toList := by
  cases hi : strIdx k es.toList 0 with
  | some r =>
    obtain ⟨j, u⟩ := r
    obtain ⟨_, h2, h4, h3⟩ := strIdx_some (v := v) hi
    rw [Nat.sub_zero] at h2 h3
    refine ⟨es.modify j fun e => { e with val := v }, cl, by simp [mapSet, hi], ⟨?_, ?_, ?_, ?_⟩, fun q => by rw [Array.toList_modify]; exact h3 q⟩
    · rw [Array.toList_modify]
      refine allStr_of fun e he => ?_
      obtain ⟨a, ha, h⟩ := mem_modify he
      obtain ⟨s, hs⟩ := mem_allStr (MI.str ‹_›) a ha
      rcases h with rfl | rfl
      · exact ⟨s, hs⟩
      · exact ⟨s, hs⟩
    · intro e he
      rw [Array.toList_modify] at he
      obtain ⟨a, ha, h5⟩ := mem_modify he
      have := h.young a ha
      rcases h5 with rfl | rfl <;> exact this
    · rw [Array.toList_modify]
      exact pairwise_modify (f := fun e : MapEntry => { e with val := v }) (fun _ _ h => ⟨h, h⟩) h.born
    · rw [Array.toList_modify]
      exact pairwise_modify (f := fun e : MapEntry => { e with val := v }) (fun _ _ h => ⟨h, h⟩) h.keys
  | none =>
    have hn := strIdx_none hi
    refine ⟨es.push { key := .string k, val := v, born := cl }, cl + 1, by simp [mapSet, hi], ⟨?_, ?_, ?_, ?_⟩, fun q => ?_⟩
    · rw [Array.toList_push]
      refine allStr_of fun e he => ?_
      rcases List.mem_append.1 he with he | he
      · exact mem_allStr h.str e he
      · simp at he; subst he; exact ⟨k, rfl⟩
    · intro e he
      rw [Array.toList_push] at he
      rcases List.mem_append.1 he with he | he
      · have := h.young e he; omega
      · simp at he; subst he; simp
    · rw [Array.toList_push, List.pairwise_append]
      refine ⟨h.born, by simp, fun a ha b hb => ?_⟩
      simp at hb; subst hb
      have := h.young a ha
      simp; omega
    · rw [Array.toList_push, List.pairwise_append]
      refine ⟨h.keys, by simp, fun a ha b hb => ?_⟩
      simp at hb; subst hb
      exact strFind_none hn a ha
    · rw [Array.toList_push, strFind_append]
      by_cases hq : (k == q) = true
      · have := (ba_iff _ _).1 hq
        subst this
        rw [hn, if_pos hq]
        simp [strFind_cons', keyIs, hq]
      · rw [if_neg hq]
        have h2 : ¬ (q == k) = true := fun e => hq ((ba_iff _ _).2 ((ba_iff _ _).1 e).symm)
        cases strFind q es.toList with
        | some x => rfl
        | none => simp [h2, strFind]
theorem mapAt_lt {w : World} {m : Nat} {x : Array MapEntry × Nat} (h : mapAt w m = some x) : m < w.heap.size := by
  obtain ⟨es, cl⟩ := x
  exact (Array.getElem?_eq_some_iff.1 (mapAt_some h)).1
theorem MapIs.lt {w : World} {m : Nat} {F : ByteArray → Option Value} (h : MapIs w m F) : m < w.heap.size := by
  obtain ⟨es, cl, h1, _⟩ := h
  exact mapAt_lt h1
theorem mapAt_put (w : World) (m : Nat) (es : Array MapEntry) (cl : Nat) (h : m < w.heap.size) : mapAt (put w m (.map es cl)) m = some (es, cl) := by
  simp [mapAt, put, h]
theorem mapAt_put_other (w : World) (m n : Nat) (o : Obj) (h : m ≠ n) : mapAt (put w m o) n = mapAt w n := by
  simp [mapAt, heap_put w m o n h]
theorem MapIs.set {w : World} {m : Nat} {F : ByteArray → Option Value} (h : MapIs w m F) (k : ByteArray) (v : Value) : MapIs (put w m (mapSet (mapAt w m) k v)) m (fun q => if (k == q) = true then some v else F q) := by
  obtain ⟨es, cl, h1, h2, h3⟩ := h
  obtain ⟨es', cl', e1, e2, e3⟩ := h2.set k v
  rw [h1, e1]
  exact ⟨es', cl', mapAt_put w m es' cl' (mapAt_lt h1), e2, fun q => by rw [e3 q, h3 q]⟩
theorem MapIs.new (w : World) (cl : Nat) : MapIs (w.alloc (.map #[] cl)) w.heap.size (fun _ => none) :=
  ⟨#[], cl, mapAt_at w #[] cl _ rfl, MI.empty cl, fun _ => rfl⟩
theorem run_set_str {P : Program} {w : World} {t kt et : TypeId} {r : Nat} {k : ByteArray} {v : Value}
    (hm : P.underlying t = some (.map kt et)) (hk : P.underlying kt = some .string) (h : strOk (mapAt w r) = true) :
    (Instr.mapUpdate t (.map (some r)) (.string k) v).run P w = .ok () (put w r (mapSet (mapAt w r) k v)) := by
  obtain ⟨es, cl, hat, hall⟩ := strOk_get h
  have h1 := MapKept.run_getObj_map (P := P) (mapAt_some hat)
  have h2 := MapKept.run_checkKey (P := P) (w := w) (k := .string k) hk (by simp [MapKept.IsKey]) false 9999
  have h3 := MapKept.run_findKey (P := P) (w := w) hk (findNow_idx k es.toList 0 hall)
  have h4 := fun o => MapKept.run_setObj_map (P := P) o (mapAt_some hat)
  unfold Instr.mapUpdate
  cases hi : strIdx k es.toList 0 with
  | none => simp [run_underlying hm, h1, h2, h3, hi, h4, Result.andThen, put, hat, mapSet]
  | some x =>
    obtain ⟨j, u⟩ := x
    obtain ⟨_, h5, h6, _⟩ := strIdx_some (v := v) hi
    rw [Nat.sub_zero] at h5 h6
    have h5 : j < es.size := by simpa using h5
    have h7 : es[j]? = some es[j] := by simp
    have h8 : es[j].key = .string k := h6 _ (by rw [Array.getElem?_toList]; exact h7)
    have h9 : (Instr.keyThatStays (.string k) (.string k)).run P w = .ok (.string k) w := by
      have : Instr.sameBits 10000 (.string k) (.string k) = true := by simp [Instr.sameBits, (ba_iff k k).2 rfl]
      simp [Instr.keyThatStays, this]
    have h10 : (es.modify j fun e => { key := .string k, val := v, born := e.born }) = es.modify j fun e => { e with val := v } := by
      apply Array.ext_getElem?
      intro i
      rw [Array.getElem?_modify, Array.getElem?_modify]
      by_cases hij : j = i
      · subst hij
        simp only [if_true, h7, Option.map_some]
        rw [← h8]
      · simp [hij]
    simp [run_underlying hm, h1, h2, h3, hi, h4, Result.andThen, put, hat, mapSet, h7, h8, h9, h10]
def SD (w : World) (s : Nat) (c : Array Value) : Prop := w.heap[s]? = some (.cells c 102 (0, 0))
theorem SD.plain {w : World} {s : Nat} {c : Array Value} (h : SD w s c) : Plain w s := ⟨c, _, h⟩
theorem SD.cells {w : World} {s : Nat} {c : Array Value} (h : SD w s c) : cellsAt w s = c := cellsAt_of h
theorem SD.lt {w : World} {s : Nat} {c : Array Value} (h : SD w s c) : s < w.heap.size := h.plain.lt
theorem SD.loose {w : World} {s : Nat} {c : Array Value} (h : SD w s c) : ∀ o, w.heap[s]? = some o → keep o = false := by
  intro o ho
  rw [h] at ho
  cases ho
  rfl
/-- the cells of a structData -/
abbrev sdc (t : Nat) (m : Option Nat) (n own an : Int) (par ch : Option Addr) (ix : Value) : Array Value :=
  #[.iface 105 (.pointer (some ⟨4, t, none⟩)), .map m, .int .i64 n, .int .i64 own, .int .i64 an, .pointer par, .pointer ch, ix]
theorem fin_a (s t : Nat) (m : Option Nat) (n own an : Int) (par ch : Option Addr) (ix : Value) (w : World) (h : SD w s (sdc t m n own an par ch ix)) (hc : own < n) :
    Calls Tryz.prog 43 #[.pointer (some ⟨s, 0, none⟩)] w fun e w' => e = .returned (.bool false) ∧ ∃ k, w' = w.drewN k := by
  have hp := h.plain
  have hs := h.cells
  have hd : decide (n ≤ own) = false := by simp; omega
  clear h
  go_enter Tryz.func43, Tryz.ntmps43
  go_wp2
  go_quiet (fail)
  go_wp2
  go_ret
  exact ⟨rfl, _, rfl⟩
theorem fin_b (s t : Nat) (m : Option Nat) (n own an : Int) (par ch : Option Addr) (ix : Value) (w : World) (h : SD w s (sdc t m n own an par ch ix)) (hc : n ≤ own) (hc2 : an < n) :
    Calls Tryz.prog 43 #[.pointer (some ⟨s, 0, none⟩)] w fun e w' => e = .returned (.bool false) ∧ ∃ k, w' = w.drewN k := by
  have hp := h.plain
  have hs := h.cells
  have hd : decide (n ≤ own) = true := by simpa using hc
  have hd2 : decide (n ≤ an) = false := by simp; omega
  clear h
  go_enter Tryz.func43, Tryz.ntmps43
  go_wp2
  go_quiet (fail)
  go_wp2
  go_ret
  exact ⟨rfl, _, rfl⟩
theorem fin_c (s t : Nat) (m : Option Nat) (n own an : Int) (par ch : Option Addr) (ix : Value) (w : World) (h : SD w s (sdc t m n own an par ch ix)) (hc : n ≤ own) (hc2 : n ≤ an) :
    Calls Tryz.prog 43 #[.pointer (some ⟨s, 0, none⟩)] w fun e w' => e = .returned (.bool ch.isNone) ∧ ∃ k, w' = w.drewN k := by
  have hp := h.plain
  have hs := h.cells
  have hd : decide (n ≤ own) = true := by simpa using hc
  have hd2 : decide (n ≤ an) = true := by simpa using hc2
  clear h
  cases ch
  all_goals
    go_enter Tryz.func43, Tryz.ntmps43
    go_wp2
    go_quiet (fail)
    go_wp2
    go_ret
    exact ⟨rfl, _, rfl⟩
end Go.Proofs.YtpnifkpnapoeoaaGreatDoorBesrefl
