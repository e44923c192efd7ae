/-
  What a call of structField stands on, over whatever struct type. No condition.
-/
import Derived.Test.YtdpgbmmgeooahaaGreatDoorBesreflOwn
import Derived.StillTailTactics
import Derived.Deep.RegionHeld3
import Derived.Deep.RegionLaw
import Derived.Deep.RegionLawGrows
import Derived.Deep.AppendLies
import Derived.Deep.Cut
import Derived.Deep.CutRange
import Derived.Deep.RegionWith
import Derived.Lib.Hide
import Derived.Deep.LoopGhost
import Derived.Deep.DeepCutAuto
namespace Go.Proofs.YtdpgbmmgeooahaaGreatDoorBesrefl
open Go.RowKit
set_option maxRecDepth 100000
set_option maxHeartbeats 1000000
set_option linter.unusedVariables false
theorem op_eq0 (a b : Nat) (w : World) : (Op.equal 43 (.iface 105 (.pointer (some ⟨4, a, none⟩))) (.iface 105 (.pointer (some ⟨4, b, none⟩)))).run Tryz.prog w = .ok ((⟨4, a, none⟩ : Addr) == ⟨4, b, none⟩) w := by kernel_rfl
theorem op_eq (w : World) (a b : Nat) : (Op.equal 43 (.iface 105 (.pointer (some ⟨4, a, none⟩))) (.iface 105 (.pointer (some ⟨4, b, none⟩)))).run Tryz.prog w = .ok (a == b) w := by rw [op_eq0, addr_eq]
theorem ck_ty (w : World) (a : Nat) (e : Bool) : (Instr.checkKey e 10000 43 (.iface 105 (.pointer (some ⟨4, a, none⟩)))).run Tryz.prog w = .ok () w := by kernel_rfl
theorem zero_nat (w : World) : (zeroValue 48).run Tryz.prog w = .ok (.agg #[.nilIface, .int .u64 0, .pointer none, .pointer none, .bool false, .bool false, .bool false, .bool false, .bool false]) w := by kernel_rfl
@[go_sem] theorem st_look (r a : Nat) (ok : Bool) (w : World) (h : tyOk 105 4 (mapAt w r) = true) : (Instr.lookup 39 (.map (some r)) (.iface 105 (.pointer (some ⟨4, a, none⟩))) ok).run Tryz.prog w = .ok (orZero (tyLook (mapAt w r) a) (.agg #[.nilIface, .int .u64 0, .pointer none, .pointer none, .bool false, .bool false, .bool false, .bool false, .bool false]) ok) w :=
  look_ty Tryz.underlying39 Tryz.underlying43 (op_eq w) (ck_ty w a) (zero_nat w) h
@[go_sem] theorem st_upd (r a : Nat) (v : Value) (w : World) (h : tyOk 105 4 (mapAt w r) = true) (hn : tyLook (mapAt w r) a = none) : (Instr.mapUpdate 39 (.map (some r)) (.iface 105 (.pointer (some ⟨4, a, none⟩))) v).run Tryz.prog w = .ok () (put w r (mapPush (mapAt w r) (.iface 105 (.pointer (some ⟨4, a, none⟩))) v)) :=
  upd_ty Tryz.underlying39 Tryz.underlying43 (op_eq w) (ck_ty w a) h hn
@[go_sem] theorem meq0_39 (w : World) : (binOp .eql 39 (.map none) (.map none)).run Tryz.prog w = .ok (.bool true) w := by kernel_rfl
@[go_sem] theorem meq1_39 (r : Nat) (w : World) : (binOp .eql 39 (.map (some r)) (.map none)).run Tryz.prog w = .ok (.bool false) w := by kernel_rfl
/-- block cb is a Cache without method sets, whose structs lie in map x -/
def Ca (w : World) (cb : Nat) (x : Option Nat) : Prop := w.heap[cb]? = some (.cells #[.map none, .map x] 41 (0, 0))
/-- the structs' map: each type with its TypeData -/
def Ty (w : World) (mc : Nat) (G : Nat → Option Nat) : Prop := tyOk 105 4 (mapAt w mc) = true ∧ ∀ a, tyLook (mapAt w mc) a = (G a).map fun td => .agg (natc a 25 (some ⟨td, 0, none⟩) false false)
abbrev tdc (sd : Nat) : Array Value := #[.pointer none, .pointer (some ⟨sd, 0, none⟩), .map none, .pointer none, .pointer none, .int .i64 0, .pointer none, .pointer none, .int .i64 0, .int .i64 0, .bool false, .bool false, .bool false, .bool false]
def TDa (w : World) (td sd : Nat) : Prop := w.heap[td]? = some (.cells (tdc sd) 88 (0, 0))
theorem chain5 (X : World) (a b c d e : Obj) (n : Nat) (h : X.heap.size = n) : let W := ((((X.alloc a).alloc b).alloc c).alloc d).alloc e
    W.heap[n + 1]? = some b ∧ W.heap[n + 1 + 1]? = some c ∧ W.heap[n + 1 + 1 + 1]? = some d ∧ ∀ k, k < n → W.heap[k]? = X.heap[k]? := by
  subst h
  refine ⟨?_, ?_, ?_, fun k hk => ?_⟩
  · rw [Below.heap_alloc _ _ _ (by simp), Below.heap_alloc _ _ _ (by simp), Below.heap_alloc _ _ _ (by simp)]
    exact sf_new _ _ _ (by simp)
  · rw [Below.heap_alloc _ _ _ (by simp), Below.heap_alloc _ _ _ (by simp)]
    exact sf_new _ _ _ (by simp)
  · rw [Below.heap_alloc _ _ _ (by simp)]
    exact sf_new _ _ _ (by simp)
  · rw [Below.heap_alloc _ _ _ (by simp; omega), Below.heap_alloc _ _ _ (by simp; omega), Below.heap_alloc _ _ _ (by simp; omega), Below.heap_alloc _ _ _ (by simp; omega), Below.heap_alloc _ _ _ hk]
theorem Ca.loose {w : World} {cb : Nat} {x : Option Nat} (h : Ca w cb x) : ∀ o, w.heap[cb]? = some o → keep o = false := by
  intro o ho
  rw [h] at ho
  cases ho
  rfl
theorem Ca.set {w : World} {cb : Nat} {x : Option Nat} (h : Ca w cb x) (y : Option Nat) : Ca (w.setCell ⟨cb, 1, none⟩ (.map y)) cb y := by
  have := setRow_heap w cb _ #[.map none, .map y] 41 _ h
  have e := setCell_eq_setRow w cb 1 _ 41 _ (.map y) h
  rw [show (#[Value.map none, Value.map x] : Array Value).setIfInBounds 1 (.map y) = #[.map none, .map y] from rfl] at e
  rw [← e] at this
  exact this
@[go_sem] theorem meqv_89 (mo : Option Nat) (w : World) : (binOp .eql 89 (.map mo) (.map none)).run Tryz.prog w = .ok (.bool mo.isNone) w := by
  cases mo
  · exact meq0_89 w
  · exact meq1_89 _ w
@[go_sem] theorem pneqv_60 (c : Option Addr) (w : World) : (binOp .neq 60 (.pointer c) (.pointer none)).run Tryz.prog w = .ok (.bool c.isSome) w := by
  cases c
  · kernel_rfl
  · kernel_rfl
@[go_sem] theorem natc_td (t : Nat) (k : Int) (td : Option Addr) (i f : Bool) (w : World) : (Instr.field 48 (.agg (natc t k td i f)) 2).run Tryz.prog w = .ok (.pointer td) w := by kernel_rfl
/-- a field of a struct type, as reflect tells it, and what structField makes of it -/
structure Fd where
  nm : ByteArray
  pk : ByteArray
  t : Nat
  tg : ByteArray
  off : Int
  emb : Bool
  exp : Bool
  vis : Bool
  key : ByteArray
  k : Int
  i : Bool
  f : Bool
abbrev frec (d : Fd) (ix : Value) : Array Value := #[.string d.nm, .string d.pk, .iface 105 (.pointer (some ⟨4, d.t, none⟩)), .string d.tg, .int .u64 d.off, ix, .bool d.emb]
def plus (F : ByteArray → Option Value) (key : ByteArray) (v : Value) : ByteArray → Option Value := fun y => if (key == y) = true then some v else F y
abbrev pt (b : Nat) : Option Addr := some ⟨b, 0, none⟩
/-- the blocks of X lie as they lay -/
def Same (X : List Nat) (w u : World) : Prop := ∀ x ∈ X, x < w.heap.size → u.heap[x]? = w.heap[x]?
/-- what a lookup in an embedded struct leaves -/
def FeP (B s T n m : Nat) (an : Int) (tab : ByteArray → Option Ent) (D : (ByteArray → Option Value) → Prop) (I : (ByteArray → Option Value) → World → Prop) (c : Option Addr) (ixv : Value) (F : ByteArray → Option Value) (name : ByteArray) (w : World) (e : Ending) (w' : World) : Prop :=
  ∃ r F', e = .returned r ∧ Fr B w w' ∧ SD w' s (sdc T (some m) n n an none c ixv) ∧ MapIs w' m F' ∧ Sound w' F' tab ∧ (∀ x, F x ≠ none → F' x ≠ none) ∧ I F' w' ∧
    ((r = .pointer none ∧ F' name = none ∧ D F') ∨ ∃ p, r = .pointer (pt p) ∧ F' name = some r)
/-- what a call of structField stands on: B what it leaves alone, s the structData's block, cb the Cache's, T the type with its n fields fs, tab what should be found, D a what is found where field a has been looked into, par the parent, I the rest of the memory -/
structure Gen (B s cb T n : Nat) (fs : Nat → Fd) (tab : ByteArray → Option Ent) (kT : Nat → Nat) (kK : Nat → Int) (D : Nat → (ByteArray → Option Value) → Prop) (par : Option Addr)
    (I : (ByteArray → Option Value) → Option Addr → Value → Option (Nat × Nat) → List Nat → World → Prop) : Prop where
  n0 : 0 < n
  n64 : n ≤ 64
  Bs : B ≤ s
  fld : ∀ j : Nat, j < n → ∀ w : World, (callFunc 160 #[.pointer (some ⟨4, T, none⟩), .int .i64 j]).run Tryz.prog w = .ok (.value (.agg (frec (fs j) (.slice (some ⟨w.heap.size, 0, none⟩) 1 1)))) (w.alloc (.cells #[.int .i64 j] 3 (0, 1)))
  iex : ∀ j, j < n → ∀ (ix : Value) (w : World), (callFunc 51 #[.agg (frec (fs j) ix)]).run Tryz.prog w = .ok (.value (.bool (fs j).exp)) w
  fnm : ∀ j, j < n → (fs j).exp = true → ∀ w : World, Calls Tryz.prog 52 #[.string (fs j).nm, .string (fs j).tg] w fun e w' => e = .returned (.tuple #[.string (fs j).key, .bool (fs j).vis]) ∧ ∃ m, w' = w.drewN m
  key : ∀ j, j < n → (fs j).vis = true → (fs j).key.toList.isEmpty = false
  mkm : ∀ w : World, (Instr.makeMap 89 (some (.int .i64 n))).run Tryz.prog w = .ok (.map (some w.heap.size)) (w.alloc (.map #[] 0))
  tk : ∀ j : Nat, j < n → (fs j).exp = true → (fs j).vis = true → tab (fs j).key = some ⟨(fs j).t, (fs j).k, (fs j).i, (fs j).f, [(j : Int)]⟩
  add : par = none → ∀ j, j < n → (fs j).exp = true → (fs j).vis = true → ∀ v F ch ix X w, I F ch ix none X w → I (plus F (fs j).key v) ch ix none X w
  fr : ∀ F ch ix pd X w u, I F ch ix pd X w → Fr B w u → (∀ b, b < w.heap.size → b ∉ X → u.heap[b]? = w.heap[b]?) → I F ch ix pd X u
  new : ∀ F ch ix pd X w x, I F ch ix pd X w → w.heap.size ≤ x → I F ch ix pd (x :: X) w
  ft : ∀ j, j < n → (fs j).exp = true → (fs j).vis = true → ∀ F ch ix m w, I F ch ix none [m, s] w → m < w.heap.size → s < w.heap.size → Calls Tryz.prog 35 #[.pointer (pt cb), .iface 105 (.pointer (some ⟨4, (fs j).t, none⟩))] w fun e w' =>
    ∃ td, e = .returned (.agg (natc (fs j).t (fs j).k td (fs j).i (fs j).f)) ∧ Fr B w w' ∧ Same [m, s] w w' ∧ I F ch ix none [m, s] w'
  ts : ∀ p, par = some p → ∀ key q E td F ch ix m w, I F ch ix none [m, s] w → tab key = some E → IsSF w q E.t E.k td E.i E.f E.zs → Calls Tryz.prog 53 #[.pointer (some p), .string key, .pointer (pt q)] w fun e w' =>
    e = .returned (.tuple #[]) ∧ Fr B w w' ∧ Same [m, s] w w' ∧ I (plus F key (.pointer (pt q))) ch ix none [m, s] w'
  kd : ∀ j, j < n → (fs j).emb = true → ∃ (k0 : Int) (b : Bool), (∀ w : World, (callFunc 171 #[.pointer (some ⟨4, (fs j).t, none⟩)]).run Tryz.prog w = .ok (.value (.int .u64 k0)) w) ∧ ∀ w : World, Calls Tryz.prog 37 #[.iface 105 (.pointer (some ⟨4, (fs j).t, none⟩)), .int .u64 k0] w fun e w' =>
    e = .returned (.tuple #[.iface 105 (.pointer (some ⟨4, kT j, none⟩)), .int .u64 (kK j), .bool b]) ∧ w' = w
  D0 : ∀ j F, j < n → (fs j).emb = false ∨ kK j ≠ 25 → D j F
  Dm : ∀ j F G, D j F → (∀ x, F x ≠ none → G x ≠ none) → D j G
  gs : ∀ j, j < n → (fs j).emb = true → kK j = 25 → ∀ F ch ix m w, I F ch ix none [m, s] w → m < w.heap.size → s < w.heap.size → Calls Tryz.prog 38 #[.pointer (pt cb), .iface 105 (.pointer (some ⟨4, kT j, none⟩))] w fun e w' =>
    ∃ td sd, e = .returned (.agg (natc (kT j) 25 (pt td) false false)) ∧ Fr B w w' ∧ Same [m, s] w w' ∧ TDa w' td sd ∧ I F ch ix (some (j, sd)) [m, s] w'
  fe : ∀ j sd F ch ix ixv m an name w, j < n → I F ch ix (some (j, sd)) [m, s] w → B ≤ m → SD w s (sdc T (some m) n n an none ch ix) → MapIs w m F → Sound w F tab → F name = none → (∀ q, q < n → (fs q).exp = true → (fs q).vis = true → F (fs q).key ≠ none) → Ix w ixv [(j : Int)] true →
    Calls Tryz.prog 43 #[.pointer (pt s), .pointer (pt cb), .pointer par, .pointer (pt sd), ixv, .string name] w (FeP B s T n m an tab (D j) (fun G u => I G (pt sd) ixv none [m, s] u) (pt sd) ixv F name w)
  re : ∀ c F ix m an name w, I F (some c) ix none [m, s] w → B ≤ m → SD w s (sdc T (some m) n n an none (some c) ix) → MapIs w m F → Sound w F tab → F name = none → (∀ q, q < n → (fs q).exp = true → (fs q).vis = true → F (fs q).key ≠ none) →
    Calls Tryz.prog 43 #[.pointer (pt s), .pointer (pt cb), .pointer par, .pointer (some c), ix, .string name] w (FeP B s T n m an tab (fun _ => True) (fun G u => I G (some c) ix none [m, s] u) (some c) ix F name w)
/-- where a structData stands -/
structure Pre (B s T n : Nat) (fs : Nat → Fd) (tab : ByteArray → Option Ent) (D : Nat → (ByteArray → Option Value) → Prop)
    (I : (ByteArray → Option Value) → Option Addr → Value → Option (Nat × Nat) → List Nat → World → Prop) (mo : Option Nat) (own : Nat) (an : Int) (ch : Option Addr) (ix : Value) (F : ByteArray → Option Value) (w : World) : Prop where
  sd : SD w s (sdc T mo n own an none ch ix)
  le : own ≤ n
  fm : match mo with | some m => B ≤ m ∧ MapIs w m F | none => F = fun _ => none
  so : Sound w F tab
  has : ∀ j, j < own → (fs j).exp = true → (fs j).vis = true → F (fs j).key ≠ none
  lo : (an = -1 ∧ ∀ a, a < own → (fs a).emb = false) ∨ (0 ≤ an ∧ an ≤ n ∧ (∃ a, a < n ∧ (fs a).emb = true) ∧ ∀ a : Nat, (a : Int) < an → D a F)
  re : I F ch ix none (mo.toList ++ [s]) w
/-- how a call of structField ends -/
def Post (B s T n : Nat) (fs : Nat → Fd) (tab : ByteArray → Option Ent) (D : Nat → (ByteArray → Option Value) → Prop)
    (I : (ByteArray → Option Value) → Option Addr → Value → Option (Nat × Nat) → List Nat → World → Prop) (mo : Option Nat) (own : Nat) (an : Int) (F : ByteArray → Option Value) (name : ByteArray) (w : World) (e : Ending) (w' : World) : Prop :=
  ∃ r m own' an' ch' ix' F', e = .returned r ∧ Fr B w w' ∧ Pre B s T n fs tab D I (some m) own' an' ch' ix' F' w' ∧ (∀ x, F x ≠ none → F' x ≠ none) ∧ (∀ q, mo = some q → m = q) ∧ (mo = none → w.heap.size ≤ m) ∧
    ((r = .pointer none ∧ F' name = none ∧ own' = n ∧ (an' = -1 ∨ (n : Int) ≤ an') ∧ ∀ a, a < n → D a F') ∨
     ∃ p, r = .pointer (pt p) ∧ F' name = some r ∧ ((own' = own ∧ an' = an) ∨ (∃ j, j < n ∧ own' = j ∧ (fs j).key = name) ∨ ch' ≠ none))
theorem sf_hit (s t m p : Nat) (n own an : Int) (par0 ch : Option Addr) (ix : Value) (F : ByteArray → Option Value) (c par : Option Addr) (name : ByteArray) (w : World)
    (hS : SD w s (sdc t (some m) n own an par0 ch ix)) (hM : MapIs w m F) (hF : F name = some (.pointer (pt p))) :
    Calls Tryz.prog 39 #[.pointer (pt s), .pointer c, .pointer par, .string name] w fun e w' => e = .returned (.pointer (pt p)) ∧ w = w' := by
  have hp := hS.plain
  have hs := hS.cells
  have hm := hM.ok
  have hl : strLook (mapAt w m) name = some (.pointer (pt p)) := (hM.look name).trans hF
  clear hS hM hF
  go_enter Tryz.func39, Tryz.ntmps39
  go_wp2
  go_ret
  exact ⟨rfl, rfl⟩
end Go.Proofs.YtdpgbmmgeooahaaGreatDoorBesrefl
