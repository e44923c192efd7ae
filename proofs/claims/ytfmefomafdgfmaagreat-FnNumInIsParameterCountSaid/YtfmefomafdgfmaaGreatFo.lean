/-
  Types made by reflect.FuncOf: what the model answers of func(a ints, b slices) (o ints). No condition.
-/
import Derived.IntWalk
import Derived.OpenShut
import Derived.Deep.RegionWith
import Derived.RegionTactic
import Derived.ChangeAlike
import Derived.Deep.QuietTactic
import Derived.BigQuiet
import Derived.WalkSmall
import Derived.Outline
import Derived.Lib.Hide
import Derived.Deep.LoopGhost
import Derived.Deep.Cut
import Derived.Deep.CutRange
import Derived.Made
import Derived.Laws.Cells
import Derived.Laws.Externs
import GoSem.Extern.ReflectShape
import Derived.Test.YtfmefomafdgfmaaGreatKit2
namespace Go.Proofs.YtfmefomafdgfmaaGreat
open Go.RowKit
set_option maxRecDepth 100000
set_option maxHeartbeats 1000000
set_option linter.unusedVariables false
namespace Fo
open Go.Made Go.Extern Go.Extern.Rtype Go.Extern.Rvalue
def ins (I S a b : Nat) : Array TypeId := Array.replicate a I ++ Array.replicate b S
def fd (I S a b o : Nat) : TypeDesc := .func (ins I S a b) (Array.replicate o I) false
structure Ok (P : Program) (I S R g : Nat) : Prop where
  gl : P.globals.size = g
  ct : P.cutTypes.find? (·.1 == "*reflect.rtype") = some ("*reflect.rtype", R)
  own : (P.cutTypes.toList.all fun c => Program.modelsOwn c.1) = true
  ltI : I < P.types.size
  ltS : S < P.types.size
  sI : (P.types[I]?).bind spell = some "int"
  sS : (P.types[S]?).bind spell = some "[]string"
  nI : P.namesPacked P.depth I = false
  nS : P.namesPacked P.depth S = false
  rows : (P.types.toList.all fun i => match i.desc with | .func _ _ _ => decide (i.str.utf8ByteSize < 100000) | _ => true) = true
def ft (P : Program) (I S a b o : Nat) : TypeId := (P.intern (fd I S a b o)).getD 0
theorem mapM_some {α β : Type} (f : α → Option β) (g : α → β) : ∀ (l : List α), (∀ x, x ∈ l → f x = some (g x)) → l.mapM f = some (l.map g) := by
  intro l
  induction l with
  | nil => intro _; rfl
  | cons x l ih =>
    intro h
    rw [List.mapM_cons, h x (List.mem_cons_self ..), ih fun y hy => h y (List.mem_cons_of_mem _ hy)]
    rfl
theorem inter_cons (B : Nat) : ∀ (l : List String) (acc : String), (∀ x, x ∈ l → x.utf8ByteSize ≤ B) → (", ".intercalate (acc :: l)).utf8ByteSize ≤ acc.utf8ByteSize + l.length * (B + 2) := by
  intro l
  induction l with
  | nil => intro acc _; exact Nat.le_add_right _ _
  | cons x l ih =>
    intro acc h
    have e : ", ".intercalate (acc :: x :: l) = ", ".intercalate ((acc ++ ", " ++ x) :: l) := rfl
    have h1 := ih (acc ++ ", " ++ x) fun y hy => h y (List.mem_cons_of_mem _ hy)
    have h2 := h x (List.mem_cons_self ..)
    have h3 : (", " : String).utf8ByteSize = 2 := rfl
    rw [e]
    simp only [String.utf8ByteSize_append, h3, List.length_cons] at h1 ⊢
    rw [Nat.add_mul]
    omega
theorem inter_size (B : Nat) (l : List String) (h : ∀ x, x ∈ l → x.utf8ByteSize ≤ B) : (", ".intercalate l).utf8ByteSize ≤ l.length * (B + 2) := by
  cases l with
  | nil => exact Nat.zero_le _
  | cons x l =>
    have h1 := inter_cons B l x fun y hy => h y (List.mem_cons_of_mem _ hy)
    have h2 := h x (List.mem_cons_self ..)
    rw [List.length_cons, Nat.add_mul]
    omega
theorem infoAt_lt (P : Program) (f t : Nat) (h : t < P.types.size) : Made.infoAt P.toTables (f + 1) t = P.types[t]? := by
  unfold Made.infoAt
  exact if_pos h
theorem ins_size (I S a b : Nat) : (ins I S a b).size = a + b := by simp [ins]
theorem mem_ins {I S a b : Nat} {x : TypeId} (h : x ∈ (ins I S a b).toList) : x = I ∨ x = S := by
  simp [ins] at h
  rcases h with ⟨_, h⟩ | ⟨_, h⟩
  · exact Or.inl h
  · exact Or.inr h
def sp (I : Nat) (t : Nat) : String := if t = I then "int" else "[]string"
theorem sp_le (I t : Nat) : (sp I t).utf8ByteSize ≤ 8 := by
  unfold sp
  split
  · decide
  · decide
theorem spell_of {P : Program} {I S R g : Nat} (H : Ok P I S R g) {x : Nat} (h : x = I ∨ x = S) : (do let i ← Made.infoAt P.toTables 99 x; spell i) = some (sp I x) := by
  rcases h with rfl | rfl
  · rw [infoAt_lt P 98 _ H.ltI]
    exact H.sI.trans (by simp [sp])
  · rw [infoAt_lt P 98 _ H.ltS]
    refine H.sS.trans ?_
    unfold sp
    split
    · rename_i e
      subst e
      rw [← H.sS, H.sI]
    · rfl
theorem funcStr_some {P : Program} {I S R g : Nat} (H : Ok P I S R g) (a b o : Nat) : ∃ s, funcStr (Made.infoAt P.toTables 99) (ins I S a b) (Array.replicate o I) false = some s ∧ s.utf8ByteSize ≤ 100 + (a + b + o) * 10 := by
  have h1 := mapM_some (fun (x : TypeId × Nat) => do let i ← Made.infoAt P.toTables 99 x.1; spell i) (fun x => sp I x.1) (ins I S a b).toList.zipIdx fun x hx => spell_of H (mem_ins (List.fst_mem_of_mem_zipIdx hx))
  have h2 := mapM_some (fun (x : TypeId) => do let i ← Made.infoAt P.toTables 99 x; spell i) (fun x => sp I x) (Array.replicate o I).toList fun x hx => spell_of H (Or.inl (by simp at hx; exact hx.2))
  have s1 := inter_size 8 ((ins I S a b).toList.zipIdx.map fun x => sp I x.1) fun x hx => by
    obtain ⟨y, _, rfl⟩ := List.mem_map.1 hx
    exact sp_le _ _
  have s2 := inter_size 8 ((Array.replicate o I).toList.map fun x => sp I x) fun x hx => by
    obtain ⟨y, _, rfl⟩ := List.mem_map.1 hx
    exact sp_le _ _
  simp only [List.length_map, List.length_zipIdx, Array.length_toList, ins_size, Array.size_replicate] at s1 s2
  unfold funcStr
  simp only [Bool.false_and, Bool.false_eq_true, if_false]
  rw [h1, h2]
  refine ⟨_, rfl, ?_⟩
  have k1 : ("func(" : String).utf8ByteSize = 5 := rfl
  have k2 : (")" : String).utf8ByteSize = 1 := rfl
  have k3 : (" " : String).utf8ByteSize = 1 := rfl
  have k4 : (" (" : String).utf8ByteSize = 2 := rfl
  have k5 : ("" : String).utf8ByteSize = 0 := rfl
  have s3 : ∀ l : List String, (∀ x, x ∈ l → x.utf8ByteSize ≤ 8) → (match l with | [] => "" | [o] => " " ++ o | _ => " (" ++ ", ".intercalate l ++ ")").utf8ByteSize ≤ 20 + (", ".intercalate l).utf8ByteSize := by
    intro l hl
    split
    · rw [k5]; omega
    · rename_i x
      have := hl x (List.mem_cons_self ..)
      rw [String.utf8ByteSize_append, k3]
      omega
    · rw [String.utf8ByteSize_append, String.utf8ByteSize_append, k2, k4]
      omega
  have s4 := s3 ((Array.replicate o I).toList.map fun x => sp I x) fun x hx => by
    obtain ⟨y, _, rfl⟩ := List.mem_map.1 hx
    exact sp_le _ _
  rw [String.utf8ByteSize_append, String.utf8ByteSize_append, String.utf8ByteSize_append, k1, k2]
  refine Nat.le_trans (Nat.add_le_add_left s4 _) ?_
  omega
theorem idx_some {P : Program} {d : TypeDesc} {t : Nat} (h : P.types.findIdx? (Made.same d ·.desc) = some t) : ∃ i, t < P.types.size ∧ P.types[t]? = some i ∧ Made.same d i.desc = true := by
  rw [Array.findIdx?_eq_some_iff_getElem] at h
  obtain ⟨h1, h2, _⟩ := h
  exact ⟨_, h1, Array.getElem?_eq_getElem h1, h2⟩
theorem same_fd {I S a b o : Nat} {e : TypeDesc} (h : Made.same (fd I S a b o) e = true) : e = fd I S a b o := by
  unfold fd at h ⊢
  cases e <;> simp [Made.same] at h
  obtain ⟨⟨h1, h2⟩, h3⟩ := h
  simp [h1, h2, h3]
theorem ft_info {P : Program} {I S R g : Nat} (H : Ok P I S R g) (a b o : Nat) (hl : a + b + o ≤ 128) :
    ∃ i, P.intern (fd I S a b o) = some (ft P I S a b o) ∧ P.info? (ft P I S a b o) = some i ∧ i.desc = fd I S a b o ∧ i.str.utf8ByteSize < 100000 := by
  unfold ft
  cases hf : P.types.findIdx? (Made.same (fd I S a b o) ·.desc) with
  | some t =>
    obtain ⟨i, h1, h2, h3⟩ := idx_some hf
    have e : P.intern (fd I S a b o) = some t := by
      unfold Tables.intern
      rw [hf]
    have hd := same_fd h3
    have hr := List.all_eq_true.1 H.rows i (by rw [← Array.getElem?_toList] at h2; exact List.mem_of_getElem? h2)
    rw [hd] at hr
    refine ⟨i, by rw [e]; rfl, ?_, hd, by simpa [fd] using hr⟩
    rw [e]
    unfold Tables.info?
    exact (if_pos h1).trans h2
  | none =>
    obtain ⟨s, h1, h2⟩ := funcStr_some H a b o
    obtain ⟨c, hc⟩ : ∃ c, Made.code (fd I S a b o) = some c := ⟨_, rfl⟩
    have hi : P.info? (P.types.size + c) = some (word (fd I S a b o) s .nilFunc false) := by
      unfold Tables.info?
      rw [if_neg (Nat.not_lt.2 (Nat.le_add_right _ _))]
      unfold Made.depth Made.infoAt
      rw [if_neg (Nat.not_lt.2 (Nat.le_add_right _ _)), Nat.add_sub_cancel_left, decode_code hc]
      show Made.reckon (Made.infoAt P.toTables 99) (fd I S a b o) = _
      unfold fd Made.reckon
      simp only
      rw [h1]
      rfl
    have e : P.intern (fd I S a b o) = some (P.types.size + c) := by
      unfold Tables.intern
      rw [hf]
      simp [hc, hi]
    refine ⟨_, by rw [e]; rfl, by rw [e]; exact hi, rfl, ?_⟩
    show s.utf8ByteSize < 100000
    omega
theorem packed_no {P : Program} {I S R g : Nat} (H : Ok P I S R g) (t : Nat) : P.packed t = false := by
  have h : P.packedAs t = [] := by
    unfold Program.packedAs
    rw [List.map_eq_nil_iff, List.filter_eq_nil_iff]
    intro c hc
    have := List.all_eq_true.1 H.own c hc
    simp [Program.ownRow, this]
  simp [Program.packed, h]
theorem noPack_run {P : Program} {I S R g : Nat} (H : Ok P I S R g) (s : String) (t : Nat) (w : World) : (noPack s t).run P w = .ok () w := by
  simp [noPack, packed_no H t]
theorem noPackNamed_run {P : Program} {t : Nat} (h : P.namesPacked P.depth t = false) (s : String) (w : World) : (noPackNamed s t).run P w = .ok () w := by
  simp [noPackNamed, h]
theorem handle_run {P : Program} {I S R g : Nat} (H : Ok P I S R g) (t : Nat) (w : World) : (ofHandle (.pointer (some ⟨g, t, none⟩))).run P w = .ok t w := by
  simp [ofHandle, handleType, H.gl]
theorem toType_run {P : Program} {I S R g : Nat} (H : Ok P I S R g) (t : Nat) (w : World) : (toType t).run P w = .ok (.iface R (.pointer (some ⟨g, t, none⟩))) w := by
  simp [toType, cutType, H.ct, handle, typeHandle, H.gl]
theorem ofType_run {P : Program} {I S R g : Nat} (H : Ok P I S R g) (t : Nat) (w : World) : (ofType (.iface R (.pointer (some ⟨g, t, none⟩)))).run P w = .ok t w := by
  simp [ofType, cutType, H.ct, handle_run H, noPack_run H]
theorem info_run {P : Program} {t : Nat} {i : TypeInfo} (h : P.info? t = some i) (w : World) : (typeInfo t).run P w = .ok i w := by
  simp [typeInfo, h]
theorem under_run {P : Program} {I S a b o t : Nat} {i : TypeInfo} (h : P.info? t = some i) (hd : i.desc = fd I S a b o) (w : World) : (under t).run P w = .ok (t, i) w := by
  simp [under, info_run h, hd, fd]
theorem kind_run {P : Program} {I S a b o t : Nat} {i : TypeInfo} (h : P.info? t = some i) (hd : i.desc = fd I S a b o) (w : World) : (kind t).run P w = .ok 19 w := by
  simp [kind, under_run h hd, hd, fd]
theorem shape_run {P : Program} {I S a b o t : Nat} {i : TypeInfo} (h : P.info? t = some i) (hd : i.desc = fd I S a b o) (x y : String) (ok : TypeDesc → Bool) (hk : ok (fd I S a b o) = true) (w : World) : (ReflectType.shape x y t ok).run P w = .ok (fd I S a b o) w := by
  simp [ReflectType.shape, under_run h hd, hd, hk]
theorem method_run {P : Program} {I S R g : Nat} (H : Ok P I S R g) (f : TypeId → Array Value → Sem Value) (t : Nat) (args xs : Array Value) (h0 : args.getD 0 (.tuple #[]) = .pointer (some ⟨g, t, none⟩)) (h1 : args.extract 1 args.size = xs) (w : World) : (ReflectType.method f args).run P w = (f t xs).run P w := by
  unfold ReflectType.method
  rw [h0, h1]
  simp [handle_run H, noPack_run H]
abbrev eNumIn : Array Value → Sem Value := ReflectType.method fun t _ => do
  let .func ps _ _ ← ReflectType.shape "NumIn" "non-func" t (· matches .func _ _ _) | stuck "shape"
  pure (ReflectType.int ps.size)
abbrev eNumOut : Array Value → Sem Value := ReflectType.method fun t _ => do
  let .func _ rs _ ← ReflectType.shape "NumOut" "non-func" t (· matches .func _ _ _) | stuck "shape"
  pure (ReflectType.int rs.size)
abbrev eKind : Array Value → Sem Value := ReflectType.method fun t _ => do pure (.int .u64 (Int.ofNat (← kind t)))
abbrev eIn : Array Value → Sem Value := ReflectType.method (ReflectType.nth "In" fun ps _ => ps)
theorem numIn_run {P : Program} {I S R g a b o t : Nat} {i : TypeInfo} (H : Ok P I S R g) (h : P.info? t = some i) (hd : i.desc = fd I S a b o) (w : World) : (eNumIn #[.pointer (some ⟨g, t, none⟩)]).run P w = .ok (.int .i64 ((a + b : Nat) : Int)) w := by
  refine (method_run H _ t _ #[] rfl rfl w).trans ?_
  rw [Sem.run_bind, shape_run h hd _ _ _ rfl]
  simp [fd, ins_size, ReflectType.int, goInt]
theorem numOut_run {P : Program} {I S R g a b o t : Nat} {i : TypeInfo} (H : Ok P I S R g) (h : P.info? t = some i) (hd : i.desc = fd I S a b o) (w : World) : (eNumOut #[.pointer (some ⟨g, t, none⟩)]).run P w = .ok (.int .i64 ((o : Nat) : Int)) w := by
  refine (method_run H _ t _ #[] rfl rfl w).trans ?_
  rw [Sem.run_bind, shape_run h hd _ _ _ rfl]
  simp [fd, ReflectType.int, goInt]
theorem eKind_run {P : Program} {I S R g a b o t : Nat} {i : TypeInfo} (H : Ok P I S R g) (h : P.info? t = some i) (hd : i.desc = fd I S a b o) (w : World) : (eKind #[.pointer (some ⟨g, t, none⟩)]).run P w = .ok (.int .u64 19) w := by
  refine (method_run H _ t _ #[] rfl rfl w).trans ?_
  simp [kind_run h hd]
theorem ins_get (I S a b k : Nat) (hk : k < a + b) : (ins I S a b)[k]? = some (if k < a then I else S) := by
  unfold ins
  rw [Array.getElem?_append]
  simp only [Array.size_replicate, Array.getElem?_replicate]
  split
  · rfl
  · rw [if_pos (by omega)]
theorem in_run {P : Program} {I S R g a b o t : Nat} {i : TypeInfo} (H : Ok P I S R g) (h : P.info? t = some i) (hd : i.desc = fd I S a b o) (k : Int) (h0 : 0 ≤ k) (h1 : k < a + b) (w : World) : (eIn #[.pointer (some ⟨g, t, none⟩), .int .i64 k]).run P w = .ok (.iface R (.pointer (some ⟨g, if k < a then I else S, none⟩))) w := by
  refine (method_run H _ t _ #[.int .i64 k] rfl rfl w).trans ?_
  unfold ReflectType.nth
  rw [Sem.run_bind, shape_run h hd _ _ _ rfl]
  have e : (ins I S a b)[k.toNat]? = some (if k < a then I else S) := by
    rw [ins_get I S a b k.toNat (by omega)]
    by_cases hk : k < a
    · rw [if_pos hk, if_pos (by omega)]
    · rw [if_neg hk, if_neg (by omega)]
  simp [fd, asInt, asIntOf, show ¬ k < 0 by omega, e, toType_run H]
/-- the cells that FuncOf reads -/
def tyv (R g t : Nat) : Value := .iface R (.pointer (some ⟨g, t, none⟩))
theorem foldM_ty {P : Program} {I S R g : Nat} (H : Ok P I S R g) (w : World) : ∀ (l : List TypeId) (acc : Array TypeId), (l.foldlM (fun bs t => bs.push <$> ReflectShape.typeOf (tyv R g t)) acc).run P w = .ok (acc ++ l.toArray) w := by
  intro l
  induction l with
  | nil => intro acc; simp
  | cons t l ih =>
    intro acc
    have e : (ReflectShape.typeOf (tyv R g t)).run P w = .ok t w := ofType_run H t w
    rw [List.foldlM_cons, Sem.run_bind, Sem.run_map, e]
    simp only [Result.andThen_ok]
    rw [ih]
    simp
theorem typesOf_run {P : Program} {I S R g : Nat} (H : Ok P I S R g) (ts : Array TypeId) (ad : Addr) (n m : Nat) (w : World) (hc : (loadCells ad n).run P w = .ok (ts.map (tyv R g)) w) : (ReflectShape.typesOf (.slice (some ad) n m)).run P w = .ok ts w := by
  unfold ReflectShape.typesOf
  simp only [Sem.run_bind, hc, Result.andThen_ok]
  rw [Array.mapM_eq_foldlM, ← Array.foldlM_toList, Array.toList_map, List.foldlM_map]
  have := foldM_ty H w ts.toList #[]
  simpa using this
theorem holdsNil_run {P : Program} {R g : Nat} (ts : Array TypeId) (ad : Addr) (n m : Nat) (w : World) (hc : (loadCells ad n).run P w = .ok (ts.map (tyv R g)) w) : (ReflectShape.holdsNil (.slice (some ad) n m)).run P w = .ok false w := by
  unfold ReflectShape.holdsNil
  simp only [Sem.run_bind, hc, Result.andThen_ok, Sem.run_pure]
  congr 1
  simp [tyv]
theorem forM_run {P : Program} {α : Type} (f : α → Sem Unit) (w : World) : ∀ (l : List α), (∀ x, x ∈ l → (f x).run P w = .ok () w) → (l.forM f).run P w = .ok () w := by
  intro l
  induction l with
  | nil => intro _; rfl
  | cons x l ih =>
    intro h
    show (f x >>= fun _ => l.forM f).run P w = _
    rw [Sem.run_bind, h x (List.mem_cons_self ..)]
    exact ih fun y hy => h y (List.mem_cons_of_mem _ hy)
theorem make_run {P : Program} {I S R g : Nat} (H : Ok P I S R g) (a b o : Nat) (hl : a + b + o ≤ 128) (w : World) : (ReflectWalk.make "func(...)" (fd I S a b o)).run P w = .ok (ft P I S a b o) w := by
  obtain ⟨i, h1, h2, h3, h4⟩ := ft_info H a b o hl
  unfold ReflectWalk.make
  simp only [Sem.run_bind, run_program, Result.andThen_ok, h1, info_run h2]
  rw [if_neg (by omega)]
  simp only [Sem.run_pure, Sem.run_bind]
  rw [forM_run]
  · rfl
  · intro x hx
    have hx : x = I ∨ x = S := by
      simp only [fd, List.mem_append] at hx
      rcases hx with hx | hx
      · exact mem_ins hx
      · simp at hx
        exact Or.inl hx.2
    rcases hx with rfl | rfl
    · exact noPackNamed_run H.nI _ _
    · exact noPackNamed_run H.nS _ _
theorem funcOf_run {P : Program} {I S R g : Nat} (H : Ok P I S R g) (a b o : Nat) (hl : a + b + o ≤ 128) (a1 a2 : Addr) (n1 m1 n2 m2 : Nat) (w : World) (h1 : (loadCells a1 n1).run P w = .ok ((ins I S a b).map (tyv R g)) w) (h2 : (loadCells a2 n2).run P w = .ok ((Array.replicate o I).map (tyv R g)) w) :
    (ReflectShape.funcOf #[.slice (some a1) n1 m1, .slice (some a2) n2 m2, .bool false]).run P w = .ok (tyv R g (ft P I S a b o)) w := by
  have t1 := typesOf_run H _ a1 n1 m1 w h1
  have t2 := typesOf_run H _ a2 n2 m2 w h2
  have k1 := holdsNil_run (P := P) (ins I S a b) a1 n1 m1 w h1
  have k2 := holdsNil_run (P := P) (Array.replicate o I) a2 n2 m2 w h2
  have hm := make_run H a b o hl w
  unfold fd at hm
  have hz : ¬ 128 < a + b + o := by omega
  unfold ReflectShape.funcOf
  simp [ReflectShape.arg, t1, t2, k1, k2, asBool, ins_size, hz, hm, toType_run H, tyv]
end Fo
theorem tsz : Tryz.prog.types.size = 708 := by kernel_rfl
theorem fok : Fo.Ok Tryz.prog 3 99 124 0 where
  gl := by kernel_rfl
  ct := by kernel_rfl
  own := by kernel_rfl
  ltI := by rw [tsz]; decide
  ltS := by rw [tsz]; decide
  sI := by kernel_rfl
  sS := by kernel_rfl
  nI := by kernel_rfl
  nS := by kernel_rfl
  rows := by kernel_rfl
theorem ext_run {P : Program} {f : FuncId} {e : Array Value → Sem Value} (h1 : (P.funcs[f]?).map (fun fn => (fn.name == "runtime.NumGoroutine", fn.body.isNone, (Extern.findNext fn).isNone)) = some (false, true, true)) (h2 : (P.funcs[f]?).bind Extern.find = some e) (args : Array Value) (w : World) : (callFunc f args).run P w = ((e args).run P w).andThen fun v w' => .ok (.value v) w' := by
  obtain ⟨fn, hf, h⟩ := Option.map_eq_some_iff.1 h1
  rw [hf] at h2
  simp only [Prod.mk.injEq] at h
  exact run_callFunc_extern hf h.1 h.2.1 (Option.isNone_iff_eq_none.1 h.2.2) h2 args w
theorem y_NumIn : (Tryz.prog.funcs[197]?).map (fun fn => (fn.name == "runtime.NumGoroutine", fn.body.isNone, (Extern.findNext fn).isNone)) = some (false, true, true) := by kernel_rfl
theorem z_NumIn : (Tryz.prog.funcs[197]?).bind Extern.find = some Fo.eNumIn := by kernel_rfl
theorem x_NumIn (args : Array Value) (w : World) : (callFunc 197 args).run Tryz.prog w = ((Fo.eNumIn args).run Tryz.prog w).andThen fun v w' => .ok (.value v) w' := ext_run y_NumIn z_NumIn args w
theorem y_NumOut : (Tryz.prog.funcs[199]?).map (fun fn => (fn.name == "runtime.NumGoroutine", fn.body.isNone, (Extern.findNext fn).isNone)) = some (false, true, true) := by kernel_rfl
theorem z_NumOut : (Tryz.prog.funcs[199]?).bind Extern.find = some Fo.eNumOut := by kernel_rfl
theorem x_NumOut (args : Array Value) (w : World) : (callFunc 199 args).run Tryz.prog w = ((Fo.eNumOut args).run Tryz.prog w).andThen fun v w' => .ok (.value v) w' := ext_run y_NumOut z_NumOut args w
theorem y_Kind : (Tryz.prog.funcs[190]?).map (fun fn => (fn.name == "runtime.NumGoroutine", fn.body.isNone, (Extern.findNext fn).isNone)) = some (false, true, true) := by kernel_rfl
theorem z_Kind : (Tryz.prog.funcs[190]?).bind Extern.find = some Fo.eKind := by kernel_rfl
theorem x_Kind (args : Array Value) (w : World) : (callFunc 190 args).run Tryz.prog w = ((Fo.eKind args).run Tryz.prog w).andThen fun v w' => .ok (.value v) w' := ext_run y_Kind z_Kind args w
theorem y_In : (Tryz.prog.funcs[186]?).map (fun fn => (fn.name == "runtime.NumGoroutine", fn.body.isNone, (Extern.findNext fn).isNone)) = some (false, true, true) := by kernel_rfl
theorem z_In : (Tryz.prog.funcs[186]?).bind Extern.find = some Fo.eIn := by kernel_rfl
theorem x_In (args : Array Value) (w : World) : (callFunc 186 args).run Tryz.prog w = ((Fo.eIn args).run Tryz.prog w).andThen fun v w' => .ok (.value v) w' := ext_run y_In z_In args w
theorem y_FuncOf : (Tryz.prog.funcs[64]?).map (fun fn => (fn.name == "runtime.NumGoroutine", fn.body.isNone, (Extern.findNext fn).isNone)) = some (false, true, true) := by kernel_rfl
theorem z_FuncOf : (Tryz.prog.funcs[64]?).bind Extern.find = some Extern.ReflectShape.funcOf := by kernel_rfl
theorem x_FuncOf (args : Array Value) (w : World) : (callFunc 64 args).run Tryz.prog w = ((Extern.ReflectShape.funcOf args).run Tryz.prog w).andThen fun v w' => .ok (.value v) w' := ext_run y_FuncOf z_FuncOf args w
/-- t is the type func(a ints, b slices of strings) (o ints) -/
structure FtOk (t : Nat) (a b o : Int) : Prop where
  kind : ∀ w, (callFunc 190 #[.pointer (some ⟨0, t, none⟩)]).run Tryz.prog w = .ok (.value (.int .u64 19)) w
  numIn : ∀ w, (callFunc 197 #[.pointer (some ⟨0, t, none⟩)]).run Tryz.prog w = .ok (.value (.int .i64 (a + b))) w
  numOut : ∀ w, (callFunc 199 #[.pointer (some ⟨0, t, none⟩)]).run Tryz.prog w = .ok (.value (.int .i64 o)) w
  inLo : ∀ k w, 0 ≤ k → k < a → (callFunc 186 #[.pointer (some ⟨0, t, none⟩), .int .i64 k]).run Tryz.prog w = .ok (.value (.iface 124 (.pointer (some ⟨0, 3, none⟩)))) w
  inHi : ∀ k w, a ≤ k → k < a + b → (callFunc 186 #[.pointer (some ⟨0, t, none⟩), .int .i64 k]).run Tryz.prog w = .ok (.value (.iface 124 (.pointer (some ⟨0, 99, none⟩)))) w
theorem ftOk (a b o : Nat) (h : a + b + o ≤ 128) : FtOk (Fo.ft Tryz.prog 3 99 a b o) a b o := by
  obtain ⟨i, _, h2, h3, _⟩ := Fo.ft_info fok a b o h
  refine ⟨fun w => ?_, fun w => ?_, fun w => ?_, fun k w h0 h1 => ?_, fun k w h0 h1 => ?_⟩
  · rw [x_Kind, Fo.eKind_run fok h2 h3]; rfl
  · rw [x_NumIn, Fo.numIn_run fok h2 h3]; rfl
  · rw [x_NumOut, Fo.numOut_run fok h2 h3]; rfl
  · rw [x_In, Fo.in_run fok h2 h3 k h0 (by omega), if_pos h1]; rfl
  · rw [x_In, Fo.in_run fok h2 h3 k (by omega) h1, if_neg (by omega)]; rfl
/-- n cells: of the first k, the first a the type int, the others []string; the rest nil -/
def fl (a n k : Nat) : Array Value := Array.ofFn (n := n) fun j => if j.val < k then (if j.val < a then .iface 124 (.pointer (some ⟨0, 3, none⟩)) else .iface 124 (.pointer (some ⟨0, 99, none⟩))) else .nilIface
@[go_sem] theorem fl_size (a n k : Nat) : (fl a n k).size = n := by simp [fl]
@[go_sem] theorem fl_get (a n k j : Nat) (h : j < n) : (fl a n k)[j]? = some (if j < k then (if j < a then .iface 124 (.pointer (some ⟨0, 3, none⟩)) else .iface 124 (.pointer (some ⟨0, 99, none⟩))) else .nilIface) := by
  simp [fl, h]
theorem fl_set (a n k : Nat) (h : k < n) : (fl a n k).setIfInBounds k (if k < a then .iface 124 (.pointer (some ⟨0, 3, none⟩)) else .iface 124 (.pointer (some ⟨0, 99, none⟩))) = fl a n (k + 1) := by
  apply Array.ext_getElem?
  intro j
  rw [Array.getElem?_setIfInBounds]
  by_cases hj : j < n
  · rw [fl_get _ _ _ _ hj, fl_get _ _ _ _ hj, fl_size]
    by_cases e : k = j
    · subst e; simp [h]
    · rw [if_neg e]
      by_cases h2 : j < k
      · simp only [h2, show j < k + 1 by omega, if_true]
      · simp only [h2, show ¬ j < k + 1 by omega, if_false]
  · rw [if_neg (by omega), Array.getElem?_eq_none (by rw [fl_size]; omega), Array.getElem?_eq_none (by rw [fl_size]; omega)]
theorem fl_zero (a n : Nat) : Array.replicate n Value.nilIface = fl a n 0 := by
  apply Array.ext_getElem?
  intro j
  by_cases hj : j < n
  · rw [fl_get _ _ _ _ hj]; simp [hj]
  · rw [Array.getElem?_eq_none (by simp; omega), Array.getElem?_eq_none (by rw [fl_size]; omega)]
theorem fl_all (a b : Nat) : (Fo.ins 3 99 a b).map (Fo.tyv 124 0) = fl a (a + b) (a + b) := by
  apply Array.ext_getElem?
  intro j
  rw [Array.getElem?_map]
  by_cases hj : j < a + b
  · rw [fl_get _ _ _ _ hj, Fo.ins_get _ _ _ _ _ hj, if_pos hj]
    by_cases h2 : j < a <;> simp [h2, Fo.tyv]
  · rw [Array.getElem?_eq_none (by rw [Fo.ins_size]; omega), Array.getElem?_eq_none (by rw [fl_size]; omega)]
    rfl
theorem fl_rep (o : Nat) : (Array.replicate o 3).map (Fo.tyv 124 0) = fl o o o := by
  apply Array.ext_getElem?
  intro j
  rw [Array.getElem?_map]
  by_cases hj : j < o
  · rw [fl_get _ _ _ _ hj]
    simp [hj, Fo.tyv]
  · rw [Array.getElem?_eq_none (by simp; omega), Array.getElem?_eq_none (by rw [fl_size]; omega)]
    rfl
end Go.Proofs.YtfmefomafdgfmaaGreat
