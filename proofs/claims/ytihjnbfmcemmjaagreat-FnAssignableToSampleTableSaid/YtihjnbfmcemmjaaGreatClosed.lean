/-
  The closed facts of this seat that hang on the program alone, each a theorem of its own, for the laws' frames. No condition.
-/
import Derived.Test.YtihjnbfmcemmjaaGreatRows
namespace Go.Proofs.YtihjnbfmcemmjaaGreat.Shut
set_option maxRecDepth 100000
theorem and2 {a b : Bool} (ha : a = true) (hb : b = true) : (a && b) = true := by rw [ha, hb]; rfl
theorem eqb {a b : Bool} (h : b = a) : (a == b) = true := by rw [h]; cases a <;> rfl
/-- The head's words, read once. -/
def headOk (x : List (List Char)) : Bool :=
  match stripLifts liftWords x with
  | (a, b) => (a == ["reflectrows", "leanrows"]) && (b.head? == some "cut".toList) && (x.head? == some "reflectrows".toList)
theorem heads_of (x : List (List Char)) (h : headOk x = true) : ∃ rest b, x = "reflectrows".toList :: rest ∧ stripLifts liftWords ("reflectrows".toList :: rest) = (["reflectrows", "leanrows"], b) ∧ b.head? = some "cut".toList := by
  unfold headOk at h
  generalize hs : stripLifts liftWords x = s at h
  obtain ⟨a, b⟩ := s
  simp only [Bool.and_eq_true, beq_iff_eq] at h
  obtain ⟨⟨ha, hb⟩, hx⟩ := h
  subst ha
  cases x with
  | nil => simp at hx
  | cons c rest =>
    simp only [List.head?_cons, Option.some.injEq] at hx
    subst hx
    exact ⟨rest, b, rfl, hs, hb⟩
theorem me_of (P : Program) (h : headOk (behindMainWord (wordsSigns P.initOrder.toList)) = true) (later : P.laysLater = false) (door : P.doorFits ["reflectrows", "leanrows"] = true) : P.mayEnter = true := by
  obtain ⟨rest, b, hx, hs, hb⟩ := heads_of _ h
  unfold Program.mayEnter
  rw [hx]
  simp only [hs, hb, later, door]
  rfl
theorem hl_of (P : Program) (h : headOk (behindMainWord (wordsSigns P.initOrder.toList)) = true) : P.headLifts = ["reflectrows", "leanrows"] := by
  obtain ⟨rest, b, hx, hs, hb⟩ := heads_of _ h
  unfold Program.headLifts
  rw [hx, hs]
  simp only [hb]
  rfl
theorem lf_of (P : Program) (h : headOk (behindMainWord (wordsSigns P.initOrder.toList)) = true) : P.liftsFinal = false := by
  have hl := hl_of P h
  obtain ⟨rest, b, hx, hs, hb⟩ := heads_of _ h
  unfold Program.liftsFinal
  rw [hl, hx]
  rfl
theorem mk_of (P : Program) (h : headOk (behindMainWord (wordsSigns P.initOrder.toList)) = true) : P.make = some (.lifted ["reflectrows", "leanrows"]) := by
  have hl := hl_of P h
  obtain ⟨rest, b, hx, hs, hb⟩ := heads_of _ h
  unfold Program.make
  rw [hl, hx]
  rfl
theorem mkb {m : Option Make} {c : Make} (h : m = some c) : (m == some c) = true := by rw [h]; exact beq_self_eq_true _
theorem own : ownKnob Tryz.prog.godebug = none := by kernel_rfl
theorem laidOut : laidOutB Tryz.prog = true := by kernel_rfl
theorem mrow : mapsRowed Tryz.prog = true := by kernel_rfl
theorem stp : (Tryz.prog.stops == []) = true := by kernel_rfl
theorem stk : (Tryz.prog.stopKnobs == []) = true := by kernel_rfl
theorem pk : Tryz.prog.plainKeys = true := by kernel_rfl
theorem sh : Tryz.prog.stopsHeard = true := by kernel_rfl
theorem later : Tryz.prog.laysLater = false := by kernel_rfl
theorem door : Tryz.prog.doorFits ["reflectrows", "leanrows"] = true := by kernel_rfl
theorem head : headOk (behindMainWord (wordsSigns Tryz.prog.initOrder.toList)) = true := by kernel_rfl
theorem me : Tryz.prog.mayEnter = true := me_of _ head later door
theorem lf : Tryz.prog.liftsFinal = false := lf_of _ head
theorem mk : (Tryz.prog.make == some (.lifted ["reflectrows", "leanrows"])) = true := mkb (mk_of _ head)
end Go.Proofs.YtihjnbfmcemmjaaGreat.Shut
