/-
  The closed facts of this seat that hang on the program alone, each a theorem of its own, for the laws' frames. No condition.
-/
import Derived.Test.YtnjjndnnpkejlaaGreatFmtRows
namespace Go.Proofs.YtnjjndnnpkejlaaGreatFmt.Shut
set_option maxRecDepth 100000
theorem and2 {a b : Bool} (ha : a = true) (hb : b = true) : (a && b) = true := by rw [ha, hb]; rfl
theorem eqb {a b : Bool} (h : b = a) : (a == b) = true := by rw [h]; cases a <;> rfl
/-- The head's words, read once. -/
def headOk (x : List (List Char)) : Bool :=
  match stripLifts liftWords x with
  | (a, b) => (a == ["reflectrows", "leanrows"]) && (b.head? == some "cut".toList) && (x.head? == some "reflectrows".toList)
theorem heads_of (x : List (List Char)) (h : headOk x = true) : ∃ rest b, x = "reflectrows".toList :: rest ∧ stripLifts liftWords ("reflectrows".toList :: rest) = (["reflectrows", "leanrows"], b) ∧ b.head? = some "cut".toList := by
  unfold headOk at h
  generalize hs : stripLifts liftWords x = s at h
  obtain ⟨a, b⟩ := s
  simp only [Bool.and_eq_true, beq_iff_eq] at h
  obtain ⟨⟨ha, hb⟩, hx⟩ := h
  subst ha
  cases x with
  | nil => simp at hx
  | cons c rest =>
    simp only [List.head?_cons, Option.some.injEq] at hx
    subst hx
    exact ⟨rest, b, rfl, hs, hb⟩
theorem me_of (P : Program) (h : headOk (behindMainWord (wordsSigns P.initOrder.toList)) = true) (later : P.laysLater = false) (door : P.doorFits ["reflectrows", "leanrows"] = true) : P.mayEnter = true := by
  obtain ⟨rest, b, hx, hs, hb⟩ := heads_of _ h
  unfold Program.mayEnter
  rw [hx]
  simp only [hs, hb, later, door]
  rfl
theorem hl_of (P : Program) (h : headOk (behindMainWord (wordsSigns P.initOrder.toList)) = true) : P.headLifts = ["reflectrows", "leanrows"] := by
  obtain ⟨rest, b, hx, hs, hb⟩ := heads_of _ h
  unfold Program.headLifts
  rw [hx, hs]
  simp only [hb]
  rfl
theorem lf_of (P : Program) (h : headOk (behindMainWord (wordsSigns P.initOrder.toList)) = true) : P.liftsFinal = false := by
  have hl := hl_of P h
  obtain ⟨rest, b, hx, hs, hb⟩ := heads_of _ h
  unfold Program.liftsFinal
  rw [hl, hx]
  rfl
theorem mk_of (P : Program) (h : headOk (behindMainWord (wordsSigns P.initOrder.toList)) = true) : P.make = some (.lifted ["reflectrows", "leanrows"]) := by
  have hl := hl_of P h
  obtain ⟨rest, b, hx, hs, hb⟩ := heads_of _ h
  unfold Program.make
  rw [hl, hx]
  rfl
theorem mkb {m : Option Make} {c : Make} (h : m = some c) : (m == some c) = true := by rw [h]; exact beq_self_eq_true _
theorem own : ownKnob Tryz.prog.godebug = none := by kernel_rfl
theorem laidOut : laidOutB Tryz.prog = true := by kernel_rfl
theorem mrow : mapsRowed Tryz.prog = true := by kernel_rfl
theorem pk : Tryz.prog.plainKeys = true := by kernel_rfl
theorem sh : Tryz.prog.stopsHeard = true := by kernel_rfl
theorem later : Tryz.prog.laysLater = false := by kernel_rfl
theorem door : Tryz.prog.doorFits ["reflectrows", "leanrows"] = true := by kernel_rfl
/-- The head's text, its signs by their numbers: read so the kernel need not take the text apart. -/
def codes : List Nat := [104, 97, 114, 110, 101, 115, 115, 32, 48, 50, 99, 98, 99, 101, 50, 48, 51, 101, 98, 100, 99, 52, 52, 57, 100, 55, 50, 101, 102, 102, 101, 55, 51, 51, 98, 54, 53, 50, 48, 53, 53, 56, 51, 102, 102, 54, 57, 102, 98, 54, 50, 48, 55, 101, 102, 48, 102, 100, 51, 49, 54, 56, 55, 50, 57, 98, 48, 50, 100, 56, 102, 102, 32, 114, 101, 102, 108, 101, 99, 116, 114, 111, 119, 115, 32, 108, 101, 97, 110, 114, 111, 119, 115, 32, 99, 117, 116, 32, 97, 116, 32, 103, 105, 116, 104, 117, 98, 46, 99, 111, 109, 47, 101, 120, 112, 114, 45, 108, 97, 110, 103, 47, 101, 120, 112, 114, 47, 110, 48, 48, 51, 95, 57, 55, 46, 70, 110, 73, 115, 78, 117, 109, 98, 101, 114, 67, 97, 115, 101, 84, 97, 98, 108, 101, 32, 103, 105, 116, 104, 117, 98, 46, 99, 111, 109, 47, 101, 120, 112, 114, 45, 108, 97, 110, 103, 47, 101, 120, 112, 114, 47, 110, 48, 48, 51, 95, 53, 49, 46, 70, 110, 73, 115, 65, 110, 121, 79, 102, 77, 111, 100, 101, 108, 32, 103, 105, 116, 104, 117, 98, 46, 99, 111, 109, 47, 101, 120, 112, 114, 45, 108, 97, 110, 103, 47, 101, 120, 112, 114, 47, 110, 48, 48, 51, 95, 53, 49, 46, 70, 110, 73, 115, 65, 110, 121, 79, 102, 85, 110, 105, 111, 110, 79, 114, 100, 101, 114, 70, 114, 101, 101, 32, 115, 116, 111, 112, 32, 102, 109, 116, 46, 83, 112, 114, 105, 110, 116, 102]
theorem initIs : Tryz.prog.initOrder = String.ofList (codes.map Char.ofNat) := by kernel_rfl
theorem signs : Tryz.prog.initOrder.toList = codes.map Char.ofNat := by rw [initIs]; exact String.toList_ofList
theorem head0 : headOk (behindMainWord (wordsSigns (codes.map Char.ofNat))) = true := by kernel_rfl
theorem head : headOk (behindMainWord (wordsSigns Tryz.prog.initOrder.toList)) = true := by rw [signs]; exact head0
theorem me : Tryz.prog.mayEnter = true := me_of _ head later door
theorem lf : Tryz.prog.liftsFinal = false := lf_of _ head
theorem mk : (Tryz.prog.make == some (.lifted ["reflectrows", "leanrows"])) = true := mkb (mk_of _ head)
end Go.Proofs.YtnjjndnnpkejlaaGreatFmt.Shut
