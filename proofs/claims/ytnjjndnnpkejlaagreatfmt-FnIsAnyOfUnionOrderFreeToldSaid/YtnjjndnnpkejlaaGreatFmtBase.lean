/-
  What every walk of this seat stands on.
-/
import Derived.Test.YtnjjndnnpkejlaaGreatFmtProg
import Derived.WalkKit
import Derived.ProofKit
import Derived.Below
import Derived.WalkLawsBesides
import Derived.WalkSpells
/-!
  What every walk of this seat stands on: the model's answers for package reflect at a type's handle, and the contracts of FromType at kinds without a rule of their own.
-/
namespace Go.Proofs.YtnjjndnnpkejlaaGreatFmt
open Go.RowKit
set_option maxRecDepth 100000
set_option maxHeartbeats 1000000
set_option linter.unusedVariables false
@[go_sem] theorem m_Kind (t : Nat) (w : World) : (method 856 78 (.pointer (some ⟨0, t, none⟩)) "Kind").run Tryz.prog w = .ok (224, .pointer (some ⟨0, t, none⟩)) w := by kernel_rfl
@[go_sem] theorem m_String (t : Nat) (w : World) : (method 856 78 (.pointer (some ⟨0, t, none⟩)) "String").run Tryz.prog w = .ok (242, .pointer (some ⟨0, t, none⟩)) w := by kernel_rfl
@[go_sem] theorem m_Elem (t : Nat) (w : World) : (method 856 78 (.pointer (some ⟨0, t, none⟩)) "Elem").run Tryz.prog w = .ok (212, .pointer (some ⟨0, t, none⟩)) w := by kernel_rfl
@[go_sem] theorem m_Key (t : Nat) (w : World) : (method 856 78 (.pointer (some ⟨0, t, none⟩)) "Key").run Tryz.prog w = .ok (223, .pointer (some ⟨0, t, none⟩)) w := by kernel_rfl
@[go_sem] theorem m_NumIn (t : Nat) (w : World) : (method 856 78 (.pointer (some ⟨0, t, none⟩)) "NumIn").run Tryz.prog w = .ok (231, .pointer (some ⟨0, t, none⟩)) w := by kernel_rfl
@[go_sem] theorem m_NumOut (t : Nat) (w : World) : (method 856 78 (.pointer (some ⟨0, t, none⟩)) "NumOut").run Tryz.prog w = .ok (233, .pointer (some ⟨0, t, none⟩)) w := by kernel_rfl
@[go_sem] theorem m_In (t : Nat) (w : World) : (method 856 78 (.pointer (some ⟨0, t, none⟩)) "In").run Tryz.prog w = .ok (220, .pointer (some ⟨0, t, none⟩)) w := by kernel_rfl
@[go_sem] theorem m_Out (t : Nat) (w : World) : (method 856 78 (.pointer (some ⟨0, t, none⟩)) "Out").run Tryz.prog w = .ok (234, .pointer (some ⟨0, t, none⟩)) w := by kernel_rfl
@[go_sem] theorem m_IsVariadic (t : Nat) (w : World) : (method 856 78 (.pointer (some ⟨0, t, none⟩)) "IsVariadic").run Tryz.prog w = .ok (222, .pointer (some ⟨0, t, none⟩)) w := by kernel_rfl
@[go_sem] theorem m_AssignableTo (t : Nat) (w : World) : (method 856 78 (.pointer (some ⟨0, t, none⟩)) "AssignableTo").run Tryz.prog w = .ok (205, .pointer (some ⟨0, t, none⟩)) w := by kernel_rfl
@[go_sem] theorem m_NumField (t : Nat) (w : World) : (method 856 78 (.pointer (some ⟨0, t, none⟩)) "NumField").run Tryz.prog w = .ok (230, .pointer (some ⟨0, t, none⟩)) w := by kernel_rfl
@[go_sem] theorem m_Field (t : Nat) (w : World) : (method 856 78 (.pointer (some ⟨0, t, none⟩)) "Field").run Tryz.prog w = .ok (213, .pointer (some ⟨0, t, none⟩)) w := by kernel_rfl
@[go_sem] theorem m_NumMethod (t : Nat) (w : World) : (method 856 78 (.pointer (some ⟨0, t, none⟩)) "NumMethod").run Tryz.prog w = .ok (232, .pointer (some ⟨0, t, none⟩)) w := by kernel_rfl
@[go_sem] theorem m_Method (t : Nat) (w : World) : (method 856 78 (.pointer (some ⟨0, t, none⟩)) "Method").run Tryz.prog w = .ok (226, .pointer (some ⟨0, t, none⟩)) w := by kernel_rfl
@[go_sem] theorem m_Len (t : Nat) (w : World) : (method 856 78 (.pointer (some ⟨0, t, none⟩)) "Len").run Tryz.prog w = .ok (225, .pointer (some ⟨0, t, none⟩)) w := by kernel_rfl
@[go_sem] theorem m_Name (t : Nat) (w : World) : (method 856 78 (.pointer (some ⟨0, t, none⟩)) "Name").run Tryz.prog w = .ok (229, .pointer (some ⟨0, t, none⟩)) w := by kernel_rfl
@[go_sem] theorem m_PkgPath (t : Nat) (w : World) : (method 856 78 (.pointer (some ⟨0, t, none⟩)) "PkgPath").run Tryz.prog w = .ok (240, .pointer (some ⟨0, t, none⟩)) w := by kernel_rfl
@[go_sem] theorem typeOf_any (t : Nat) (x : Value) (w : World) : (callFunc 51 #[.iface t x]).run Tryz.prog w = .ok (.value (.iface 78 (.pointer (some ⟨0, t, none⟩)))) w := by kernel_rfl
attribute [go_sem] run_makeMap
theorem ty_eq0 (a b : Nat) (w : World) : (binOp .eql 37 (.iface 78 (.pointer (some ⟨0, a, none⟩))) (.iface 78 (.pointer (some ⟨0, b, none⟩)))).run Tryz.prog w = .ok (.bool ((⟨0, a, none⟩ : Addr) == ⟨0, b, none⟩)) w := by kernel_rfl
theorem addr_eq (g a b : Nat) : ((⟨g, a, none⟩ : Addr) == ⟨g, b, none⟩) = (a == b) := by
  by_cases h : a = b
  · subst h; simp
  · have h' : (⟨g, a, none⟩ : Addr) ≠ ⟨g, b, none⟩ := fun e => h (by cases e; rfl)
    rw [beq_eq_false_iff_ne.mpr h', beq_eq_false_iff_ne.mpr h]
@[go_sem] theorem ty_eq (a b : Nat) (w : World) : (binOp .eql 37 (.iface 78 (.pointer (some ⟨0, a, none⟩))) (.iface 78 (.pointer (some ⟨0, b, none⟩)))).run Tryz.prog w = .ok (.bool (a == b)) w := by rw [ty_eq0, addr_eq]
theorem from_plain (c : Option Addr) (t : Nat) (k : Int) (hk : ∀ w, (callFunc 224 #[.pointer (some ⟨0, t, none⟩)]).run Tryz.prog w = .ok (.value (.int .u64 k)) w) (h25 : (k == 25) = false) (h19 : (k == 19) = false) (h2 : (k == 2) = false) (h3 : (k == 3) = false) (h4 : (k == 4) = false) (h5 : (k == 5) = false) (h6 : (k == 6) = false) (h7 : (k == 7) = false) (h8 : (k == 8) = false) (h9 : (k == 9) = false) (h10 : (k == 10) = false) (h11 : (k == 11) = false) (h12 : (k == 12) = false) (h13 : (k == 13) = false) (h14 : (k == 14) = false) (w : World) :
    Calls Tryz.prog 52 #[.pointer c, .iface 78 (.pointer (some ⟨0, t, none⟩))] w fun e w' => e = .returned (.agg #[.iface 78 (.pointer (some ⟨0, t, none⟩)), .int .u64 k, .pointer none, .pointer none, .bool false, .bool false, .bool false, .bool false, .bool false]) ∧ w.alloc (.cells #[.iface 78 (.pointer (some ⟨0, t, none⟩)), .int .u64 k, .pointer none, .pointer none, .bool false, .bool false, .bool false, .bool false, .bool false] 42) = w' := by
  go_enter Tryz.func52, Tryz.ntmps52
  go_wp2
  exact bodyPost_ret (v := .agg #[.iface 78 (.pointer (some ⟨0, t, none⟩)), .int .u64 k, .pointer none, .pointer none, .bool false, .bool false, .bool false, .bool false, .bool false]) (by simp [results, Tryz.results52, go_sem]) rfl ⟨rfl, rfl⟩
end Go.Proofs.YtnjjndnnpkejlaaGreatFmt
