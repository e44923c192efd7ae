/-
  What is asked of the nature of a func type made by FuncOf. No condition.
-/
import Derived.Test.YtfmefomafdgfmaaGreatNf
namespace Go.Proofs.YtfmefomafdgfmaaGreat
open Go.RowKit
set_option maxRecDepth 100000
set_option maxHeartbeats 1000000
set_option linter.unusedVariables false
/-- block td of w is the TypeData of a func nature of a + b parameters and o results, of which something may have been asked; p: the element nature that it holds -/
def Fs (w : World) (td : Nat) (a b o : Int) (p : Option Addr) : Prop := ∃ i u si so, At w td (tdf p i u si so) ∧ (si = true → i = a + b) ∧ (so = true → u = o)
theorem Fs.fresh {w : World} {td : Nat} {a b o : Int} (h : At w td (tdf none 0 0 false false)) : Fs w td a b o none := ⟨_, _, _, _, h, by simp, by simp⟩
theorem Fs.map {w u : World} {td : Nat} {a b o : Int} {p : Option Addr} (h : Fs w td a b o p) (f : ∀ c, At w td c → At u td c) : Fs u td a b o p := by
  obtain ⟨i, x, si, so, h, h1, h2⟩ := h
  exact ⟨i, x, si, so, f _ h, h1, h2⟩
theorem Fs.lt {w : World} {td : Nat} {a b o : Int} {p : Option Addr} (h : Fs w td a b o p) : td < w.heap.size := by
  obtain ⟨_, _, _, _, h, _⟩ := h
  exact h.lt
theorem Fs.alloc {w : World} {td : Nat} {a b o : Int} {p : Option Addr} (h : Fs w td a b o p) (x : Obj) : Fs (w.alloc x) td a b o p := h.map fun _ h => h.alloc x
theorem Fs.drew {w : World} {td : Nat} {a b o : Int} {p : Option Addr} (h : Fs w td a b o p) : Fs w.drew td a b o p := h
theorem Fs.drewN {w : World} {td : Nat} {a b o : Int} {p : Option Addr} (h : Fs w td a b o p) (n : Nat) : Fs (w.drewN n) td a b o p := h
theorem Fs.bel {w u : World} {td : Nat} {a b o : Int} {p : Option Addr} (h : Fs w td a b o p) (k : Below w.heap.size w u) : Fs u td a b o p := h.map fun _ h => h.bel k
theorem Fs.sole {w u : World} {td x : Nat} {a b o : Int} {p : Option Addr} (h : Fs w td a b o p) (k : Sole x w u) (hn : td ≠ x) : Fs u td a b o p := h.map fun _ h => h.sole k hn
theorem Fs.other {w : World} {td : Nat} {a b o : Int} {p : Option Addr} (h : Fs w td a b o p) (m i : Nat) (v : Value) (hn : td ≠ m) : Fs (w.setCell ⟨m, i, none⟩ v) td a b o p := h.map fun _ h => h.other m i v hn
theorem At.set' {w : World} {n : Nat} {c d : Array Value} (h : At w n c) (i : Nat) (v : Value) (e : c.setIfInBounds i v = d) : At (w.setCell ⟨n, i, none⟩ v) n d := by
  rw [← e]
  exact h.set i v
theorem At.ne_of {w : World} {m n : Nat} {c d : Array Value} (h : At w m c) (k : At w n d) (hs : c.size ≠ d.size) : m ≠ n := by
  rintro rfl
  exact hs (by rw [← h.cells, ← k.cells])
theorem numIn (t : Nat) (a b o : Int) (hF : FtOk t a b o) (nb td : Nat) (p : Option Addr) (w : World) (hN : At w nb (natc t 19 (some ⟨td, 0, none⟩) false false)) (hT : Fs w td a b o p) : Calls Tryz.prog 30 #[.pointer (some ⟨nb, 0, none⟩)] w fun e w' => e = .returned (.int .i64 (a + b)) ∧ Sole td w w' ∧ Fs w' td a b o p := by
  obtain ⟨i, u, si, so, hT, h1, h2⟩ := hT
  have hne : nb ≠ td := hN.ne_of hT (by simp [natc, tdf])
  have np := hN.plain
  have nc := hN.cells
  have nl := hN.lt
  have tp := hT.plain
  have tc := hT.cells
  have tl := hT.lt
  have hk := hF.numIn
  have HT := Lib.hid hT
  have H1 := Lib.hid h1
  have H2 := Lib.hid h2
  clear hN hT hF h1 h2
  cases si
  · go_enter Tryz.func30, Tryz.ntmps30
    go_wp2
    go_region
    all_goals
      go_wp2
      go_ret
      exact ⟨rfl, (((Sole.refl td w).set 12 (.bool true)).set 8 (.int .i64 (a + b))).drew, a + b, u, true, so, (HT.out.set 12 (.bool true)).set 8 (.int .i64 (a + b)), fun _ => rfl, H2.out⟩
  · have e := H1.out rfl
    subst e
    go_enter Tryz.func30, Tryz.ntmps30
    go_wp2
    go_ret
    exact ⟨rfl, Sole.refl _ _, _, _, _, _, HT.out, fun _ => rfl, H2.out⟩
theorem numOut (t : Nat) (a b o : Int) (hF : FtOk t a b o) (nb td : Nat) (p : Option Addr) (w : World) (hN : At w nb (natc t 19 (some ⟨td, 0, none⟩) false false)) (hT : Fs w td a b o p) : Calls Tryz.prog 31 #[.pointer (some ⟨nb, 0, none⟩)] w fun e w' => e = .returned (.int .i64 (o)) ∧ Sole td w w' ∧ Fs w' td a b o p := by
  obtain ⟨i, u, si, so, hT, h1, h2⟩ := hT
  have hne : nb ≠ td := hN.ne_of hT (by simp [natc, tdf])
  have np := hN.plain
  have nc := hN.cells
  have nl := hN.lt
  have tp := hT.plain
  have tc := hT.cells
  have tl := hT.lt
  have hk := hF.numOut
  have HT := Lib.hid hT
  have H1 := Lib.hid h1
  have H2 := Lib.hid h2
  clear hN hT hF h1 h2
  cases so
  · go_enter Tryz.func31, Tryz.ntmps31
    go_wp2
    go_region
    all_goals
      go_wp2
      go_ret
      exact ⟨rfl, (((Sole.refl td w).set 13 (.bool true)).set 9 (.int .i64 (o))).drew, i, o, si, true, (HT.out.set 13 (.bool true)).set 9 (.int .i64 (o)), H1.out, fun _ => rfl⟩
  · have e := H2.out rfl
    subst e
    go_enter Tryz.func31, Tryz.ntmps31
    go_wp2
    go_ret
    exact ⟨rfl, Sole.refl _ _, _, _, _, _, HT.out, H1.out, fun _ => rfl⟩
theorem in_lo (t : Nat) (a b o : Int) (hF : FtOk t a b o) (nb td : Nat) (c : Option Addr) (k : Int) (h0 : 0 ≤ k) (h1 : k < a) (w : World) (hN : At w nb (natc t 19 (some ⟨td, 0, none⟩) false false)) : Calls Tryz.prog 43 #[.pointer (some ⟨nb, 0, none⟩), .pointer c, .int .i64 k] w fun e w' => e = .returned (.agg (natc 3 2 none true false)) ∧ Below w.heap.size w w' := by
  have np := hN.plain
  have nc := hN.cells
  have nl := hN.lt
  obtain ⟨n1, n2, n3, n4⟩ := szs nl
  have hi := fun w => hF.inLo k w h0 h1
  clear hN hF h0 h1
  go_enter Tryz.func43, Tryz.ntmps43
  go_wp2_with (go_at_call 45; ((with_reducible refine (from_3 _ _).mono ?_); rintro e w' ⟨rfl, rfl⟩))
  refine bodyPost_ret (v := .agg (natc 3 2 none true false)) (by simp [results, Tryz.results43, go_sem]) rfl ?_
  refine ⟨rfl, ?_⟩
  repeat (first | with_reducible exact Below.refl _ _ | with_reducible refine bal ?_ _ | with_reducible refine Below.drew ?_ | with_reducible refine bdn ?_ _)
theorem in_hi (t : Nat) (a b o : Int) (hF : FtOk t a b o) (nb td : Nat) (c : Option Addr) (k : Int) (h0 : a ≤ k) (h1 : k < a + b) (w : World) (hN : At w nb (natc t 19 (some ⟨td, 0, none⟩) false false)) : Calls Tryz.prog 43 #[.pointer (some ⟨nb, 0, none⟩), .pointer c, .int .i64 k] w fun e w' => e = .returned (.agg (natc 99 23 none false false)) ∧ Below w.heap.size w w' := by
  have np := hN.plain
  have nc := hN.cells
  have nl := hN.lt
  obtain ⟨n1, n2, n3, n4⟩ := szs nl
  have hi := fun w => hF.inHi k w h0 h1
  clear hN hF h0 h1
  go_enter Tryz.func43, Tryz.ntmps43
  go_wp2_with (go_at_call 45; ((with_reducible refine (from_99 _ _).mono ?_); rintro e w' ⟨rfl, rfl⟩))
  refine bodyPost_ret (v := .agg (natc 99 23 none false false)) (by simp [results, Tryz.results43, go_sem]) rfl ?_
  refine ⟨rfl, ?_⟩
  repeat (first | with_reducible exact Below.refl _ _ | with_reducible refine bal ?_ _ | with_reducible refine Below.drew ?_ | with_reducible refine bdn ?_ _)
theorem el_int (nb : Nat) (c : Option Addr) (w : World) (hN : At w nb (natc 3 2 none true false)) : Calls Tryz.prog 35 #[.pointer (some ⟨nb, 0, none⟩), .pointer c] w fun e w' => e = .returned (.agg #[.nilIface, .int .u64 0, .pointer none, .pointer none, .bool false, .bool false, .bool false, .bool false, .bool false]) ∧ Below w.heap.size w w' := by
  have np := hN.plain
  have nc := hN.cells
  have nl := hN.lt
  obtain ⟨n1, n2, n3, n4⟩ := szs nl
  clear hN
  go_enter Tryz.func35, Tryz.ntmps35
  go_wp2
  refine bodyPost_ret (v := .agg #[.nilIface, .int .u64 0, .pointer none, .pointer none, .bool false, .bool false, .bool false, .bool false, .bool false]) (by simp [results, Tryz.results35, go_sem]) rfl ?_
  refine ⟨rfl, ?_⟩
  repeat (first | with_reducible exact Below.refl _ _ | with_reducible refine bal ?_ _ | with_reducible refine Below.drew ?_ | with_reducible refine bdn ?_ _)
theorem el_sl (nb : Nat) (c : Option Addr) (w : World) (hN : At w nb (natc 99 23 none false false)) : Calls Tryz.prog 35 #[.pointer (some ⟨nb, 0, none⟩), .pointer c] w fun e w' => e = .returned (.agg (natc 9 24 none false false)) ∧ Below w.heap.size w w' := by
  have np := hN.plain
  have nc := hN.cells
  have nl := hN.lt
  obtain ⟨n1, n2, n3, n4⟩ := szs nl
  clear hN
  go_enter Tryz.func35, Tryz.ntmps35
  go_wp2_with (go_at_call 45; ((with_reducible refine (from_9 _ _).mono ?_); rintro e w' ⟨rfl, rfl⟩))
  refine bodyPost_ret (v := .agg (natc 9 24 none false false)) (by simp [results, Tryz.results35, go_sem]) rfl ?_
  refine ⟨rfl, ?_⟩
  repeat (first | with_reducible exact Below.refl _ _ | with_reducible refine bal ?_ _ | with_reducible refine Below.drew ?_ | with_reducible refine bdn ?_ _)
theorem isf (t : Nat) (nb td : Nat) (w : World) (hN : At w nb (natc t 19 (some ⟨td, 0, none⟩) false false)) : Calls Tryz.prog 29 #[.pointer (some ⟨nb, 0, none⟩)] w fun e w' => e = .returned (.bool true) ∧ w = w' := by
  have np := hN.plain
  have nc := hN.cells
  clear hN
  go_enter Tryz.func29, Tryz.ntmps29
  go_wp2
  go_ret
  exact ⟨rfl, rfl⟩
theorem zao_in (a b o : Nat) (hl : a + b + o ≤ 128) (w : World) : Calls Tryz.prog 26 #[.int .i64 a, .int .i64 b, .int .i64 o] w fun e w' => e = .returned (.bool false) ∧ w = w' := by
  have h1 : ¬ (a : Int) < 0 := by omega
  have h2 : ¬ (128 : Int) < a := by omega
  have h3 : ¬ (b : Int) < 0 := by omega
  have h4 : ¬ (128 : Int) < b := by omega
  have h5 : ¬ (o : Int) < 0 := by omega
  have h6 : ¬ (128 : Int) < o := by omega
  have h7 : wrap64 ((a : Int) + (b : Int)) = (a : Int) + (b : Int) := w64 _ (by omega)
  have h8 : wrap64 ((a : Int) + (b : Int) + (o : Int)) = (a : Int) + (b : Int) + (o : Int) := w64 _ (by omega)
  have h9 : ¬ (128 : Int) < (a : Int) + (b : Int) + (o : Int) := by omega
  clear hl
  go_enter Tryz.func26, Tryz.ntmps26
  go_wp2
  go_ret
  exact ⟨rfl, rfl⟩
theorem zao_out (a b o : Int) (h : ¬ (0 ≤ a ∧ 0 ≤ b ∧ 0 ≤ o ∧ a + b + o ≤ 128)) (w : World) : Calls Tryz.prog 26 #[.int .i64 a, .int .i64 b, .int .i64 o] w fun e w' => e = .returned (.bool true) ∧ w = w' := by
  have H := Lib.hid h
  clear h
  go_enter Tryz.func26, Tryz.ntmps26
  go_wp2
  all_goals
    go_ret
    refine ⟨?_, rfl⟩
    first
    | rfl
    | (have h := H.out
       simp
       omega)
theorem zc (u : Bool) (w : World) : Calls Tryz.prog 27 #[.bool u] w fun e w' => ∃ c, e = .returned (.pointer c) ∧ Below w.heap.size w w' := by
  go_enter Tryz.func27, Tryz.ntmps27
  go_wp2
  all_goals
    go_ret
    refine ⟨_, rfl, ?_⟩
    repeat (first | with_reducible exact Below.refl _ _ | with_reducible refine bal ?_ _ | with_reducible refine Below.drew ?_ | with_reducible refine bdn ?_ _)
theorem ie_lo (t : Nat) (a b o : Int) (hF : FtOk t a b o) (nb td : Nat) (c : Option Addr) (k : Int) (h0 : 0 ≤ k) (h1 : k < a) (w : World) (hN : At w nb (natc t 19 (some ⟨td, 0, none⟩) false false)) (hT : Fs w td a b o none) : Calls Tryz.prog 32 #[.pointer (some ⟨nb, 0, none⟩), .pointer c, .int .i64 k] w fun e w' => ∃ q, e = .returned (.agg #[.nilIface, .int .u64 0, .pointer none, .pointer none, .bool false, .bool false, .bool false, .bool false, .bool false]) ∧ Sole td w w' ∧ Fs w' td a b o (some ⟨q, 0, none⟩) ∧ At w' q #[.nilIface, .int .u64 0, .pointer none, .pointer none, .bool false, .bool false, .bool false, .bool false, .bool false] ∧ w.heap.size ≤ q := by
  obtain ⟨i, u, si, so, hT, s1, s2⟩ := hT
  have hne : nb ≠ td := hN.ne_of hT (by simp [natc, tdf])
  have np := hN.plain
  have nc := hN.cells
  have nl := hN.lt
  obtain ⟨n1, n2, n3, n4⟩ := szs nl
  have tp := hT.plain
  have tc := hT.cells
  have tl := hT.lt
  obtain ⟨t1, t2, t3, t4⟩ := szs tl
  have hi := fun w => hF.inLo k w h0 h1
  have HT := Lib.hid hT
  have HN := Lib.hid hN
  have S1 := Lib.hid s1
  have S2 := Lib.hid s2
  clear hN hT hF h0 h1 s1 s2
  go_enter Tryz.func32, Tryz.ntmps32
  go_wp2_with (first | (go_at_call 45; ((with_reducible refine (from_3 _ _).mono ?_); rintro e w' ⟨rfl, rfl⟩)))
  refine (el_int _ _ _ (by repeat (first | ((with_reducible refine At.new _ _ _ _ ?sz); (case sz => simp; done)) | with_reducible refine At.alloc ?_ _))).mono ?_
  rintro e v ⟨rfl, hb⟩
  have hW : Below w.heap.size w v := bnext (by repeat (first | with_reducible exact Below.refl _ _ | with_reducible refine bal ?_ _ | with_reducible refine Below.drew ?_ | with_reducible refine bdn ?_ _)) hb
  have hR : At v w.heap.size #[.nilIface, .int .u64 0, .pointer none, .pointer none, .bool false, .bool false, .bool false, .bool false, .bool false] := At.bel (n := w.heap.size) (c := #[.nilIface, .int .u64 0, .pointer none, .pointer none, .bool false, .bool false, .bool false, .bool false, .bool false]) (by repeat (first | with_reducible exact At.new _ _ _ _ rfl | with_reducible refine At.alloc ?_ _)) hb
  have hQ : At v (w.heap.size + 1 + 1) (natc 3 2 none true false) := At.bel (n := w.heap.size + 1 + 1) (c := (natc 3 2 none true false)) (by repeat (first | ((with_reducible refine At.new _ _ _ _ ?sz); (case sz => simp; done)) | with_reducible refine At.alloc ?_ _)) hb
  have hN := HN.out.bel hW
  have hT := HT.out.bel hW
  have hs := hb.size
  simp at hs
  have b1 := nl
  have b2 := tl
  clear np nc nl n1 n2 n3 n4 tp tc tl t1 t2 t3 t4 hb
  have np := hN.plain
  have nc := hN.cells
  have nl := hN.lt
  have tp := hT.plain
  have tc := hT.cells
  have tl := hT.lt
  have rp := hR.plain
  have rc := hR.cells
  have rl := hR.lt
  have rz : (cellsAt v w.heap.size).size = 9 := (by rw [rc]; rfl)
  have qp := hQ.plain
  have qc := hQ.cells
  have ql := hQ.lt
  have qz : (cellsAt v (w.heap.size + 1 + 1)).size = 9 := (by rw [qc]; rfl)
  have z1 : ¬ nb = w.heap.size := by omega
  have z2 : ¬ td = w.heap.size := by omega
  have z3 : ¬ nb = w.heap.size + 1 + 1 := by omega
  have z4 : ¬ td = w.heap.size + 1 + 1 := by omega
  have z5 : ¬ w.heap.size = td := by omega
  have z6 : ¬ w.heap.size + 1 + 1 = td := by omega
  have z7 : ¬ w.heap.size + 1 + 1 = w.heap.size := by omega
  have z8 : ¬ w.heap.size = w.heap.size + 1 + 1 := by omega
  have H1 := Lib.hid hT
  have H2 := Lib.hid hR
  have H3 := Lib.hid hQ
  have HW := Lib.hid hW
  clear hN hT hR hQ hW
  go_wp2
  refine bodyPost_ret (v := .agg #[.nilIface, .int .u64 0, .pointer none, .pointer none, .bool false, .bool false, .bool false, .bool false, .bool false]) (by simp [results, Tryz.results32, go_sem, rp, rc, z5, z8]) rfl ?_
  refine ⟨w.heap.size + 1 + 1, rfl, ?_, ⟨i, u, si, so, ?_, S1.out, S2.out⟩, ?_, by omega⟩
  · have hF : Sole td w v := Sole.next HW.out (Sole.refl td v)
    repeat (first | with_reducible exact hF | with_reducible refine Sole.set ?_ _ _ | ((with_reducible refine Sole.new ?_ ?le _ _); (case le => omega)))
  · repeat ((with_reducible refine At.other ?_ _ _ _ ?ne); (case ne => omega))
    refine At.set' (c := tdf none i u si so) ?_ _ _ rfl
    repeat (first | with_reducible exact H1.out | ((with_reducible refine At.other ?_ _ _ _ ?ne); (case ne => omega)))
  · repeat ((with_reducible refine At.other ?_ _ _ _ ?ne); (case ne => omega))
    exact ((((((((H3.out.set 0 _).set 1 _).set 2 _).set 3 _).set 4 _).set 5 _).set 6 _).set 7 _).set 8 _
theorem ie_hi (t : Nat) (a b o : Int) (hF : FtOk t a b o) (nb td : Nat) (c : Option Addr) (k : Int) (h0 : a ≤ k) (h1 : k < a + b) (w : World) (hN : At w nb (natc t 19 (some ⟨td, 0, none⟩) false false)) (hT : Fs w td a b o none) : Calls Tryz.prog 32 #[.pointer (some ⟨nb, 0, none⟩), .pointer c, .int .i64 k] w fun e w' => ∃ q, e = .returned (.agg (natc 9 24 none false false)) ∧ Sole td w w' ∧ Fs w' td a b o (some ⟨q, 0, none⟩) ∧ At w' q (natc 9 24 none false false) ∧ w.heap.size ≤ q := by
  obtain ⟨i, u, si, so, hT, s1, s2⟩ := hT
  have hne : nb ≠ td := hN.ne_of hT (by simp [natc, tdf])
  have np := hN.plain
  have nc := hN.cells
  have nl := hN.lt
  obtain ⟨n1, n2, n3, n4⟩ := szs nl
  have tp := hT.plain
  have tc := hT.cells
  have tl := hT.lt
  obtain ⟨t1, t2, t3, t4⟩ := szs tl
  have hi := fun w => hF.inHi k w h0 h1
  have HT := Lib.hid hT
  have HN := Lib.hid hN
  have S1 := Lib.hid s1
  have S2 := Lib.hid s2
  clear hN hT hF h0 h1 s1 s2
  go_enter Tryz.func32, Tryz.ntmps32
  go_wp2_with (first | (go_at_call 45; ((with_reducible refine (from_99 _ _).mono ?_); rintro e w' ⟨rfl, rfl⟩)))
  refine (el_sl _ _ _ (by repeat (first | ((with_reducible refine At.new _ _ _ _ ?sz); (case sz => simp; done)) | with_reducible refine At.alloc ?_ _))).mono ?_
  rintro e v ⟨rfl, hb⟩
  have hW : Below w.heap.size w v := bnext (by repeat (first | with_reducible exact Below.refl _ _ | with_reducible refine bal ?_ _ | with_reducible refine Below.drew ?_ | with_reducible refine bdn ?_ _)) hb
  have hR : At v w.heap.size #[.nilIface, .int .u64 0, .pointer none, .pointer none, .bool false, .bool false, .bool false, .bool false, .bool false] := At.bel (n := w.heap.size) (c := #[.nilIface, .int .u64 0, .pointer none, .pointer none, .bool false, .bool false, .bool false, .bool false, .bool false]) (by repeat (first | with_reducible exact At.new _ _ _ _ rfl | with_reducible refine At.alloc ?_ _)) hb
  have hQ : At v (w.heap.size + 1 + 1) (natc 99 23 none false false) := At.bel (n := w.heap.size + 1 + 1) (c := (natc 99 23 none false false)) (by repeat (first | ((with_reducible refine At.new _ _ _ _ ?sz); (case sz => simp; done)) | with_reducible refine At.alloc ?_ _)) hb
  have hN := HN.out.bel hW
  have hT := HT.out.bel hW
  have hs := hb.size
  simp at hs
  have b1 := nl
  have b2 := tl
  clear np nc nl n1 n2 n3 n4 tp tc tl t1 t2 t3 t4 hb
  have np := hN.plain
  have nc := hN.cells
  have nl := hN.lt
  have tp := hT.plain
  have tc := hT.cells
  have tl := hT.lt
  have rp := hR.plain
  have rc := hR.cells
  have rl := hR.lt
  have rz : (cellsAt v w.heap.size).size = 9 := (by rw [rc]; rfl)
  have qp := hQ.plain
  have qc := hQ.cells
  have ql := hQ.lt
  have qz : (cellsAt v (w.heap.size + 1 + 1)).size = 9 := (by rw [qc]; rfl)
  have z1 : ¬ nb = w.heap.size := by omega
  have z2 : ¬ td = w.heap.size := by omega
  have z3 : ¬ nb = w.heap.size + 1 + 1 := by omega
  have z4 : ¬ td = w.heap.size + 1 + 1 := by omega
  have z5 : ¬ w.heap.size = td := by omega
  have z6 : ¬ w.heap.size + 1 + 1 = td := by omega
  have z7 : ¬ w.heap.size + 1 + 1 = w.heap.size := by omega
  have z8 : ¬ w.heap.size = w.heap.size + 1 + 1 := by omega
  have H1 := Lib.hid hT
  have H2 := Lib.hid hR
  have H3 := Lib.hid hQ
  have HW := Lib.hid hW
  clear hN hT hR hQ hW
  go_wp2
  refine bodyPost_ret (v := .agg (natc 9 24 none false false)) (by simp [results, Tryz.results32, go_sem, rp, rc, z5, z8]) rfl ?_
  refine ⟨w.heap.size + 1 + 1, rfl, ?_, ⟨i, u, si, so, ?_, S1.out, S2.out⟩, ?_, by omega⟩
  · have hF : Sole td w v := Sole.next HW.out (Sole.refl td v)
    repeat (first | with_reducible exact hF | with_reducible refine Sole.set ?_ _ _ | ((with_reducible refine Sole.new ?_ ?le _ _); (case le => omega)))
  · repeat ((with_reducible refine At.other ?_ _ _ _ ?ne); (case ne => omega))
    refine At.set' (c := tdf none i u si so) ?_ _ _ rfl
    repeat (first | with_reducible exact H1.out | ((with_reducible refine At.other ?_ _ _ _ ?ne); (case ne => omega)))
  · repeat ((with_reducible refine At.other ?_ _ _ _ ?ne); (case ne => omega))
    exact ((((((((H3.out.set 0 _).set 1 _).set 2 _).set 3 _).set 4 _).set 5 _).set 6 _).set 7 _).set 8 _
theorem ie2_lo (t : Nat) (a b o : Int) (nb td q : Nat) (c : Option Addr) (k : Int) (w : World) (hN : At w nb (natc t 19 (some ⟨td, 0, none⟩) false false)) (hT : Fs w td a b o (some ⟨q, 0, none⟩)) (hQ : At w q #[.nilIface, .int .u64 0, .pointer none, .pointer none, .bool false, .bool false, .bool false, .bool false, .bool false]) : Calls Tryz.prog 32 #[.pointer (some ⟨nb, 0, none⟩), .pointer c, .int .i64 k] w fun e w' => e = .returned (.agg #[.nilIface, .int .u64 0, .pointer none, .pointer none, .bool false, .bool false, .bool false, .bool false, .bool false]) ∧ Below w.heap.size w w' := by
  obtain ⟨i, u, si, so, hT, s1, s2⟩ := hT
  have np := hN.plain
  have nc := hN.cells
  have nl := hN.lt
  obtain ⟨n1, n2, n3, n4⟩ := szs nl
  have tp := hT.plain
  have tc := hT.cells
  have tl := hT.lt
  obtain ⟨t1, t2, t3, t4⟩ := szs tl
  have qp := hQ.plain
  have qc := hQ.cells
  have ql := hQ.lt
  obtain ⟨q1, q2, q3, q4⟩ := szs ql
  clear hN hT hQ s1 s2
  go_enter Tryz.func32, Tryz.ntmps32
  go_wp2
  refine bodyPost_ret (v := .agg #[.nilIface, .int .u64 0, .pointer none, .pointer none, .bool false, .bool false, .bool false, .bool false, .bool false]) (by simp [results, Tryz.results32, go_sem]) rfl ?_
  refine ⟨rfl, ?_⟩
  repeat (first | with_reducible exact Below.refl _ _ | with_reducible refine bsetNew ?_ (Nat.le_refl _) _ _ | with_reducible refine browNew ?_ (Nat.le_refl _) _ | with_reducible refine bal ?_ _ | with_reducible refine Below.drew ?_)
theorem ie2_hi (t : Nat) (a b o : Int) (nb td q : Nat) (c : Option Addr) (k : Int) (w : World) (hN : At w nb (natc t 19 (some ⟨td, 0, none⟩) false false)) (hT : Fs w td a b o (some ⟨q, 0, none⟩)) (hQ : At w q (natc 9 24 none false false)) : Calls Tryz.prog 32 #[.pointer (some ⟨nb, 0, none⟩), .pointer c, .int .i64 k] w fun e w' => e = .returned (.agg (natc 9 24 none false false)) ∧ Below w.heap.size w w' := by
  obtain ⟨i, u, si, so, hT, s1, s2⟩ := hT
  have np := hN.plain
  have nc := hN.cells
  have nl := hN.lt
  obtain ⟨n1, n2, n3, n4⟩ := szs nl
  have tp := hT.plain
  have tc := hT.cells
  have tl := hT.lt
  obtain ⟨t1, t2, t3, t4⟩ := szs tl
  have qp := hQ.plain
  have qc := hQ.cells
  have ql := hQ.lt
  obtain ⟨q1, q2, q3, q4⟩ := szs ql
  clear hN hT hQ s1 s2
  go_enter Tryz.func32, Tryz.ntmps32
  go_wp2
  refine bodyPost_ret (v := .agg (natc 9 24 none false false)) (by simp [results, Tryz.results32, go_sem]) rfl ?_
  refine ⟨rfl, ?_⟩
  repeat (first | with_reducible exact Below.refl _ _ | with_reducible refine bsetNew ?_ (Nat.le_refl _) _ _ | with_reducible refine browNew ?_ (Nat.le_refl _) _ | with_reducible refine bal ?_ _ | with_reducible refine Below.drew ?_)
theorem str_ty (b t : Nat) (s : ByteArray) (w : World) (hs : ∀ v, (callFunc 208 #[.pointer (some ⟨0, t, none⟩)]).run Tryz.prog v = .ok (.value (.string s)) v) (hp : Plain w b) (h0 : (cellsAt w b)[0]? = some (.iface 124 (.pointer (some ⟨0, t, none⟩)))) : Calls Tryz.prog 36 #[.pointer (some ⟨b, 0, none⟩)] w fun e w' => e = .returned (.string s) ∧ w' = w := by
  go_enter Tryz.func36, Tryz.ntmps36
  go_wp2
  go_ret
  exact ⟨rfl, rfl⟩
theorem str_un (b : Nat) (w : World) (hp : Plain w b) (h0 : (cellsAt w b)[0]? = some .nilIface) : Calls Tryz.prog 36 #[.pointer (some ⟨b, 0, none⟩)] w fun e w' => e = .returned (.string ⟨#[117, 110, 107, 110, 111, 119, 110]⟩) ∧ w' = w := by
  go_enter Tryz.func36, Tryz.ntmps36
  go_wp2
  go_ret
  exact ⟨rfl, rfl⟩
theorem ss_lo (w : World) : Calls Tryz.prog 33 #[.agg #[.nilIface, .int .u64 0, .pointer none, .pointer none, .bool false, .bool false, .bool false, .bool false, .bool false], .agg #[.nilIface, .int .u64 0, .pointer none, .pointer none, .bool false, .bool false, .bool false, .bool false, .bool false]] w fun e w' => e = .returned (.bool true) ∧ Below w.heap.size w w' := by
  go_enter Tryz.func33, Tryz.ntmps33
  go_wp2
  go_quiet ((go_at_call 36; exact Calls.quiet_of_same (str_un _ _ (by simp [go_sem] <;> omega) (by simp [go_sem] <;> omega))))
  go_wp2
  go_ret
  refine ⟨rfl, ?_⟩
  repeat (first | with_reducible exact Below.refl _ _ | with_reducible refine bal ?_ _ | with_reducible refine Below.drew ?_ | with_reducible refine bdn ?_ _)
theorem ss_hi (w : World) : Calls Tryz.prog 33 #[.agg (natc 9 24 none false false), .agg (natc 9 24 none false false)] w fun e w' => e = .returned (.bool true) ∧ Below w.heap.size w w' := by
  go_enter Tryz.func33, Tryz.ntmps33
  go_wp2
  go_quiet ((go_at_call 36; exact Calls.quiet_of_same (str_ty _ 9 _ _ str_9 (by simp [go_sem] <;> omega) (by simp [go_sem] <;> omega))))
  go_wp2
  go_ret
  refine ⟨rfl, ?_⟩
  repeat (first | with_reducible exact Below.refl _ _ | with_reducible refine bal ?_ _ | with_reducible refine Below.drew ?_ | with_reducible refine bdn ?_ _)
end Go.Proofs.YtfmefomafdgfmaaGreat
