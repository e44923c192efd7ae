/-
  Lookups over a struct type and its Cache; FieldByName, FieldIndex. No condition.
-/
import Derived.Test.YtpnifkpnapoeoaaGreatDoorBesreflG4
import Derived.StillTailTactics
import Derived.Deep.RegionHeld3
import Derived.Deep.RegionLaw
import Derived.Deep.RegionLawGrows
import Derived.Deep.AppendLies
import Derived.Deep.Cut
import Derived.Deep.CutRange
import Derived.Deep.RegionWith
import Derived.Lib.Hide
import Derived.Deep.LoopGhost
import Derived.Deep.DeepCutAuto
namespace Go.Proofs.YtpnifkpnapoeoaaGreatDoorBesrefl
open Go.RowKit
set_option maxRecDepth 100000
set_option maxHeartbeats 1000000
set_option linter.unusedVariables false
abbrev TopD (ks : List Kid) : Nat → (ByteArray → Option Value) → Prop := fun j F => ∀ K ∈ ks, K.j = j → ∀ x, K.tab x ≠ none → F x ≠ none
abbrev Top (B cb tdt s T n : Nat) (fs : Nat → Fd) (tab : ByteArray → Option Ent) (ks : List Kid) (ex : (ByteArray → Option Value) → Option Addr → Prop) (mo : Option Nat) (own : Nat) (an : Int) (ch : Option Addr) (ix : Value) (F : ByteArray → Option Value) (w : World) : Prop :=
  Pre B s T n fs tab (TopD ks) (FamI B cb (T, tdt, s) ks ex) mo own an ch ix F w
/-- what the laws ask of the extra condition -/
structure ExOk (n : Nat) (fs : Nat → Fd) (ex : (ByteArray → Option Value) → Option Addr → Prop) : Prop where
  a : ∀ j, j < n → (fs j).exp = true → (fs j).vis = true → ∀ v F ch, ex F ch → ex (plus F (fs j).key v) ch
  c : ∀ F c, ex F (some c)
  z : ex (fun _ => none) none
section
variable {B cb tdt s T n : Nat} {fs : Nat → Fd} {tab : ByteArray → Option Ent} {kT : Nat → Nat} {kK : Nat → Int} {ks : List Kid} {ex : (ByteArray → Option Value) → Option Addr → Prop} {mo : Option Nat} {own : Nat} {an : Int} {ch : Option Addr} {ix : Value} {F : ByteArray → Option Value} {w u : World}
theorem Top.mv (h : Top B cb tdt s T n fs tab ks ex mo own an ch ix F w) (hf : Fr B w u) (hb : ∀ b, b < w.heap.size → u.heap[b]? = w.heap[b]?) : Top B cb tdt s T n fs tab ks ex mo own an ch ix F u := by
  refine ⟨(hb s h.sd.lt).trans h.sd, h.le, ?_, h.so.carry hf, h.has, h.lo, ?_⟩
  · have h1 := h.fm
    cases mo with
    | none => exact h1
    | some m => exact ⟨h1.1, h1.2.heap (hb m h1.2.lt)⟩
  · obtain ⟨mc, G, g, hF, hc, hp, hx⟩ := h.re
    exact ⟨mc, G, g, hF.fr hf (fun b hl _ => hb b hl), fun c e => by
      obtain ⟨K, hK, k, h1, h2, h3⟩ := hc c e
      exact ⟨K, hK, k, h1, h2, h3.carry hf⟩, hp, hx⟩
theorem Top.low (h : Top B cb tdt s T n fs tab ks ex mo own an ch ix F w) : B ≤ w.heap.size := by
  obtain ⟨mc, G, g, hF, _⟩ := h.re
  exact hF.low
theorem Top.alloc (h : Top B cb tdt s T n fs tab ks ex mo own an ch ix F w) (o : Obj) : Top B cb tdt s T n fs tab ks ex mo own an ch ix F (w.alloc o) := h.mv ((Fr.refl B w h.low).alloc o) (fun b hb => Below.heap_alloc w o b hb)
theorem Top.drew (h : Top B cb tdt s T n fs tab ks ex mo own an ch ix F w) : Top B cb tdt s T n fs tab ks ex mo own an ch ix F w.drew := h.mv (Fr.refl B w h.low).drew (fun _ _ => rfl)
theorem Top.drewN (h : Top B cb tdt s T n fs tab ks ex mo own an ch ix F w) (k : Nat) : Top B cb tdt s T n fs tab ks ex mo own an ch ix F (w.drewN k) := h.mv ((Fr.refl B w h.low).drewN k) (fun _ _ => rfl)
theorem Top.tw {z : Nat} (h : Top B cb tdt s T n fs tab ks ex mo own an ch ix F w) (k : Tw z w u) : Top B cb tdt s T n fs tab ks ex mo own an ch ix F u := by
  refine ⟨k.other h.sd (by decide), h.le, ?_, h.so.tw k, h.has, h.lo, ?_⟩
  · have h1 := h.fm
    cases mo with
    | none => exact h1
    | some m => exact ⟨h1.1, k.map h1.2⟩
  · obtain ⟨mc, G, g, hF, hc, hp, hx⟩ := h.re
    exact ⟨mc, G, g, hF.tw k, fun c e => by
      obtain ⟨K, hK, k', h1, h2, h3⟩ := hc c e
      exact ⟨K, hK, k', h1, h2, h3.tw k⟩, hp, hx⟩
theorem Top.td (h : Top B cb tdt s T n fs tab ks ex mo own an ch ix F w) : TDa w tdt s := by
  obtain ⟨mc, G, g, hF, _⟩ := h.re
  exact hF.top.2
/-- the first getStruct of a fresh Cache -/
theorem top_first (TF : TopFacts T n fs tab kT kK ks) (EX : ExOk n fs ex) (hnf : ∀ w : World, (callFunc 173 #[.pointer (some ⟨4, T, none⟩)]).run Tryz.prog w = .ok (.value (.int .i64 (n : Nat))) w) (hC : Ca w cb none) (hB : B ≤ cb) (hBw : B ≤ w.heap.size) :
    Calls Tryz.prog 33 #[.pointer (pt cb), .iface 105 (.pointer (some ⟨4, T, none⟩))] w fun e w' => ∃ tdt s, e = .returned (.agg (natc T 25 (pt tdt) false false)) ∧ Fr B w w' ∧ Oth [cb] w w' ∧ B ≤ s ∧ Top B cb tdt s T n fs tab ks ex none 0 (-1) none (.slice none 0 0) (fun _ => none) w' := by
  refine (gs_first T cb B (n : Nat) hnf w hC hB hBw).mono ?_
  rintro e w' ⟨td, sd, mc, rfl, hf, ho, hCa, hTy, hTD, hSD, l1, l2, l3⟩
  have hcs : cb ≠ sd := by
    have := hC.lt
    omega
  refine ⟨td, sd, rfl, hf, ho, by omega, hSD, Nat.zero_le _, rfl, Sound.none _ _, fun j hj => absurd hj (Nat.not_lt_zero _), Or.inl ⟨rfl, fun a ha => absurd ha (Nat.not_lt_zero _)⟩, mc, _, fun _ => none, ⟨hCa, hTy, hB, by omega, by simpa using hcs, ?_, ⟨if_pos rfl, hTD⟩, fun K hK => if_neg (TF.kj K hK).2.2, fun _ _ _ _ _ _ _ _ h => by cases h⟩, fun _ h => (by cases h), fun _ _ h => (by cases h), EX.z⟩
  simp only [Option.toList, List.nil_append, List.mem_singleton]
  exact hTy.ne hSD
theorem top_again (h : Top B cb tdt s T n fs tab ks ex mo own an ch ix F w) :
    Calls Tryz.prog 33 #[.pointer (pt cb), .iface 105 (.pointer (some ⟨4, T, none⟩))] w fun e w' => e = .returned (.agg (natc T 25 (pt tdt) false false)) ∧ Fr B w w' ∧ Oth [] w w' ∧ Top B cb tdt s T n fs tab ks ex mo own an ch ix F w' := by
  obtain ⟨mc, G, g, hF, _⟩ := h.re
  refine (gs_hit T tdt mc cb B G w hF.ca hF.ty hF.top.1 hF.low).mono ?_
  rintro e w' ⟨rfl, hf, ho⟩
  exact ⟨rfl, hf, ho, h.mv hf (fun b hb => ho b hb (by simp))⟩
/-- how a lookup ends -/
def Ans (B cb tdt s T n : Nat) (fs : Nat → Fd) (tab : ByteArray → Option Ent) (ks : List Kid) (ex : (ByteArray → Option Value) → Option Addr → Prop) (own : Nat) (an : Int) (name : ByteArray) (w : World) (e : Ending) (w' : World) : Prop :=
  ∃ r m own' an' ch' ix' F', e = .returned r ∧ Fr B w w' ∧ Top B cb tdt s T n fs tab ks ex (some m) own' an' ch' ix' F' w' ∧
    ((r = .pointer none ∧ tab name = none ∧ F' name = none ∧ own' = n ∧ (an' = -1 ∨ (n : Int) ≤ an') ∧ ∀ x, tab x ≠ none → F' x ≠ none) ∨
     ∃ p td E, r = .pointer (pt p) ∧ F' name = some r ∧ tab name = some E ∧ IsSF w' p E.t E.k td E.i E.f E.zs ∧ ((own' = own ∧ an' = an) ∨ (∃ j, j < n ∧ own' = j ∧ (fs j).key = name) ∨ ch' ≠ none))
theorem top_sf (TF : TopFacts T n fs tab kT kK ks) (EX : ExOk n fs ex) (hBs : B ≤ s) (name : ByteArray) (h : Top B cb tdt s T n fs tab ks ex mo own an ch ix F w) :
    Calls Tryz.prog 34 #[.pointer (pt s), .pointer (pt cb), .pointer none, .string name] w (Ans B cb tdt s T n fs tab ks ex own an name w) := by
  refine (sf_gen (famGen (tdt := tdt) TF ex EX.a EX.c hBs) mo own an ch ix F name w h h.low).mono ?_
  rintro e w' ⟨r, m, own', an', ch', ix', F', rfl, hf, hP, _, _, _, hr⟩
  refine ⟨r, m, own', an', ch', ix', F', rfl, hf, hP, ?_⟩
  rcases hr with ⟨rfl, hn, rfl, ha, hD⟩ | ⟨p, rfl, hp, h3⟩
  · have hall : ∀ x, tab x ≠ none → F' x ≠ none := by
      intro x hx
      cases hE : tab x with
      | none => exact absurd hE hx
      | some E =>
        rcases TF.cov x E hE with ⟨j, h1, h2, h3, rfl⟩ | ⟨K, hK, hk⟩
        · exact hP.has j h1 h2 h3
        · exact hD K.j (TF.kjl K hK) K hK rfl x hk
    refine Or.inl ⟨rfl, ?_, hn, rfl, ha, hall⟩
    cases hE : tab name with
    | none => rfl
    | some E => exact absurd hn (hall name (by rw [hE]; exact fun h => by cases h))
  · obtain ⟨p', td, E, he, hE, hI⟩ := hP.so name _ hp
    obtain rfl : p = p' := by simpa using he
    exact Or.inr ⟨p, td, E, rfl, hp, hE, hI, h3⟩
end
theorem sz14 (w : World) (td sd : Nat) (h : TDa w td sd) : Plain w td ∧ cellsAt w td = tdc sd := ⟨⟨_, _, h⟩, cellsAt_of h⟩
abbrev zeroN : Value := .agg #[.nilIface, .int .u64 0, .pointer none, .pointer none, .bool false, .bool false, .bool false, .bool false, .bool false]
theorem ne_of_cells {w : World} {a b : Nat} {c d : Array Value} {t u : TypeId} (h : w.heap[a]? = some (.cells c t (0, 0))) (k : w.heap[b]? = some (.cells d u (0, 0))) (hne : t ≠ u) : a ≠ b := by
  rintro rfl
  rw [h] at k
  cases k
  exact hne rfl
/-- block nb is a Nature of the struct type T, its data in block td -/
def NatAt (w : World) (nb T td : Nat) : Prop := w.heap[nb]? = some (.cells (natc T 25 (pt td) false false) 48 (0, 0))
set_option maxHeartbeats 4000000 in
theorem fbn {B cb tdt s T n nb : Nat} {fs : Nat → Fd} {tab : ByteArray → Option Ent} {kT : Nat → Nat} {kK : Nat → Int} {ks : List Kid} {ex : (ByteArray → Option Value) → Option Addr → Prop} {mo : Option Nat} {own : Nat} {an : Int} {ch : Option Addr} {ix : Value} {F : ByteArray → Option Value} {w : World}
    (TF : TopFacts T n fs tab kT kK ks) (EX : ExOk n fs ex) (hBs : B ≤ s) (name : ByteArray) (hN : NatAt w nb T tdt) (h : Top B cb tdt s T n fs tab ks ex mo own an ch ix F w) :
    Calls Tryz.prog 10 #[.pointer (pt nb), .pointer (pt cb), .string name] w fun e w' => ∃ m own' an' ch' ix' F', Fr B w w' ∧ Top B cb tdt s T n fs tab ks ex (some m) own' an' ch' ix' F' w' ∧
      ((∃ E td, tab name = some E ∧ e = .returned (.tuple #[.agg (natc E.t E.k td E.i E.f), .bool true])) ∨ (tab name = none ∧ e = .returned (.tuple #[zeroN, .bool false]))) := by
  have hp : Plain w nb := ⟨_, _, hN⟩
  have hc : cellsAt w nb = _ := cellsAt_of hN
  obtain ⟨tp, tc⟩ := sz14 w tdt s h.td
  have hlt := hp.lt
  obtain ⟨s1, s2, s3, s4⟩ := szs hlt
  have tlt := tp.lt
  obtain ⟨t1, t2, t3, t4⟩ := szs tlt
  have HT := Lib.hid h
  have HBw := Lib.hid h.low
  clear h hN
  go_enter Tryz.func10, Tryz.ntmps10
  go_wp2_with (go_at_call 34; ((with_reducible refine (top_sf TF EX hBs name (HT.out.alloc _)).mono ?_); rintro e w1 ⟨r, m, own', an', ch', ix', F', rfl, hFr, hI, hor⟩; have hres := hFr.kept w.heap.size _ (heap_alloc_new w _) rfl; have hrp : Plain w1 w.heap.size := ⟨_, _, hres⟩; have hrc := cellsAt_of hres; have hrz : (cellsAt w1 w.heap.size).size = 9 := (by rw [hrc]; rfl); have HI := Lib.hid hI; have hF0 : Fr B w w1 := ((Fr.refl B w HBw.out).alloc _).trans hFr; have HO := Lib.hid hor; have HR := Lib.hid hres; clear hres hI hFr hor))
  rcases HO.out with ⟨rfl, hno, _⟩ | ⟨p, td', E, rfl, hpF, hE, ⟨v, hq, hv⟩, _⟩
  · have HNO := Lib.hid hno
    clear hno HO
    go_simp
    go_wp2
    refine bodyPost_ret (v := .tuple #[zeroN, .bool false]) (by simp [results, Tryz.results10, go_sem, hrp, hrc, zeroN]) rfl ?_
    refine ⟨m, own', an', ch', ix', F', ?_, HI.out.tw ⟨fun b hb => ?_, _, _, HR.out⟩, Or.inr ⟨HNO.out, rfl⟩⟩
    · repeat (first | with_reducible exact hF0 | with_reducible refine Fr.setN ?_ (Nat.le_refl _) _ _)
    · repeat rw [Below.heap_setCell _ _ _ _ hb]
  · have hqp : Plain w1 p := ⟨_, _, hq⟩
    have hqc : cellsAt w1 p = _ := cellsAt_of hq
    have hqz : (cellsAt w1 p).size = 10 := by rw [hqc]; rfl
    have hpn := ne_of_cells hq HR.out (by decide)
    have HE := Lib.hid hE
    clear hE hv hq HO hpF
    go_simp
    go_wp2
    refine bodyPost_ret (v := .tuple #[.agg (natc E.t E.k td' E.i E.f), .bool true]) (by simp [results, Tryz.results10, go_sem, hrp, hrc]) rfl ?_
    refine ⟨m, own', an', ch', ix', F', ?_, HI.out.tw ⟨fun b hb => ?_, _, _, HR.out⟩, Or.inl ⟨E, td', HE.out, rfl⟩⟩
    · repeat (first | with_reducible exact hF0 | with_reducible refine Fr.setN ?_ (Nat.le_refl _) _ _)
    · repeat rw [Below.heap_setCell _ _ _ _ hb]
set_option maxHeartbeats 4000000 in
theorem fix {B cb tdt s T n nb : Nat} {fs : Nat → Fd} {tab : ByteArray → Option Ent} {kT : Nat → Nat} {kK : Nat → Int} {ks : List Kid} {ex : (ByteArray → Option Value) → Option Addr → Prop} {mo : Option Nat} {own : Nat} {an : Int} {ch : Option Addr} {ix : Value} {F : ByteArray → Option Value} {w : World}
    (TF : TopFacts T n fs tab kT kK ks) (EX : ExOk n fs ex) (hBs : B ≤ s) (name : ByteArray) (hN : NatAt w nb T tdt) (h : Top B cb tdt s T n fs tab ks ex mo own an ch ix F w) :
    Calls Tryz.prog 14 #[.pointer (pt nb), .pointer (pt cb), .string name] w fun e w' => ∃ m own' an' ch' ix' F', Fr B w w' ∧ Top B cb tdt s T n fs tab ks ex (some m) own' an' ch' ix' F' w' ∧
      ((∃ E v, tab name = some E ∧ e = .returned (.tuple #[v, .bool true]) ∧ Ix w' v E.zs false) ∨ (tab name = none ∧ e = .returned (.tuple #[.slice none 0 0, .bool false]))) := by
  have hp : Plain w nb := ⟨_, _, hN⟩
  have hc : cellsAt w nb = _ := cellsAt_of hN
  obtain ⟨tp, tc⟩ := sz14 w tdt s h.td
  have hlt := hp.lt
  have tlt := tp.lt
  have HT := Lib.hid h
  clear h hN
  go_enter Tryz.func14, Tryz.ntmps14
  go_wp2_with (go_at_call 34; ((with_reducible refine (top_sf TF EX hBs name HT.out).mono ?_); rintro e w1 ⟨r, m, own', an', ch', ix', F', rfl, hFr, hI, hor⟩; have HI := Lib.hid hI; have HF0 := Lib.hid hFr; have HO := Lib.hid hor; clear hI hFr hor))
  rcases HO.out with ⟨rfl, hno, _⟩ | ⟨p, td', E, rfl, hpF, hE, ⟨v, hq, hv⟩, _⟩
  · have HNO := Lib.hid hno
    clear hno HO
    go_simp
    go_wp2
    go_ret2
    exact ⟨m, own', an', ch', ix', F', HF0.out, HI.out, Or.inr ⟨HNO.out, rfl⟩⟩
  · have hqp : Plain w1 p := ⟨_, _, hq⟩
    have hqc : cellsAt w1 p = _ := cellsAt_of hq
    have HE := Lib.hid (And.intro hE hv)
    clear hE hv hq HO hpF
    go_simp
    go_wp2
    go_ret2
    exact ⟨m, own', an', ch', ix', F', HF0.out, HI.out, Or.inl ⟨E, v, HE.out.1, rfl, HE.out.2⟩⟩
end Go.Proofs.YtpnifkpnapoeoaaGreatDoorBesrefl
