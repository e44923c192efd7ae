/-
  findInEmbedded on zzOuter and zzInner, call by call. No condition.
-/
import Derived.Test.YtdpgbmmgeooahaaGreatDoorBesreflN107
import Derived.WalkSpells
import Derived.StillTailTactics
import Derived.Deep.RegionHeld3
import Derived.Deep.RegionLaw
import Derived.Deep.RegionLawGrows
import Derived.Deep.AppendLies
import Derived.Deep.Cut
import Derived.Deep.CutRange
import Derived.Deep.RegionWith
import Derived.Lib.Hide
import Derived.Deep.LoopGhost
import Derived.Deep.DeepCutAuto
namespace Go.Proofs.YtdpgbmmgeooahaaGreatDoorBesrefl
open Go.RowKit
set_option maxRecDepth 100000
set_option maxHeartbeats 1000000
set_option linter.unusedVariables false
theorem Fr.le' {B C : Nat} {w v : World} (h : Fr C w v) (hB : B ≤ C) : Fr B w v := ⟨h.bel.mono hB, h.kept, h.grow, Nat.le_trans hB h.low⟩
/-- a structData on which nothing has been looked up but the field 0 -/
structure Q0 (B s T n m : Nat) (F : ByteArray → Option Value) (w0 w : World) : Prop where
  sd : SD w s (sdc T (some m) n 0 (-1) none none (.slice none 0 0))
  mp : MapIs w m F
  fr : Fr B w0 w
  ot : Oth [s] w0 w
  ml : w0.heap.size ≤ m
section
variable {B s T n m : Nat} {F : ByteArray → Option Value} {w0 w u : World}
theorem Q0.mv (h : Q0 B s T n m F w0 w) (hf : Fr B w u) (hb : ∀ b, b < w.heap.size → u.heap[b]? = w.heap[b]?) : Q0 B s T n m F w0 u :=
  ⟨(hb s h.sd.lt).trans h.sd, h.mp.heap (hb m h.mp.lt), h.fr.trans hf, fun b hl hn => (hb b (Nat.lt_of_lt_of_le hl h.fr.grow)).trans (h.ot b hl hn), h.ml⟩
theorem Q0.low (h : Q0 B s T n m F w0 w) : B ≤ w.heap.size := Nat.le_trans h.fr.low h.fr.grow
theorem Q0.alloc (h : Q0 B s T n m F w0 w) (o : Obj) : Q0 B s T n m F w0 (w.alloc o) := h.mv ((Fr.refl B w h.low).alloc o) (fun b hb => Below.heap_alloc w o b hb)
theorem Q0.drew (h : Q0 B s T n m F w0 w) : Q0 B s T n m F w0 w.drew := h.mv (Fr.refl B w h.low).drew (fun _ _ => rfl)
theorem Q0.drewN (h : Q0 B s T n m F w0 w) (k : Nat) : Q0 B s T n m F w0 (w.drewN k) := h.mv ((Fr.refl B w h.low).drewN k) (fun _ _ => rfl)
theorem Q0.newf (h : Q0 B s T n m F w0 w) (hBm : B ≤ m) {key : ByteArray} {t : Nat} {k : Int} {td : Option Addr} {i f : Bool} {zs : List Int} {v : Value} (hv : Ix w v zs false) (a : Obj)
    (W : World) (hW : ((put w m (mapSet (mapAt w m) key (.pointer (pt (w.heap.size + 1))))).alloc a).alloc (.cells (sfc t k td i f v) 93) = W) :
    Q0 B s T n m (plus F key (.pointer (pt (w.heap.size + 1)))) w0 W ∧ IsSF W (w.heap.size + 1) t k td i f zs := by
  subst hW
  obtain ⟨x, hx⟩ := h.mp.some
  have hF := (((Fr.refl B w h.low).put hBm h.mp.loose (mapSet (mapAt w m) key (.pointer (pt (w.heap.size + 1))))).alloc a).alloc (.cells (sfc t k td i f v) 93)
  have hS := ((h.sd.put hx (mapSet (mapAt w m) key (.pointer (pt (w.heap.size + 1))))).alloc a).alloc (.cells (sfc t k td i f v) 93)
  have hMM := ((h.mp.set key (.pointer (pt (w.heap.size + 1)))).alloc a).alloc (.cells (sfc t k td i f v) 93)
  have hml := h.ml
  have hgr := h.fr.grow
  refine ⟨⟨hS, hMM, h.fr.trans hF, fun b hb hn => ?_, h.ml⟩, v, sf_new _ _ _ (by simp [put_size]), hv.carry hF⟩
  rw [Below.heap_alloc _ _ _ (by simp [put_size]; omega), Below.heap_alloc _ _ _ (by simp [put_size]; omega), heap_put _ _ _ _ (fun e => by omega)]
  exact h.ot b hb hn
end
set_option maxHeartbeats 8000000 in
theorem sf_zero {B s cb T n : Nat} {fs : Nat → Fd} (TY : TyFacts T n fs) (h0 : (fs 0).exp = true) (hv : (fs 0).vis = true) (he : (fs 0).emb = false)
    (ft : ∀ w : World, Calls Tryz.prog 35 #[.pointer (pt cb), .iface 105 (.pointer (some ⟨4, (fs 0).t, none⟩))] w fun e w' => e = .returned (.agg (natc (fs 0).t (fs 0).k none (fs 0).i (fs 0).f)) ∧ w.alloc (.cells (natc (fs 0).t (fs 0).k none (fs 0).i (fs 0).f) 48) = w')
    (w : World) (hBs : B ≤ s) (hBw : B ≤ w.heap.size) (hS : SD w s (sdc T none n 0 (-1) none none (.slice none 0 0))) :
    Calls Tryz.prog 39 #[.pointer (pt s), .pointer (pt cb), .pointer none, .string (fs 0).key] w fun e w' => ∃ m p, e = .returned (.pointer (pt p)) ∧ Q0 B s T n m (plus (fun _ => none) (fs 0).key (.pointer (pt p))) w w' ∧ IsSF w' p (fs 0).t (fs 0).k none (fs 0).i (fs 0).f [0] := by
  have hp := hS.plain
  have hs := hS.cells
  have hslt := hS.lt
  have hn0 := TY.n0
  have hn64 := TY.n64
  have hmk := TY.mkm
  have hn : decide ((n : Int) > 0) = true := by simp; exact hn0
  have hn2 : decide ((0 : Int) < (n : Int)) = true := by simp; exact hn0
  have HS := Lib.hid hS
  have HTY := Lib.hid TY
  have HFT := Lib.hid ft
  have H0 := Lib.hid (And.intro h0 (And.intro hv he))
  clear hS TY ft h0 hv he
  go_enter Tryz.func39, Tryz.ntmps39
  go_upto_if 26 with (fail)
  go_cut [] from 22 to 47 (fun wx => ∃ m, Q0 B s T n m (fun _ => none) w wx)
  case first =>
    go_wp2
    go_meet
    refine ⟨w.heap.size, (HS.out.set (i := 1) (.map (some w.heap.size))).alloc _, MapIs.at_new (size_set ..), ((Fr.refl B w hBw).setOld (p := ⟨s, 1, none⟩) hBs HS.out.loose _).alloc _, fun b hb hn => ?_, Nat.le_refl _⟩
    rw [Below.heap_alloc _ _ _ (by rw [size_set]; exact hb), Below.heap_setCell _ _ _ _ (fun e => hn (by subst e; simp))]
  case rest =>
    obtain ⟨m, hM⟩ := hcut
    have HM := Lib.hid hM
    have hBm : B ≤ m := Nat.le_trans hBw hM.ml
    clear hp hs hslt hmk hM
    go_wp2_with (go_at_call 45; ((with_reducible refine (fin_a s T (some m) n 0 (-1) none none _ _ HM.out.sd (by omega)).mono ?_); rintro e w' ⟨rfl, k, rfl⟩))
    go_loopg [10] n (fun g _ wr => g = n ∧ Q0 B s T n m (fun _ => none) w wr)
    case atStart => exact ⟨rfl, HM.out.drewN k⟩
    case round =>
      obtain ⟨hg, hQ⟩ := hrel
      clear HM hg
      have hp := hQ.sd.plain
      have hs := hQ.sd.cells
      have hslt := hQ.sd.lt
      have HQ := Lib.hid hQ
      clear hQ
      have hfl : ∀ w : World, (callFunc 160 #[.pointer (some ⟨4, T, none⟩), .int .i64 0]).run Tryz.prog w = .ok (.value (.agg (frec (fs 0) (.slice (some ⟨w.heap.size, 0, none⟩) 1 1)))) (w.alloc (.cells #[.int .i64 0] 3 (0, 1))) := HTY.out.fld 0 hn0
      have hie := HTY.out.iex 0 hn0
      have HFN := Lib.hid (HTY.out.fnm 0 hn0 H0.out.1)
      have HKY := Lib.hid (HTY.out.key 0 hn0 H0.out.2.1)
      obtain ⟨d, hd⟩ : ∃ d, fs 0 = d := ⟨_, rfl⟩
      rw [hd] at hfl hie HFN HKY HFT H0
      have HD := Lib.hid hd
      rw [hd]
      clear hd
      cases d with | mk nm pk t tg off emb exp vis key k i f
      dsimp only at hfl hie HFN HKY HFT H0
      obtain ⟨e0, e1, e2⟩ := H0.out
      subst e0 e1 e2
      go_wp2
      go_quiet (fail)
      go_wp2
      generalize hgw : wr.drewN _ = w2
      have hQ2 : Q0 B s T n m (fun _ => none) w w2 := by rw [← hgw]; exact HQ.out.drewN _
      clear hgw hp hs hslt HQ
      have hp := hQ2.sd.plain
      have hs := hQ2.sd.cells
      have hslt := hQ2.sd.lt
      have HQ := Lib.hid hQ2
      clear hQ2
      go_cut [10] from 51 to 135 (fun x wx => ∃ fb ib, x = .pointer (some ⟨fb, 0, none⟩) ∧ Fld wx fb ib 0 #[.string nm, .string pk, .iface 105 (.pointer (some ⟨4, t, none⟩)), .string tg, .int .u64 off, .slice (some ⟨ib, 0, none⟩) 1 1, .bool false] ∧ Q0 B s T n m (fun _ => none) w wx)
      case first =>
        go_region
        all_goals
          go_wp2
          go_meet
        case rel => exact ⟨_, _, rfl, (fld_a _ _ _).drew, ((HQ.out.alloc _).alloc _).drew⟩
        case rel => exact ⟨_, _, rfl, (fld_b _ _ _).drew, ((HQ.out.alloc _).alloc _).drew⟩
      case rest =>
        obtain ⟨fb, ib, rfl, hfl2, hQ3⟩ := hcut
        clear hp hs hslt HQ hfl
        have hp := hQ3.sd.plain
        have hs := hQ3.sd.cells
        have hslt := hQ3.sd.lt
        have hfp := hfl2.plain
        have hfc := hfl2.cells
        have hfz : (cellsAt wc fb).size = 7 := by rw [hfc]; rfl
        have hsf := hfl2.ne hQ3.sd
        have HQ := Lib.hid hQ3
        have HL3 := Lib.hid hfl2
        clear hQ3 hfl2
        have hk1 := HKY.out
        have hk2 : ¬ key.toList = [] := by intro h; rw [h] at hk1; cases hk1
        have hk3 : (key.toList == []) = false := by simpa using hk2
        go_upto_if 127 with (first | (go_at_call 52; ((with_reducible refine (HFN.out _).mono ?_); rintro e w' ⟨rfl, mm, rfl⟩)) | (go_at_call 35; go_loud ((with_reducible refine (HFT.out _).mono ?_); rintro e w1 ⟨rfl, hw1⟩; have hf5 : Fr B (wc.drewN mm) w1 := (by rw [← hw1]; exact (Fr.refl B (wc.drewN mm) HQ.out.low).alloc _); have hP5 : Q0 B s T n m (fun _ => none) w w1 := (by rw [← hw1]; exact (HQ.out.drewN mm).alloc _); have hL5 := HL3.out.call (k := mm) hf5; clear hp hs hslt hfp hfc hfz hsf hf5 hw1; have hp := hP5.sd.plain; have hs := hP5.sd.cells; have hm := hP5.mp.ok; have hslt := hP5.sd.lt; have hmlt := hP5.mp.lt; have hms := hP5.sd.ne hP5.mp; have hfp := hL5.plain; have hfc := hL5.cells; have hfz : (cellsAt w1 fb).size = 7 := (by rw [hfc]; rfl); have hsf := hL5.ne hP5.sd; have hmf := hL5.ne2 hP5.mp; have hflt := hfp.lt; obtain ⟨s1, s2, s3, s4⟩ := szs hslt; obtain ⟨m1, m2, m3, m4⟩ := szs hmlt; obtain ⟨f1, f2, f3, f4⟩ := szs hflt; have HP5 := Lib.hid hP5; have HL5 := Lib.hid hL5; clear hP5 hL5)))
        generalize hgx : World.alloc _ _ = W3
        obtain ⟨hQ6, hI6⟩ := HP5.out.newf hBm HL5.out.ix.any _ W3 hgx
        clear hgx hp hs hm hslt hmlt hms hfp hfc hfz hsf hmf hflt s1 s2 s3 s4 m1 m2 m3 m4 f1 f2 f3 f4 hk1 hk2 hk3
        have HZ := Lib.hid (And.intro hQ6 hI6)
        have hp := hQ6.sd.plain
        have hs := hQ6.sd.cells
        have hslt := hQ6.sd.lt
        clear hQ6 hI6
        go_wp2
        go_ret
        rw [HD.out]
        exact ⟨m, _, rfl, HZ.out.1, HZ.out.2⟩
theorem kind25_96 (w : World) : (callFunc 171 #[.pointer (some ⟨4, 96, none⟩)]).run Tryz.prog w = .ok (.value (.int .u64 25)) w := by kernel_rfl
theorem nf_96 (w : World) : (callFunc 177 #[.pointer (some ⟨4, 96, none⟩)]).run Tryz.prog w = .ok (.value (.int .i64 (5 : Nat))) w := by kernel_rfl
/-- the n integers at o read as zs -/
def Ri (w : World) (o : Option Addr) (n : Nat) (zs : List Int) : Prop := zs.length = n ∧ ∀ i, i < n → ∃ a, o = some a ∧ a.block < w.heap.size ∧ w.cell? (a.add i) = some (.int .i64 (zs.getD i 0))
theorem Ri.fr {w u : World} {o : Option Addr} {n : Nat} {zs : List Int} (h : Ri w o n zs) (hf : Below w.heap.size w u) : Ri u o n zs :=
  ⟨h.1, fun i hi => by
    obtain ⟨a, ha, hb, hc⟩ := h.2 i hi
    exact ⟨a, ha, Nat.lt_of_lt_of_le hb hf.size, (hf.cell (p := a.add i) (by rw [add_block]; exact hb)).trans hc⟩⟩
/-- the cells of a copy behind j rounds -/
def ci (zs : List Int) (n j : Nat) : Array Value := Array.ofFn (n := n) fun q => .int .i64 (if q.val < j then zs.getD q.val 0 else 0)
@[go_sem] theorem ci_size (zs : List Int) (n j : Nat) : (ci zs n j).size = n := by simp [ci]
theorem ci_get (zs : List Int) (n j q : Nat) (h : q < n) : (ci zs n j)[q]? = some (.int .i64 (if q < j then zs.getD q 0 else 0)) := by simp [ci, h]
theorem ci_set (zs : List Int) (n j : Nat) (h : j < n) : (ci zs n j).setIfInBounds j (.int .i64 (zs.getD j 0)) = ci zs n (j + 1) := by
  apply Array.ext_getElem?
  intro q
  rw [Array.getElem?_setIfInBounds]
  by_cases hj : q < n
  · rw [ci_get _ _ _ _ hj, ci_get _ _ _ _ hj, ci_size]
    by_cases e : j = q
    · subst e; simp [h]
    · rw [if_neg e]
      by_cases h2 : q < j
      · simp only [h2, show q < j + 1 by omega, if_true]
      · simp only [h2, show ¬ q < j + 1 by omega, if_false]
  · rw [if_neg (by omega), Array.getElem?_eq_none (by rw [ci_size]; omega), Array.getElem?_eq_none (by rw [ci_size]; omega)]
theorem ci_all (zs : List Int) (n : Nat) (h : zs.length = n) : (ci zs n n).toList.take zs.length = zs.map (Value.int .i64) := by
  apply List.ext_getElem?
  intro q
  rw [List.getElem?_take]
  by_cases hq : q < zs.length
  · rw [if_pos hq, Array.getElem?_toList, ci_get _ _ _ _ (by omega), if_pos (by omega), List.getElem?_map, List.getD_eq_getElem?_getD, List.getElem?_eq_getElem hq]
    rfl
  · rw [if_neg hq, List.getElem?_map, List.getElem?_eq_none (by omega)]
    rfl
theorem ci_ix (w : World) (g : Nat) (fr : Nat × Nat) (zs : List Int) (n : Nat) (h : zs.length = n) (hw : w.heap[g]? = some (.cells (ci zs n n) 3 fr)) (full : Bool) : Ix w (.slice (some ⟨g, 0, none⟩) n n) zs full := by
  subst h
  exact Or.inr ⟨g, zs.length, _, fr, rfl, hw, Nat.le_refl _, fun _ => rfl, ci_all zs _ rfl⟩
theorem mki (zs : List Int) (n : Nat) (h : n ≤ 10000000) (w : World) : (Instr.makeSlice 64 (.int .i64 n) (.int .i64 n)).run Tryz.prog w = .ok (.slice (some ⟨w.heap.size, 0, none⟩) n n) (w.alloc (.cells (ci zs n 0) 3)) := by
  obtain ⟨i, hi, hz⟩ := Option.map_eq_some_iff.1 (by kernel_rfl : (Tryz.prog.info? 3).map (fun i => (i.zero, i.size, i.bytes)) = some (some (.int .i64 0), 1, 8))
  simp only [Prod.mk.injEq] at hz
  obtain ⟨h1, h2, h3⟩ := hz
  rw [run_makeSlice w 64 3 i (.int .i64 0) Tryz.underlying64 hi h1 .i64 .i64 n n (by omega) (by omega) (by rw [h2]; omega) (by rw [h3]; omega) (by omega)]
  rw [h2]
  have e : madeCells (Value.int .i64 0).cells ((n : Int).toNat * 1) = ci zs n 0 := by
    apply Array.ext_getElem?
    intro j
    by_cases hj : j < n
    · rw [ci_get _ _ _ _ hj]
      simp [madeCells, Value.cells, hj, Nat.mod_one]
    · rw [Array.getElem?_eq_none (by simp [madeCells]; omega), Array.getElem?_eq_none (by rw [ci_size]; omega)]
  rw [e]
  rfl
theorem zci (o : Option Addr) (n c : Nat) (zs : List Int) (hn : n ≤ 10000) (w : World) (h : Ri w o n zs) : Calls Tryz.prog 24 #[.slice o n c] w fun e w' => ∃ v, e = .returned v ∧ Fr w.heap.size w w' ∧ Ix w' v zs true := by
  have hq := fun u => sl_eq u o n c
  have HR := Lib.hid h
  have HN := Lib.hid hn
  have hm := mki zs n (by omega)
  clear h hn
  cases o with
  | none =>
    obtain rfl : n = 0 := by
      cases n with
      | zero => rfl
      | succ k =>
        obtain ⟨a, ha, _⟩ := HR.out.2 0 (Nat.succ_pos k)
        cases ha
    obtain rfl : zs = [] := List.length_eq_zero_iff.1 HR.out.1
    go_enter Tryz.func24, Tryz.ntmps24
    go_wp2
    go_ret
    exact ⟨_, rfl, Fr.refl _ w (Nat.le_refl _), Or.inl ⟨rfl, rfl⟩⟩
  | some a0 =>
    go_enter Tryz.func24, Tryz.ntmps24
    go_wp2
    go_loopg [4] n (fun k i wr => ∃ j : Nat, k = n - j ∧ j ≤ n ∧ i = .int .i64 j ∧ wr.heap[w.heap.size]? = some (.cells (ci zs n j) 3 (0, 0)) ∧ Fr w.heap.size w wr)
    case atStart => exact ⟨0, by simp, Nat.zero_le _, rfl, heap_alloc_new w _, (Fr.refl _ w (Nat.le_refl _)).alloc _⟩
    case round =>
      clear hm hq
      obtain ⟨j, hg, hj, rfl, q1, q2⟩ := hrel
      have p1 : Plain wr w.heap.size := ⟨_, _, q1⟩
      have p2 : cellsAt wr w.heap.size = _ := cellsAt_of q1
      have p3 := p1.lt
      have HQ := Lib.hid q1
      have HF := Lib.hid q2
      have HG := Lib.hid hg
      by_cases c1 : j < n
      · obtain ⟨a, ha, hb, hc0⟩ := HR.out.2 j c1
        have hc : wr.cell? (a.add j) = some (.int .i64 (zs.getD j 0)) := (q2.bel.cell (p := a.add j) (by rw [add_block]; exact hb)).trans hc0
        obtain rfl : a0 = a := Option.some.inj ha
        have hx := ci_get zs n j j c1
        have hj2 : (j : Int) ≤ 100000 := by have := HN.out; omega
        clear hg q1 q2 hc0 hb ha
        go_wp2
        go_roundg (n - (j + 1))
        case measure => (have := HG.out; omega)
        case rel => exact ⟨j + 1, rfl, c1, by simp, by rw [setCell_eq_setRow _ _ j _ _ _ _ HQ.out, ← ci_set zs n j c1, List.getD_eq_getElem?_getD]; exact setRow_heap _ _ _ _ _ _ HQ.out, Fr.setN HF.out (Nat.le_refl _) _ _⟩
      · have e : j = n := by omega
        subst e
        clear hg q1 q2
        go_wp2
        go_ret
        exact ⟨_, rfl, HF.out, ci_ix _ _ _ zs _ HR.out.1 HQ.out true⟩
theorem zpx (o : Option Addr) (n c : Nat) (zs : List Int) (k : Int) (hn : n ≤ 10000) (w : World) (h : Ri w o n zs) : Calls Tryz.prog 44 #[.slice o n c, .slice none 0 0, .int .i64 k] w fun e w' => ∃ g n1, e = .returned (.slice (some ⟨g, 0, none⟩) n1 n1) ∧ Fr w.heap.size w w' ∧ Ix w' (.slice (some ⟨g, 0, none⟩) n1 n1) (zs ++ [k]) false := by
  have HR := Lib.hid h
  have HN := Lib.hid hn
  have hl : (zs ++ [k]).length = n + 1 := by rw [List.length_append, h.1]; rfl
  have HL := Lib.hid hl
  have hm : ∀ u : World, (Instr.makeSlice 64 (.int .i64 ((n : Int) + 1)) (.int .i64 ((n : Int) + 1))).run Tryz.prog u = .ok (.slice (some ⟨u.heap.size, 0, none⟩) (n + 1) (n + 1)) (u.alloc (.cells (ci (zs ++ [k]) (n + 1) 0) 3)) := fun u => by
    have h1 := mki (zs ++ [k]) (n + 1) (by omega) u
    rw [show ((n + 1 : Nat) : Int) = (n : Int) + 1 from rfl] at h1
    exact h1
  have hn1 : (n : Int) ≤ 10000 := by omega
  clear h hn hl
  go_enter Tryz.func44, Tryz.ntmps44
  go_wp2
  go_loopg [8] n (fun g i wr => ∃ j : Nat, g = n - j ∧ j ≤ n ∧ i = .int .i64 j ∧ wr.heap[w.heap.size]? = some (.cells (ci (zs ++ [k]) (n + 1) j) 3 (0, 0)) ∧ Fr w.heap.size w wr)
  case atStart => exact ⟨0, by simp, Nat.zero_le _, rfl, heap_alloc_new w _, (Fr.refl _ w (Nat.le_refl _)).alloc _⟩
  case round =>
    clear hm
    obtain ⟨j, hg, hj, rfl, q1, q2⟩ := hrel
    have p1 : Plain wr w.heap.size := ⟨_, _, q1⟩
    have p2 : cellsAt wr w.heap.size = _ := cellsAt_of q1
    have p3 := p1.lt
    have HQ := Lib.hid q1
    have HF := Lib.hid q2
    have HG := Lib.hid hg
    by_cases c1 : j < n
    · obtain ⟨a, ha, hb, hc0⟩ := HR.out.2 j c1
      subst ha
      have hc : wr.cell? (a.add j) = some (.int .i64 (zs.getD j 0)) := (q2.bel.cell (p := a.add j) (by rw [add_block]; exact hb)).trans hc0
      have hx := ci_get (zs ++ [k]) (n + 1) j j (by omega)
      have hj2 : (j : Int) ≤ 100000 := by have := HN.out; omega
      have he : (zs ++ [k]).getD j 0 = zs.getD j 0 := by
        have := HR.out.1
        simp [List.getD_eq_getElem?_getD, List.getElem?_append_left (show j < zs.length by omega)]
      have HE := Lib.hid he
      clear hg q1 q2 hc0 hb he
      go_wp2
      go_roundg (n - (j + 1))
      case measure => (have := HG.out; omega)
      case rel => exact ⟨j + 1, rfl, c1, by simp, by rw [setCell_eq_setRow _ _ j _ _ _ _ HQ.out, ← ci_set (zs ++ [k]) (n + 1) j (by omega), HE.out, List.getD_eq_getElem?_getD]; exact setRow_heap _ _ _ _ _ _ HQ.out, Fr.setN HF.out (Nat.le_refl _) _ _⟩
    · have e : j = n := by omega
      subst e
      have hx := ci_get (zs ++ [k]) (j + 1) j j (by omega)
      have he : (zs ++ [k]).getD j 0 = k := by
        have := HR.out.1
        rw [List.getD_eq_getElem?_getD, List.getElem?_append_right (by omega), show j - zs.length = 0 by omega]
        rfl
      have HE := Lib.hid he
      clear hg q1 q2 he
      go_wp2
      refine wp_loop_rounds 1 ?_
      rw [rounds_succ]
      go_wp2
      go_ret
      refine ⟨_, _, rfl, Fr.setN HF.out (Nat.le_refl _) _ _, ci_ix _ _ (0, 0) (zs ++ [k]) _ HL.out ?_ false⟩
      rw [setCell_eq_setRow _ _ j _ _ _ _ HQ.out, ← ci_set (zs ++ [k]) (j + 1) j (by omega), HE.out]
      exact setRow_heap _ _ _ _ _ _ HQ.out
/-- what findInEmbedded should answer on zzOuter, entering zzInner under the prefix zs -/
def ptab (zs : List Int) (x : ByteArray) : Option Ent := if ((⟨#[65]⟩ : ByteArray) == x) = true then some ⟨3, 2, true, false, [0]⟩ else match tab96 x with | some E => some ⟨E.t, E.k, E.i, E.f, zs ++ E.zs⟩ | none => none
theorem ptab_A (zs : List Int) : ptab zs ⟨#[65]⟩ = some ⟨3, 2, true, false, [0]⟩ := if_pos (by decide)
theorem ptab_or (zs : List Int) (F : ByteArray → Option Value) (hA : F ⟨#[65]⟩ ≠ none) (x : ByteArray) (E : Ent) (h : tab96 x = some E) : F x ≠ none ∨ ptab zs x = some ⟨E.t, E.k, E.i, E.f, zs ++ E.zs⟩ := by
  by_cases hx : ((⟨#[65]⟩ : ByteArray) == x) = true
  · obtain rfl := (ba_iff _ _).1 hx
    exact Or.inl hA
  · right
    unfold ptab
    rw [if_neg hx, h]
theorem ptab_no (zs : List Int) (x : ByteArray) (h : ptab zs x ≠ none) (hx : ¬ ((⟨#[65]⟩ : ByteArray) == x) = true) : tab96 x ≠ none := by
  intro h2
  unfold ptab at h
  rw [if_neg hx, h2] at h
  exact h rfl
theorem iw_A (o : Option Addr) (n c : Nat) (w : World) : Calls Tryz.prog 27 #[.slice o n c, .string ⟨#[65]⟩] w fun e w' => e = .returned (.slice (some ⟨w.heap.size, 0, none⟩) 1 1) ∧ w.alloc (.cells #[.int .i64 0] 3) = w' := by
  go_enter Tryz.func27, Tryz.ntmps27
  go_wp2
  go_ret
  exact ⟨rfl, rfl⟩
theorem iw_other (o : Option Addr) (n c : Nat) (x : ByteArray) (a0 : (x.toList == [65]) = false) (a1 : (x.toList == [88]) = false) (a2 : (x.toList == [89]) = false) (a3 : (x.toList == [116, 101, 101]) = false) (w : World) : Calls Tryz.prog 27 #[.slice o n c, .string x] w fun e w' => e = .returned (.slice none 0 0) ∧ w = w' := by
  go_enter Tryz.func27, Tryz.ntmps27
  go_wp2
  go_ret
  exact ⟨rfl, rfl⟩
theorem iw_X (o : Option Addr) (n c : Nat) (zs : List Int) (hn : n ≤ 10000) (w : World) (h : Ri w o n zs) : Calls Tryz.prog 27 #[.slice o n c, .string ⟨#[88]⟩] w fun e w' => ∃ g n1, e = .returned (.slice (some ⟨g, 0, none⟩) n1 n1) ∧ Fr w.heap.size w w' ∧ Ix w' (.slice (some ⟨g, 0, none⟩) n1 n1) (zs ++ [0]) false := by
  have HR := Lib.hid h
  have HN := Lib.hid hn
  clear h hn
  go_enter Tryz.func27, Tryz.ntmps27
  go_wp2_with (go_at_call 44; ((with_reducible refine (zpx o n c zs 0 HN.out _ HR.out).mono ?_); rintro e w1 ⟨g, n1, rfl, hf, hv⟩; have HV := Lib.hid (And.intro hf hv); clear hf hv))
  go_ret
  exact ⟨g, n1, rfl, HV.out⟩
theorem iw_Y (o : Option Addr) (n c : Nat) (zs : List Int) (hn : n ≤ 10000) (w : World) (h : Ri w o n zs) : Calls Tryz.prog 27 #[.slice o n c, .string ⟨#[89]⟩] w fun e w' => ∃ g n1, e = .returned (.slice (some ⟨g, 0, none⟩) n1 n1) ∧ Fr w.heap.size w w' ∧ Ix w' (.slice (some ⟨g, 0, none⟩) n1 n1) (zs ++ [1]) false := by
  have HR := Lib.hid h
  have HN := Lib.hid hn
  clear h hn
  go_enter Tryz.func27, Tryz.ntmps27
  go_wp2_with (go_at_call 44; ((with_reducible refine (zpx o n c zs 1 HN.out _ HR.out).mono ?_); rintro e w1 ⟨g, n1, rfl, hf, hv⟩; have HV := Lib.hid (And.intro hf hv); clear hf hv))
  go_ret
  exact ⟨g, n1, rfl, HV.out⟩
theorem iw_tee (o : Option Addr) (n c : Nat) (zs : List Int) (hn : n ≤ 10000) (w : World) (h : Ri w o n zs) : Calls Tryz.prog 27 #[.slice o n c, .string ⟨#[116, 101, 101]⟩] w fun e w' => ∃ g n1, e = .returned (.slice (some ⟨g, 0, none⟩) n1 n1) ∧ Fr w.heap.size w w' ∧ Ix w' (.slice (some ⟨g, 0, none⟩) n1 n1) (zs ++ [3]) false := by
  have HR := Lib.hid h
  have HN := Lib.hid hn
  clear h hn
  go_enter Tryz.func27, Tryz.ntmps27
  go_wp2_with (go_at_call 44; ((with_reducible refine (zpx o n c zs 3 HN.out _ HR.out).mono ?_); rintro e w1 ⟨g, n1, rfl, hf, hv⟩; have HV := Lib.hid (And.intro hf hv); clear hf hv))
  go_ret
  exact ⟨g, n1, rfl, HV.out⟩
theorem iw_yes (o : Option Addr) (n c : Nat) (zs : List Int) (hn : n ≤ 10000) (x : ByteArray) (E : Ent) (w : World) (hr : Ri w o n zs) (h : ptab zs x = some E) : Calls Tryz.prog 27 #[.slice o n c, .string x] w fun e w' => ∃ g n1, e = .returned (.slice (some ⟨g, 0, none⟩) n1 n1) ∧ Fr w.heap.size w w' ∧ Ix w' (.slice (some ⟨g, 0, none⟩) n1 n1) E.zs false := by
  unfold ptab at h
  by_cases hx : ((⟨#[65]⟩ : ByteArray) == x) = true
  · rw [if_pos hx] at h
    cases h
    obtain rfl := (ba_iff _ _).1 hx
    refine (iw_A o n c w).mono ?_
    rintro e w' ⟨rfl, rfl⟩
    exact ⟨_, _, rfl, (Fr.refl _ w (Nat.le_refl _)).alloc _, Or.inr ⟨w.heap.size, 1, _, (0, 0), rfl, heap_alloc_new w _, by simp, (fun h => by cases h), by simp⟩⟩
  rw [if_neg hx] at h
  cases hE : tab96 x with
  | none => rw [hE] at h; cases h
  | some E2 =>
    rw [hE] at h
    obtain rfl := Option.some.inj h
    clear h
    unfold tab96 at hE
    by_cases h0 : ((⟨#[88]⟩ : ByteArray) == x) = true
    · rw [if_pos h0] at hE
      cases hE
      obtain rfl := (ba_iff _ _).1 h0
      exact iw_X o n c zs hn w hr
    rw [if_neg h0] at hE
    by_cases h1 : ((⟨#[89]⟩ : ByteArray) == x) = true
    · rw [if_pos h1] at hE
      cases hE
      obtain rfl := (ba_iff _ _).1 h1
      exact iw_Y o n c zs hn w hr
    rw [if_neg h1] at hE
    by_cases h2 : ((⟨#[116, 101, 101]⟩ : ByteArray) == x) = true
    · rw [if_pos h2] at hE
      cases hE
      obtain rfl := (ba_iff _ _).1 h2
      exact iw_tee o n c zs hn w hr
    rw [if_neg h2] at hE
    by_cases h3 : ((⟨#[65]⟩ : ByteArray) == x) = true
    · rw [if_pos h3] at hE
      exact absurd h3 hx
    rw [if_neg h3] at hE
    cases hE
theorem iw_no (o : Option Addr) (n c : Nat) (zs : List Int) (x : ByteArray) (w : World) (h : ptab zs x = none) : Calls Tryz.prog 27 #[.slice o n c, .string x] w fun e w' => e = .returned (.slice none 0 0) ∧ w = w' := by
  unfold ptab at h
  by_cases hx : ((⟨#[65]⟩ : ByteArray) == x) = true
  · rw [if_pos hx] at h
    cases h
  rw [if_neg hx] at h
  cases hE : tab96 x with
  | some E2 => rw [hE] at h; cases h
  | none =>
    clear h
    unfold tab96 at hE
    by_cases h0 : ((⟨#[88]⟩ : ByteArray) == x) = true
    · rw [if_pos h0] at hE
      cases hE
    rw [if_neg h0] at hE
    by_cases h1 : ((⟨#[89]⟩ : ByteArray) == x) = true
    · rw [if_pos h1] at hE
      cases hE
    rw [if_neg h1] at hE
    by_cases h2 : ((⟨#[116, 101, 101]⟩ : ByteArray) == x) = true
    · rw [if_pos h2] at hE
      cases hE
    rw [if_neg h2] at hE
    by_cases h3 : ((⟨#[65]⟩ : ByteArray) == x) = true
    · rw [if_pos h3] at hE
      cases hE
    rw [if_neg h3] at hE
    clear hE
    exact iw_other o n c x (q_ne [65] x (by simpa using hx)) (q_ne [88] x (by simpa using h0)) (q_ne [89] x (by simpa using h1)) (q_ne [116, 101, 101] x (by simpa using h2)) w
theorem pzs_le (zs : List Int) (hz : zs.length ≤ 10000) (x : ByteArray) (E : Ent) (h : ptab zs x = some E) : E.zs.length ≤ 1000000 := by
  unfold ptab at h
  by_cases hx : ((⟨#[65]⟩ : ByteArray) == x) = true
  · rw [if_pos hx] at h
    cases h
    simp
  rw [if_neg hx] at h
  cases hE : tab96 x with
  | none => rw [hE] at h; cases h
  | some E2 =>
    rw [hE] at h
    obtain rfl := Option.some.inj h
    have := (leaf96.zs x E2 hE).2
    simp
    omega
theorem zo_raw (cb B : Nat) (w : World) (hC : Ca w cb none) (hB : B ≤ cb) (hBw : B ≤ w.heap.size) : Calls Tryz.prog 16 #[.pointer (pt cb)] w fun e w' => ∃ s mc G, e = .returned (.pointer (pt s)) ∧ Fr B w w' ∧ Ca w' cb (some mc) ∧ Ty w' mc G ∧ G 96 = none ∧ SD w' s (sdc 99 none ((5 : Nat) : Int) 0 (-1) none none (.slice none 0 0)) ∧ B ≤ s ∧ B ≤ mc := by
  have HC := Lib.hid hC
  clear hC
  go_enter Tryz.func16, Tryz.ntmps16
  go_wp2_with (go_at_call 38; ((with_reducible refine (gs_first 99 cb B ((5 : Nat) : Int) nf_99 _ HC.out hB hBw).mono ?_); rintro e w1 ⟨td, s, mc, rfl, hf, _, hCa, hTy, hTD, hSD, l1, l2, l3⟩; obtain ⟨tp, tc⟩ := sz14 w1 td s hTD; have HT := Lib.hid (And.intro hf (And.intro hCa (And.intro hTy hSD))); clear hf hCa hTy hTD hSD))
  go_ret
  exact ⟨s, mc, _, rfl, HT.out.1, HT.out.2.1, HT.out.2.2.1, if_neg (by decide), HT.out.2.2.2, by omega, by omega⟩
theorem zi_raw (cb B mc : Nat) (G : Nat → Option Nat) (w : World) (hC : Ca w cb (some mc)) (hT : Ty w mc G) (hG : G 96 = none) (hB : B ≤ mc) (hBw : B ≤ w.heap.size) : Calls Tryz.prog 25 #[.pointer (pt cb)] w fun e w' => ∃ c, e = .returned (.pointer (pt c)) ∧ Fr B w w' ∧ Oth [mc] w w' ∧ SD w' c (sdc 96 none ((5 : Nat) : Int) 0 (-1) none none (.slice none 0 0)) ∧ w.heap.size ≤ c := by
  have HC := Lib.hid hC
  have HT := Lib.hid hT
  clear hC hT
  go_enter Tryz.func25, Tryz.ntmps25
  go_wp2_with (go_at_call 38; ((with_reducible refine (gs_next 96 mc cb B ((5 : Nat) : Int) nf_96 G _ HC.out HT.out hG hB hBw).mono ?_); rintro e w1 ⟨td, s, rfl, hf, ho, _, hTD, hSD, l1, l2⟩; obtain ⟨tp, tc⟩ := sz14 w1 td s hTD; have HS := Lib.hid (And.intro hf (And.intro ho hSD)); clear hf ho hTD hSD))
  go_ret
  exact ⟨s, rfl, HS.out.1, HS.out.2.1, HS.out.2.2, l2⟩
theorem zsf0 {B s cb : Nat} (w : World) (hBs : B ≤ s) (hBw : B ≤ w.heap.size) (hS : SD w s (sdc 99 none ((5 : Nat) : Int) 0 (-1) none none (.slice none 0 0))) :
    Calls Tryz.prog 17 #[.pointer (pt cb), .pointer (pt s), .string ⟨#[65]⟩] w fun e w' => ∃ m p, e = .returned (.pointer (pt p)) ∧ Q0 B s 99 5 m (plus (fun _ => none) ⟨#[65]⟩ (.pointer (pt p))) w w' ∧ IsSF w' p 3 2 none true false [0] := by
  have H : Calls Tryz.prog 39 #[.pointer (pt s), .pointer (pt cb), .pointer none, .string ⟨#[65]⟩] w fun e w' => ∃ m p, e = .returned (.pointer (pt p)) ∧ Q0 B s 99 5 m (plus (fun _ => none) ⟨#[65]⟩ (.pointer (pt p))) w w' ∧ IsSF w' p 3 2 none true false [0] := sf_zero (cb := cb) ty99 rfl rfl rfl (fun w => from_3 _ w) w hBs hBw hS
  have HH := Lib.hid H
  clear hS H
  go_enter Tryz.func17, Tryz.ntmps17
  go_wp2_with (go_at_call 39; ((with_reducible refine HH.out.mono ?_); rintro e w1 ⟨m, p, rfl, hQ, hI⟩; have HQ := Lib.hid (And.intro hQ hI); clear hQ hI))
  go_ret
  exact ⟨m, p, rfl, HQ.out⟩
/-- where the parent s and its child c stand between calls of findInEmbedded -/
def FS (B s c m : Nat) (zs : List Int) (ch0 : Option Addr) (ix0 : Value) (w : World) : Prop := ∃ F mo oc ixc Fc, SD w s (sdc 99 (some m) ((5 : Nat) : Int) 0 (-1) none ch0 ix0) ∧ MapIs w m F ∧ Sound w F (ptab zs) ∧ Kst B c 96 5 fs96 tab96 mo oc ixc Fc w ∧ (∀ x, Fc x ≠ none → F x ≠ none) ∧ c ≠ s ∧ mo ≠ some m ∧ F ⟨#[65]⟩ ≠ none ∧ B ≤ s ∧ B ≤ m ∧ B ≤ c
theorem FS.low {B s c m : Nat} {zs : List Int} {ch0 : Option Addr} {ix0 : Value} {w : World} (h : FS B s c m zs ch0 ix0 w) : B ≤ w.heap.size := by
  obtain ⟨F, mo, oc, ixc, Fc, h1, h2, h3, h4, h5, h6, h7, h8, h9, _⟩ := h
  exact Nat.le_trans h9 (Nat.le_of_lt h1.lt)
theorem FS.on {B s c m : Nat} {zs : List Int} {ch0 : Option Addr} {ix0 : Value} {w u : World} (h : FS B s c m zs ch0 ix0 w) (hf : Fr w.heap.size w u) : FS B s c m zs ch0 ix0 u := by
  have hl := h.low
  obtain ⟨F, mo, oc, ixc, Fc, h1, h2, h3, h4, h5⟩ := h
  exact ⟨F, mo, oc, ixc, Fc, (hf.bel.block s h1.lt).trans h1, h2.heap (hf.bel.block m h2.lt), h3.carry hf, h4.fr (hf.le hl) (hf.bel.block c h4.sd.lt) (fun q hq => hf.bel.block q (h4.mlt hq)), h5⟩
theorem restT (B : Nat) (kt : ByteArray → Option Ent) : RestOk B kt (fun _ _ _ => True) := ⟨fun _ _ _ _ _ _ _ => trivial, fun _ _ _ _ _ _ _ => trivial, fun _ _ _ _ _ _ => trivial, fun _ _ _ _ _ _ => trivial⟩
theorem feS {B s cb c m : Nat} {zs : List Int} {ch0 : Option Addr} {ix0 ixv : Value} {w : World} (x : ByteArray) (hz : zs.length ≤ 90000) (hIx : Ix w ixv zs true) (h : FS B s c m zs ch0 ix0 w) :
    Calls Tryz.prog 43 #[.pointer (pt s), .pointer (pt cb), .pointer none, .pointer (pt c), ixv, .string x] w fun e w' => Fr B w w' ∧ FS B s c m zs (pt c) ixv w' ∧ ((ptab zs x = none ∧ e = .returned (.pointer none)) ∨ ∃ p td E, ptab zs x = some E ∧ e = .returned (.pointer (pt p)) ∧ IsSF w' p E.t E.k td E.i E.f E.zs) := by
  obtain ⟨F, mo, oc, ixc, Fc, h1, h2, h3, h4, h5, h6, h7, h8, h9, h10, h11⟩ := h
  refine (fe_kid (cb := cb) leaf96 (restT B _) ((5 : Nat) : Int) 0 (-1) ch0 ix0 ixv zs F x mo oc ixc Fc w h9 h10 h11 hz (ptab_or zs F h8) h1 h2 h3 hIx h4 h5 h6 h7 trivial).mono ?_
  rintro e w' ⟨r, F', mo', oc', ixc', Fc', rfl, hf, k1, k2, k3, k4, k5, k6, k7, _, hor⟩
  refine ⟨hf, ⟨F', mo', oc', ixc', Fc', k1, k2, k3, k5, k6, h6, k7, k4 _ h8, h9, h10, h11⟩, ?_⟩
  rcases hor with ⟨rfl, hn, rfl⟩ | ⟨p, rfl, hp⟩
  · refine Or.inl ⟨?_, rfl⟩
    cases hE : ptab zs x with
    | none => rfl
    | some E =>
      exfalso
      by_cases hx : ((⟨#[65]⟩ : ByteArray) == x) = true
      · obtain rfl := (ba_iff _ _).1 hx
        exact k4 _ h8 hn
      · have h2 := ptab_no zs x (by rw [hE]; exact fun h => by cases h) hx
        cases hE2 : tab96 x with
        | none => exact h2 hE2
        | some E2 =>
          obtain ⟨j, j1, j2, j3, rfl⟩ := leaf96.rng x E2 hE2
          exact k6 _ (k5.has j j1 j2 j3) hn
  · obtain ⟨p', td, E, he, hE, hI⟩ := k3 x _ hp
    obtain rfl : p = p' := by simpa using he
    exact Or.inr ⟨p, td, E, hE, rfl, hI⟩
theorem zfe {B s cb c m : Nat} {zs : List Int} {ch0 : Option Addr} {ix0 ixv : Value} {w : World} (x : ByteArray) (hz : zs.length ≤ 90000) (hIx : Ix w ixv zs true) (h : FS B s c m zs ch0 ix0 w) :
    Calls Tryz.prog 26 #[.pointer (pt cb), .pointer (pt s), .pointer (pt c), ixv, .string x] w fun e w' => Fr B w w' ∧ FS B s c m zs (pt c) ixv w' ∧ ((ptab zs x = none ∧ e = .returned (.pointer none)) ∨ ∃ p td E, ptab zs x = some E ∧ e = .returned (.pointer (pt p)) ∧ IsSF w' p E.t E.k td E.i E.f E.zs) := by
  have HX := Lib.hid (And.intro hz (And.intro hIx h))
  clear hz hIx h
  go_enter Tryz.func26, Tryz.ntmps26
  go_wp2_with (go_at_call 43; ((with_reducible refine (feS x HX.out.1 HX.out.2.1 HX.out.2.2).mono ?_); rintro e w1 ⟨hf, hS, hor⟩; have HS := Lib.hid (And.intro hf hS); clear hf hS; rcases hor with ⟨hE, rfl⟩ | ⟨p, td, E, hE, rfl, hI⟩ <;> first | (have HI := Lib.hid (And.intro hE hI); clear hE hI) | (have HE := Lib.hid hE; clear hE)))
  · go_ret
    exact ⟨HS.out.1, HS.out.2, Or.inl ⟨HE.out, rfl⟩⟩
  · go_ret
    exact ⟨HS.out.1, HS.out.2, Or.inr ⟨p, td, E, HI.out.1, rfl, HI.out.2⟩⟩
theorem zfin {B s c m : Nat} {zs : List Int} {ch0 : Option Addr} {ix0 : Value} {w : World} (h : FS B s c m zs ch0 ix0 w) : Calls Tryz.prog 31 #[.pointer (pt c)] w fun e w' => e = .returned (.bool false) ∧ ∃ k, w' = w.drewN k := by
  obtain ⟨F, mo, oc, ixc, Fc, h1, h2, h3, h4, _⟩ := h
  have H := Lib.hid (fin_leaf h4.sd)
  clear h1 h2 h3 h4
  go_enter Tryz.func31, Tryz.ntmps31
  go_wp2_with (go_at_call 45; ((with_reducible refine H.out.mono ?_); rintro e w' ⟨rfl, k, rfl⟩))
  go_ret
  exact ⟨rfl, k, rfl⟩
theorem zcc {B s c m : Nat} {zs : List Int} {ch0 : Option Addr} {ix0 : Value} {w : World} (h : FS B s c m zs ch0 ix0 w) : Calls Tryz.prog 32 #[.pointer (pt s)] w fun e w' => e = .returned (.pointer ch0) ∧ w = w' := by
  obtain ⟨F, mo, oc, ixc, Fc, h1, _⟩ := h
  have hp := h1.plain
  have hs := h1.cells
  clear h1
  go_enter Tryz.func32, Tryz.ntmps32
  go_wp2
  go_ret
  exact ⟨rfl, rfl⟩
end Go.Proofs.YtdpgbmmgeooahaaGreatDoorBesrefl
