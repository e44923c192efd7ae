/-
  IsAnyOf over a list of known checks, and what the laws on it stand on. No condition.
-/
import Derived.Test.YtnjjndnnpkejlaaGreatFmtKit
import Derived.Laws.BitsAllLaws
import Derived.IntWalk
import Derived.OpenShut
import Derived.Deep.RegionWith
import Derived.RegionTactic
import Derived.ChangeAlike
import Derived.Deep.QuietTactic
import Derived.BigQuiet
import Derived.WalkSmall
import Derived.Outline
import Derived.Lib.Hide
import Derived.Deep.LoopGhost
import Derived.Deep.Cut
import Derived.Deep.CutRange
import Derived.Laws.Cells
import Derived.Laws.MakeOwn
namespace Go.Proofs.YtnjjndnnpkejlaaGreatFmt
open Go.RowKit
set_option maxRecDepth 100000
set_option maxHeartbeats 1000000
set_option linter.unusedVariables false
theorem w64 (n : Int) (h : -9223372036854775808 ≤ n ∧ n ≤ 9223372036854775807) : wrap64 n = n := by unfold wrap64; omega
/-- the slice with base o holds the n integers zs -/
def Rd (w : World) (o : Option Addr) (n : Nat) (zs : List Int) : Prop := zs.length = n ∧ ∀ i, i < n → ∃ a, o = some a ∧ w.cell? (a.add i) = some (.int .i64 (zs.getD i 0))
theorem cell_bel {w v : World} (h : Below w.heap.size w v) {p : Addr} {x : Value} (hc : w.cell? p = some x) : v.cell? p = some x := by
  have hlt : p.block < w.heap.size := by
    unfold World.cell? at hc
    cases hb : w.heap[p.block]? with
    | none => rw [hb] at hc; simp at hc
    | some _ => exact (Array.getElem?_eq_some_iff.1 hb).1
  unfold World.cell? at hc ⊢
  rw [h.block _ hlt]
  exact hc
theorem Rd.bel {w v : World} {o : Option Addr} {n : Nat} {zs : List Int} (h : Rd w o n zs) (b : Below w.heap.size w v) : Rd v o n zs :=
  ⟨h.1, fun i hi => by
    obtain ⟨a, ha, hc⟩ := h.2 i hi
    exact ⟨a, ha, cell_bel b hc⟩⟩
/-- what a check says of a nature without a type -/
def hold (k : Int) (ii ff : Bool) (c : Int) : Bool :=
  if c = 1 then k == 1 else if c = 2 then k == 24 else if c = 3 then ii else if c = 4 then ii || ff else if c = 5 then k == 21 else if c = 6 then (k == 23 || k == 17) else false
def okc (zs : List Int) : Prop := ∀ i, i < zs.length → 1 ≤ zs.getD i 0 ∧ zs.getD i 0 ≤ 8
theorem known (o : Option Addr) (n c : Nat) (zs : List Int) (hn : n ≤ 10000000) (w : World) (h : Rd w o n zs) : Calls Tryz.prog 11 #[.slice o n c] w fun e w' => w = w' ∧ ((e = .returned (.bool true) ∧ okc zs) ∨ e = .returned (.bool false)) := by
  have HR := Lib.hid h
  have HN := Lib.hid hn
  clear h hn
  go_enter Tryz.func11, Tryz.ntmps11
  go_wp2
  go_loopg [3] n (fun k i wr => ∃ j : Nat, k = n - j ∧ j ≤ n ∧ i = .int .i64 j ∧ wr = w ∧ ∀ q, q < j → 1 ≤ zs.getD q 0 ∧ zs.getD q 0 ≤ 8)
  case atStart => exact ⟨0, by simp, Nat.zero_le _, rfl, rfl, fun q hq => absurd hq (Nat.not_lt_zero _)⟩
  case round =>
    obtain ⟨j, hg, hj, rfl, rfl, hq⟩ := hrel
    have HG := Lib.hid hg
    have HQ := Lib.hid hq
    clear hg hq
    by_cases c1 : j < n
    · obtain ⟨a, ha, hc⟩ := HR.out.2 j c1
      subst ha
      obtain ⟨z, hz⟩ : ∃ z, zs.getD j 0 = z := ⟨_, rfl⟩
      rw [hz] at hc
      have HZ := Lib.hid hz
      clear hz
      go_wp2
      all_goals first
      | (go_ret
         exact ⟨rfl, Or.inr rfl⟩)
      | (rename_i g1 g2
         go_roundg (n - (j + 1))
         case measure => (have := HG.out; omega)
         case rel => exact ⟨j + 1, rfl, c1, by simp; rw [w64 _ (by have := HN.out; omega)], rfl, fun q hq => by
           rcases Nat.lt_succ_iff_lt_or_eq.1 hq with h | rfl
           · exact HQ.out q h
           · rw [HZ.out]; omega⟩)
    · go_wp2
      go_ret
      exact ⟨rfl, Or.inl ⟨rfl, fun i hi => HQ.out i (by have := HR.out.1; omega)⟩⟩
/-- the cells of the checks behind j rounds -/
def ch (zs : List Int) (n j : Nat) : Array Value := Array.ofFn (n := n) fun q => .int .i64 (if q.val < j then zs.getD q.val 0 else 0)
@[go_sem] theorem ch_size (zs : List Int) (n j : Nat) : (ch zs n j).size = n := by simp [ch]
theorem ch_get (zs : List Int) (n j q : Nat) (h : q < n) : (ch zs n j)[q]? = some (.int .i64 (if q < j then zs.getD q 0 else 0)) := by simp [ch, h]
theorem ch_set (zs : List Int) (n j : Nat) (h : j < n) : (ch zs n j).setIfInBounds j (.int .i64 (zs.getD j 0)) = ch zs n (j + 1) := by
  apply Array.ext_getElem?
  intro q
  rw [Array.getElem?_setIfInBounds]
  by_cases hj : q < n
  · rw [ch_get _ _ _ _ hj, ch_get _ _ _ _ hj, ch_size]
    by_cases e : j = q
    · subst e; simp [h]
    · rw [if_neg e]
      by_cases h2 : q < j
      · simp only [h2, show q < j + 1 by omega, if_true]
      · simp only [h2, show ¬ q < j + 1 by omega, if_false]
  · rw [if_neg (by omega), Array.getElem?_eq_none (by rw [ch_size]; omega), Array.getElem?_eq_none (by rw [ch_size]; omega)]
theorem mkc (zs : List Int) (n : Nat) (h : n ≤ 10000000) (w : World) : (Instr.makeSlice 54 (.int .i64 n) (.int .i64 n)).run Tryz.prog w = .ok (.slice (some ⟨w.heap.size, 0, none⟩) n n) (w.alloc (.cells (ch zs n 0) 48)) := by
  obtain ⟨i, hi, hz⟩ := Option.map_eq_some_iff.1 (by kernel_rfl : (Tryz.prog.info? 48).map (fun i => (i.zero, i.size, i.bytes)) = some (some (.int .i64 0), 1, 8))
  simp only [Prod.mk.injEq] at hz
  obtain ⟨h1, h2, h3⟩ := hz
  rw [run_makeSlice w 54 48 i (.int .i64 0) Tryz.underlying54 hi h1 .i64 .i64 n n (by omega) (by omega) (by rw [h2]; omega) (by rw [h3]; omega) (by omega)]
  rw [h2]
  have e : madeCells (Value.int .i64 0).cells ((n : Int).toNat * 1) = ch zs n 0 := by
    apply Array.ext_getElem?
    intro j
    by_cases hj : j < n
    · rw [ch_get _ _ _ _ hj]
      simp [madeCells, Value.cells, hj, Nat.mod_one]
    · rw [Array.getElem?_eq_none (by simp [madeCells]; omega), Array.getElem?_eq_none (by rw [ch_size]; omega)]
  rw [e]
  rfl
theorem toChecks (o : Option Addr) (n c : Nat) (zs : List Int) (hn : n ≤ 10000000) (w : World) (h : Rd w o n zs) : Calls Tryz.prog 13 #[.slice o n c] w fun e w' => ∃ sb, e = .returned (.slice (some ⟨sb, 0, none⟩) n n) ∧ Below w.heap.size w w' ∧ At w' sb (ch zs n n) ∧ w.heap.size ≤ sb := by
  have HR := Lib.hid h
  have HN := Lib.hid hn
  have hm := mkc zs n hn
  clear h hn
  go_enter Tryz.func13, Tryz.ntmps13
  go_wp2
  go_loopg [4] n (fun k i wr => ∃ j : Nat, k = n - j ∧ j ≤ n ∧ i = .int .i64 j ∧ At wr w.heap.size (ch zs n j) ∧ Below w.heap.size w wr)
  case atStart => exact ⟨0, by simp, Nat.zero_le _, rfl, At.new _ _ _ _ rfl, bal (Below.refl _ _) _⟩
  case round =>
    clear hm
    obtain ⟨j, hg, hj, rfl, q1, q2⟩ := hrel
    have p1 := q1.plain
    have p2 := q1.cells
    have p3 := q1.lt
    have HQ := Lib.hid q1
    have HF := Lib.hid q2
    have HG := Lib.hid hg
    by_cases c1 : j < n
    · obtain ⟨a, ha, hc0⟩ := HR.out.2 j c1
      have hc := cell_bel q2 hc0
      subst ha
      have hx := ch_get zs n j j c1
      clear hg q1 q2 hc0
      go_wp2
      go_roundg (n - (j + 1))
      case measure => (have := HG.out; omega)
      case rel => exact ⟨j + 1, rfl, c1, by simp; rw [w64 _ (by have := HN.out; omega)], (by have h := HQ.out.set j (.int .i64 (zs.getD j 0)); rw [ch_set zs n j c1] at h; exact h), bsetNew HF.out (Nat.le_refl _) _ _⟩
    · have e : j = n := by omega
      subst e
      clear hg q1 q2
      go_wp2
      go_ret
      exact ⟨_, rfl, HF.out, HQ.out, Nat.le_refl _⟩
theorem tt  (w : World)  : Calls Tryz.prog 48 #[] w fun e w' => e = .returned (Value.iface 78 (Value.pointer (some { block := 0, off := 75 }))) ∧ (w) = w' := by
  go_enter Tryz.func48, Tryz.ntmps48
  go_wp2
  exact bodyPost_ret (v := (Value.iface 78 (Value.pointer (some { block := 0, off := 75 })))) (by simp [results, Tryz.results48, go_sem]) rfl ⟨rfl, rfl⟩
theorem dt  (w : World)  : Calls Tryz.prog 49 #[] w fun e w' => e = .returned (Value.iface 78 (Value.pointer (some { block := 0, off := 76 }))) ∧ (w) = w' := by
  go_enter Tryz.func49, Tryz.ntmps49
  go_wp2
  exact bodyPost_ret (v := (Value.iface 78 (Value.pointer (some { block := 0, off := 76 })))) (by simp [results, Tryz.results49, go_sem]) rfl ⟨rfl, rfl⟩
@[go_sem] theorem nil_eq (b : Nat) (w : World) : (binOp .eql 37 .nilIface (.iface 78 (.pointer (some ⟨0, b, none⟩)))).run Tryz.prog w = .ok (.bool false) w := by kernel_rfl
theorem isT (b : Nat) (t : Nat)  (w : World) (hb : b < w.heap.size) (h : w.cell? ⟨b, 0, none⟩ = some (.iface 78 (.pointer (some ⟨0, t, none⟩)))) : Calls Tryz.prog 44 #[.pointer (some ⟨b, 0, none⟩)] w fun e w' => e = .returned (Value.bool (t == 75)) ∧ (w.drew) = w' := by
  go_enter Tryz.func44, Tryz.ntmps44
  go_wp2_with fail
  go_region_with (go_at_call 48; ((with_reducible refine (tt _).mono ?_); rintro e w' ⟨rfl, rfl⟩))
  all_goals go_wp2
  all_goals exact bodyPost_ret (v := (Value.bool (t == 75))) (by simp [results, Tryz.results44, go_sem]) rfl ⟨rfl, rfl⟩
theorem isT0 (b : Nat)  (w : World) (hb : b < w.heap.size) (h : w.cell? ⟨b, 0, none⟩ = some (.nilIface)) : Calls Tryz.prog 44 #[.pointer (some ⟨b, 0, none⟩)] w fun e w' => e = .returned (Value.bool false) ∧ (w.drew) = w' := by
  go_enter Tryz.func44, Tryz.ntmps44
  go_wp2_with fail
  go_region_with (go_at_call 48; ((with_reducible refine (tt _).mono ?_); rintro e w' ⟨rfl, rfl⟩))
  all_goals go_wp2
  all_goals exact bodyPost_ret (v := (Value.bool false)) (by simp [results, Tryz.results44, go_sem]) rfl ⟨rfl, rfl⟩
theorem isD (b : Nat) (t : Nat)  (w : World) (hb : b < w.heap.size) (h : w.cell? ⟨b, 0, none⟩ = some (.iface 78 (.pointer (some ⟨0, t, none⟩)))) : Calls Tryz.prog 45 #[.pointer (some ⟨b, 0, none⟩)] w fun e w' => e = .returned (Value.bool (t == 76)) ∧ (w.drew) = w' := by
  go_enter Tryz.func45, Tryz.ntmps45
  go_wp2_with fail
  go_region_with (go_at_call 49; ((with_reducible refine (dt _).mono ?_); rintro e w' ⟨rfl, rfl⟩))
  all_goals go_wp2
  all_goals exact bodyPost_ret (v := (Value.bool (t == 76))) (by simp [results, Tryz.results45, go_sem]) rfl ⟨rfl, rfl⟩
theorem isD0 (b : Nat)  (w : World) (hb : b < w.heap.size) (h : w.cell? ⟨b, 0, none⟩ = some (.nilIface)) : Calls Tryz.prog 45 #[.pointer (some ⟨b, 0, none⟩)] w fun e w' => e = .returned (Value.bool false) ∧ (w.drew) = w' := by
  go_enter Tryz.func45, Tryz.ntmps45
  go_wp2_with fail
  go_region_with (go_at_call 49; ((with_reducible refine (dt _).mono ?_); rintro e w' ⟨rfl, rfl⟩))
  all_goals go_wp2
  all_goals exact bodyPost_ret (v := (Value.bool false)) (by simp [results, Tryz.results45, go_sem]) rfl ⟨rfl, rfl⟩
abbrev natk (k : Int) (ii ff : Bool) : Array Value := #[.nilIface, .int .u64 k, .pointer none, .pointer none, .bool false, .bool false, .bool false, .bool ii, .bool ff]
theorem take_any (zs : List Int) (p : Int → Bool) (j : Nat) (h : (zs.take j).any p = true) : zs.any p = true := by
  rw [List.any_eq_true] at h ⊢
  obtain ⟨x, hx, hp⟩ := h
  exact ⟨x, List.mem_of_mem_take hx, hp⟩
theorem take_succ_any (zs : List Int) (p : Int → Bool) (j : Nat) (h : j < zs.length) (hf : (zs.take j).any p = false) : (zs.take (j + 1)).any p = p (zs.getD j 0) := by
  rw [List.take_succ_eq_append_getElem h, List.any_append, hf]
  simp [List.getD, h]
theorem any (k : Int) (ii ff : Bool) (nb sb n : Nat) (zs : List Int) (hn : n ≤ 10000000) (hl : zs.length = n) (ho : okc zs) (w : World) (hN : At w nb (natk k ii ff)) (hS : At w sb (ch zs n n)) : Calls Tryz.prog 9 #[.pointer (some ⟨nb, 0, none⟩), .slice (some ⟨sb, 0, none⟩) n n] w fun e w' => e = .returned (.bool (zs.any (hold k ii ff))) ∧ Below w.heap.size w w' := by
  have HN := Lib.hid hn
  have HL := Lib.hid hl
  have HO := Lib.hid ho
  have HA := Lib.hid hN
  have HS := Lib.hid hS
  clear hn hl ho hN hS
  go_enter Tryz.func9, Tryz.ntmps9
  go_wp2
  go_loopg [5, 6] n (fun g r i wr => ∃ j : Nat, g = n - j ∧ j ≤ n ∧ i = .int .i64 j ∧ r = .bool ((zs.take j).any (hold k ii ff)) ∧ ((zs.take j).any (hold k ii ff) = true → 0 < j) ∧ Below w.heap.size w wr)
  case atStart => exact ⟨0, by simp, Nat.zero_le _, rfl, by simp, by simp, by repeat (first | with_reducible assumption | with_reducible exact Below.refl _ _ | with_reducible refine bal ?_ _ | with_reducible refine Below.drew ?_ | with_reducible refine bdn ?_ _)⟩
  case round =>
    obtain ⟨j, hg, hj, rfl, rfl, hz, q1⟩ := hrel
    have hA := HA.out.bel q1
    have hS := HS.out.bel q1
    have ap := hA.plain
    have ac := hA.cells
    have a0 := hA.lt
    have HC := Lib.hid (show wr.cell? ⟨nb, 0, none⟩ = some .nilIface by rw [cell_plain _ _ _ ap, ac]; rfl)
    obtain ⟨a1, a2, a3, a4⟩ := szs a0
    have sp := hS.plain
    have sc := hS.cells
    have s0 := hS.lt
    have HF := Lib.hid q1
    have HG := Lib.hid hg
    clear hA hS hg hz q1
    cases hr : (zs.take j).any (hold k ii ff) with
    | true =>
      have ht := take_any zs _ j hr
      by_cases c1 : j < n
      all_goals
        go_wp2
        go_ret
        exact ⟨by rw [ht]; rfl, HF.out⟩
    | false =>
      by_cases c1 : j < n
      · have hx := ch_get zs n n j c1
        rw [if_pos c1] at hx
        obtain ⟨C, hC⟩ : ∃ C, ch zs n n = C := ⟨_, rfl⟩
        rw [hC] at sc hx
        clear hC
        obtain ⟨z1, z2⟩ := HO.out j (by have := HL.out; omega)
        have hs := take_succ_any zs (hold k ii ff) j (by have := HL.out; omega) hr
        have HS2 := Lib.hid hs
        have hc : zs.getD j 0 = 1 ∨ zs.getD j 0 = 2 ∨ zs.getD j 0 = 3 ∨ zs.getD j 0 = 4 ∨ zs.getD j 0 = 5 ∨ zs.getD j 0 = 6 ∨ zs.getD j 0 = 7 ∨ zs.getD j 0 = 8 := by omega
        generalize hzj : zs.getD j 0 = z at *
        clear hs z1 z2 hzj
        rcases hc with rfl | rfl | rfl | rfl | rfl | rfl | rfl | rfl
        all_goals
          go_wp2_with (first | (go_at_call 40; go_in) | (go_at_call 41; go_in) | (go_at_call 8; go_in) | (go_at_call 42; go_in) | (go_at_call 43; go_in) | (go_at_call 44; ((with_reducible refine (isT0 _ _ a0 HC.out).mono ?_); rintro e w' ⟨rfl, rfl⟩)) | (go_at_call 45; ((with_reducible refine (isD0 _ _ a0 HC.out).mono ?_); rintro e w' ⟨rfl, rfl⟩)))
        all_goals
          go_roundg (n - (j + 1))
        all_goals first
        | (show _ < _; have := HG.out; omega)
        | exact ⟨j + 1, rfl, c1, by simp; rw [w64 _ (by have := HN.out; omega)], by rw [HS2.out]; (first | rfl | (simp [hold, *]; done) | (simp_all [hold]; done)), fun _ => Nat.succ_pos _, by have h := HF.out; repeat (first | with_reducible assumption | with_reducible exact Below.refl _ _ | with_reducible refine bal ?_ _ | with_reducible refine Below.drew ?_ | with_reducible refine bdn ?_ _)⟩
      · have e : j = n := by omega
        subst e
        have ht : zs.any (hold k ii ff) = false := by rw [← hr, List.take_of_length_le (by have := HL.out; omega)]
        go_wp2
        go_ret
        exact ⟨by rw [ht]; rfl, HF.out⟩
/-- the bits of the checks that hold -/
def msk (k : Int) (ii ff : Bool) : Int := (if k = 1 then 2 else 0) + (if k = 24 then 4 else 0) + (if ii then 8 else 0) + (if ii || ff then 16 else 0) + (if k = 21 then 32 else 0) + (if k = 17 ∨ k = 23 then 64 else 0)
theorem hmask (k : Int) (ii ff : Bool) (w : World) : Calls Tryz.prog 15 #[.int .u64 k, .bool ii, .bool ff] w fun e w' => e = .returned (.int .u64 (msk k ii ff)) ∧ w = w' := by
  have hk : k = 1 ∨ k = 24 ∨ k = 21 ∨ k = 17 ∨ k = 23 ∨ ((k == 1) = false ∧ (k == 24) = false ∧ (k == 21) = false ∧ (k == 17) = false ∧ (k == 23) = false) := by simp; omega
  rcases hk with rfl | rfl | rfl | rfl | rfl | ⟨h1, h2, h3, h4, h5⟩ <;> cases ii <;> cases ff
  all_goals
    go_enter Tryz.func15, Tryz.ntmps15
    go_wp2
    go_ret
    first
    | exact ⟨rfl, rfl⟩
    | (refine ⟨?_, rfl⟩
       simp at h1 h2 h3 h4 h5
       simp [msk, h1, h2, h3, h4, h5, go_sem]
       try rfl)
theorem reach (k : Int) (ii ff : Bool) (w : World) : Calls Tryz.prog 12 #[.int .u64 k, .bool ii, .bool ff] w fun e w' => (e = .returned (.bool true) ∨ e = .returned (.bool false)) ∧ w = w' := by
  go_enter Tryz.func12, Tryz.ntmps12
  go_wp2
  all_goals
    go_ret
    first | exact ⟨Or.inl rfl, rfl⟩ | exact ⟨Or.inr rfl, rfl⟩
def sn (zs : List Int) : Nat := zs.foldl (fun a z => a ||| 2 ^ z.toNat) 0
theorem fold_and (M : Nat) : ∀ (l : List Int) (a : Nat), ((l.foldl (fun a z => a ||| 2 ^ z.toNat) a) &&& M == 0) = ((a &&& M == 0) && l.all (fun z => 2 ^ z.toNat &&& M == 0))
  | [], a => by simp
  | z :: l, a => by
    rw [List.foldl_cons, fold_and M l, List.all_cons, ← Bool.and_assoc]
    congr 1
    rw [Nat.and_or_distrib_right]
    rw [Bool.eq_iff_iff]
    simp [Nat.or_eq_zero_iff]
theorem hold_bit (k : Int) (ii ff : Bool) (c : Int) (h : 1 ≤ c ∧ c ≤ 8) : (2 ^ c.toNat &&& (msk k ii ff).toNat == 0) = !hold k ii ff c := by
  have hc : c = 1 ∨ c = 2 ∨ c = 3 ∨ c = 4 ∨ c = 5 ∨ c = 6 ∨ c = 7 ∨ c = 8 := by omega
  have hk : k = 1 ∨ k = 24 ∨ k = 21 ∨ k = 17 ∨ k = 23 ∨ (k ≠ 1 ∧ k ≠ 24 ∧ k ≠ 21 ∧ k ≠ 17 ∧ k ≠ 23) := by omega
  rcases hk with rfl | rfl | rfl | rfl | rfl | ⟨h1, h2, h3, h4, h5⟩
  case inr.inr.inr.inr.inr =>
    have hm : msk k ii ff = msk 0 ii ff := by simp [msk, h1, h2, h3, h4, h5]
    have hh : hold k ii ff c = hold 0 ii ff c := by
      have e1 : (k == 1) = false := by simp [h1]
      have e2 : (k == 24) = false := by simp [h2]
      have e3 : (k == 21) = false := by simp [h3]
      have e4 : (k == 17) = false := by simp [h4]
      have e5 : (k == 23) = false := by simp [h5]
      unfold hold
      rw [e1, e2, e3, e4, e5]
      rfl
    rw [hm, hh]
    rcases hc with rfl | rfl | rfl | rfl | rfl | rfl | rfl | rfl <;> cases ii <;> cases ff <;> decide
  all_goals rcases hc with rfl | rfl | rfl | rfl | rfl | rfl | rfl | rfl <;> cases ii <;> cases ff <;> decide
theorem all_any (k : Int) (ii ff : Bool) : ∀ zs : List Int, (∀ z ∈ zs, 1 ≤ z ∧ z ≤ 8) → (zs.all fun z => 2 ^ z.toNat &&& (msk k ii ff).toNat == 0) = !zs.any (hold k ii ff)
  | [], _ => rfl
  | z :: zs, h => by
    rw [List.all_cons, List.any_cons, all_any k ii ff zs (fun y hy => h y (List.mem_cons_of_mem _ hy)), hold_bit k ii ff z (h z (List.mem_cons_self ..)), Bool.not_or]
theorem seen_law (k : Int) (ii ff : Bool) (zs : List Int) (h : okc zs) : (sn zs &&& (msk k ii ff).toNat == 0) = !zs.any (hold k ii ff) := by
  unfold sn
  rw [fold_and]
  simp only [Nat.zero_and, beq_self_eq_true, Bool.true_and]
  have hz : ∀ z ∈ zs, 1 ≤ z ∧ z ≤ 8 := by
    intro z hz
    obtain ⟨i, hi, rfl⟩ := List.mem_iff_getElem.1 hz
    have := h i hi
    rwa [List.getD_eq_getElem?_getD, List.getElem?_eq_getElem hi] at this
  exact all_any k ii ff zs hz
theorem sn_take (zs : List Int) (j : Nat) (h : j < zs.length) : sn (zs.take (j + 1)) = sn (zs.take j) ||| 2 ^ (zs.getD j 0).toNat := by
  unfold sn
  rw [List.take_succ_eq_append_getElem h, List.foldl_append]
  simp [List.getD, h]
theorem fold_lt : ∀ (l : List Int) (a : Nat), a < 512 → (∀ z ∈ l, 1 ≤ z ∧ z ≤ 8) → l.foldl (fun a z => a ||| 2 ^ z.toNat) a < 512
  | [], a, h, _ => h
  | z :: l, a, h, hz => by
    rw [List.foldl_cons]
    refine fold_lt l _ ?_ (fun y hy => hz y (List.mem_cons_of_mem _ hy))
    have h1 := hz z (List.mem_cons_self ..)
    refine Nat.or_lt_two_pow (n := 9) h ?_
    exact Nat.pow_lt_pow_right (by decide) (by omega)
theorem sn_le (zs : List Int) (h : okc zs) (j : Nat) : sn (zs.take j) < 512 := by
  refine fold_lt _ _ (by decide) (fun z hz => ?_)
  obtain ⟨i, hi, rfl⟩ := List.mem_iff_getElem.1 (List.mem_of_mem_take hz)
  have := h i hi
  rwa [List.getD_eq_getElem?_getD, List.getElem?_eq_getElem hi] at this
theorem msk_le (k : Int) (ii ff : Bool) : 0 ≤ msk k ii ff ∧ msk k ii ff < 128 := by
  unfold msk
  cases ii <;> cases ff <;> simp <;> (repeat' split) <;> omega
theorem fin_law (k : Int) (ii ff : Bool) (zs : List Int) (ho : okc zs) : (zs.any (hold k ii ff) == (bits .and .u64 ((sn zs : Nat) : Int) (msk k ii ff) != 0)) = true := by
  have h1 := seen_law k ii ff zs ho
  have h2 := sn_le zs ho zs.length
  rw [List.take_length] at h2
  obtain ⟨h3, h4⟩ := msk_le k ii ff
  obtain ⟨M, hM⟩ : ∃ M : Nat, msk k ii ff = (M : Int) := ⟨_, (Int.toNat_of_nonneg h3).symm⟩
  rw [hM, Int.toNat_natCast] at h1
  rw [hM] at h4 ⊢
  rw [u64_and_nat _ _ (by omega) (by omega)]
  have h5 : (((sn zs &&& M : Nat) : Int) != 0) = !(sn zs &&& M == 0) := by
    cases hb : (sn zs &&& M == 0) with
    | true => rw [eq_of_beq hb]; rfl
    | false =>
      have : sn zs &&& M ≠ 0 := by simpa using hb
      simp
      exact this
  rw [h5, h1]
  simp
theorem nat0 (k : Int) (ii ff : Bool) (w : World) : Calls Tryz.prog 14 #[.int .u64 k, .bool ii, .bool ff] w fun e w' => e = .returned (.agg (natk k ii ff)) ∧ w.alloc (.cells (natk k ii ff) 42) = w' := by
  go_enter Tryz.func14, Tryz.ntmps14
  go_wp2
  exact bodyPost_ret (v := .agg (natk k ii ff)) (by simp [results, Tryz.results14, go_sem]) rfl ⟨rfl, rfl⟩
theorem orx {b x : Nat} {y : Int} {t : Nat} (hb : b < 512) (h : t = b ||| 2 ^ x) (hx : x ≤ 8 := by decide) (hy : y = ((2 ^ x : Nat) : Int) := by decide) : Value.int .u64 (bits .or .u64 (b : Int) y) = Value.int .u64 (t : Int) := by
  subst hy
  have : 2 ^ x < 512 := Nat.lt_of_le_of_lt (Nat.pow_le_pow_right (by decide) hx) (by decide : 2 ^ 8 < 512)
  rw [u64_or_nat b (2 ^ x) (by omega) (by omega), h]
end Go.Proofs.YtnjjndnnpkejlaaGreatFmt
