/-
  Seat b4843a: the walk of 'LawS4843CSequence'.
-/
import Derived.Test.YbulkcvguInv
namespace Go.Proofs.Ybulkcvgu
open Go.RowKit
set_option linter.unusedVariables false

/-- The queue after the first k tasks. -/
def qTo (zs : List Int) : Nat → List Int
  | 0 => []
  | k + 1 => ins ((qTo zs k).countP (· < zs.getD k 0)) (zs.getD k 0) (qTo zs k)

theorem qTo_sorted (zs : List Int) (k : Nat) : (qTo zs k).Pairwise (· ≤ ·) := by
  induction k with
  | zero => simp [qTo]
  | succ k ih => exact ins_sorted ih

theorem qTo_length (zs : List Int) (k : Nat) : (qTo zs k).length = k := by
  induction k with
  | zero => rfl
  | succ k ih => rw [qTo, ins_length _ _ _ (count_le _ _), ih]

theorem qTo_perm (zs : List Int) (k : Nat) (hk : k ≤ zs.length) : (qTo zs k).Perm (zs.take k) := by
  induction k with
  | zero => simp [qTo]
  | succ k ih =>
    rw [qTo, List.take_succ_eq_append_getElem (by omega)]
    have e : zs.getD k 0 = zs[k] := by simp [List.getD, List.getElem?_eq_getElem (show k < zs.length by omega)]
    rw [e]
    exact (ins_perm _ _ _).trans ((List.Perm.cons _ (ih (by omega))).trans (List.perm_append_singleton _ _).symm)

theorem qTo_all (zs : List Int) : qTo zs zs.length = sorted zs :=
  eq_of_sorted (qTo_sorted zs _) (sorted_pairwise zs) (by have := qTo_perm zs zs.length (Nat.le_refl _); rw [List.take_length] at this; exact this.trans (sorted_perm zs).symm)

/-- Between two rounds. -/
def SeqRel (w wr : World) (p : Pl) (pr : Int) (zs : List Int) (hp : Bool) (k : Nat) : Prop :=
  ∃ v1 v2, Inv w wr p pr (sorted zs) (qTo zs k) v1 v2 ∧ (k = 0 → v1 = 0 ∧ v2 = 0) ∧ (0 < k → if hp then (v1 == 0) = false ∧ v2 = 0 else v1 = 0 ∧ (v2 == 0) = false)

theorem SeqRel.next {w wr : World} {lb ab g1 c1 x1 g2 c2 x2 eb ec : Nat} {pr : Int} {zs : List Int} {hp : Bool} {k : Nat} (h : SeqRel w wr ⟨lb, ab, 2, g1, c1, x1, g2, c2, x2, eb, ec, 1⟩ pr zs hp k) (hpr : if hp then 0 < pr else pr ≤ 0) (hk : k < zs.length) (hz : zs.length ≤ 1024) :
    Calls Yba.prog 8 #[.pointer (some ⟨lb, 0, none⟩), .int .i64 1, .int .i64 (zs.getD k 0)] wr fun e w' => e = .returned (.tuple #[]) ∧ SeqRel w w' ⟨lb, ab, 2, g1, c1, x1, g2, c2, x2, eb, ec, 1⟩ pr zs hp (k + 1) := by
  obtain ⟨v1, v2, hI, hb0, hb1⟩ := h
  by_cases h0 : k = 0
  · subst h0
    obtain ⟨rfl, rfl⟩ := hb0 rfl
    cases hp
    · refine (enqueue_inv_without hI (zs.getD 0 0) (show 1 < 2 by decide) (show 2 ≤ 4 by decide) hpr).mono ?_
      rintro e w' ⟨rfl, v, hv, hI'⟩
      exact ⟨rfl, _, _, hI', by omega, fun _ => ⟨rfl, hv⟩⟩
    · refine (enqueue_inv_with hI (zs.getD 0 0) (show 1 < 2 by decide) (show 2 ≤ 4 by decide) hpr).mono ?_
      rintro e w' ⟨rfl, v, hv, hI'⟩
      exact ⟨rfl, _, _, hI', by omega, fun _ => ⟨hv, rfl⟩⟩
  · have hl := qTo_length zs k
    refine (enqueue_inv_more hI (zs.getD k 0) (show 1 < 2 by decide) (show 2 ≤ 4 by decide) (qTo_sorted zs k) (by omega) (by omega)).mono ?_
    rintro e w' ⟨rfl, hI'⟩
    exact ⟨rfl, _, _, hI', by omega, fun _ => hb1 (by omega)⟩

set_option maxRecDepth 100000 in
set_option maxHeartbeats 1600000 in
theorem seq_with (b off cap : Nat) (zs : List Int) (w : World) (h0 : 0 < zs.length) (h1 : zs.length ≤ 1024) (hb : b < w.heap.size) (hc : ∀ j, j < zs.length → w.cell? ⟨b, off + j, none⟩ = some (.int .i64 (zs.getD j 0))) :
    Calls Yba.prog 4 #[.slice (some ⟨b, off, none⟩) zs.length cap, .bool true] w fun e w' => e = .returned (.bool true) ∧ Below w.heap.size w w' := by
  have hgt : ¬ (1024 < (zs.length : Int)) := by omega
  have h0' : (0 : Int) < (zs.length : Int) := by omega
  have hmk := mk22 zs.length zs.length (Nat.le_refl _) (by omega)
  have hsl : (sorted zs).length = zs.length := by simp [sorted]
  have HSL : Hid ((sorted zs).length = zs.length) := hsl
  have HC : Hid (∀ j, j < zs.length → w.cell? ⟨b, off + j, none⟩ = some (.int .i64 (zs.getD j 0))) := hc
  have HS : Hid (∀ j v, (ints zs)[j]? = some v → w.cell? ((⟨b, off, none⟩ : Addr).add j) = some v) := by
    intro j v hj
    have hjl : j < zs.length := by simpa [ints] using (List.getElem?_eq_some_iff.1 hj).1
    rw [Go.WideShapes.add_plain, hc j hjl]
    simpa [ints, List.getD, List.getElem?_eq_getElem hjl] using hj
  clear hc hsl
  obtain ⟨w1, hrun, hq1, hc1⟩ := copy_q (w := w.alloc (.cells (madeQ zs.length) 3)) w.heap.size zs.length (some ⟨b, off, none⟩) cap zs (madeQ zs.length) (heap_alloc_new w _) (madeQ_size _) (Nat.le_refl _) (by unfold maxLen; omega)
    (fun _ => ⟨_, rfl, fun j v hj => ((Chg.refl [] w).alloc _).cell (HS.out j v hj) (by simp)⟩)
  go_enter Yba.func4, Yba.ntmps4
  go_wp2_with fail
  refine (sort_q _ zs _ hq1 (by omega)).mono ?_
  rintro e w2 ⟨rfl, hq2, hc2⟩
  go_wp2_with fail
  refine (clive_any 2 w2 (by decide) (by decide)).mono ?_
  rintro e w3 ⟨lb, ab, g1, c1, x1, g2, c2, x2, rfl, hL, hO, hnd, hlo, hc3⟩
  have h02 : Chg [] w w2 := (((((Chg.refl [] w).alloc _).mono (l' := [w.heap.size]) (by simp)).trans hc1).trans hc2).mono (by simp)
  have I3 := inv_start (u := 1) (ec := zs.length) hL hO hnd hlo hc3 h02 (by decide) (es := sorted zs) (eb := w.heap.size) (by rw [HSL.out]; exact hq2) (Nat.le_refl _)
  have k7 : w3.cell? ⟨lb, 7, none⟩ = some (.slice (some ⟨ab, 0, none⟩) 2 2) := hL.orgs
  have k22 : w3.cell? ⟨ab, 22, none⟩ = some (.int .i64 0) := hO.procs 1 (by decide)
  have f22 : w3.frozen? ⟨ab, 22, none⟩ = false := hO.free _
  have I4 : Inv w (w3.setCell ⟨ab, 22, none⟩ (.int .i64 2)) ⟨lb, ab, 2, g1, c1, x1, g2, c2, x2, w.heap.size, zs.length, 1⟩ 2 (sorted zs) [] 0 0 := I3.setProcs 2
  have R0 : SeqRel w (w3.setCell ⟨ab, 22, none⟩ (.int .i64 2)) ⟨lb, ab, 2, g1, c1, x1, g2, c2, x2, w.heap.size, zs.length, 1⟩ 2 zs true 0 := ⟨0, 0, I4, fun _ => ⟨rfl, rfl⟩, fun h => by omega⟩
  have HR0 : Hid (SeqRel w (w3.setCell ⟨ab, 22, none⟩ (.int .i64 2)) ⟨lb, ab, 2, g1, c1, x1, g2, c2, x2, w.heap.size, zs.length, 1⟩ 2 zs true 0) := R0
  clear R0 I3 I4 hL hO hnd hlo hc3 h02 hq2 hc2 hq1 hc1 HS hmk hrun
  go_wp2
  go_loopw [7] (fun i wr => ∃ k : Nat, k ≤ zs.length ∧ i = .int .i64 k ∧ SeqRel w wr ⟨lb, ab, 2, g1, c1, x1, g2, c2, x2, w.heap.size, zs.length, 1⟩ 2 zs true k) (fun i _ => zs.length - (intOf i).toNat)
  case atStart => exact ⟨0, Nat.zero_le _, rfl, HR0.out⟩
  case round =>
    obtain ⟨k, hk, rfl, hR⟩ := hrel
    clear HR0
    by_cases hlt : k < zs.length
    · have hcx : wr.cell? ⟨b, off + k, none⟩ = some (.int .i64 (zs.getD k 0)) := by
        obtain ⟨_, _, hI, _⟩ := hR
        exact hI.chg.cell (HC.out k hlt) (by simp)
      have E := hR.next (by decide) hlt h1
      obtain ⟨y, hy⟩ : ∃ y, y = zs.getD k 0 := ⟨_, rfl⟩
      rw [← hy] at hcx E
      clear hy hR
      go_wp2_with fail
      refine E.mono ?_
      rintro e w5 ⟨rfl, hR5⟩
      go_wp2
      go_roundw
      case rel => exact ⟨k + 1, by omega, by go_num, hR5⟩
      case measure => simp [intOf]; omega
    · obtain rfl : k = zs.length := by omega
      obtain ⟨v1, v2, hI, _, hb1⟩ := hR
      obtain ⟨hv1, hv2⟩ : (v1 == 0) = false ∧ v2 = 0 := hb1 h0
      obtain ⟨a, c, q1, q2, q3⟩ := hI.queue
      rw [qTo_length] at q1 q2
      have k7 := hI.live.orgs
      have k23 : wr.cell? ⟨ab, 23, none⟩ = some (.slice a zs.length c) := q1
      have k1 : wr.cell? ⟨ab, 1, none⟩ = some (.slice none 0 0) := hI.others 0 (by simp) (by simp)
      have E1 := equal_q (.slice a zs.length c) (.slice (some ⟨w.heap.size, 0, none⟩) zs.length zs.length) (sorted zs) wr (by rw [← qTo_all]; exact q2) (by have := hI.exp; rw [HSL.out] at this; exact this) (by rw [HSL.out]; omega)
      have HI : Hid (Inv w wr ⟨lb, ab, 2, g1, c1, x1, g2, c2, x2, w.heap.size, zs.length, 1⟩ 2 (sorted zs) (qTo zs zs.length) v1 v2) := hI
      clear hI q1 q2 q3 hb1
      subst hv2
      go_wp2_with fail
      refine E1.mono ?_
      rintro e w5 ⟨rfl, q, hw5⟩
      have I5 := HI.out.drewN q
      rw [← hw5] at I5
      clear hw5 HI k7 k1 k23
      have k7 := I5.live.orgs
      have k1 : w5.cell? ⟨ab, 1, none⟩ = some (.slice none 0 0) := I5.others 0 (by simp) (by simp)
      have k10 := I5.live.wp
      have k11 := I5.live.wo
      have hlb : lb < w5.heap.size := World.block_lt_of_cell? w5 _ k7
      have Em1 := empty_any g1 c1 x1 v1 w5 I5.live.l1 I5.live.b1
      have Em2 := fun o => empty_any g2 c2 x2 0 _ (I5.alloc o).live.l2 (I5.alloc o).live.b2
      have HB := fun o o' => ((I5.alloc o).alloc o').below
      have HBB : Hid (∀ o o', Below w.heap.size w ((w5.alloc o).alloc o')) := HB
      clear I5 HB
      go_wp2_with fail
      refine Em1.mono ?_
      rintro e w6 ⟨rfl, rfl⟩
      go_wp2_with fail
      refine (Em2 _).mono ?_
      rintro e w7 ⟨rfl, rfl⟩
      go_wp2
      go_ret
      exact ⟨by simp, HBB.out _ _⟩

set_option maxRecDepth 100000 in
set_option maxHeartbeats 1600000 in
theorem seq_without (b off cap : Nat) (zs : List Int) (w : World) (h0 : 0 < zs.length) (h1 : zs.length ≤ 1024) (hb : b < w.heap.size) (hc : ∀ j, j < zs.length → w.cell? ⟨b, off + j, none⟩ = some (.int .i64 (zs.getD j 0))) :
    Calls Yba.prog 4 #[.slice (some ⟨b, off, none⟩) zs.length cap, .bool false] w fun e w' => e = .returned (.bool true) ∧ Below w.heap.size w w' := by
  have hgt : ¬ (1024 < (zs.length : Int)) := by omega
  have h0' : (0 : Int) < (zs.length : Int) := by omega
  have hmk := mk22 zs.length zs.length (Nat.le_refl _) (by omega)
  have hsl : (sorted zs).length = zs.length := by simp [sorted]
  have HSL : Hid ((sorted zs).length = zs.length) := hsl
  have HC : Hid (∀ j, j < zs.length → w.cell? ⟨b, off + j, none⟩ = some (.int .i64 (zs.getD j 0))) := hc
  have HS : Hid (∀ j v, (ints zs)[j]? = some v → w.cell? ((⟨b, off, none⟩ : Addr).add j) = some v) := by
    intro j v hj
    have hjl : j < zs.length := by simpa [ints] using (List.getElem?_eq_some_iff.1 hj).1
    rw [Go.WideShapes.add_plain, hc j hjl]
    simpa [ints, List.getD, List.getElem?_eq_getElem hjl] using hj
  clear hc hsl
  obtain ⟨w1, hrun, hq1, hc1⟩ := copy_q (w := w.alloc (.cells (madeQ zs.length) 3)) w.heap.size zs.length (some ⟨b, off, none⟩) cap zs (madeQ zs.length) (heap_alloc_new w _) (madeQ_size _) (Nat.le_refl _) (by unfold maxLen; omega)
    (fun _ => ⟨_, rfl, fun j v hj => ((Chg.refl [] w).alloc _).cell (HS.out j v hj) (by simp)⟩)
  go_enter Yba.func4, Yba.ntmps4
  go_wp2_with fail
  refine (sort_q _ zs _ hq1 (by omega)).mono ?_
  rintro e w2 ⟨rfl, hq2, hc2⟩
  go_wp2_with fail
  refine (clive_any 2 w2 (by decide) (by decide)).mono ?_
  rintro e w3 ⟨lb, ab, g1, c1, x1, g2, c2, x2, rfl, hL, hO, hnd, hlo, hc3⟩
  have h02 : Chg [] w w2 := (((((Chg.refl [] w).alloc _).mono (l' := [w.heap.size]) (by simp)).trans hc1).trans hc2).mono (by simp)
  have I3 := inv_start (u := 1) (ec := zs.length) hL hO hnd hlo hc3 h02 (by decide) (es := sorted zs) (eb := w.heap.size) (by rw [HSL.out]; exact hq2) (Nat.le_refl _)
  have R0 : SeqRel w w3 ⟨lb, ab, 2, g1, c1, x1, g2, c2, x2, w.heap.size, zs.length, 1⟩ 0 zs false 0 := ⟨0, 0, I3, fun _ => ⟨rfl, rfl⟩, fun h => by omega⟩
  have HR0 : Hid (SeqRel w w3 ⟨lb, ab, 2, g1, c1, x1, g2, c2, x2, w.heap.size, zs.length, 1⟩ 0 zs false 0) := R0
  clear R0 I3 hL hO hnd hlo hc3 h02 hq2 hc2 hq1 hc1 HS hmk hrun
  go_wp2
  go_loopw [7] (fun i wr => ∃ k : Nat, k ≤ zs.length ∧ i = .int .i64 k ∧ SeqRel w wr ⟨lb, ab, 2, g1, c1, x1, g2, c2, x2, w.heap.size, zs.length, 1⟩ 0 zs false k) (fun i _ => zs.length - (intOf i).toNat)
  case atStart => exact ⟨0, Nat.zero_le _, rfl, HR0.out⟩
  case round =>
    obtain ⟨k, hk, rfl, hR⟩ := hrel
    clear HR0
    by_cases hlt : k < zs.length
    · have hcx : wr.cell? ⟨b, off + k, none⟩ = some (.int .i64 (zs.getD k 0)) := by
        obtain ⟨_, _, hI, _⟩ := hR
        exact hI.chg.cell (HC.out k hlt) (by simp)
      have E := hR.next (by decide) hlt h1
      obtain ⟨y, hy⟩ : ∃ y, y = zs.getD k 0 := ⟨_, rfl⟩
      rw [← hy] at hcx E
      clear hy hR
      go_wp2_with fail
      refine E.mono ?_
      rintro e w5 ⟨rfl, hR5⟩
      go_wp2
      go_roundw
      case rel => exact ⟨k + 1, by omega, by go_num, hR5⟩
      case measure => simp [intOf]; omega
    · obtain rfl : k = zs.length := by omega
      obtain ⟨v1, v2, hI, _, hb1⟩ := hR
      obtain ⟨hv2, hv1⟩ : v1 = 0 ∧ (v2 == 0) = false := hb1 h0
      obtain ⟨a, c, q1, q2, q3⟩ := hI.queue
      rw [qTo_length] at q1 q2
      have k7 := hI.live.orgs
      have k23 : wr.cell? ⟨ab, 23, none⟩ = some (.slice a zs.length c) := q1
      have k1 : wr.cell? ⟨ab, 1, none⟩ = some (.slice none 0 0) := hI.others 0 (by simp) (by simp)
      have E1 := equal_q (.slice a zs.length c) (.slice (some ⟨w.heap.size, 0, none⟩) zs.length zs.length) (sorted zs) wr (by rw [← qTo_all]; exact q2) (by have := hI.exp; rw [HSL.out] at this; exact this) (by rw [HSL.out]; omega)
      have HI : Hid (Inv w wr ⟨lb, ab, 2, g1, c1, x1, g2, c2, x2, w.heap.size, zs.length, 1⟩ 0 (sorted zs) (qTo zs zs.length) v1 v2) := hI
      clear hI q1 q2 q3 hb1
      subst hv2
      go_wp2_with fail
      refine E1.mono ?_
      rintro e w5 ⟨rfl, q, hw5⟩
      have I5 := HI.out.drewN q
      rw [← hw5] at I5
      clear hw5 HI k7 k1 k23
      have k7 := I5.live.orgs
      have k1 : w5.cell? ⟨ab, 1, none⟩ = some (.slice none 0 0) := I5.others 0 (by simp) (by simp)
      have k10 := I5.live.wp
      have k11 := I5.live.wo
      have hlb : lb < w5.heap.size := World.block_lt_of_cell? w5 _ k7
      have Em1 := empty_any g2 c2 x2 v2 w5 I5.live.l2 I5.live.b2
      have Em2 := fun o => empty_any g1 c1 x1 0 _ (I5.alloc o).live.l1 (I5.alloc o).live.b1
      have HB := fun o o' => ((I5.alloc o).alloc o').below
      have HBB : Hid (∀ o o', Below w.heap.size w ((w5.alloc o).alloc o')) := HB
      clear I5 HB
      go_wp2_with fail
      refine Em1.mono ?_
      rintro e w6 ⟨rfl, rfl⟩
      go_wp2_with fail
      refine (Em2 _).mono ?_
      rintro e w7 ⟨rfl, rfl⟩
      go_wp2
      go_ret
      exact ⟨by simp, HBB.out _ _⟩

set_option maxRecDepth 100000 in
set_option maxHeartbeats 1600000 in
theorem seq_zero_with (a0 : Option Addr) (cap : Nat) (w : World) :
    Calls Yba.prog 4 #[.slice a0 0 cap, .bool true] w fun e w' => e = .returned (.bool true) ∧ Below w.heap.size w w' := by
  have hmk : ∀ w : World, (Instr.makeSlice 22 (.int .i64 0) (.int .i64 0)).run Yba.prog w = .ok (.slice (some ⟨w.heap.size, 0, none⟩) 0 0) (w.alloc (.cells (madeQ 0) 3)) := mk22 0 0 (Nat.le_refl _) (by omega)
  have hq0 : IsQ (w.alloc (.cells (madeQ 0) 3)) (.slice (some ⟨w.heap.size, 0, none⟩) 0 0) [] := .inr ⟨w.heap.size, 0, madeQ 0, rfl, heap_alloc_new w _, Nat.le_refl _, by decide, madeQ_size _, by simp [ints]⟩
  have hrun := fun ty => run_copy_none (P := Yba.prog) (w.alloc (.cells (madeQ 0) 3)) 22 22 ty 3 (some ⟨w.heap.size, 0, none⟩) a0 0 0 0 cap Yba.underlying22 size3 rfl
  go_enter Yba.func4, Yba.ntmps4
  go_wp2_with fail
  refine (sort_q _ [] _ hq0 (by simp)).mono ?_
  rintro e w2 ⟨rfl, hq2, hc2⟩
  go_wp2_with fail
  refine (clive_any 2 w2 (by decide) (by decide)).mono ?_
  rintro e w3 ⟨lb, ab, g1, c1, x1, g2, c2, x2, rfl, hL, hO, hnd, hlo, hc3⟩
  have h02 : Chg [] w w2 := ((((Chg.refl [] w).alloc _).mono (l' := [w.heap.size]) (by simp)).trans hc2).mono (by simp)
  have I3 := inv_start (u := 1) (ec := 0) hL hO hnd hlo hc3 h02 (by decide) (es := []) (eb := w.heap.size) (by simpa [sorted] using hq2) (Nat.le_refl _)
  have k7 : w3.cell? ⟨lb, 7, none⟩ = some (.slice (some ⟨ab, 0, none⟩) 2 2) := hL.orgs
  have k22 : w3.cell? ⟨ab, 22, none⟩ = some (.int .i64 0) := hO.procs 1 (by decide)
  have f22 : w3.frozen? ⟨ab, 22, none⟩ = false := hO.free _
  have I4 : Inv w (w3.setCell ⟨ab, 22, none⟩ (.int .i64 2)) ⟨lb, ab, 2, g1, c1, x1, g2, c2, x2, w.heap.size, 0, 1⟩ 2 [] [] 0 0 := I3.setProcs 2
  obtain ⟨a, c, q1, q2, q3⟩ := I4.queue
  have E1 := equal_q (.slice a 0 c) (.slice (some ⟨w.heap.size, 0, none⟩) 0 0) [] _ q2 I4.exp (by simp)
  have r7 := I4.live.orgs
  have r23 := q1
  simp only [Nat.one_mul] at r23
  have HI : Hid (Inv w (w3.setCell ⟨ab, 22, none⟩ (.int .i64 2)) ⟨lb, ab, 2, g1, c1, x1, g2, c2, x2, w.heap.size, 0, 1⟩ 2 [] [] 0 0) := I4
  clear I3 I4 hL hO hnd hlo hc3 h02 hq2 hc2 hq0 hmk hrun q1 q2 q3
  go_wp2
  refine wp_loop_rounds 1 ?_
  rw [rounds_succ]
  go_wp2_with fail
  refine E1.mono ?_
  rintro e w5 ⟨rfl, q, hw5⟩
  have I5 := HI.out.drewN q
  rw [← hw5] at I5
  clear hw5 HI r7 r23
  have k7 := I5.live.orgs
  have k1 : w5.cell? ⟨ab, 1, none⟩ = some (.slice none 0 0) := I5.others 0 (by simp) (by simp)
  have k10 := I5.live.wp
  have k11 := I5.live.wo
  have hlb : lb < w5.heap.size := World.block_lt_of_cell? w5 _ k7
  have Em1 := empty_any g1 c1 x1 0 w5 I5.live.l1 I5.live.b1
  have Em2 := fun o => empty_any g2 c2 x2 0 _ (I5.alloc o).live.l2 (I5.alloc o).live.b2
  have HBB : Hid (∀ o o', Below w.heap.size w ((w5.alloc o).alloc o')) := fun o o' => ((I5.alloc o).alloc o').below
  clear I5
  go_wp2_with fail
  refine Em1.mono ?_
  rintro e w6 ⟨rfl, rfl⟩
  go_wp2_with fail
  refine (Em2 _).mono ?_
  rintro e w7 ⟨rfl, rfl⟩
  go_wp2
  go_ret
  exact ⟨by simp, HBB.out _ _⟩

set_option maxRecDepth 100000 in
set_option maxHeartbeats 1600000 in
theorem seq_zero_without (a0 : Option Addr) (cap : Nat) (w : World) :
    Calls Yba.prog 4 #[.slice a0 0 cap, .bool false] w fun e w' => e = .returned (.bool true) ∧ Below w.heap.size w w' := by
  have hmk : ∀ w : World, (Instr.makeSlice 22 (.int .i64 0) (.int .i64 0)).run Yba.prog w = .ok (.slice (some ⟨w.heap.size, 0, none⟩) 0 0) (w.alloc (.cells (madeQ 0) 3)) := mk22 0 0 (Nat.le_refl _) (by omega)
  have hq0 : IsQ (w.alloc (.cells (madeQ 0) 3)) (.slice (some ⟨w.heap.size, 0, none⟩) 0 0) [] := .inr ⟨w.heap.size, 0, madeQ 0, rfl, heap_alloc_new w _, Nat.le_refl _, by decide, madeQ_size _, by simp [ints]⟩
  have hrun := fun ty => run_copy_none (P := Yba.prog) (w.alloc (.cells (madeQ 0) 3)) 22 22 ty 3 (some ⟨w.heap.size, 0, none⟩) a0 0 0 0 cap Yba.underlying22 size3 rfl
  go_enter Yba.func4, Yba.ntmps4
  go_wp2_with fail
  refine (sort_q _ [] _ hq0 (by simp)).mono ?_
  rintro e w2 ⟨rfl, hq2, hc2⟩
  go_wp2_with fail
  refine (clive_any 2 w2 (by decide) (by decide)).mono ?_
  rintro e w3 ⟨lb, ab, g1, c1, x1, g2, c2, x2, rfl, hL, hO, hnd, hlo, hc3⟩
  have h02 : Chg [] w w2 := ((((Chg.refl [] w).alloc _).mono (l' := [w.heap.size]) (by simp)).trans hc2).mono (by simp)
  have I3 := inv_start (u := 1) (ec := 0) hL hO hnd hlo hc3 h02 (by decide) (es := []) (eb := w.heap.size) (by simpa [sorted] using hq2) (Nat.le_refl _)
  have I4 := I3
  obtain ⟨a, c, q1, q2, q3⟩ := I4.queue
  have E1 := equal_q (.slice a 0 c) (.slice (some ⟨w.heap.size, 0, none⟩) 0 0) [] _ q2 I4.exp (by simp)
  have r7 := I4.live.orgs
  have r23 := q1
  simp only [Nat.one_mul] at r23
  have HI : Hid (Inv w (w3) ⟨lb, ab, 2, g1, c1, x1, g2, c2, x2, w.heap.size, 0, 1⟩ 0 [] [] 0 0) := I4
  clear I3 I4 hL hO hnd hlo hc3 h02 hq2 hc2 hq0 hmk hrun q1 q2 q3
  go_wp2
  refine wp_loop_rounds 1 ?_
  rw [rounds_succ]
  go_wp2_with fail
  refine E1.mono ?_
  rintro e w5 ⟨rfl, q, hw5⟩
  have I5 := HI.out.drewN q
  rw [← hw5] at I5
  clear hw5 HI r7 r23
  have k7 := I5.live.orgs
  have k1 : w5.cell? ⟨ab, 1, none⟩ = some (.slice none 0 0) := I5.others 0 (by simp) (by simp)
  have k10 := I5.live.wp
  have k11 := I5.live.wo
  have hlb : lb < w5.heap.size := World.block_lt_of_cell? w5 _ k7
  have Em1 := empty_any g2 c2 x2 0 w5 I5.live.l2 I5.live.b2
  have Em2 := fun o => empty_any g1 c1 x1 0 _ (I5.alloc o).live.l1 (I5.alloc o).live.b1
  have HBB : Hid (∀ o o', Below w.heap.size w ((w5.alloc o).alloc o')) := fun o o' => ((I5.alloc o).alloc o').below
  clear I5
  go_wp2_with fail
  refine Em1.mono ?_
  rintro e w6 ⟨rfl, rfl⟩
  go_wp2_with fail
  refine (Em2 _).mono ?_
  rintro e w7 ⟨rfl, rfl⟩
  go_wp2
  go_ret
  exact ⟨by simp, HBB.out _ _⟩

theorem seq_big (a0 : Option Addr) (n cap : Nat) (hp : Bool) (w : World) (h1 : 1024 < n) (h2 : n ≤ 9223372036854775807) :
    Calls Yba.prog 4 #[.slice a0 n cap, .bool hp] w fun e w' => e = .returned (.bool true) ∧ Below w.heap.size w w' := by
  have hgt : 1024 < (n : Int) := by omega
  go_enter Yba.func4, Yba.ntmps4
  go_wp2
  go_ret
  exact ⟨rfl, Below.refl _ _⟩

end Go.Proofs.Ybulkcvgu
