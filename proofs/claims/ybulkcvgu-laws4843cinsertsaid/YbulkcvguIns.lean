/-
  Seat b4843a: the walk of 'LawS4843CInsert'.
-/
import Derived.Test.YbulkcvguInv
namespace Go.Proofs.Ybulkcvgu
open Go.RowKit
set_option linter.unusedVariables false

theorem ins_is (ss : List Int) (x : Int) (h : ss.Pairwise (· ≤ ·)) : ins (ss.countP (· < x)) x ss = sorted (ss ++ [x]) :=
  eq_of_sorted (ins_sorted h) (sorted_pairwise _) ((ins_perm _ _ _).trans ((List.perm_append_singleton x ss).symm.trans (sorted_perm _).symm))

theorem sorted_length (zs : List Int) : (sorted zs).length = zs.length := by simp [sorted]

theorem mk22' (N : Nat) (h : N ≤ 1024) (w : World) : (Instr.makeSlice 22 (.int .i64 (N : Int)) (.int .i64 ((N : Int) + 1))).run Yba.prog w = .ok (.slice (some ⟨w.heap.size, 0, none⟩) N (N + 1)) (w.alloc (.cells (madeQ (N + 1)) 3)) := by
  have := mk22 N (N + 1) (by omega) (by omega) w
  simpa using this

set_option maxRecDepth 100000 in
set_option maxHeartbeats 3200000 in
theorem ins_some_with (b off N cap : Nat) (zs : List Int) (x a2 a3 : Int) (n u : Nat) (w : World) (hN : zs.length = N) (h0 : 0 < N) (h1 : N ≤ 1024) (hb : b < w.heap.size)
    (hc : ∀ j v, (ints zs)[j]? = some v → w.cell? ((⟨b, off, none⟩ : Addr).add j) = some v) (p2 : 0 ≤ a2) (q2 : a2 ≤ 255) (p3 : 0 ≤ a3) (q3 : a3 ≤ 255) (hn1 : 1 ≤ n) (hn4 : n ≤ 4) (hu : u < n) (hn : a2 % 4 + 1 = (n : Int)) (hus : a3 % (n : Int) = (u : Int)) :
    Calls Yba.prog 3 #[.slice (some ⟨b, off, none⟩) N cap, .int .i64 x, .int .u8 a2, .int .u8 a3, .bool true] w fun e w' => e = .returned (.bool true) ∧ Below w.heap.size w w' := by
  have hgt : ¬ (1024 < (N : Int)) := by omega
  have h0' : (0 : Int) < (N : Int) := by omega
  have hm1 := mk22 N N (Nat.le_refl _) (by omega)
  have hm2 := mk22' N h1
  have hsl : (sorted zs).length = N := (sorted_length zs).trans hN
  have hel : (sorted (sorted zs ++ [x])).length = N + 1 := by rw [sorted_length]; simp [hsl]
  obtain ⟨w1, hr1, hq1, hc1⟩ := copy_q (w := w.alloc (.cells (madeQ N) 3)) w.heap.size N (some ⟨b, off, none⟩) cap zs (madeQ N) (heap_alloc_new w _) (madeQ_size _) (by omega) (by unfold maxLen; omega)
    (fun _ => ⟨_, rfl, fun j v hj => ((Chg.refl [] w).alloc _).cell (hc j v hj) (by simp)⟩)
  rw [hN] at hr1 hq1
  have HSL : Hid ((sorted zs).length = N) := hsl
  have HEL : Hid ((sorted ((sorted zs) ++ [x])).length = N + 1) := hel
  clear hsl hel hc
  have c01 : Chg [] w w1 := (((Chg.refl [] w).alloc _).mono (l' := [w.heap.size]) (by simp)).trans hc1 |>.mono (by simp)
  go_enter Yba.func3, Yba.ntmps3
  go_wp2_with fail
  refine (sort_q _ zs _ hq1 (by omega)).mono ?_
  rintro e w2 ⟨rfl, hq2, hc2⟩
  have c02 : Chg [] w w2 := ((c01.mono (l' := [w.heap.size]) (by simp)).trans hc2).mono (by simp)
  have s2 : w.heap.size < w2.heap.size := hq2.lt _ (by simp [blocksOf, Value.ownBlock])
  have hq2' : IsQ w2 (.slice (some ⟨w.heap.size, 0, none⟩) (sorted zs).length N) (sorted zs) := by rw [HSL.out]; exact hq2
  have hsrc : ∀ j v, (ints (sorted zs))[j]? = some v → (w2.alloc (.cells (madeQ (N + 1)) 3)).cell? ((⟨w.heap.size, 0, none⟩ : Addr).add j) = some v := by
    intro j v hj
    rcases hq2' with ⟨h, _⟩ | ⟨g, cp, cur, he, hg, _, _, _, ht⟩
    · cases h
    · obtain ⟨⟨rfl⟩, _⟩ : w.heap.size = g ∧ _ := by simpa using he
      have hjl : j < (sorted zs).length := by simpa [ints] using (List.getElem?_eq_some_iff.1 hj).1
      refine ((Chg.refl [] w2).alloc _).cell ?_ (by simp)
      rw [Go.WideShapes.add_plain, cell_of_heap hg, Nat.zero_add, cur_at ht hjl, hj]
  obtain ⟨w3, hr3, hq3, hc3⟩ := copy_q (w := w2.alloc (.cells (madeQ (N + 1)) 3)) w2.heap.size (N + 1) (some ⟨w.heap.size, 0, none⟩) N (sorted zs) (madeQ (N + 1)) (heap_alloc_new w2 _) (madeQ_size _) (by rw [HSL.out]; omega) (by unfold maxLen; omega) (fun _ => ⟨_, rfl, hsrc⟩)
  rw [HSL.out] at hr3
  have c23 : Chg [w2.heap.size] w2 w3 := (((Chg.refl [] w2).alloc _).mono (by simp)).trans hc3
  have s3 : w2.heap.size < w3.heap.size := by
    have := hc3.size
    simp at this
    omega
  have hq3' := hq3.kept ((Chg.refl [] w3).alloc (.cells #[.int .i64 x] 3)) (by simp)
  have hc2k := HSL.out
  clear hq3 hsrc hc1 hc2 hc3 hq1
  go_wp2_with (first
    | (at_builtin; refine append_q rfl _ _ rfl w2.heap.size (N + 1) w3.heap.size (sorted zs) x (by rw [hc2k]; rfl) rfl hq3' (by rw [hc2k]; exact Nat.le_refl _) (cell_one_new _ _ _) ?_; intro w4 hq4 hc4))
  have hq4' : IsQ w4 (.slice (some ⟨w2.heap.size, 0, none⟩) (N + 1) (N + 1)) ((sorted zs) ++ [x]) := by first | exact hq4 | (rw [hc2k] at hq4; exact hq4)
  have c24 : Chg [w2.heap.size] w2 w4 := c23.trans ((((Chg.refl [] w3).alloc _).mono (by simp)).trans hc4)
  refine (sort_q _ ((sorted zs) ++ [x]) _ hq4' (by simp [hc2k]; omega)).mono ?_
  rintro e w5 ⟨rfl, hq5, hc5⟩
  have c25 : Chg [w2.heap.size] w2 w5 := c24.trans hc5
  have hq5' : IsQ w5 (.slice (some ⟨w2.heap.size, 0, none⟩) (sorted ((sorted zs) ++ [x])).length (N + 1)) (sorted ((sorted zs) ++ [x])) := by rw [HEL.out]; exact hq5
  have hb5 : IsQ w5 (.slice (some ⟨w.heap.size, 0, none⟩) (sorted zs).length N) (sorted zs) := hq2'.kept c25 (by simp [blocksOf, Value.ownBlock]; omega)
  have c05 : Chg [] w w5 := ((c02.mono (l' := [w2.heap.size]) (by simp)).trans c25).mono (by simp; omega)
  clear hq4 hq4' hq5 hq3' hq2 c23 c24 hc4 hc5 hr1 hr3 hm1 hm2 hc2k
  go_wp2_with fail
  refine (clive_any n w5 hn1 hn4).mono ?_
  rintro e w6 ⟨lb, ab, g1, c1, x1, g2, c2, x2, rfl, hL, hO, hnd, hlo, hc6⟩
  have hb6 : IsQ w6 (.slice (some ⟨w.heap.size, 0, none⟩) (sorted zs).length N) (sorted zs) := hb5.kept hc6 (by simp)
  have I6 := inv_start (u := u) (ec := N + 1) hL hO hnd hlo hc6 c05 hu hq5' (by omega)
  have hbl : ∀ k, k ∈ blocksOf (.slice (some ⟨w.heap.size, 0, none⟩) (sorted zs).length N) → w.heap.size ≤ k ∧ k ∉ Pl.all ⟨lb, ab, n, g1, c1, x1, g2, c2, x2, w2.heap.size, N + 1, u⟩ := by
    intro k hk
    simp only [blocksOf, Value.ownBlock, Option.toList_some, List.mem_singleton] at hk
    subst hk
    have s25 := c25.size
    refine ⟨Nat.le_refl _, fun hm => ?_⟩
    have e : Pl.all ⟨lb, ab, n, g1, c1, x1, g2, c2, x2, w2.heap.size, N + 1, u⟩ = [ab, lb, g1, x1, g2, x2] ++ [w2.heap.size] := rfl
    rw [e, List.mem_append] at hm
    rcases hm with hm | hm
    · have := (hlo _ hm).1
      omega
    · simp at hm
      omega
  have hui : (u : Int) < (n : Int) := by omega
  have k7 : w6.cell? ⟨lb, 7, none⟩ = some (.slice (some ⟨ab, 0, none⟩) n n) := hL.orgs
  have kp : w6.cell? ⟨ab, u * 22, none⟩ = some (.int .i64 0) := hO.procs u hu
  have fp : w6.frozen? ⟨ab, u * 22, none⟩ = false := hO.free _
  have I7 : Inv w (w6.setCell ⟨ab, u * 22, none⟩ (.int .i64 1)) ⟨lb, ab, n, g1, c1, x1, g2, c2, x2, w2.heap.size, N + 1, u⟩ 1 (sorted ((sorted zs) ++ [x])) [] 0 0 := I6.setProcs 1
  have hb7 : IsQ (w6.setCell ⟨ab, u * 22, none⟩ (.int .i64 1)) (.slice (some ⟨w.heap.size, 0, none⟩) (sorted zs).length N) (sorted zs) := hb6.kept ((Chg.refl [ab] w6).setCell (by simp) _) (fun k hk => by
    simp only [List.mem_singleton]; rintro rfl; exact (hbl _ hk).2 (by simp [Pl.all]))
  obtain ⟨qa, qc, q1, q2', q3'⟩ := I7.queue
  have r7 : (w6.setCell ⟨ab, u * 22, none⟩ (.int .i64 1)).cell? ⟨lb, 7, none⟩ = some (.slice (some ⟨ab, 0, none⟩) n n) := I7.live.orgs
  have rq : (w6.setCell ⟨ab, u * 22, none⟩ (.int .i64 1)).cell? ⟨ab, u * 22 + 1, none⟩ = some (.slice qa 0 qc) := q1
  have rf : (w6.setCell ⟨ab, u * 22, none⟩ (.int .i64 1)).frozen? ⟨ab, u * 22 + 1, none⟩ = false := I7.free _
  have I8 : Inv w ((w6.setCell ⟨ab, u * 22, none⟩ (.int .i64 1)).setCell ⟨ab, u * 22 + 1, none⟩ (.slice (some ⟨w.heap.size, 0, none⟩) N N)) ⟨lb, ab, n, g1, c1, x1, g2, c2, x2, w2.heap.size, N + 1, u⟩ 1 (sorted ((sorted zs) ++ [x])) (sorted zs) 0 0 := by
    have := I7.setQueue hb7 hbl
    rw [HSL.out] at this
    exact this
  have r10 := I8.live.wp
  have S8 := set_first g1 c1 x1 u _ (by omega) I8.live.l1 I8.live.b1 I8.live.f1
  have HI8 : Hid (Inv w ((w6.setCell ⟨ab, u * 22, none⟩ (.int .i64 1)).setCell ⟨ab, u * 22 + 1, none⟩ (.slice (some ⟨w.heap.size, 0, none⟩) N N)) ⟨lb, ab, n, g1, c1, x1, g2, c2, x2, w2.heap.size, N + 1, u⟩ 1 (sorted ((sorted zs) ++ [x])) (sorted zs) 0 0) := I8
  clear I6 I7 I8 hL hO hnd hlo hc6 c05 c25 hq5' hb5 hb6 hb7 hbl q1 q2' q3' hq2' c01 c02
  go_wp2_with fail
  refine S8.mono ?_
  rintro e w9 ⟨rfl, v, hv0, hv1, hvf, hc9⟩
  have I9 := HI8.out.setBit1 hv1 hvf hc9
  have E9 := enqueue_inv_more I9 x hu hn4 (sorted_pairwise _) (show (sorted zs).length ≤ 2048 by rw [HSL.out]; omega) (show 0 < (sorted zs).length by rw [HSL.out]; exact h0)
  clear I9 HI8 hv1 hvf hc9 r7 rq rf r10 k7 kp fp
  go_wp2_with fail
  refine E9.mono ?_
  rintro e wA ⟨rfl, IA⟩
  rw [ins_is _ x (sorted_pairwise _)] at IA
  obtain ⟨a, c, z1, z2, z3⟩ := IA.queue
  rw [HEL.out] at z1 z2
  have k7 := IA.live.orgs
  have kq : wA.cell? ⟨ab, u * 22 + 1, none⟩ = some (.slice a (N + 1) c) := z1
  have E1 := equal_q (.slice a (N + 1) c) (.slice (some ⟨w2.heap.size, 0, none⟩) (N + 1) (N + 1)) (sorted ((sorted zs) ++ [x])) wA z2 (by have := IA.exp; rw [HEL.out] at this; exact this) (by rw [HEL.out]; omega)
  have HI : Hid (Inv w wA ⟨lb, ab, n, g1, c1, x1, g2, c2, x2, w2.heap.size, N + 1, u⟩ 1 (sorted ((sorted zs) ++ [x])) (sorted ((sorted zs) ++ [x])) v 0) := IA
  clear IA z1 z2 z3 E9 S8
  go_wp2_with fail
  refine E1.mono ?_
  rintro e w5' ⟨rfl, q, hw5⟩
  have I5 := HI.out.drewN q
  rw [← hw5] at I5
  clear hw5 HI k7 kq E1
  have k7 := I5.live.orgs
  have ko : Hid (∀ j, j < n → j ≠ u → w5'.cell? ⟨ab, j * 22 + 1, none⟩ = some (.slice none 0 0)) := I5.others
  have k10 := I5.live.wp
  have k11 := I5.live.wo
  have hlb : lb < w5'.heap.size := World.block_lt_of_cell? w5' _ k7
  have Em1 := empty_any g1 c1 x1 _ w5' I5.live.l1 I5.live.b1
  have Em2 := fun o => empty_any g2 c2 x2 _ _ (I5.alloc o).live.l2 (I5.alloc o).live.b2
  have HBB : Hid (∀ o o', Below w.heap.size w ((w5'.alloc o).alloc o')) := fun o o' => ((I5.alloc o).alloc o').below
  have HE : Hid (Calls Yba.prog 10 #[.agg #[.slice (some ⟨g1, 0, none⟩) 1 c1]] w5' _) := Em1
  have HE2 : Hid (∀ o, Calls Yba.prog 10 #[.agg #[.slice (some ⟨g2, 0, none⟩) 1 c2]] (w5'.alloc o) _) := Em2
  clear I5 Em1 Em2
  go_wp2_with fail
  go_loop [16] (fun i => ∃ j : Nat, j ≤ n ∧ i = .int .i64 j) (fun i => n - (intOf i).toNat)
  case atStart => exact ⟨0, Nat.zero_le _, rfl⟩
  case round =>
    obtain ⟨j, hj, rfl⟩ := hrel
    by_cases hlt : j < n
    · have hji : (j : Int) < (n : Int) := by omega
      by_cases hju : j = u
      · have hb : ((j : Int) != (u : Int)) = false := by simp [hju]
        clear hju
        go_wp2
        go_round
        case rel => exact ⟨j + 1, by omega, by go_num⟩
        case measure => simp [intOf]; omega
      · have hb : ((j : Int) != (u : Int)) = true := by simp; omega
        have kj := ko.out j hlt hju
        clear hju
        go_wp2
        go_round
        case rel => exact ⟨j + 1, by omega, by go_num⟩
        case measure => simp [intOf]; omega
    · obtain rfl : j = n := by omega
      go_wp2_with fail
      refine HE.out.mono ?_
      rintro e w6' ⟨rfl, rfl⟩
      go_wp2_with fail
      refine (HE2.out _).mono ?_
      rintro e w7' ⟨rfl, rfl⟩
      go_wp2
      go_ret
      exact ⟨rfl, HBB.out _ _⟩

set_option maxRecDepth 100000 in
set_option maxHeartbeats 3200000 in
theorem ins_some_without (b off N cap : Nat) (zs : List Int) (x a2 a3 : Int) (n u : Nat) (w : World) (hN : zs.length = N) (h0 : 0 < N) (h1 : N ≤ 1024) (hb : b < w.heap.size)
    (hc : ∀ j v, (ints zs)[j]? = some v → w.cell? ((⟨b, off, none⟩ : Addr).add j) = some v) (p2 : 0 ≤ a2) (q2 : a2 ≤ 255) (p3 : 0 ≤ a3) (q3 : a3 ≤ 255) (hn1 : 1 ≤ n) (hn4 : n ≤ 4) (hu : u < n) (hn : a2 % 4 + 1 = (n : Int)) (hus : a3 % (n : Int) = (u : Int)) :
    Calls Yba.prog 3 #[.slice (some ⟨b, off, none⟩) N cap, .int .i64 x, .int .u8 a2, .int .u8 a3, .bool false] w fun e w' => e = .returned (.bool true) ∧ Below w.heap.size w w' := by
  have hgt : ¬ (1024 < (N : Int)) := by omega
  have h0' : (0 : Int) < (N : Int) := by omega
  have hm1 := mk22 N N (Nat.le_refl _) (by omega)
  have hm2 := mk22' N h1
  have hsl : (sorted zs).length = N := (sorted_length zs).trans hN
  have hel : (sorted (sorted zs ++ [x])).length = N + 1 := by rw [sorted_length]; simp [hsl]
  obtain ⟨w1, hr1, hq1, hc1⟩ := copy_q (w := w.alloc (.cells (madeQ N) 3)) w.heap.size N (some ⟨b, off, none⟩) cap zs (madeQ N) (heap_alloc_new w _) (madeQ_size _) (by omega) (by unfold maxLen; omega)
    (fun _ => ⟨_, rfl, fun j v hj => ((Chg.refl [] w).alloc _).cell (hc j v hj) (by simp)⟩)
  rw [hN] at hr1 hq1
  have HSL : Hid ((sorted zs).length = N) := hsl
  have HEL : Hid ((sorted ((sorted zs) ++ [x])).length = N + 1) := hel
  clear hsl hel hc
  have c01 : Chg [] w w1 := (((Chg.refl [] w).alloc _).mono (l' := [w.heap.size]) (by simp)).trans hc1 |>.mono (by simp)
  go_enter Yba.func3, Yba.ntmps3
  go_wp2_with fail
  refine (sort_q _ zs _ hq1 (by omega)).mono ?_
  rintro e w2 ⟨rfl, hq2, hc2⟩
  have c02 : Chg [] w w2 := ((c01.mono (l' := [w.heap.size]) (by simp)).trans hc2).mono (by simp)
  have s2 : w.heap.size < w2.heap.size := hq2.lt _ (by simp [blocksOf, Value.ownBlock])
  have hq2' : IsQ w2 (.slice (some ⟨w.heap.size, 0, none⟩) (sorted zs).length N) (sorted zs) := by rw [HSL.out]; exact hq2
  have hsrc : ∀ j v, (ints (sorted zs))[j]? = some v → (w2.alloc (.cells (madeQ (N + 1)) 3)).cell? ((⟨w.heap.size, 0, none⟩ : Addr).add j) = some v := by
    intro j v hj
    rcases hq2' with ⟨h, _⟩ | ⟨g, cp, cur, he, hg, _, _, _, ht⟩
    · cases h
    · obtain ⟨⟨rfl⟩, _⟩ : w.heap.size = g ∧ _ := by simpa using he
      have hjl : j < (sorted zs).length := by simpa [ints] using (List.getElem?_eq_some_iff.1 hj).1
      refine ((Chg.refl [] w2).alloc _).cell ?_ (by simp)
      rw [Go.WideShapes.add_plain, cell_of_heap hg, Nat.zero_add, cur_at ht hjl, hj]
  obtain ⟨w3, hr3, hq3, hc3⟩ := copy_q (w := w2.alloc (.cells (madeQ (N + 1)) 3)) w2.heap.size (N + 1) (some ⟨w.heap.size, 0, none⟩) N (sorted zs) (madeQ (N + 1)) (heap_alloc_new w2 _) (madeQ_size _) (by rw [HSL.out]; omega) (by unfold maxLen; omega) (fun _ => ⟨_, rfl, hsrc⟩)
  rw [HSL.out] at hr3
  have c23 : Chg [w2.heap.size] w2 w3 := (((Chg.refl [] w2).alloc _).mono (by simp)).trans hc3
  have s3 : w2.heap.size < w3.heap.size := by
    have := hc3.size
    simp at this
    omega
  have hq3' := hq3.kept ((Chg.refl [] w3).alloc (.cells #[.int .i64 x] 3)) (by simp)
  have hc2k := HSL.out
  clear hq3 hsrc hc1 hc2 hc3 hq1
  go_wp2_with (first
    | (at_builtin; refine append_q rfl _ _ rfl w2.heap.size (N + 1) w3.heap.size (sorted zs) x (by rw [hc2k]; rfl) rfl hq3' (by rw [hc2k]; exact Nat.le_refl _) (cell_one_new _ _ _) ?_; intro w4 hq4 hc4))
  have hq4' : IsQ w4 (.slice (some ⟨w2.heap.size, 0, none⟩) (N + 1) (N + 1)) ((sorted zs) ++ [x]) := by first | exact hq4 | (rw [hc2k] at hq4; exact hq4)
  have c24 : Chg [w2.heap.size] w2 w4 := c23.trans ((((Chg.refl [] w3).alloc _).mono (by simp)).trans hc4)
  refine (sort_q _ ((sorted zs) ++ [x]) _ hq4' (by simp [hc2k]; omega)).mono ?_
  rintro e w5 ⟨rfl, hq5, hc5⟩
  have c25 : Chg [w2.heap.size] w2 w5 := c24.trans hc5
  have hq5' : IsQ w5 (.slice (some ⟨w2.heap.size, 0, none⟩) (sorted ((sorted zs) ++ [x])).length (N + 1)) (sorted ((sorted zs) ++ [x])) := by rw [HEL.out]; exact hq5
  have hb5 : IsQ w5 (.slice (some ⟨w.heap.size, 0, none⟩) (sorted zs).length N) (sorted zs) := hq2'.kept c25 (by simp [blocksOf, Value.ownBlock]; omega)
  have c05 : Chg [] w w5 := ((c02.mono (l' := [w2.heap.size]) (by simp)).trans c25).mono (by simp; omega)
  clear hq4 hq4' hq5 hq3' hq2 c23 c24 hc4 hc5 hr1 hr3 hm1 hm2 hc2k
  go_wp2_with fail
  refine (clive_any n w5 hn1 hn4).mono ?_
  rintro e w6 ⟨lb, ab, g1, c1, x1, g2, c2, x2, rfl, hL, hO, hnd, hlo, hc6⟩
  have hb6 : IsQ w6 (.slice (some ⟨w.heap.size, 0, none⟩) (sorted zs).length N) (sorted zs) := hb5.kept hc6 (by simp)
  have I6 := inv_start (u := u) (ec := N + 1) hL hO hnd hlo hc6 c05 hu hq5' (by omega)
  have hbl : ∀ k, k ∈ blocksOf (.slice (some ⟨w.heap.size, 0, none⟩) (sorted zs).length N) → w.heap.size ≤ k ∧ k ∉ Pl.all ⟨lb, ab, n, g1, c1, x1, g2, c2, x2, w2.heap.size, N + 1, u⟩ := by
    intro k hk
    simp only [blocksOf, Value.ownBlock, Option.toList_some, List.mem_singleton] at hk
    subst hk
    have s25 := c25.size
    refine ⟨Nat.le_refl _, fun hm => ?_⟩
    have e : Pl.all ⟨lb, ab, n, g1, c1, x1, g2, c2, x2, w2.heap.size, N + 1, u⟩ = [ab, lb, g1, x1, g2, x2] ++ [w2.heap.size] := rfl
    rw [e, List.mem_append] at hm
    rcases hm with hm | hm
    · have := (hlo _ hm).1
      omega
    · simp at hm
      omega
  have hui : (u : Int) < (n : Int) := by omega
  have I7 := I6
  have hb7 := hb6
  obtain ⟨qa, qc, q1, q2', q3'⟩ := I7.queue
  have r7 : w6.cell? ⟨lb, 7, none⟩ = some (.slice (some ⟨ab, 0, none⟩) n n) := I7.live.orgs
  have rq : w6.cell? ⟨ab, u * 22 + 1, none⟩ = some (.slice qa 0 qc) := q1
  have rf : w6.frozen? ⟨ab, u * 22 + 1, none⟩ = false := I7.free _
  have I8 : Inv w (w6.setCell ⟨ab, u * 22 + 1, none⟩ (.slice (some ⟨w.heap.size, 0, none⟩) N N)) ⟨lb, ab, n, g1, c1, x1, g2, c2, x2, w2.heap.size, N + 1, u⟩ 0 (sorted ((sorted zs) ++ [x])) (sorted zs) 0 0 := by
    have := I7.setQueue hb7 hbl
    rw [HSL.out] at this
    exact this
  have r10 := I8.live.wo
  have S8 := set_first g2 c2 x2 u _ (by omega) I8.live.l2 I8.live.b2 I8.live.f2
  have HI8 : Hid (Inv w (w6.setCell ⟨ab, u * 22 + 1, none⟩ (.slice (some ⟨w.heap.size, 0, none⟩) N N)) ⟨lb, ab, n, g1, c1, x1, g2, c2, x2, w2.heap.size, N + 1, u⟩ 0 (sorted ((sorted zs) ++ [x])) (sorted zs) 0 0) := I8
  clear I6 I7 I8 hL hO hnd hlo hc6 c05 c25 hq5' hb5 hb6 hb7 hbl q1 q2' q3' hq2' c01 c02
  go_wp2_with fail
  refine S8.mono ?_
  rintro e w9 ⟨rfl, v, hv0, hv1, hvf, hc9⟩
  have I9 := HI8.out.setBit2 hv1 hvf hc9
  have E9 := enqueue_inv_more I9 x hu hn4 (sorted_pairwise _) (show (sorted zs).length ≤ 2048 by rw [HSL.out]; omega) (show 0 < (sorted zs).length by rw [HSL.out]; exact h0)
  clear I9 HI8 hv1 hvf hc9 r7 rq rf r10
  go_wp2_with fail
  refine E9.mono ?_
  rintro e wA ⟨rfl, IA⟩
  rw [ins_is _ x (sorted_pairwise _)] at IA
  obtain ⟨a, c, z1, z2, z3⟩ := IA.queue
  rw [HEL.out] at z1 z2
  have k7 := IA.live.orgs
  have kq : wA.cell? ⟨ab, u * 22 + 1, none⟩ = some (.slice a (N + 1) c) := z1
  have E1 := equal_q (.slice a (N + 1) c) (.slice (some ⟨w2.heap.size, 0, none⟩) (N + 1) (N + 1)) (sorted ((sorted zs) ++ [x])) wA z2 (by have := IA.exp; rw [HEL.out] at this; exact this) (by rw [HEL.out]; omega)
  have HI : Hid (Inv w wA ⟨lb, ab, n, g1, c1, x1, g2, c2, x2, w2.heap.size, N + 1, u⟩ 0 (sorted ((sorted zs) ++ [x])) (sorted ((sorted zs) ++ [x])) 0 v) := IA
  clear IA z1 z2 z3 E9 S8
  go_wp2_with fail
  refine E1.mono ?_
  rintro e w5' ⟨rfl, q, hw5⟩
  have I5 := HI.out.drewN q
  rw [← hw5] at I5
  clear hw5 HI k7 kq E1
  have k7 := I5.live.orgs
  have ko : Hid (∀ j, j < n → j ≠ u → w5'.cell? ⟨ab, j * 22 + 1, none⟩ = some (.slice none 0 0)) := I5.others
  have k10 := I5.live.wp
  have k11 := I5.live.wo
  have hlb : lb < w5'.heap.size := World.block_lt_of_cell? w5' _ k7
  have Em1 := empty_any g1 c1 x1 _ w5' I5.live.l1 I5.live.b1
  have Em2 := fun o => empty_any g2 c2 x2 _ _ (I5.alloc o).live.l2 (I5.alloc o).live.b2
  have HBB : Hid (∀ o o', Below w.heap.size w ((w5'.alloc o).alloc o')) := fun o o' => ((I5.alloc o).alloc o').below
  have HE : Hid (Calls Yba.prog 10 #[.agg #[.slice (some ⟨g1, 0, none⟩) 1 c1]] w5' _) := Em1
  have HE2 : Hid (∀ o, Calls Yba.prog 10 #[.agg #[.slice (some ⟨g2, 0, none⟩) 1 c2]] (w5'.alloc o) _) := Em2
  clear I5 Em1 Em2
  go_wp2_with fail
  go_loop [16] (fun i => ∃ j : Nat, j ≤ n ∧ i = .int .i64 j) (fun i => n - (intOf i).toNat)
  case atStart => exact ⟨0, Nat.zero_le _, rfl⟩
  case round =>
    obtain ⟨j, hj, rfl⟩ := hrel
    by_cases hlt : j < n
    · have hji : (j : Int) < (n : Int) := by omega
      by_cases hju : j = u
      · have hb : ((j : Int) != (u : Int)) = false := by simp [hju]
        clear hju
        go_wp2
        go_round
        case rel => exact ⟨j + 1, by omega, by go_num⟩
        case measure => simp [intOf]; omega
      · have hb : ((j : Int) != (u : Int)) = true := by simp; omega
        have kj := ko.out j hlt hju
        clear hju
        go_wp2
        go_round
        case rel => exact ⟨j + 1, by omega, by go_num⟩
        case measure => simp [intOf]; omega
    · obtain rfl : j = n := by omega
      go_wp2_with fail
      refine HE.out.mono ?_
      rintro e w6' ⟨rfl, rfl⟩
      go_wp2_with fail
      refine (HE2.out _).mono ?_
      rintro e w7' ⟨rfl, rfl⟩
      go_wp2
      go_ret
      exact ⟨rfl, HBB.out _ _⟩

set_option maxRecDepth 100000 in
set_option maxHeartbeats 3200000 in
theorem ins_none_with (a0 : Option Addr) (cap : Nat) (x a2 a3 : Int) (n u : Nat) (w : World) (p2 : 0 ≤ a2) (q2 : a2 ≤ 255) (p3 : 0 ≤ a3) (q3 : a3 ≤ 255) (hn1 : 1 ≤ n) (hn4 : n ≤ 4) (hu : u < n) (hn : a2 % 4 + 1 = (n : Int)) (hus : a3 % (n : Int) = (u : Int)) :
    Calls Yba.prog 3 #[.slice a0 0 cap, .int .i64 x, .int .u8 a2, .int .u8 a3, .bool true] w fun e w' => e = .returned (.bool true) ∧ Below w.heap.size w w' := by
  have hm1 : ∀ w : World, (Instr.makeSlice 22 (.int .i64 0) (.int .i64 0)).run Yba.prog w = .ok (.slice (some ⟨w.heap.size, 0, none⟩) 0 0) (w.alloc (.cells (madeQ 0) 3)) := mk22 0 0 (Nat.le_refl _) (by omega)
  have hm2 : ∀ w : World, (Instr.makeSlice 22 (.int .i64 0) (.int .i64 1)).run Yba.prog w = .ok (.slice (some ⟨w.heap.size, 0, none⟩) 0 1) (w.alloc (.cells (madeQ 1) 3)) := mk22 0 1 (by omega) (by omega)
  have hsl : (sorted []).length = 0 := sorted_length []
  have hel : (sorted (sorted [] ++ [x])).length = 0 + 1 := by rw [sorted_length]; simp [hsl]
  obtain ⟨w1, hr1, hq1, hc1⟩ := copy_q (w := w.alloc (.cells (madeQ 0) 3)) w.heap.size 0 a0 cap [] (madeQ 0) (heap_alloc_new w _) (madeQ_size _) (by simp) (by decide) (by simp)
  simp only [List.length_nil, Int.natCast_zero] at hr1 hq1
  have HSL : Hid ((sorted []).length = 0) := hsl
  have HEL : Hid ((sorted ((sorted []) ++ [x])).length = 0 + 1) := hel
  clear hsl hel
  have c01 : Chg [] w w1 := (((Chg.refl [] w).alloc _).mono (l' := [w.heap.size]) (by simp)).trans hc1 |>.mono (by simp)
  go_enter Yba.func3, Yba.ntmps3
  go_wp2_with fail
  refine (sort_q _ [] _ hq1 (by simp)).mono ?_
  rintro e w2 ⟨rfl, hq2, hc2⟩
  have c02 : Chg [] w w2 := ((c01.mono (l' := [w.heap.size]) (by simp)).trans hc2).mono (by simp)
  have s2 : w.heap.size < w2.heap.size := hq2.lt _ (by simp [blocksOf, Value.ownBlock])
  have hq2' : IsQ w2 (.slice (some ⟨w.heap.size, 0, none⟩) (sorted []).length 0) (sorted []) := by rw [HSL.out]; exact hq2
  have hsrc : ∀ j v, (ints (sorted []))[j]? = some v → (w2.alloc (.cells (madeQ (0 + 1)) 3)).cell? ((⟨w.heap.size, 0, none⟩ : Addr).add j) = some v := by
    intro j v hj
    rcases hq2' with ⟨h, _⟩ | ⟨g, cp, cur, he, hg, _, _, _, ht⟩
    · cases h
    · obtain ⟨⟨rfl⟩, _⟩ : w.heap.size = g ∧ _ := by simpa using he
      have hjl : j < (sorted []).length := by simpa [ints] using (List.getElem?_eq_some_iff.1 hj).1
      refine ((Chg.refl [] w2).alloc _).cell ?_ (by simp)
      rw [Go.WideShapes.add_plain, cell_of_heap hg, Nat.zero_add, cur_at ht hjl, hj]
  obtain ⟨w3, hr3, hq3, hc3⟩ := copy_q (w := w2.alloc (.cells (madeQ (0 + 1)) 3)) w2.heap.size (0 + 1) (some ⟨w.heap.size, 0, none⟩) 0 (sorted []) (madeQ (0 + 1)) (heap_alloc_new w2 _) (madeQ_size _) (by rw [HSL.out]; omega) (by unfold maxLen; omega) (fun _ => ⟨_, rfl, hsrc⟩)
  rw [HSL.out] at hr3
  simp only [Nat.zero_add, Int.natCast_zero] at hr3
  have c23 : Chg [w2.heap.size] w2 w3 := (((Chg.refl [] w2).alloc _).mono (by simp)).trans hc3
  have s3 : w2.heap.size < w3.heap.size := by
    have := hc3.size
    simp at this
    omega
  have hq3' := hq3.kept ((Chg.refl [] w3).alloc (.cells #[.int .i64 x] 3)) (by simp)
  have hc2k := HSL.out
  clear hq3 hsrc hc1 hc2 hc3 hq1
  go_wp2_with (first
    | (at_builtin; refine append_q rfl _ _ rfl w2.heap.size (0 + 1) w3.heap.size (sorted []) x (by rw [hc2k]; rfl) rfl hq3' (by rw [hc2k]; exact Nat.le_refl _) (cell_one_new _ _ _) ?_; intro w4 hq4 hc4))
  have hq4' : IsQ w4 (.slice (some ⟨w2.heap.size, 0, none⟩) (0 + 1) (0 + 1)) ((sorted []) ++ [x]) := by first | exact hq4 | (rw [hc2k] at hq4; exact hq4)
  have c24 : Chg [w2.heap.size] w2 w4 := c23.trans ((((Chg.refl [] w3).alloc _).mono (by simp)).trans hc4)
  refine (sort_q _ ((sorted []) ++ [x]) _ hq4' (by simp [hc2k])).mono ?_
  rintro e w5 ⟨rfl, hq5, hc5⟩
  have c25 : Chg [w2.heap.size] w2 w5 := c24.trans hc5
  have hq5' : IsQ w5 (.slice (some ⟨w2.heap.size, 0, none⟩) (sorted ((sorted []) ++ [x])).length (0 + 1)) (sorted ((sorted []) ++ [x])) := by rw [HEL.out]; exact hq5
  have hb5 : IsQ w5 (.slice (some ⟨w.heap.size, 0, none⟩) (sorted []).length 0) (sorted []) := hq2'.kept c25 (by simp [blocksOf, Value.ownBlock]; omega)
  have c05 : Chg [] w w5 := ((c02.mono (l' := [w2.heap.size]) (by simp)).trans c25).mono (by simp; omega)
  clear hq4 hq4' hq5 hq3' hq2 c23 c24 hc4 hc5 hr1 hr3 hm1 hm2 hc2k
  go_wp2_with fail
  refine (clive_any n w5 hn1 hn4).mono ?_
  rintro e w6 ⟨lb, ab, g1, c1, x1, g2, c2, x2, rfl, hL, hO, hnd, hlo, hc6⟩
  have hb6 : IsQ w6 (.slice (some ⟨w.heap.size, 0, none⟩) (sorted []).length 0) (sorted []) := hb5.kept hc6 (by simp)
  have I6 := inv_start (u := u) (ec := 0 + 1) hL hO hnd hlo hc6 c05 hu hq5' (by omega)
  have hbl : ∀ k, k ∈ blocksOf (.slice (some ⟨w.heap.size, 0, none⟩) (sorted []).length 0) → w.heap.size ≤ k ∧ k ∉ Pl.all ⟨lb, ab, n, g1, c1, x1, g2, c2, x2, w2.heap.size, 0 + 1, u⟩ := by
    intro k hk
    simp only [blocksOf, Value.ownBlock, Option.toList_some, List.mem_singleton] at hk
    subst hk
    have s25 := c25.size
    refine ⟨Nat.le_refl _, fun hm => ?_⟩
    have e : Pl.all ⟨lb, ab, n, g1, c1, x1, g2, c2, x2, w2.heap.size, 0 + 1, u⟩ = [ab, lb, g1, x1, g2, x2] ++ [w2.heap.size] := rfl
    rw [e, List.mem_append] at hm
    rcases hm with hm | hm
    · have := (hlo _ hm).1
      omega
    · simp at hm
      omega
  have hui : (u : Int) < (n : Int) := by omega
  have k7 : w6.cell? ⟨lb, 7, none⟩ = some (.slice (some ⟨ab, 0, none⟩) n n) := hL.orgs
  have kp : w6.cell? ⟨ab, u * 22, none⟩ = some (.int .i64 0) := hO.procs u hu
  have fp : w6.frozen? ⟨ab, u * 22, none⟩ = false := hO.free _
  have I7 : Inv w (w6.setCell ⟨ab, u * 22, none⟩ (.int .i64 1)) ⟨lb, ab, n, g1, c1, x1, g2, c2, x2, w2.heap.size, 0 + 1, u⟩ 1 (sorted ((sorted []) ++ [x])) [] 0 0 := I6.setProcs 1
  have hb7 : IsQ (w6.setCell ⟨ab, u * 22, none⟩ (.int .i64 1)) (.slice (some ⟨w.heap.size, 0, none⟩) (sorted []).length 0) (sorted []) := hb6.kept ((Chg.refl [ab] w6).setCell (by simp) _) (fun k hk => by
    simp only [List.mem_singleton]; rintro rfl; exact (hbl _ hk).2 (by simp [Pl.all]))
  have HI7 : Hid (Inv w (w6.setCell ⟨ab, u * 22, none⟩ (.int .i64 1)) ⟨lb, ab, n, g1, c1, x1, g2, c2, x2, w2.heap.size, 0 + 1, u⟩ 1 (sorted ((sorted []) ++ [x])) [] 0 0) := I7
  have E9 := enqueue_inv_with I7 x hu hn4 (by decide)
  clear I6 I7 hL hO hnd hlo hc6 c05 c25 hq5' hb5 hb6 hb7 hbl hq2' c01 c02
  go_wp2_with fail
  refine E9.mono ?_
  rintro e wA ⟨rfl, v, hv0, IA0⟩
  have hsn : sorted [] = [] := by simp [sorted]
  have IA : Inv w wA ⟨lb, ab, n, g1, c1, x1, g2, c2, x2, w2.heap.size, 0 + 1, u⟩ 1 (sorted ((sorted []) ++ [x])) (ins ((sorted []).countP (· < x)) x (sorted [])) v 0 := by rw [hsn]; rw [hsn] at IA0; exact IA0
  clear IA0 hsn HI7 k7 kp fp
  rw [ins_is _ x (sorted_pairwise _)] at IA
  obtain ⟨a, c, z1, z2, z3⟩ := IA.queue
  rw [HEL.out] at z1 z2
  have k7 := IA.live.orgs
  have kq : wA.cell? ⟨ab, u * 22 + 1, none⟩ = some (.slice a (0 + 1) c) := z1
  have E1 := equal_q (.slice a (0 + 1) c) (.slice (some ⟨w2.heap.size, 0, none⟩) (0 + 1) (0 + 1)) (sorted ((sorted []) ++ [x])) wA z2 (by have := IA.exp; rw [HEL.out] at this; exact this) (by rw [HEL.out]; omega)
  have HI : Hid (Inv w wA ⟨lb, ab, n, g1, c1, x1, g2, c2, x2, w2.heap.size, 0 + 1, u⟩ 1 (sorted ((sorted []) ++ [x])) (sorted ((sorted []) ++ [x])) v 0) := IA
  clear IA z1 z2 z3 E9
  go_wp2_with fail
  refine E1.mono ?_
  rintro e w5' ⟨rfl, q, hw5⟩
  have I5 := HI.out.drewN q
  rw [← hw5] at I5
  clear hw5 HI k7 kq E1
  have k7 := I5.live.orgs
  have ko : Hid (∀ j, j < n → j ≠ u → w5'.cell? ⟨ab, j * 22 + 1, none⟩ = some (.slice none 0 0)) := I5.others
  have k10 := I5.live.wp
  have k11 := I5.live.wo
  have hlb : lb < w5'.heap.size := World.block_lt_of_cell? w5' _ k7
  have Em1 := empty_any g1 c1 x1 _ w5' I5.live.l1 I5.live.b1
  have Em2 := fun o => empty_any g2 c2 x2 _ _ (I5.alloc o).live.l2 (I5.alloc o).live.b2
  have HBB : Hid (∀ o o', Below w.heap.size w ((w5'.alloc o).alloc o')) := fun o o' => ((I5.alloc o).alloc o').below
  have HE : Hid (Calls Yba.prog 10 #[.agg #[.slice (some ⟨g1, 0, none⟩) 1 c1]] w5' _) := Em1
  have HE2 : Hid (∀ o, Calls Yba.prog 10 #[.agg #[.slice (some ⟨g2, 0, none⟩) 1 c2]] (w5'.alloc o) _) := Em2
  clear I5 Em1 Em2
  go_wp2_with fail
  go_loop [16] (fun i => ∃ j : Nat, j ≤ n ∧ i = .int .i64 j) (fun i => n - (intOf i).toNat)
  case atStart => exact ⟨0, Nat.zero_le _, rfl⟩
  case round =>
    obtain ⟨j, hj, rfl⟩ := hrel
    by_cases hlt : j < n
    · have hji : (j : Int) < (n : Int) := by omega
      by_cases hju : j = u
      · have hb : ((j : Int) != (u : Int)) = false := by simp [hju]
        clear hju
        go_wp2
        go_round
        case rel => exact ⟨j + 1, by omega, by go_num⟩
        case measure => simp [intOf]; omega
      · have hb : ((j : Int) != (u : Int)) = true := by simp; omega
        have kj := ko.out j hlt hju
        clear hju
        go_wp2
        go_round
        case rel => exact ⟨j + 1, by omega, by go_num⟩
        case measure => simp [intOf]; omega
    · obtain rfl : j = n := by omega
      go_wp2_with fail
      refine HE.out.mono ?_
      rintro e w6' ⟨rfl, rfl⟩
      go_wp2_with fail
      refine (HE2.out _).mono ?_
      rintro e w7' ⟨rfl, rfl⟩
      go_wp2
      go_ret
      exact ⟨rfl, HBB.out _ _⟩

set_option maxRecDepth 100000 in
set_option maxHeartbeats 3200000 in
theorem ins_none_without (a0 : Option Addr) (cap : Nat) (x a2 a3 : Int) (n u : Nat) (w : World) (p2 : 0 ≤ a2) (q2 : a2 ≤ 255) (p3 : 0 ≤ a3) (q3 : a3 ≤ 255) (hn1 : 1 ≤ n) (hn4 : n ≤ 4) (hu : u < n) (hn : a2 % 4 + 1 = (n : Int)) (hus : a3 % (n : Int) = (u : Int)) :
    Calls Yba.prog 3 #[.slice a0 0 cap, .int .i64 x, .int .u8 a2, .int .u8 a3, .bool false] w fun e w' => e = .returned (.bool true) ∧ Below w.heap.size w w' := by
  have hm1 : ∀ w : World, (Instr.makeSlice 22 (.int .i64 0) (.int .i64 0)).run Yba.prog w = .ok (.slice (some ⟨w.heap.size, 0, none⟩) 0 0) (w.alloc (.cells (madeQ 0) 3)) := mk22 0 0 (Nat.le_refl _) (by omega)
  have hm2 : ∀ w : World, (Instr.makeSlice 22 (.int .i64 0) (.int .i64 1)).run Yba.prog w = .ok (.slice (some ⟨w.heap.size, 0, none⟩) 0 1) (w.alloc (.cells (madeQ 1) 3)) := mk22 0 1 (by omega) (by omega)
  have hsl : (sorted []).length = 0 := sorted_length []
  have hel : (sorted (sorted [] ++ [x])).length = 0 + 1 := by rw [sorted_length]; simp [hsl]
  obtain ⟨w1, hr1, hq1, hc1⟩ := copy_q (w := w.alloc (.cells (madeQ 0) 3)) w.heap.size 0 a0 cap [] (madeQ 0) (heap_alloc_new w _) (madeQ_size _) (by simp) (by decide) (by simp)
  simp only [List.length_nil, Int.natCast_zero] at hr1 hq1
  have HSL : Hid ((sorted []).length = 0) := hsl
  have HEL : Hid ((sorted ((sorted []) ++ [x])).length = 0 + 1) := hel
  clear hsl hel
  have c01 : Chg [] w w1 := (((Chg.refl [] w).alloc _).mono (l' := [w.heap.size]) (by simp)).trans hc1 |>.mono (by simp)
  go_enter Yba.func3, Yba.ntmps3
  go_wp2_with fail
  refine (sort_q _ [] _ hq1 (by simp)).mono ?_
  rintro e w2 ⟨rfl, hq2, hc2⟩
  have c02 : Chg [] w w2 := ((c01.mono (l' := [w.heap.size]) (by simp)).trans hc2).mono (by simp)
  have s2 : w.heap.size < w2.heap.size := hq2.lt _ (by simp [blocksOf, Value.ownBlock])
  have hq2' : IsQ w2 (.slice (some ⟨w.heap.size, 0, none⟩) (sorted []).length 0) (sorted []) := by rw [HSL.out]; exact hq2
  have hsrc : ∀ j v, (ints (sorted []))[j]? = some v → (w2.alloc (.cells (madeQ (0 + 1)) 3)).cell? ((⟨w.heap.size, 0, none⟩ : Addr).add j) = some v := by
    intro j v hj
    rcases hq2' with ⟨h, _⟩ | ⟨g, cp, cur, he, hg, _, _, _, ht⟩
    · cases h
    · obtain ⟨⟨rfl⟩, _⟩ : w.heap.size = g ∧ _ := by simpa using he
      have hjl : j < (sorted []).length := by simpa [ints] using (List.getElem?_eq_some_iff.1 hj).1
      refine ((Chg.refl [] w2).alloc _).cell ?_ (by simp)
      rw [Go.WideShapes.add_plain, cell_of_heap hg, Nat.zero_add, cur_at ht hjl, hj]
  obtain ⟨w3, hr3, hq3, hc3⟩ := copy_q (w := w2.alloc (.cells (madeQ (0 + 1)) 3)) w2.heap.size (0 + 1) (some ⟨w.heap.size, 0, none⟩) 0 (sorted []) (madeQ (0 + 1)) (heap_alloc_new w2 _) (madeQ_size _) (by rw [HSL.out]; omega) (by unfold maxLen; omega) (fun _ => ⟨_, rfl, hsrc⟩)
  rw [HSL.out] at hr3
  simp only [Nat.zero_add, Int.natCast_zero] at hr3
  have c23 : Chg [w2.heap.size] w2 w3 := (((Chg.refl [] w2).alloc _).mono (by simp)).trans hc3
  have s3 : w2.heap.size < w3.heap.size := by
    have := hc3.size
    simp at this
    omega
  have hq3' := hq3.kept ((Chg.refl [] w3).alloc (.cells #[.int .i64 x] 3)) (by simp)
  have hc2k := HSL.out
  clear hq3 hsrc hc1 hc2 hc3 hq1
  go_wp2_with (first
    | (at_builtin; refine append_q rfl _ _ rfl w2.heap.size (0 + 1) w3.heap.size (sorted []) x (by rw [hc2k]; rfl) rfl hq3' (by rw [hc2k]; exact Nat.le_refl _) (cell_one_new _ _ _) ?_; intro w4 hq4 hc4))
  have hq4' : IsQ w4 (.slice (some ⟨w2.heap.size, 0, none⟩) (0 + 1) (0 + 1)) ((sorted []) ++ [x]) := by first | exact hq4 | (rw [hc2k] at hq4; exact hq4)
  have c24 : Chg [w2.heap.size] w2 w4 := c23.trans ((((Chg.refl [] w3).alloc _).mono (by simp)).trans hc4)
  refine (sort_q _ ((sorted []) ++ [x]) _ hq4' (by simp [hc2k])).mono ?_
  rintro e w5 ⟨rfl, hq5, hc5⟩
  have c25 : Chg [w2.heap.size] w2 w5 := c24.trans hc5
  have hq5' : IsQ w5 (.slice (some ⟨w2.heap.size, 0, none⟩) (sorted ((sorted []) ++ [x])).length (0 + 1)) (sorted ((sorted []) ++ [x])) := by rw [HEL.out]; exact hq5
  have hb5 : IsQ w5 (.slice (some ⟨w.heap.size, 0, none⟩) (sorted []).length 0) (sorted []) := hq2'.kept c25 (by simp [blocksOf, Value.ownBlock]; omega)
  have c05 : Chg [] w w5 := ((c02.mono (l' := [w2.heap.size]) (by simp)).trans c25).mono (by simp; omega)
  clear hq4 hq4' hq5 hq3' hq2 c23 c24 hc4 hc5 hr1 hr3 hm1 hm2 hc2k
  go_wp2_with fail
  refine (clive_any n w5 hn1 hn4).mono ?_
  rintro e w6 ⟨lb, ab, g1, c1, x1, g2, c2, x2, rfl, hL, hO, hnd, hlo, hc6⟩
  have hb6 : IsQ w6 (.slice (some ⟨w.heap.size, 0, none⟩) (sorted []).length 0) (sorted []) := hb5.kept hc6 (by simp)
  have I6 := inv_start (u := u) (ec := 0 + 1) hL hO hnd hlo hc6 c05 hu hq5' (by omega)
  have hbl : ∀ k, k ∈ blocksOf (.slice (some ⟨w.heap.size, 0, none⟩) (sorted []).length 0) → w.heap.size ≤ k ∧ k ∉ Pl.all ⟨lb, ab, n, g1, c1, x1, g2, c2, x2, w2.heap.size, 0 + 1, u⟩ := by
    intro k hk
    simp only [blocksOf, Value.ownBlock, Option.toList_some, List.mem_singleton] at hk
    subst hk
    have s25 := c25.size
    refine ⟨Nat.le_refl _, fun hm => ?_⟩
    have e : Pl.all ⟨lb, ab, n, g1, c1, x1, g2, c2, x2, w2.heap.size, 0 + 1, u⟩ = [ab, lb, g1, x1, g2, x2] ++ [w2.heap.size] := rfl
    rw [e, List.mem_append] at hm
    rcases hm with hm | hm
    · have := (hlo _ hm).1
      omega
    · simp at hm
      omega
  have hui : (u : Int) < (n : Int) := by omega
  have I7 := I6
  have hb7 := hb6
  have HI7 : Hid (Inv w w6 ⟨lb, ab, n, g1, c1, x1, g2, c2, x2, w2.heap.size, 0 + 1, u⟩ 0 (sorted ((sorted []) ++ [x])) [] 0 0) := I7
  have E9 := enqueue_inv_without I7 x hu hn4 (by decide)
  clear I6 I7 hL hO hnd hlo hc6 c05 c25 hq5' hb5 hb6 hb7 hbl hq2' c01 c02
  go_wp2_with fail
  refine E9.mono ?_
  rintro e wA ⟨rfl, v, hv0, IA0⟩
  have hsn : sorted [] = [] := by simp [sorted]
  have IA : Inv w wA ⟨lb, ab, n, g1, c1, x1, g2, c2, x2, w2.heap.size, 0 + 1, u⟩ 0 (sorted ((sorted []) ++ [x])) (ins ((sorted []).countP (· < x)) x (sorted [])) 0 v := by rw [hsn]; rw [hsn] at IA0; exact IA0
  clear IA0 hsn HI7
  rw [ins_is _ x (sorted_pairwise _)] at IA
  obtain ⟨a, c, z1, z2, z3⟩ := IA.queue
  rw [HEL.out] at z1 z2
  have k7 := IA.live.orgs
  have kq : wA.cell? ⟨ab, u * 22 + 1, none⟩ = some (.slice a (0 + 1) c) := z1
  have E1 := equal_q (.slice a (0 + 1) c) (.slice (some ⟨w2.heap.size, 0, none⟩) (0 + 1) (0 + 1)) (sorted ((sorted []) ++ [x])) wA z2 (by have := IA.exp; rw [HEL.out] at this; exact this) (by rw [HEL.out]; omega)
  have HI : Hid (Inv w wA ⟨lb, ab, n, g1, c1, x1, g2, c2, x2, w2.heap.size, 0 + 1, u⟩ 0 (sorted ((sorted []) ++ [x])) (sorted ((sorted []) ++ [x])) 0 v) := IA
  clear IA z1 z2 z3 E9
  go_wp2_with fail
  refine E1.mono ?_
  rintro e w5' ⟨rfl, q, hw5⟩
  have I5 := HI.out.drewN q
  rw [← hw5] at I5
  clear hw5 HI k7 kq E1
  have k7 := I5.live.orgs
  have ko : Hid (∀ j, j < n → j ≠ u → w5'.cell? ⟨ab, j * 22 + 1, none⟩ = some (.slice none 0 0)) := I5.others
  have k10 := I5.live.wp
  have k11 := I5.live.wo
  have hlb : lb < w5'.heap.size := World.block_lt_of_cell? w5' _ k7
  have Em1 := empty_any g1 c1 x1 _ w5' I5.live.l1 I5.live.b1
  have Em2 := fun o => empty_any g2 c2 x2 _ _ (I5.alloc o).live.l2 (I5.alloc o).live.b2
  have HBB : Hid (∀ o o', Below w.heap.size w ((w5'.alloc o).alloc o')) := fun o o' => ((I5.alloc o).alloc o').below
  have HE : Hid (Calls Yba.prog 10 #[.agg #[.slice (some ⟨g1, 0, none⟩) 1 c1]] w5' _) := Em1
  have HE2 : Hid (∀ o, Calls Yba.prog 10 #[.agg #[.slice (some ⟨g2, 0, none⟩) 1 c2]] (w5'.alloc o) _) := Em2
  clear I5 Em1 Em2
  go_wp2_with fail
  go_loop [16] (fun i => ∃ j : Nat, j ≤ n ∧ i = .int .i64 j) (fun i => n - (intOf i).toNat)
  case atStart => exact ⟨0, Nat.zero_le _, rfl⟩
  case round =>
    obtain ⟨j, hj, rfl⟩ := hrel
    by_cases hlt : j < n
    · have hji : (j : Int) < (n : Int) := by omega
      by_cases hju : j = u
      · have hb : ((j : Int) != (u : Int)) = false := by simp [hju]
        clear hju
        go_wp2
        go_round
        case rel => exact ⟨j + 1, by omega, by go_num⟩
        case measure => simp [intOf]; omega
      · have hb : ((j : Int) != (u : Int)) = true := by simp; omega
        have kj := ko.out j hlt hju
        clear hju
        go_wp2
        go_round
        case rel => exact ⟨j + 1, by omega, by go_num⟩
        case measure => simp [intOf]; omega
    · obtain rfl : j = n := by omega
      go_wp2_with fail
      refine HE.out.mono ?_
      rintro e w6' ⟨rfl, rfl⟩
      go_wp2_with fail
      refine (HE2.out _).mono ?_
      rintro e w7' ⟨rfl, rfl⟩
      go_wp2
      go_ret
      exact ⟨rfl, HBB.out _ _⟩

theorem ins_big (a0 : Option Addr) (N cap : Nat) (x a2 a3 : Int) (hp : Bool) (w : World) (h1 : 1024 < N) (h2 : N ≤ 9223372036854775807) :
    Calls Yba.prog 3 #[.slice a0 N cap, .int .i64 x, .int .u8 a2, .int .u8 a3, .bool hp] w fun e w' => e = .returned (.bool true) ∧ Below w.heap.size w w' := by
  have hgt : 1024 < (N : Int) := by omega
  go_enter Yba.func3, Yba.ntmps3
  go_wp2
  go_ret
  exact ⟨rfl, Below.refl _ _⟩

end Go.Proofs.Ybulkcvgu
