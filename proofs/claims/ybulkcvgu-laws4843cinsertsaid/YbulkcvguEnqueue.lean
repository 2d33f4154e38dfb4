/-
  Seat b4843a: the walk of '(*Live).enqueue'.
-/
import Derived.Test.YbulkcvguQueue
import Derived.Deep.DeepFit
namespace Go.Proofs.Ybulkcvgu
open Go.RowKit
set_option linter.unusedVariables false

theorem IsQ.shape {w : World} {v : Value} {zs : List Int} (h : IsQ w v zs) : ∃ a c, v = .slice a zs.length c := by
  rcases h with ⟨rfl, rfl⟩ | ⟨g, cap, cur, rfl, _⟩
  · exact ⟨_, _, rfl⟩
  · exact ⟨_, _, rfl⟩

/-- What 'enqueue' leaves of organisation u's queue, v before it: the numbers zs'; in the row of organisations nothing else has turned; in memory nothing but that row, the blocks of l, the queue's own row. -/
def Enq (ab u : Nat) (l : List Nat) (v : Value) (zs' : List Int) (w w' : World) : Prop :=
  ∃ a c, w'.cell? ⟨ab, u * 22 + 1, none⟩ = some (.slice a zs'.length c) ∧ IsQ w' (.slice a zs'.length c) zs' ∧ (∀ k, k ∈ blocksOf (.slice a zs'.length c) → k ∈ blocksOf v ∨ w.heap.size ≤ k) ∧
    (∀ j, j ≠ u * 22 + 1 → w'.cell? ⟨ab, j, none⟩ = w.cell? ⟨ab, j, none⟩) ∧ (∀ j, w'.frozen? ⟨ab, j, none⟩ = w.frozen? ⟨ab, j, none⟩) ∧ Chg (ab :: (l ++ blocksOf v)) w w'

/-- Behind slices.Insert, the new queue stored. -/
theorem enq_store {ab u : Nat} {v v' : Value} {zs' : List Int} {x : Int} {q : Nat} {w w2 : World} {a : Option Addr} {c : Nat} (habl : ab < w.heap.size) (hab : ab ∉ blocksOf v)
    (hc : Chg (blocksOf v) ((w.drewN q).alloc (.cells #[.int .i64 x] 3)) w2) (hq2 : IsQ w2 v' zs') (hb2 : blocksOf v' = blocksOf v ∨ ∀ k, k ∈ blocksOf v' → ((w.drewN q).alloc (.cells #[.int .i64 x] 3)).heap.size ≤ k)
    (hv : v' = .slice a zs'.length c) {y : Value} (hcell : w.cell? ⟨ab, u * 22 + 1, none⟩ = some y) :
    Enq ab u [] v zs' w (w2.setCell ⟨ab, u * 22 + 1, none⟩ (.slice a zs'.length c)) := by
  subst hv
  have hc' : Chg (blocksOf v) w w2 := (((Chg.refl _ w).drewN q).alloc _).trans hc
  have hcell2 : w2.cell? ⟨ab, u * 22 + 1, none⟩ = some y := hc'.cell hcell hab
  have hb' : ∀ k, k ∈ blocksOf (.slice a zs'.length c) → k ∈ blocksOf v ∨ w.heap.size ≤ k := by
    intro k hk
    rcases hb2 with h | h
    · rw [h] at hk; exact .inl hk
    · have h1 := h k hk
      have h2 : ((w.drewN q).alloc (.cells #[.int .i64 x] 3)).heap.size = w.heap.size + 1 := by simp [World.drewN]
      exact .inr (by omega)
  have hne : ab ∉ blocksOf (.slice a zs'.length c) := by
    intro hk
    rcases hb' ab hk with h | h
    · exact hab h
    · omega
  refine ⟨a, c, World.cell?_setCell_same _ _ _ hcell2, ?_, hb', fun j hj => ?_, fun j => ?_, ?_⟩
  · exact hq2.kept ((Chg.refl [ab] w2).setCell (by simp) _) (fun k hk => by
      simp
      rintro rfl
      exact hne hk)
  · rw [World.cell?_setCell_other _ _ _ _ (fun e => hj (congrArg Addr.off e).symm)]
    exact World.cell?_of_block (hc'.block ab habl hab)
  · rw [World.frozen?_setCell]
    exact World.frozen?_of_block (hc'.block ab habl hab)
  · exact (hc'.mono (fun k hk => .inl (by simp [hk]))).setCell (by simp) _

set_option maxHeartbeats 800000 in
/-- Into a queue that is not empty. -/
theorem enqueue_more (lb ab n u : Nat) (qa : Option Addr) (qc : Nat) (zs : List Int) (x : Int) (w : World)
    (ho : w.cell? ⟨lb, 7, none⟩ = some (.slice (some ⟨ab, 0, none⟩) n n)) (hcq : w.cell? ⟨ab, u * 22 + 1, none⟩ = some (.slice qa zs.length qc)) (hfq : w.frozen? ⟨ab, u * 22 + 1, none⟩ = false)
    (hu : u < n) (hn : n ≤ 4) (hq : IsQ w (.slice qa zs.length qc) zs) (hs : zs.Pairwise (· ≤ ·)) (hz : zs.length ≤ 2048) (hz0 : 0 < zs.length) (hab : ab ∉ blocksOf (.slice qa zs.length qc)) :
    Calls Yba.prog 8 #[.pointer (some ⟨lb, 0, none⟩), .int .i64 (u : Int), .int .i64 x] w fun e w' => e = .returned (.tuple #[]) ∧ Enq ab u [] (.slice qa zs.length qc) (ins (zs.countP (· < x)) x zs) w w' := by
  have hui : (u : Int) < (n : Int) := by omega
  have hlb : lb < w.heap.size := World.block_lt_of_cell? w _ ho
  have habl : ab < w.heap.size := World.block_lt_of_cell? w _ hcq
  have hk := count_le zs x
  go_enter Yba.func8, Yba.ntmps8
  go_wp2_with fail
  refine (search_q _ zs x _ hq (by omega) hs).mono ?_
  rintro e w1 ⟨⟨b, rfl⟩, q, rfl⟩
  generalize hkk : List.countP (fun y => decide (y < x)) zs = k at hk
  have HK : Hid (List.countP (fun y => decide (y < x)) zs = k) := hkk
  clear hkk
  go_wp2_with fail
  refine (insert_q _ zs k x _ _ (hq.kept (((Chg.refl [] w).drewN q).alloc _) (by simp)) hk (by omega) ?_ ?_).mono ?_
  · exact heap_alloc_new (w.drewN q) _
  · exact fun h => Nat.lt_irrefl _ (hq.lt _ h)
  rintro e w2 ⟨v', rfl, hq2, hc2, hb2⟩
  obtain ⟨a, c, hv⟩ := hq2.shape
  have hln := ins_length k x zs hk
  have HE := enq_store habl hab hc2 hq2 hb2 hv hcq
  have hc' : Chg (blocksOf (.slice qa zs.length qc)) w w2 := (((Chg.refl _ w).drewN q).alloc _).trans hc2
  have hcell2 : w2.cell? ⟨ab, u * 22 + 1, none⟩ = some (.slice qa zs.length qc) := hc'.cell hcq hab
  have hfq2 : w2.frozen? ⟨ab, u * 22 + 1, none⟩ = false := (hc'.frozen (p := ⟨ab, u * 22 + 1, none⟩) habl hab).trans hfq
  obtain ⟨m, hm⟩ : ∃ m, m = (ins k x zs).length := ⟨_, rfl⟩
  rw [← hm] at hv hln HE
  rw [hv]
  have hm1 : ((m : Int) == 1) = false := by simp; omega
  have HEE : Hid (Enq ab u [] (.slice qa zs.length qc) (ins k x zs) w (w2.setCell ⟨ab, u * 22 + 1, none⟩ (.slice a m c))) := HE
  clear HE hm hv hq2 hc2 hb2 hc' hln
  go_wp2
  go_end0
  rw [HK.out]
  exact ⟨rfl, HEE.out⟩

/-- The waiting set set behind the store. -/
theorem Enq.more {ab u x1 : Nat} {v : Value} {zs' : List Int} {w w3 w4 : World} (h : Enq ab u [] v zs' w w3) (hc : Chg [x1] w3 w4) (hx : x1 ≠ ab) (hxw : x1 < w.heap.size) (hxv : x1 ∉ blocksOf v) :
    Enq ab u [x1] v zs' w w4 := by
  obtain ⟨a, c, h1, h2, h3, h4, h5, h6⟩ := h
  have habl : ab < w3.heap.size := World.block_lt_of_cell? w3 _ h1
  have habx : ab ∉ [x1] := by simpa using hx.symm
  refine ⟨a, c, hc.cell h1 habx, h2.kept hc (fun k hk => ?_), h3, fun j hj => ?_, fun j => ?_, ?_⟩
  · simp only [List.mem_singleton]
    rintro rfl
    rcases h3 _ hk with h | h
    · exact hxv h
    · omega
  · rw [← h4 j hj]; exact World.cell?_of_block (hc.block ab habl habx)
  · rw [← h5 j]; exact World.frozen?_of_block (hc.block ab habl habx)
  · exact (h6.mono (fun k hk => .inl (by simp at hk; simp; rcases hk with h | h <;> simp [h]))).trans (hc.mono (fun k hk => .inl (by simp at hk; simp [hk])))

set_option maxHeartbeats 800000 in
/-- Into an empty queue, the organisation with processors. -/
theorem enqueue_first_with (lb ab n u g c1 x1 : Nat) (pr : Int) (qa : Option Addr) (qc : Nat) (x : Int) (w : World)
    (ho : w.cell? ⟨lb, 7, none⟩ = some (.slice (some ⟨ab, 0, none⟩) n n)) (hcp : w.cell? ⟨ab, u * 22, none⟩ = some (.int .i64 pr)) (hcq : w.cell? ⟨ab, u * 22 + 1, none⟩ = some (.slice qa 0 qc)) (hfq : w.frozen? ⟨ab, u * 22 + 1, none⟩ = false)
    (hu : u < n) (hn : n ≤ 4) (hp : 0 < pr) (hw : w.cell? ⟨lb, 10, none⟩ = some (.slice (some ⟨g, 0, none⟩) 1 c1)) (hl : w.cell? ⟨g, 0, none⟩ = some (.slice (some ⟨x1, 0, none⟩) 1 1)) (hx : w.cell? ⟨x1, 0, none⟩ = some (.int .u64 0)) (hfx : w.frozen? ⟨x1, 0, none⟩ = false)
    (hq : IsQ w (.slice qa 0 qc) []) (hd : lb ≠ ab ∧ g ≠ ab ∧ x1 ≠ ab) (hbl : ∀ k, k ∈ [ab, lb, g, x1] → k ∉ blocksOf (.slice qa 0 qc)) :
    Calls Yba.prog 8 #[.pointer (some ⟨lb, 0, none⟩), .int .i64 (u : Int), .int .i64 x] w fun e w' => e = .returned (.tuple #[]) ∧ Enq ab u [x1] (.slice qa 0 qc) [x] w w' ∧ ∃ v : Int, (v == 0) = false ∧ w'.cell? ⟨x1, 0, none⟩ = some (.int .u64 v) ∧ w'.frozen? ⟨x1, 0, none⟩ = false := by
  have hui : (u : Int) < (n : Int) := by omega
  have hlb : lb < w.heap.size := World.block_lt_of_cell? w _ ho
  have habl : ab < w.heap.size := World.block_lt_of_cell? w _ hcq
  have hab : ab ∉ blocksOf (.slice qa 0 qc) := hbl ab (by simp)
  go_enter Yba.func8, Yba.ntmps8
  go_wp2_with fail
  refine (search_q _ [] x _ hq (by simp) (by simp)).mono ?_
  rintro e w1 ⟨⟨b, rfl⟩, q, rfl⟩
  simp only [List.countP_nil, Int.natCast_zero]
  go_wp2_with fail
  refine (insert_q (.slice qa 0 qc) [] 0 x _ _ (hq.kept (((Chg.refl [] w).drewN q).alloc _) (by simp)) (Nat.le_refl _) (by simp) ?_ ?_).mono ?_
  · exact heap_alloc_new (w.drewN q) _
  · exact fun h => Nat.lt_irrefl _ (hq.lt _ h)
  rintro e w2 ⟨v', rfl, hq2, hc2, hb2⟩
  obtain ⟨a, c, hv⟩ := hq2.shape
  have HE := enq_store habl hab hc2 hq2 hb2 hv hcq
  have hc' : Chg (blocksOf (.slice qa 0 qc)) w w2 := (((Chg.refl _ w).drewN q).alloc _).trans hc2
  have hcell2 : w2.cell? ⟨ab, u * 22 + 1, none⟩ = some (.slice qa 0 qc) := hc'.cell hcq hab
  have hfq2 : w2.frozen? ⟨ab, u * 22 + 1, none⟩ = false := (hc'.frozen (p := ⟨ab, u * 22 + 1, none⟩) habl hab).trans hfq
  have hv1 : v' = .slice a 1 c := hv
  have HEE : Hid (Enq ab u [] (.slice qa 0 qc) [x] w (w2.setCell ⟨ab, u * 22 + 1, none⟩ (.slice a 1 c))) := HE
  have oth : ∀ (p : Addr) (y : Value), p ≠ ⟨ab, u * 22 + 1, none⟩ → p.block ∉ blocksOf (.slice qa 0 qc) → w.cell? p = some y → (w2.setCell ⟨ab, u * 22 + 1, none⟩ (.slice a 1 c)).cell? p = some y := fun p y h1 h2 h3 => by
    rw [World.cell?_setCell_other _ _ _ _ h1.symm]
    exact hc'.cell h3 h2
  have ne1 : ∀ (b j : Nat), b ≠ ab → (⟨b, j, none⟩ : Addr) ≠ ⟨ab, u * 22 + 1, none⟩ := fun b j h e => h (congrArg Addr.block e)
  have q7 := oth ⟨lb, 7, none⟩ _ (ne1 _ _ hd.1) (hbl lb (by simp)) ho
  have qp := oth ⟨ab, u * 22, none⟩ _ (fun e => by have := congrArg Addr.off e; simp at this) hab hcp
  have qw := oth ⟨lb, 10, none⟩ _ (ne1 _ _ hd.1) (hbl lb (by simp)) hw
  have ql := oth ⟨g, 0, none⟩ _ (ne1 _ _ hd.2.1) (hbl g (by simp)) hl
  have qx := oth ⟨x1, 0, none⟩ _ (ne1 _ _ hd.2.2) (hbl x1 (by simp)) hx
  have qf : (w2.setCell ⟨ab, u * 22 + 1, none⟩ (.slice a 1 c)).frozen? ⟨x1, 0, none⟩ = false := by
    rw [World.frozen?_setCell]
    exact (hc'.frozen (p := ⟨x1, 0, none⟩) (World.block_lt_of_cell? w _ hx) (hbl x1 (by simp))).trans hfx
  have C1 := waiting_with lb ab n u g c1 pr _ hu hn hp q7 qp qw
  have hxw : x1 < w.heap.size := World.block_lt_of_cell? w _ hx
  have al : ∀ (W : World) (o : Obj) (p : Addr) (y : Value), W.cell? p = some y → (W.alloc o).cell? p = some y := fun W o p y h => ((Chg.refl [] W).alloc o).cell h (by simp)
  have C2 := fun o => set_first g c1 x1 u _ (by omega) (al _ o _ _ ql) (al _ o _ _ qx) ((((Chg.refl [] _).alloc o).frozen (p := ⟨x1, 0, none⟩) (World.block_lt_of_cell? _ _ qx) (by simp)).trans qf)
  have HX : Hid (x1 ≠ ab ∧ x1 < w.heap.size ∧ x1 ∉ blocksOf (.slice qa 0 qc)) := ⟨hd.2.2, hxw, hbl x1 (by simp)⟩
  rw [hv1]
  clear HE hv hv1 hq2 hc2 hb2 hc' oth ne1 q7 qp qw ql qx qf al hbl hd ho hcp hw hl hx hfx hxw hq
  go_wp2_with fail
  refine C1.mono ?_
  rintro e w4 ⟨rfl, rfl⟩
  go_wp2_with fail
  refine (C2 _).mono ?_
  rintro e w5 ⟨rfl, v, hv0, hv1, hvf, hc5⟩
  go_wp2
  go_end0
  exact ⟨rfl, HEE.out.more (((Chg.refl _ _).alloc _).trans hc5) HX.out.1 HX.out.2.1 HX.out.2.2, v, hv0, hv1, hvf⟩

set_option maxHeartbeats 800000 in
/-- Into an empty queue, the organisation without processors. -/
theorem enqueue_first_without (lb ab n u g c1 x1 : Nat) (pr : Int) (qa : Option Addr) (qc : Nat) (x : Int) (w : World)
    (ho : w.cell? ⟨lb, 7, none⟩ = some (.slice (some ⟨ab, 0, none⟩) n n)) (hcp : w.cell? ⟨ab, u * 22, none⟩ = some (.int .i64 pr)) (hcq : w.cell? ⟨ab, u * 22 + 1, none⟩ = some (.slice qa 0 qc)) (hfq : w.frozen? ⟨ab, u * 22 + 1, none⟩ = false)
    (hu : u < n) (hn : n ≤ 4) (hp : pr ≤ 0) (hw : w.cell? ⟨lb, 11, none⟩ = some (.slice (some ⟨g, 0, none⟩) 1 c1)) (hl : w.cell? ⟨g, 0, none⟩ = some (.slice (some ⟨x1, 0, none⟩) 1 1)) (hx : w.cell? ⟨x1, 0, none⟩ = some (.int .u64 0)) (hfx : w.frozen? ⟨x1, 0, none⟩ = false)
    (hq : IsQ w (.slice qa 0 qc) []) (hd : lb ≠ ab ∧ g ≠ ab ∧ x1 ≠ ab) (hbl : ∀ k, k ∈ [ab, lb, g, x1] → k ∉ blocksOf (.slice qa 0 qc)) :
    Calls Yba.prog 8 #[.pointer (some ⟨lb, 0, none⟩), .int .i64 (u : Int), .int .i64 x] w fun e w' => e = .returned (.tuple #[]) ∧ Enq ab u [x1] (.slice qa 0 qc) [x] w w' ∧ ∃ v : Int, (v == 0) = false ∧ w'.cell? ⟨x1, 0, none⟩ = some (.int .u64 v) ∧ w'.frozen? ⟨x1, 0, none⟩ = false := by
  have hui : (u : Int) < (n : Int) := by omega
  have hlb : lb < w.heap.size := World.block_lt_of_cell? w _ ho
  have habl : ab < w.heap.size := World.block_lt_of_cell? w _ hcq
  have hab : ab ∉ blocksOf (.slice qa 0 qc) := hbl ab (by simp)
  go_enter Yba.func8, Yba.ntmps8
  go_wp2_with fail
  refine (search_q _ [] x _ hq (by simp) (by simp)).mono ?_
  rintro e w1 ⟨⟨b, rfl⟩, q, rfl⟩
  simp only [List.countP_nil, Int.natCast_zero]
  go_wp2_with fail
  refine (insert_q (.slice qa 0 qc) [] 0 x _ _ (hq.kept (((Chg.refl [] w).drewN q).alloc _) (by simp)) (Nat.le_refl _) (by simp) ?_ ?_).mono ?_
  · exact heap_alloc_new (w.drewN q) _
  · exact fun h => Nat.lt_irrefl _ (hq.lt _ h)
  rintro e w2 ⟨v', rfl, hq2, hc2, hb2⟩
  obtain ⟨a, c, hv⟩ := hq2.shape
  have HE := enq_store habl hab hc2 hq2 hb2 hv hcq
  have hc' : Chg (blocksOf (.slice qa 0 qc)) w w2 := (((Chg.refl _ w).drewN q).alloc _).trans hc2
  have hcell2 : w2.cell? ⟨ab, u * 22 + 1, none⟩ = some (.slice qa 0 qc) := hc'.cell hcq hab
  have hfq2 : w2.frozen? ⟨ab, u * 22 + 1, none⟩ = false := (hc'.frozen (p := ⟨ab, u * 22 + 1, none⟩) habl hab).trans hfq
  have hv1 : v' = .slice a 1 c := hv
  have HEE : Hid (Enq ab u [] (.slice qa 0 qc) [x] w (w2.setCell ⟨ab, u * 22 + 1, none⟩ (.slice a 1 c))) := HE
  have oth : ∀ (p : Addr) (y : Value), p ≠ ⟨ab, u * 22 + 1, none⟩ → p.block ∉ blocksOf (.slice qa 0 qc) → w.cell? p = some y → (w2.setCell ⟨ab, u * 22 + 1, none⟩ (.slice a 1 c)).cell? p = some y := fun p y h1 h2 h3 => by
    rw [World.cell?_setCell_other _ _ _ _ h1.symm]
    exact hc'.cell h3 h2
  have ne1 : ∀ (b j : Nat), b ≠ ab → (⟨b, j, none⟩ : Addr) ≠ ⟨ab, u * 22 + 1, none⟩ := fun b j h e => h (congrArg Addr.block e)
  have q7 := oth ⟨lb, 7, none⟩ _ (ne1 _ _ hd.1) (hbl lb (by simp)) ho
  have qp := oth ⟨ab, u * 22, none⟩ _ (fun e => by have := congrArg Addr.off e; simp at this) hab hcp
  have qw := oth ⟨lb, 11, none⟩ _ (ne1 _ _ hd.1) (hbl lb (by simp)) hw
  have ql := oth ⟨g, 0, none⟩ _ (ne1 _ _ hd.2.1) (hbl g (by simp)) hl
  have qx := oth ⟨x1, 0, none⟩ _ (ne1 _ _ hd.2.2) (hbl x1 (by simp)) hx
  have qf : (w2.setCell ⟨ab, u * 22 + 1, none⟩ (.slice a 1 c)).frozen? ⟨x1, 0, none⟩ = false := by
    rw [World.frozen?_setCell]
    exact (hc'.frozen (p := ⟨x1, 0, none⟩) (World.block_lt_of_cell? w _ hx) (hbl x1 (by simp))).trans hfx
  have C1 := waiting_without lb ab n u g c1 pr _ hu hn hp q7 qp qw
  have hxw : x1 < w.heap.size := World.block_lt_of_cell? w _ hx
  have al : ∀ (W : World) (o : Obj) (p : Addr) (y : Value), W.cell? p = some y → (W.alloc o).cell? p = some y := fun W o p y h => ((Chg.refl [] W).alloc o).cell h (by simp)
  have C2 := fun o => set_first g c1 x1 u _ (by omega) (al _ o _ _ ql) (al _ o _ _ qx) ((((Chg.refl [] _).alloc o).frozen (p := ⟨x1, 0, none⟩) (World.block_lt_of_cell? _ _ qx) (by simp)).trans qf)
  have HX : Hid (x1 ≠ ab ∧ x1 < w.heap.size ∧ x1 ∉ blocksOf (.slice qa 0 qc)) := ⟨hd.2.2, hxw, hbl x1 (by simp)⟩
  rw [hv1]
  clear HE hv hv1 hq2 hc2 hb2 hc' oth ne1 q7 qp qw ql qx qf al hbl hd ho hcp hw hl hx hfx hxw hq
  go_wp2_with fail
  refine C1.mono ?_
  rintro e w4 ⟨rfl, rfl⟩
  go_wp2_with fail
  refine (C2 _).mono ?_
  rintro e w5 ⟨rfl, v, hv0, hv1, hvf, hc5⟩
  go_wp2
  go_end0
  exact ⟨rfl, HEE.out.more (((Chg.refl _ _).alloc _).trans hc5) HX.out.1 HX.out.2.1 HX.out.2.2, v, hv0, hv1, hvf⟩

end Go.Proofs.Ybulkcvgu
