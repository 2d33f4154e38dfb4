/-
  Seat b4843a: the walks of the bit trees and of the 'Live' that the laws build.
-/
import Derived.Test.YbulkcvguProg
import Derived.WalkKit
import Derived.WalkLawsBesides
import Derived.Outline
import Derived.OwnWalk
import Derived.Maps.AppendAt
import Derived.RegionTactic
import Derived.ChangeAlike
namespace Go.Proofs.Ybulkcvgu
open Go.RowKit
set_option linter.unusedVariables false

/-- 'w'' is 'w' with new blocks, draws, and changes in the blocks of the list alone. -/
structure Chg (l : List Nat) (w w' : World) : Prop where
  os : w'.os = w.os
  tape : w'.tape = w.tape
  output : w'.output = w.output
  size : w.heap.size ≤ w'.heap.size
  block : ∀ k, k < w.heap.size → k ∉ l → w'.heap[k]? = w.heap[k]?

theorem Chg.refl (l : List Nat) (w : World) : Chg l w w := ⟨rfl, rfl, rfl, Nat.le_refl _, fun _ _ _ => rfl⟩
theorem Chg.trans {l : List Nat} {a b c : World} (h : Chg l a b) (k : Chg l b c) : Chg l a c :=
  ⟨k.os.trans h.os, k.tape.trans h.tape, k.output.trans h.output, Nat.le_trans h.size k.size, fun i hi hl => (k.block i (Nat.lt_of_lt_of_le hi h.size) hl).trans (h.block i hi hl)⟩
theorem Chg.mono {l l' : List Nat} {a b : World} (h : Chg l a b) (hs : ∀ k, k ∈ l → k ∈ l' ∨ a.heap.size ≤ k) : Chg l' a b :=
  ⟨h.os, h.tape, h.output, h.size, fun i hi hl => h.block i hi (fun hm => by rcases hs i hm with h1 | h1; exact hl h1; omega)⟩
theorem Chg.drew {l : List Nat} {a b : World} (h : Chg l a b) : Chg l a b.drew := ⟨h.os, h.tape, h.output, h.size, h.block⟩
theorem Chg.drewN {l : List Nat} {a b : World} (h : Chg l a b) (n : Nat) : Chg l a (b.drewN n) := ⟨h.os, h.tape, h.output, h.size, h.block⟩
theorem Chg.setCell {l : List Nat} {a b : World} (h : Chg l a b) {p : Addr} (hp : p.block ∈ l ∨ a.heap.size ≤ p.block) (v : Value) : Chg l a (b.setCell p v) := by
  refine ⟨h.os, h.tape, h.output, by simpa [World.setCell] using h.size, fun k hk hl => ?_⟩
  have : p.block ≠ k := by
    rintro rfl
    rcases hp with hp | hp
    · exact hl hp
    · omega
  simp only [World.setCell, Array.getElem?_modify, if_neg this]
  exact h.block k hk hl
theorem Chg.ofGrown {l : List Nat} {a b : World} {r : Option Nat} (h : a.grownBy b r) (hr : ∀ k, r = some k → k ∈ l ∨ a.heap.size ≤ k) : Chg l a b :=
  ⟨h.os, h.tape, h.output, h.size, fun k hk hl => h.block k hk (fun e => by rcases hr k e.symm with h1 | h1; exact hl h1; omega)⟩
theorem Chg.alloc {l : List Nat} {a b : World} (h : Chg l a b) (o : Obj) : Chg l a (b.alloc o) :=
  h.trans (Chg.ofGrown (World.grownBy_alloc b o none) (by simp))
theorem Chg.cell {l : List Nat} {a b : World} (h : Chg l a b) {p : Addr} {v : Value} (hc : a.cell? p = some v) (hp : p.block ∉ l) : b.cell? p = some v :=
  (World.cell?_of_block (h.block p.block (World.block_lt_of_cell? a p hc) hp)).trans hc
theorem Chg.frozen {l : List Nat} {a b : World} (h : Chg l a b) {p : Addr} (hlt : p.block < a.heap.size) (hp : p.block ∉ l) : b.frozen? p = a.frozen? p :=
  World.frozen?_of_block (h.block p.block hlt hp)
theorem Chg.below {l : List Nat} {a b : World} (h : Chg l a b) {B : Nat} (hB : B ≤ a.heap.size) (hl : ∀ k, k ∈ l → B ≤ k) : Below B a b :=
  ⟨h.os, h.tape, h.output, h.size, fun k hk => h.block k (by omega) (fun hm => by have := hl k hm; omega)⟩

theorem mk62 (w : World) : (Instr.makeSlice 62 (.int .i64 1) (.int .i64 1)).run Yba.prog w = .ok (.slice (some ⟨w.heap.size, 0, none⟩) 1 1) (w.alloc (.cells #[.int .u64 0] 26)) := by kernel_rfl
theorem info62 : (Yba.prog.info? 62).map (fun i => (i.zero, i.size, i.bytes)) = some (some (.slice none 0 0), 1, 24) := by kernel_rfl

/-- What 'Grow' leaves of an empty bit tree that lies at ⟨lb, o⟩: one level of one word, nought. -/
def Grew (lb o : Nat) (w w' : World) : Prop :=
  ∃ g c x, w'.cell? ⟨lb, o, none⟩ = some (.slice (some ⟨g, 0, none⟩) 1 c) ∧ w'.cell? ⟨g, 0, none⟩ = some (.slice (some ⟨x, 0, none⟩) 1 1) ∧ w'.cell? ⟨x, 0, none⟩ = some (.int .u64 0) ∧
    w'.frozen? ⟨x, 0, none⟩ = false ∧ w.heap.size ≤ g ∧ w.heap.size ≤ x ∧ g ≠ x ∧ g < w'.heap.size ∧ x < w'.heap.size ∧ Chg [lb] w w' ∧
    (∀ j, j ≠ o → w'.cell? ⟨lb, j, none⟩ = w.cell? ⟨lb, j, none⟩) ∧ (∀ j, w'.frozen? ⟨lb, j, none⟩ = w.frozen? ⟨lb, j, none⟩)

set_option maxRecDepth 100000 in
set_option maxHeartbeats 1000000 in
theorem grow_new (lb o : Nat) (n : Int) (w : World) (h0 : 1 ≤ n) (h1 : n ≤ 64) (hc : w.cell? ⟨lb, o, none⟩ = some (.slice none 0 0)) (hf : w.frozen? ⟨lb, o, none⟩ = false) :
    Calls Yba.prog 13 #[.pointer (some ⟨lb, o, none⟩), .int .i64 n] w fun e w' => e = .returned (.tuple #[]) ∧ Grew lb o w w' := by
  have hq : (n + 63) / 64 = 1 := by omega
  have hmk := mk62
  have hlb : lb < w.heap.size := World.block_lt_of_cell? w _ hc
  obtain ⟨i0, hi, hz0, hz1, hz2⟩ := info_parts info62
  go_enter Yba.func13, Yba.ntmps13
  go_wp2
  refine wp_loop_rounds 1 ?_
  rw [rounds_succ]
  go_wp2_with (first
    | (at_builtin; refine wpList_append_own _ rfl _ _ 45 rfl (w.heap.size + 2) 62 i0 (.slice none 0 0) 1 24 Yba.underlying45 hi hz0 hz1 hz2 rfl (by decide) (.slice none 0 0) 0 [] rfl (World.ownsRow_nil _ _ _ _) ⟨w.heap.size + 1, 0, none⟩ 1 1 [.slice (some ⟨w.heap.size, 0, none⟩) 1 1] rfl rfl ?hn ?h1 (by decide) (by decide) (by simp) ?_))
  case hn => simpa using cell_one_new (w.alloc (.cells #[.int .u64 0] 26)) (.slice (some ⟨w.heap.size, 0, none⟩) 1 1) 62
  case h1 => simp [Value.oneCell']
  intro v' w1 hown hgrow hnil
  obtain ⟨g, cap, hv, hg, hcell⟩ : ∃ g cap, v' = .slice (some ⟨g, 0, none⟩) 1 cap ∧ w.heap.size + 2 ≤ g ∧ w1.cell? ⟨g, 0, none⟩ = some (.slice (some ⟨w.heap.size, 0, none⟩) 1 1) := by
    have hc0 := fun g hg => hown.cells (g := g) hg 0 _ rfl
    rcases hown.2 with ⟨hn, _⟩ | ⟨g, cap, cur, rfl, hb, _⟩
    · exact absurd hn hnil
    · exact ⟨g, cap, rfl, hb, by simpa [Addr.add] using hc0 g rfl⟩
  rw [hv]
  have hgr : Chg [] w w1 := ((Chg.refl [] w).alloc _).alloc _ |>.trans (Chg.ofGrown hgrow (by simp [Value.ownBlock]))
  have hc1 : w1.cell? ⟨lb, o, none⟩ = some (.slice none 0 0) := hgr.cell hc (by simp)
  have hf1 : w1.frozen? ⟨lb, o, none⟩ = false := (hgr.frozen (p := ⟨lb, o, none⟩) hlb (by simp)).trans hf
  have hx1 : w1.cell? ⟨w.heap.size, 0, none⟩ = some (.int .u64 0) := hgrow.cell (by simp) (by simp [Value.ownBlock])
  have hfx : w1.frozen? ⟨w.heap.size, 0, none⟩ = false := by
    rw [World.frozen?_of_block (a := ⟨w.heap.size, 0, none⟩) (hgrow.block w.heap.size (by simp; omega) (by simp [Value.ownBlock])), frozen?_alloc_cells, frozen?_alloc_cells]
    simp [World.frozen?]
  have hg1 : g < w1.heap.size := World.block_lt_of_cell? w1 _ hcell
  have hx2 : w.heap.size < w1.heap.size := World.block_lt_of_cell? w1 _ hx1
  have HO : Hid (Chg [] w w1) := hgr
  clear hown hgrow hnil hgr hv
  go_wp2
  refine bodyPost_ret (results_none rfl _ _ _) rfl ?_
  have e1 : (⟨g, 0, none⟩ : Addr) ≠ ⟨lb, o, none⟩ := fun e => by have := congrArg Addr.block e; simp at this; omega
  have e2 : (⟨w.heap.size, 0, none⟩ : Addr) ≠ ⟨lb, o, none⟩ := fun e => by have := congrArg Addr.block e; simp at this; omega
  refine ⟨rfl, g, cap, w.heap.size, ?_, ?_, ?_, ?_, by omega, by omega, by omega, ?_, ?_, ?_, fun j hj => ?_, fun j => ?_⟩
  · rw [World.cell?_setCell_same _ _ _ hc1]
  · rw [World.cell?_setCell_other _ _ _ _ e1.symm]; exact hcell
  · rw [World.cell?_setCell_other _ _ _ _ e2.symm]; exact hx1
  · rw [World.frozen?_setCell]; exact hfx
  · simpa [World.setCell] using hg1
  · simpa [World.setCell] using hx2
  · exact (HO.out.mono (by simp)).setCell (by simp) _
  · rw [World.cell?_setCell_other _ _ _ _ (fun e => hj (congrArg Addr.off e).symm)]
    exact World.cell?_of_block (HO.out.block lb hlb (by simp))
  · rw [World.frozen?_setCell]
    exact World.frozen?_of_block (HO.out.block lb hlb (by simp))

theorem set_post {w : World} {x : Nat} {y : Value} (v : Value) (o : Obj) (hx : w.cell? ⟨x, 0, none⟩ = some y) (hf : w.frozen? ⟨x, 0, none⟩ = false) :
    ((w.setCell ⟨x, 0, none⟩ v).alloc o).drew.cell? ⟨x, 0, none⟩ = some v ∧ ((w.setCell ⟨x, 0, none⟩ v).alloc o).drew.frozen? ⟨x, 0, none⟩ = false ∧ Chg [x] w ((w.setCell ⟨x, 0, none⟩ v).alloc o).drew := by
  have h1 : (w.setCell ⟨x, 0, none⟩ v).cell? ⟨x, 0, none⟩ = some v := World.cell?_setCell_same _ _ _ hx
  refine ⟨?_, ?_, (((Chg.refl [x] w).setCell (by simp) v).alloc o).drew⟩
  · exact ((Chg.refl [] _).alloc o).cell h1 (by simp)
  · have := ((Chg.refl [] (w.setCell ⟨x, 0, none⟩ v)).alloc o).frozen (p := ⟨x, 0, none⟩) (World.block_lt_of_cell? _ _ h1) (by simp)
    exact this.trans ((World.frozen?_setCell _ _ _ _).trans hf)

/-- 'Set' of an empty tree of one word. -/
theorem set_first (g c x u : Nat) (w : World) (hu : u < 4) (hg : w.cell? ⟨g, 0, none⟩ = some (.slice (some ⟨x, 0, none⟩) 1 1)) (hx : w.cell? ⟨x, 0, none⟩ = some (.int .u64 0)) (hf : w.frozen? ⟨x, 0, none⟩ = false) :
    Calls Yba.prog 7 #[.agg #[.slice (some ⟨g, 0, none⟩) 1 c], .int .i64 (u : Int)] w fun e w' => e = .returned (.tuple #[]) ∧ ∃ v : Int, (v == 0) = false ∧
      w'.cell? ⟨x, 0, none⟩ = some (.int .u64 v) ∧ w'.frozen? ⟨x, 0, none⟩ = false ∧ Chg [x] w w' := by
  have hgl : g < w.heap.size := World.block_lt_of_cell? w _ hg
  have hxl : x < w.heap.size := World.block_lt_of_cell? w _ hx
  have hxw : ¬ x = w.heap.size := by omega
  obtain rfl | rfl | rfl | rfl : u = 0 ∨ u = 1 ∨ u = 2 ∨ u = 3 := by omega
  all_goals
    go_enter Yba.func7, Yba.ntmps7
    go_wp2
    refine wp_loop_rounds 2 ?_
    rw [rounds_succ]
    go_wp2
    go_region
    go_wp2
    rw [rounds_succ]
    go_wp2
    go_end0
    exact ⟨rfl, _, by decide +kernel, set_post _ _ hx hf⟩

/-- 'Empty' of a tree of one word. -/
theorem empty_any (g c x : Nat) (v : Int) (w : World) (hg : w.cell? ⟨g, 0, none⟩ = some (.slice (some ⟨x, 0, none⟩) 1 1)) (hx : w.cell? ⟨x, 0, none⟩ = some (.int .u64 v)) :
    Calls Yba.prog 10 #[.agg #[.slice (some ⟨g, 0, none⟩) 1 c]] w fun e w' => e = .returned (.bool (v == 0)) ∧ w' = w.alloc (.cells #[.slice (some ⟨g, 0, none⟩) 1 c] 47) := by
  have hgl : g < w.heap.size := World.block_lt_of_cell? w _ hg
  have hxl : x < w.heap.size := World.block_lt_of_cell? w _ hx
  go_enter Yba.func10, Yba.ntmps10
  go_wp2
  go_ret
  exact ⟨rfl, rfl⟩

theorem waiting_with (lb ab n u g c : Nat) (pr : Int) (w : World) (hu : u < n) (hn : n ≤ 4) (hp : 0 < pr) (ho : w.cell? ⟨lb, 7, none⟩ = some (.slice (some ⟨ab, 0, none⟩) n n)) (hc : w.cell? ⟨ab, u * 22, none⟩ = some (.int .i64 pr))
    (hw : w.cell? ⟨lb, 10, none⟩ = some (.slice (some ⟨g, 0, none⟩) 1 c)) :
    Calls Yba.prog 16 #[.pointer (some ⟨lb, 0, none⟩), .int .i64 (u : Int)] w fun e w' => e = .returned (.agg #[.slice (some ⟨g, 0, none⟩) 1 c]) ∧ w' = w.alloc (.cells #[.slice (some ⟨g, 0, none⟩) 1 c] 47) := by
  have hlb : lb < w.heap.size := World.block_lt_of_cell? w _ ho
  have hab : ab < w.heap.size := World.block_lt_of_cell? w _ hc
  have hui : (u : Int) < (n : Int) := by omega
  go_enter Yba.func16, Yba.ntmps16
  go_wp2
  exact bodyPost_ret (v := .agg #[.slice (some ⟨g, 0, none⟩) 1 c]) (by simp [results, Yba.results16, go_sem]) rfl ⟨rfl, rfl⟩

theorem waiting_without (lb ab n u g c : Nat) (pr : Int) (w : World) (hu : u < n) (hn : n ≤ 4) (hp : pr ≤ 0) (ho : w.cell? ⟨lb, 7, none⟩ = some (.slice (some ⟨ab, 0, none⟩) n n)) (hc : w.cell? ⟨ab, u * 22, none⟩ = some (.int .i64 pr))
    (hw : w.cell? ⟨lb, 11, none⟩ = some (.slice (some ⟨g, 0, none⟩) 1 c)) :
    Calls Yba.prog 16 #[.pointer (some ⟨lb, 0, none⟩), .int .i64 (u : Int)] w fun e w' => e = .returned (.agg #[.slice (some ⟨g, 0, none⟩) 1 c]) ∧ w' = w.alloc (.cells #[.slice (some ⟨g, 0, none⟩) 1 c] 47) := by
  have hlb : lb < w.heap.size := World.block_lt_of_cell? w _ ho
  have hab : ab < w.heap.size := World.block_lt_of_cell? w _ hc
  have hui : (u : Int) < (n : Int) := by omega
  go_enter Yba.func16, Yba.ntmps16
  go_wp2
  exact bodyPost_ret (v := .agg #[.slice (some ⟨g, 0, none⟩) 1 c]) (by simp [results, Yba.results16, go_sem]) rfl ⟨rfl, rfl⟩

/-- One zero 'liveOrg'. -/
def zeroOrg : List Value :=
  [.int .i64 0, .slice none 0 0, .int .i64 0, .int .u64 0, .int .u64 0, .int .u64 0, .int .u64 0, .int .u64 0, .int .u64 0, .int .u64 0, .int .u64 0, .pointer none,
   .int .u64 0, .int .u64 0, .int .u64 0, .int .u64 0, .int .u64 0, .int .u64 0, .int .u64 0, .int .u64 0, .pointer none, .pointer none]
def orgCells (n : Nat) : Array Value := ((List.replicate n zeroOrg).flatten).toArray

theorem mk43 (n : Nat) (h0 : 1 ≤ n) (h1 : n ≤ 4) (w : World) : (Instr.makeSlice 43 (.int .i64 (n : Int)) (.int .i64 (n : Int))).run Yba.prog w = .ok (.slice (some ⟨w.heap.size, 0, none⟩) n n) (w.alloc (.cells (orgCells n) 36)) := by
  obtain rfl | rfl | rfl | rfl : n = 1 ∨ n = 2 ∨ n = 3 ∨ n = 4 := by omega
  · kernel_rfl
  · kernel_rfl
  · kernel_rfl
  · kernel_rfl

theorem org_at (n v : Nat) (h1 : n ≤ 4) (hv : v < n) : (orgCells n)[v * 22]? = some (.int .i64 0) ∧ (orgCells n)[v * 22 + 1]? = some (.slice none 0 0) := by
  obtain ⟨rfl, rfl⟩ | ⟨rfl, rfl⟩ | ⟨rfl, rfl⟩ | ⟨rfl, rfl⟩ | ⟨rfl, rfl⟩ | ⟨rfl, rfl⟩ | ⟨rfl, rfl⟩ | ⟨rfl, rfl⟩ | ⟨rfl, rfl⟩ | ⟨rfl, rfl⟩ :
    (n = 1 ∧ v = 0) ∨ (n = 2 ∧ v = 0) ∨ (n = 2 ∧ v = 1) ∨ (n = 3 ∧ v = 0) ∨ (n = 3 ∧ v = 1) ∨ (n = 3 ∧ v = 2) ∨ (n = 4 ∧ v = 0) ∨ (n = 4 ∧ v = 1) ∨ (n = 4 ∧ v = 2) ∨ (n = 4 ∧ v = 3) := by omega
  all_goals exact ⟨rfl, rfl⟩

/-- The 'Live' at block lb: its organisations' row at ab, its two bit trees of one word. -/
structure LiveAt (w : World) (lb ab n g1 c1 x1 g2 c2 x2 : Nat) (v1 v2 : Int) : Prop where
  orgs : w.cell? ⟨lb, 7, none⟩ = some (.slice (some ⟨ab, 0, none⟩) n n)
  wp : w.cell? ⟨lb, 10, none⟩ = some (.slice (some ⟨g1, 0, none⟩) 1 c1)
  wo : w.cell? ⟨lb, 11, none⟩ = some (.slice (some ⟨g2, 0, none⟩) 1 c2)
  l1 : w.cell? ⟨g1, 0, none⟩ = some (.slice (some ⟨x1, 0, none⟩) 1 1)
  l2 : w.cell? ⟨g2, 0, none⟩ = some (.slice (some ⟨x2, 0, none⟩) 1 1)
  b1 : w.cell? ⟨x1, 0, none⟩ = some (.int .u64 v1)
  b2 : w.cell? ⟨x2, 0, none⟩ = some (.int .u64 v2)
  f1 : w.frozen? ⟨x1, 0, none⟩ = false
  f2 : w.frozen? ⟨x2, 0, none⟩ = false

/-- The organisations: each one's processors and queue. -/
structure OrgsAt (w : World) (ab n : Nat) (pr : Nat → Int) (Q : Nat → Value) : Prop where
  procs : ∀ v, v < n → w.cell? ⟨ab, v * 22, none⟩ = some (.int .i64 (pr v))
  queue : ∀ v, v < n → w.cell? ⟨ab, v * 22 + 1, none⟩ = some (Q v)
  free : ∀ j, w.frozen? ⟨ab, j, none⟩ = false

set_option maxRecDepth 100000 in
set_option maxHeartbeats 1000000 in
theorem clive_any (n : Nat) (w : World) (h0 : 1 ≤ n) (h1 : n ≤ 4) :
    Calls Yba.prog 6 #[.int .i64 (n : Int)] w fun e w' => ∃ lb ab g1 c1 x1 g2 c2 x2, e = .returned (.pointer (some ⟨lb, 0, none⟩)) ∧ LiveAt w' lb ab n g1 c1 x1 g2 c2 x2 0 0 ∧
      OrgsAt w' ab n (fun _ => 0) (fun _ => .slice none 0 0) ∧ [ab, lb, g1, x1, g2, x2].Nodup ∧ (∀ b, b ∈ [ab, lb, g1, x1, g2, x2] → w.heap.size ≤ b ∧ b < w'.heap.size) ∧ Chg [] w w' := by
  have hmk := mk43 n h0 h1
  obtain ⟨w0, hw0⟩ : ∃ w0, w0 = (w.alloc (.cells (orgCells n) 36)).alloc (.cells #[.string ⟨#[]⟩, .nilIface, .int .i64 0, .int .i64 0, .int .i64 0, .int .i64 0, .nilIface, .slice (some ⟨w.heap.size, 0, none⟩) n n, .map none, .int .i64 0, .slice none 0 0, .slice none 0 0, .pointer none, .bool false] 52) := ⟨_, rfl⟩
  have hs0 : w0.heap.size = w.heap.size + 2 := by rw [hw0]; simp
  have q7 : w0.cell? ⟨w.heap.size + 1, 7, none⟩ = some (.slice (some ⟨w.heap.size, 0, none⟩) n n) := by rw [hw0, World.cell?_alloc_at _ _ _ _ (by simp)]; rfl
  have q10 : w0.cell? ⟨w.heap.size + 1, 10, none⟩ = some (.slice none 0 0) := by rw [hw0, World.cell?_alloc_at _ _ _ _ (by simp)]; rfl
  have q11 : w0.cell? ⟨w.heap.size + 1, 11, none⟩ = some (.slice none 0 0) := by rw [hw0, World.cell?_alloc_at _ _ _ _ (by simp)]; rfl
  have qf : ∀ j, w0.frozen? ⟨w.heap.size + 1, j, none⟩ = false := fun j => by rw [hw0, World.frozen?_alloc_at _ _ _ _ (by simp)]
  have qo : ∀ j, w0.cell? ⟨w.heap.size, j, none⟩ = (orgCells n)[j]? := fun j => by rw [hw0, World.cell?_alloc_past _ _ _ (by simp), World.cell?_alloc_at _ _ _ _ rfl]
  have qof : ∀ j, w0.frozen? ⟨w.heap.size, j, none⟩ = false := fun j => by rw [hw0, World.frozen?_alloc_past _ _ _ (by simp), World.frozen?_alloc_at _ _ _ _ rfl]
  have hc0 : Chg [] w w0 := by rw [hw0]; exact ((Chg.refl [] w).alloc _).alloc _
  have G1 := grow_new (w.heap.size + 1) 10 (n : Int) w0 (by omega) (by omega) q10 (qf _)
  rw [hw0] at G1
  go_enter Yba.func6, Yba.ntmps6
  go_wp2_with fail
  refine G1.mono ?_
  rw [← hw0]
  rintro e w1 ⟨rfl, g1, c1, x1, r1, r2, r3, r4, r5, r6, r7, r8, r9, r10, r11, r12⟩
  have G2 := grow_new (w.heap.size + 1) 11 (n : Int) w1 (by omega) (by omega) ((r11 11 (by decide)).trans q11) ((r12 11).trans (qf _))
  have HH : Hid (∀ j, j ≠ 10 → w1.cell? ⟨w.heap.size + 1, j, none⟩ = w0.cell? ⟨w.heap.size + 1, j, none⟩) := r11
  have HF : Hid (∀ j, w1.frozen? ⟨w.heap.size + 1, j, none⟩ = w0.frozen? ⟨w.heap.size + 1, j, none⟩) := r12
  have HC0 : Hid (w0 = _) := hw0
  have HQ : Hid (w0.heap.size = w.heap.size + 2) := hs0
  clear r11 r12 hw0 hs0
  go_wp2_with fail
  refine G2.mono ?_
  rintro e w2 ⟨rfl, g2, c2, x2, s1, s2, s3, s4, s5, s6, s7, s8, s9, s10, s11, s12⟩
  have HH2 : Hid (∀ j, j ≠ 11 → w2.cell? ⟨w.heap.size + 1, j, none⟩ = w1.cell? ⟨w.heap.size + 1, j, none⟩) := s11
  clear s11 s12
  go_wp2
  go_ret
  have hs0 := HQ.out
  have hsz1 := r10.size
  have hsz2 := s10.size
  have k7 : w2.cell? ⟨w.heap.size + 1, 7, none⟩ = some (.slice (some ⟨w.heap.size, 0, none⟩) n n) := by rw [HH2.out 7 (by decide), HH.out 7 (by decide)]; exact q7
  have k10 : w2.cell? ⟨w.heap.size + 1, 10, none⟩ = some (.slice (some ⟨g1, 0, none⟩) 1 c1) := by rw [HH2.out 10 (by decide)]; exact r1
  have n1 : ∀ b, b ≠ w.heap.size + 1 → b ∉ [w.heap.size + 1] := fun b hb => by simpa using hb
  refine ⟨w.heap.size + 1, w.heap.size, g1, c1, x1, g2, c2, x2, rfl, ⟨k7, k10, s1, s10.cell r2 (n1 _ (by simp; omega)), s2, s10.cell r3 (n1 _ (by simp; omega)), s3, (s10.frozen (p := ⟨x1, 0, none⟩) r9 (n1 _ (by simp; omega))).trans r4, s4⟩, ⟨?_, ?_, ?_⟩, ?_, ?_, ?_⟩
  · intro v hv
    exact s10.cell (r10.cell ((qo _).trans (org_at n v h1 hv).1) (n1 _ (by simp))) (n1 _ (by simp))
  · intro v hv
    exact s10.cell (r10.cell ((qo _).trans (org_at n v h1 hv).2) (n1 _ (by simp))) (n1 _ (by simp))
  · intro j
    rw [s10.frozen (p := ⟨w.heap.size, j, none⟩) (by simp; omega) (n1 _ (by simp)), r10.frozen (p := ⟨w.heap.size, j, none⟩) (by simp; omega) (n1 _ (by simp))]
    exact qof j
  · simp
    omega
  · simp
    omega
  · exact (((hc0.mono (l' := [w.heap.size + 1]) (by simp)).trans r10).trans s10).mono (by simp)

end Go.Proofs.Ybulkcvgu
