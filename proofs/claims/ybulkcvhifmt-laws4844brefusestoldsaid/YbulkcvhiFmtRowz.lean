/-
  Seat b4844aF: the rows and the variable w of the building.
-/
import Derived.Test.YbulkcvhiFmtEl
namespace Go.Proofs.YbulkcvhiFmt
open Go.RowKit Go.Extern.Stop Go.Stop Go.Extern
set_option linter.unusedVariables false

theorem own_soft {w : World} {S e z n : Nat} {v : Value} {xs : List Value} (h : w.ownsRow S e z v n xs) (h1 : e ≠ 59) (h2 : e ≠ 46) (h3 : e ≠ 69) : Soft w v.ownBlock.toList := by
  intro k hk
  have hk' : v.ownBlock = some k := by simpa using hk
  rcases h.2 with ⟨rfl, _⟩ | ⟨g, cap, cur, rfl, _, hg, _⟩
  · simp [Value.ownBlock] at hk'
  · obtain rfl : g = k := by simpa [Value.ownBlock] using hk'
    exact ⟨_, _, _, hg, h1, h2, h3⟩

/-- The frame of the building: rows grow, parents are set, all below S stays. -/
def Grow (S : Nat) (w w' : World) : Prop := ∃ l, Gro S l w w' ∧ Soft w l
theorem Grow.ofGro {S : Nat} {w w' : World} (h : Gro S [] w w') : Grow S w w' := ⟨[], h, Soft.nil _⟩
theorem Grow.refl (S : Nat) (w : World) : Grow S w w := Grow.ofGro (Gro.refl _ _ _)
theorem Grow.trans {S : Nat} {a b c : World} (h : Grow S a b) (k : Grow S b c) : Grow S a c := by
  obtain ⟨l, h1, h2⟩ := h
  obtain ⟨l', k1, k2⟩ := k
  refine ⟨(l ++ l').filter (fun i => decide (i < a.heap.size)), ?_, fun i hi => ?_⟩
  · refine ((h1.mono (l' := l ++ l') (fun i hi => .inl (by simp [hi]))).trans (k1.mono (fun i hi => .inl (by simp [hi])))).mono (fun i hi => ?_)
    by_cases hlt : i < a.heap.size
    · exact .inl (List.mem_filter.2 ⟨hi, by simpa using hlt⟩)
    · exact .inr (by omega)
  · obtain ⟨hm, hlt⟩ := List.mem_filter.1 hi
    have hlt : i < a.heap.size := by simpa using hlt
    by_cases hil : i ∈ l
    · exact h2 i hil
    · have hil' : i ∈ l' := by simpa [hil] using hm
      obtain ⟨c', t, f, e1, e2, e3, e4⟩ := k2 i hil'
      obtain ⟨o', e5, e6⟩ := h1.alike i a.heap[i] (by simp [hlt]) hil
      rw [e1] at e5
      cases e5
      rcases e6 with e6 | ⟨x, y, ex, ey, _⟩
      · exact ⟨c', t, f, by rw [e6]; simp [hlt], e2, e3, e4⟩
      · cases ey
        exact (e2 rfl).elim
theorem Grow.el {S : Nat} {w w' : World} (h : Grow S w w') {b : Nat} {d : Nd} {kids : List Nat} (hE : ElAt w b d kids) : ElAt w' b d kids := by obtain ⟨l, h1, h2⟩ := h; exact hE.keptG h1 h2
theorem Grow.all {S : Nat} {w w' : World} (h : Grow S w w') {ks : List Kid} (hE : AllAt w ks) : AllAt w' ks := by obtain ⟨l, h1, h2⟩ := h; exact hE.keptG h1 h2
theorem Grow.ref {S : Nat} {w w' : World} (h : Grow S w w') {r : RefD} (hE : RefAt w r) : RefAt w' r := by obtain ⟨l, h1, h2⟩ := h; exact hE.keptG h1 h2
theorem Grow.ki {S : Nat} {w w' : World} (h : Grow S w w') {k : KiD} (hE : KiAt w k) : KiAt w' k := by obtain ⟨l, h1, h2⟩ := h; exact hE.keptG h1 h2
theorem Grow.tape {S : Nat} {w w' : World} (h : Grow S w w') : w'.tape = w.tape := by obtain ⟨l, h1, _⟩ := h; exact h1.tape
theorem Grow.size {S : Nat} {w w' : World} (h : Grow S w w') : w.heap.size ≤ w'.heap.size := by obtain ⟨l, h1, _⟩ := h; exact h1.size
theorem Grow.chg {S : Nat} {w w' : World} (h : Grow S w w') (hS : w.heap.size ≤ S) : Chg [] w w' := by obtain ⟨l, h1, _⟩ := h; exact h1.chg hS
theorem Grow.alloc {S : Nat} {w w' : World} (h : Grow S w w') (o : Obj) : Grow S w (w'.alloc o) := h.trans (Grow.ofGro ((Gro.refl _ _ _).alloc o))
theorem Grow.low {S : Nat} {w w' : World} (h : Grow S w w') {p : Addr} {v : Value} (hp : p.block < S) (hc : w.cell? p = some v) : w'.cell? p = some v := by
  obtain ⟨l, h1, _⟩ := h
  exact (World.cell?_of_block (h1.low p.block hp (World.block_lt_of_cell? w p hc))).trans hc

def Ap (v u : Value) : Prop := ∀ k, v.ownBlock = some k → u.ownBlock ≠ some k
theorem Ap.symm {v u : Value} (h : Ap v u) : Ap u v := fun k hk hv => h k hv hk
theorem Ap.nil (v : Value) : Ap v (.slice none 0 0) := fun k _ => by simp [Value.ownBlock]
theorem Ap.push {w : World} {S e z n : Nat} {v v' u : Value} {xs : List Value} (h : Ap v u) (hat : ∀ k, v'.ownBlock = some k → v.ownBlock = some k ∨ w.heap.size ≤ k) (hu : w.ownsRow S e z u n xs) : Ap v' u := by
  intro k hk hku
  rcases hat k hk with h1 | h1
  · exact h k h1 hku
  · have := (hu.lt k hku).2
    omega

/-- The variable w at wb, its rows, and the row at hand. -/
structure RowsV (S : Nat) (w : World) (wb : Nat) (vi : Value) (li : List Value) (x0 x1 x2 vu vt vd vc mo ex fl : Value) (lu lt ld lc : List Value) : Prop where
  blk : w.heap[wb]? = some (.cells #[x0, x1, x2, vu, vt, vd, vc, mo, ex, fl] 28 (0, 0))
  low : S < wb
  res : ∃ c, w.heap[S]? = some (.cells c 28 (0, 0)) ∧ c.size = 10
  i : w.ownsRow S 24 1 vi li.length li
  u : w.ownsRow S 9 1 vu lu.length lu
  t : w.ownsRow S 24 1 vt lt.length lt
  d : w.ownsRow S 24 1 vd ld.length ld
  c : w.ownsRow S 24 1 vc lc.length lc
  it : Ap vi vt
  id : Ap vi vd
  ic : Ap vi vc
  td : Ap vt vd
  tc : Ap vt vc
  dc : Ap vd vc
def RowsAt (S : Nat) (w : World) (wb : Nat) (vi : Value) (li : List Value) (x0 x1 x2 mo ex fl : Value) (lu lt ld lc : List Value) : Prop := ∃ vu vt vd vc, RowsV S w wb vi li x0 x1 x2 vu vt vd vc mo ex fl lu lt ld lc

theorem RowsAt.keptG {S : Nat} {w : World} {wb : Nat} {vi : Value} {li : List Value} {x0 x1 x2 mo ex fl : Value} {lu lt ld lc : List Value} {w' : World} (h : RowsAt S w wb vi li x0 x1 x2 mo ex fl lu lt ld lc) (hg : Gro S [] w w') : RowsAt S w' wb vi li x0 x1 x2 mo ex fl lu lt ld lc := by
  obtain ⟨vu, vt, vd, vc, h⟩ := h
  exact ⟨vu, vt, vd, vc, hg.objT h.blk (by simp) (by decide), h.low, (by obtain ⟨c, e1, e2⟩ := h.res; exact ⟨c, hg.objT e1 (by simp) (by decide), e2⟩), hg.row h.i (by decide) (by simp), hg.row h.u (by decide) (by simp), hg.row h.t (by decide) (by simp), hg.row h.d (by decide) (by simp), hg.row h.c (by decide) (by simp), h.it, h.id, h.ic, h.td, h.tc, h.dc⟩
theorem RowsAt.lowI {S : Nat} {w : World} {wb : Nat} {vi : Value} {li : List Value} {x0 x1 x2 mo ex fl : Value} {lu lt ld lc : List Value} (h : RowsAt S w wb vi li x0 x1 x2 mo ex fl lu lt ld lc) : w.ownsRow S 24 1 vi li.length li := by obtain ⟨_, _, _, _, h⟩ := h; exact h.i
theorem RowsAt.newI {S : Nat} {w : World} {wb : Nat} {vi : Value} {li : List Value} {x0 x1 x2 mo ex fl : Value} {lu lt ld lc : List Value} (h : RowsAt S w wb vi li x0 x1 x2 mo ex fl lu lt ld lc) : RowsAt S w wb (.slice none 0 0) [] x0 x1 x2 mo ex fl lu lt ld lc := by
  obtain ⟨vu, vt, vd, vc, h⟩ := h
  exact ⟨vu, vt, vd, vc, h.blk, h.low, h.res, World.ownsRow_nil _ _ _ _, h.u, h.t, h.d, h.c, (Ap.nil _).symm, (Ap.nil _).symm, (Ap.nil _).symm, h.td, h.tc, h.dc⟩

theorem chg_grow {S e z n : Nat} {w w1 : World} {v : Value} {xs : List Value} (h : w.ownsRow S e z v n xs) (hc : Chg v.ownBlock.toList w w1) (h1 : e ≠ 59) (h2 : e ≠ 46) (h3 : e ≠ 69) : Grow S w w1 :=
  ⟨_, Gro.ofChg hc (fun k hk => (h.lt k (by simpa using hk)).1), own_soft h h1 h2 h3⟩
theorem row_other {S e z n : Nat} {w w1 : World} {v u : Value} {xs : List Value} (h : w.ownsRow S e z u n xs) (hc : Chg v.ownBlock.toList w w1) (ha : Ap u v) : w1.ownsRow S e z u n xs :=
  ownsRow_kept h hc (fun k hk hm => ha k hk (by simpa using hm))

theorem RowsAt.pushI {S : Nat} {w : World} {wb : Nat} {vi : Value} {li : List Value} {x0 x1 x2 mo ex fl : Value} {lu lt ld lc : List Value} {w1 : World} {v' : Value} {news : List Value} {m : Nat} (h : RowsAt S w wb vi li x0 x1 x2 mo ex fl lu lt ld lc) (hm : news.length = m) (hown : w1.ownsRow S 24 1 v' (li.length + m) (li ++ news)) (hc : Chg vi.ownBlock.toList w w1) (hat : ∀ k, v'.ownBlock = some k → vi.ownBlock = some k ∨ w.heap.size ≤ k) :
    RowsAt S w1 wb v' (li ++ news) x0 x1 x2 mo ex fl lu lt ld lc ∧ Grow S w w1 := by
  obtain ⟨vu, vt, vd, vc, h⟩ := h
  refine ⟨⟨vu, vt, vd, vc, hc.obj h.blk (own_ne_type h.i h.blk (by decide)), h.low, (by obtain ⟨c, e1, e2⟩ := h.res; exact ⟨c, hc.obj e1 (own_ne_type h.i e1 (by decide)), e2⟩), by simpa [hm] using hown, ownsRow_kept h.u hc (own_block_ne h.u h.i (by decide)), row_other h.t hc h.it.symm, row_other h.d hc h.id.symm, row_other h.c hc h.ic.symm, h.it.push hat h.t, h.id.push hat h.d, h.ic.push hat h.c, h.td, h.tc, h.dc⟩, chg_grow h.i hc (by decide) (by decide) (by decide)⟩
/-- The row u is opened, grown and set. -/
theorem RowsAt.openU {S : Nat} {w : World} {wb : Nat} {vi : Value} {li : List Value} {x0 x1 x2 mo ex fl : Value} {lu lt ld lc : List Value} (h : RowsAt S w wb vi li x0 x1 x2 mo ex fl lu lt ld lc) : ∃ a c, w.cell? ⟨wb, 3, none⟩ = some (.slice a lu.length c) ∧ w.ownsRow S 9 1 (.slice a lu.length c) lu.length lu ∧
    ∀ w1 v' news m, news.length = m → w1.ownsRow S 9 1 v' (lu.length + m) (lu ++ news) → Chg (Value.ownBlock (.slice a lu.length c)).toList w w1 → (∀ k, v'.ownBlock = some k → Value.ownBlock (.slice a lu.length c) = some k ∨ w.heap.size ≤ k) →
      w1.cell? ⟨wb, 3, none⟩ = some (.slice a lu.length c) ∧ w1.frozen? ⟨wb, 3, none⟩ = false ∧ RowsAt S (w1.setCell ⟨wb, 3, none⟩ v') wb vi li x0 x1 x2 mo ex fl (lu ++ news) lt ld lc ∧ Grow S w (w1.setCell ⟨wb, 3, none⟩ v') := by
  obtain ⟨vu, vt, vd, vc, h⟩ := h
  obtain ⟨a, c, rfl⟩ := own_len h.u
  refine ⟨a, c, by simp [World.cell?, h.blk], h.u, fun w1 v' news m hm hown hc hat => ?_⟩
  have j1 := hc.obj h.blk (own_ne_type h.u h.blk (by decide))
  have hs : Chg [wb] w1 (w1.setCell ⟨wb, 3, none⟩ v') := (Chg.refl _ _).setCell (by simp) _
  have kp : ∀ {e z n : Nat} {u : Value} {xs : List Value}, w1.ownsRow S e z u n xs → 28 ≠ e → (w1.setCell ⟨wb, 3, none⟩ v').ownsRow S e z u n xs := fun hu he => ownsRow_kept hu hs (fun k hk hm => own_ne_type hu j1 he (by simpa using (by simpa using hm : k = wb) ▸ hk))
  refine ⟨by simp [World.cell?, j1], by simp [World.frozen?, j1], ⟨v', _, _, _, obj_set j1 v', h.low, (by obtain ⟨c, e1, e2⟩ := h.res; exact ⟨c, obj_set_other (hc.obj e1 (own_ne_type h.u e1 (by decide))) (by have := h.low; omega) v', e2⟩), (kp (ownsRow_kept h.i hc (own_block_ne h.i h.u (by decide))) (by decide)), (by have := kp hown (by decide); simpa [hm] using this), (kp (ownsRow_kept h.t hc (own_block_ne h.t h.u (by decide))) (by decide)), (kp (ownsRow_kept h.d hc (own_block_ne h.d h.u (by decide))) (by decide)), (kp (ownsRow_kept h.c hc (own_block_ne h.c h.u (by decide))) (by decide)), h.it, h.id, h.ic, h.td, h.tc, h.dc⟩, ?_⟩
  exact (chg_grow h.u hc (by decide) (by decide) (by decide)).trans ⟨[wb], Gro.ofChg hs (by simpa using Nat.le_of_lt h.low), fun k hk => by obtain rfl : k = wb := List.mem_singleton.1 hk; exact ⟨_, _, _, j1, by decide, by decide, by decide⟩⟩
/-- The row t is opened, grown and set. -/
theorem RowsAt.openT {S : Nat} {w : World} {wb : Nat} {vi : Value} {li : List Value} {x0 x1 x2 mo ex fl : Value} {lu lt ld lc : List Value} (h : RowsAt S w wb vi li x0 x1 x2 mo ex fl lu lt ld lc) : ∃ a c, w.cell? ⟨wb, 4, none⟩ = some (.slice a lt.length c) ∧ w.ownsRow S 24 1 (.slice a lt.length c) lt.length lt ∧
    ∀ w1 v' news m, news.length = m → w1.ownsRow S 24 1 v' (lt.length + m) (lt ++ news) → Chg (Value.ownBlock (.slice a lt.length c)).toList w w1 → (∀ k, v'.ownBlock = some k → Value.ownBlock (.slice a lt.length c) = some k ∨ w.heap.size ≤ k) →
      w1.cell? ⟨wb, 4, none⟩ = some (.slice a lt.length c) ∧ w1.frozen? ⟨wb, 4, none⟩ = false ∧ RowsAt S (w1.setCell ⟨wb, 4, none⟩ v') wb vi li x0 x1 x2 mo ex fl lu (lt ++ news) ld lc ∧ Grow S w (w1.setCell ⟨wb, 4, none⟩ v') := by
  obtain ⟨vu, vt, vd, vc, h⟩ := h
  obtain ⟨a, c, rfl⟩ := own_len h.t
  refine ⟨a, c, by simp [World.cell?, h.blk], h.t, fun w1 v' news m hm hown hc hat => ?_⟩
  have j1 := hc.obj h.blk (own_ne_type h.t h.blk (by decide))
  have hs : Chg [wb] w1 (w1.setCell ⟨wb, 4, none⟩ v') := (Chg.refl _ _).setCell (by simp) _
  have kp : ∀ {e z n : Nat} {u : Value} {xs : List Value}, w1.ownsRow S e z u n xs → 28 ≠ e → (w1.setCell ⟨wb, 4, none⟩ v').ownsRow S e z u n xs := fun hu he => ownsRow_kept hu hs (fun k hk hm => own_ne_type hu j1 he (by simpa using (by simpa using hm : k = wb) ▸ hk))
  refine ⟨by simp [World.cell?, j1], by simp [World.frozen?, j1], ⟨_, v', _, _, obj_set j1 v', h.low, (by obtain ⟨c, e1, e2⟩ := h.res; exact ⟨c, obj_set_other (hc.obj e1 (own_ne_type h.t e1 (by decide))) (by have := h.low; omega) v', e2⟩), (kp (row_other h.i hc (h.it.symm).symm) (by decide)), (kp (ownsRow_kept h.u hc (own_block_ne h.u h.t (by decide))) (by decide)), (by have := kp hown (by decide); simpa [hm] using this), (kp (row_other h.d hc (h.td).symm) (by decide)), (kp (row_other h.c hc (h.tc).symm) (by decide)), (h.it.symm.push hat h.i).symm, h.id, h.ic, h.td.push hat h.d, h.tc.push hat h.c, h.dc⟩, ?_⟩
  exact (chg_grow h.t hc (by decide) (by decide) (by decide)).trans ⟨[wb], Gro.ofChg hs (by simpa using Nat.le_of_lt h.low), fun k hk => by obtain rfl : k = wb := List.mem_singleton.1 hk; exact ⟨_, _, _, j1, by decide, by decide, by decide⟩⟩
/-- The row d is opened, grown and set. -/
theorem RowsAt.openD {S : Nat} {w : World} {wb : Nat} {vi : Value} {li : List Value} {x0 x1 x2 mo ex fl : Value} {lu lt ld lc : List Value} (h : RowsAt S w wb vi li x0 x1 x2 mo ex fl lu lt ld lc) : ∃ a c, w.cell? ⟨wb, 5, none⟩ = some (.slice a ld.length c) ∧ w.ownsRow S 24 1 (.slice a ld.length c) ld.length ld ∧
    ∀ w1 v' news m, news.length = m → w1.ownsRow S 24 1 v' (ld.length + m) (ld ++ news) → Chg (Value.ownBlock (.slice a ld.length c)).toList w w1 → (∀ k, v'.ownBlock = some k → Value.ownBlock (.slice a ld.length c) = some k ∨ w.heap.size ≤ k) →
      w1.cell? ⟨wb, 5, none⟩ = some (.slice a ld.length c) ∧ w1.frozen? ⟨wb, 5, none⟩ = false ∧ RowsAt S (w1.setCell ⟨wb, 5, none⟩ v') wb vi li x0 x1 x2 mo ex fl lu lt (ld ++ news) lc ∧ Grow S w (w1.setCell ⟨wb, 5, none⟩ v') := by
  obtain ⟨vu, vt, vd, vc, h⟩ := h
  obtain ⟨a, c, rfl⟩ := own_len h.d
  refine ⟨a, c, by simp [World.cell?, h.blk], h.d, fun w1 v' news m hm hown hc hat => ?_⟩
  have j1 := hc.obj h.blk (own_ne_type h.d h.blk (by decide))
  have hs : Chg [wb] w1 (w1.setCell ⟨wb, 5, none⟩ v') := (Chg.refl _ _).setCell (by simp) _
  have kp : ∀ {e z n : Nat} {u : Value} {xs : List Value}, w1.ownsRow S e z u n xs → 28 ≠ e → (w1.setCell ⟨wb, 5, none⟩ v').ownsRow S e z u n xs := fun hu he => ownsRow_kept hu hs (fun k hk hm => own_ne_type hu j1 he (by simpa using (by simpa using hm : k = wb) ▸ hk))
  refine ⟨by simp [World.cell?, j1], by simp [World.frozen?, j1], ⟨_, _, v', _, obj_set j1 v', h.low, (by obtain ⟨c, e1, e2⟩ := h.res; exact ⟨c, obj_set_other (hc.obj e1 (own_ne_type h.d e1 (by decide))) (by have := h.low; omega) v', e2⟩), (kp (row_other h.i hc (h.id.symm).symm) (by decide)), (kp (ownsRow_kept h.u hc (own_block_ne h.u h.d (by decide))) (by decide)), (kp (row_other h.t hc (h.td.symm).symm) (by decide)), (by have := kp hown (by decide); simpa [hm] using this), (kp (row_other h.c hc (h.dc).symm) (by decide)), h.it, (h.id.symm.push hat h.i).symm, h.ic, (h.td.symm.push hat h.t).symm, h.tc, h.dc.push hat h.c⟩, ?_⟩
  exact (chg_grow h.d hc (by decide) (by decide) (by decide)).trans ⟨[wb], Gro.ofChg hs (by simpa using Nat.le_of_lt h.low), fun k hk => by obtain rfl : k = wb := List.mem_singleton.1 hk; exact ⟨_, _, _, j1, by decide, by decide, by decide⟩⟩
/-- The row c is opened, grown and set. -/
theorem RowsAt.openC {S : Nat} {w : World} {wb : Nat} {vi : Value} {li : List Value} {x0 x1 x2 mo ex fl : Value} {lu lt ld lc : List Value} (h : RowsAt S w wb vi li x0 x1 x2 mo ex fl lu lt ld lc) : ∃ a c, w.cell? ⟨wb, 6, none⟩ = some (.slice a lc.length c) ∧ w.ownsRow S 24 1 (.slice a lc.length c) lc.length lc ∧
    ∀ w1 v' news m, news.length = m → w1.ownsRow S 24 1 v' (lc.length + m) (lc ++ news) → Chg (Value.ownBlock (.slice a lc.length c)).toList w w1 → (∀ k, v'.ownBlock = some k → Value.ownBlock (.slice a lc.length c) = some k ∨ w.heap.size ≤ k) →
      w1.cell? ⟨wb, 6, none⟩ = some (.slice a lc.length c) ∧ w1.frozen? ⟨wb, 6, none⟩ = false ∧ RowsAt S (w1.setCell ⟨wb, 6, none⟩ v') wb vi li x0 x1 x2 mo ex fl lu lt ld (lc ++ news) ∧ Grow S w (w1.setCell ⟨wb, 6, none⟩ v') := by
  obtain ⟨vu, vt, vd, vc, h⟩ := h
  obtain ⟨a, c, rfl⟩ := own_len h.c
  refine ⟨a, c, by simp [World.cell?, h.blk], h.c, fun w1 v' news m hm hown hc hat => ?_⟩
  have j1 := hc.obj h.blk (own_ne_type h.c h.blk (by decide))
  have hs : Chg [wb] w1 (w1.setCell ⟨wb, 6, none⟩ v') := (Chg.refl _ _).setCell (by simp) _
  have kp : ∀ {e z n : Nat} {u : Value} {xs : List Value}, w1.ownsRow S e z u n xs → 28 ≠ e → (w1.setCell ⟨wb, 6, none⟩ v').ownsRow S e z u n xs := fun hu he => ownsRow_kept hu hs (fun k hk hm => own_ne_type hu j1 he (by simpa using (by simpa using hm : k = wb) ▸ hk))
  refine ⟨by simp [World.cell?, j1], by simp [World.frozen?, j1], ⟨_, _, _, v', obj_set j1 v', h.low, (by obtain ⟨c, e1, e2⟩ := h.res; exact ⟨c, obj_set_other (hc.obj e1 (own_ne_type h.c e1 (by decide))) (by have := h.low; omega) v', e2⟩), (kp (row_other h.i hc (h.ic.symm).symm) (by decide)), (kp (ownsRow_kept h.u hc (own_block_ne h.u h.c (by decide))) (by decide)), (kp (row_other h.t hc (h.tc.symm).symm) (by decide)), (kp (row_other h.d hc (h.dc.symm).symm) (by decide)), (by have := kp hown (by decide); simpa [hm] using this), h.it, h.id, (h.ic.symm.push hat h.i).symm, h.td, (h.tc.symm.push hat h.t).symm, (h.dc.symm.push hat h.d).symm⟩, ?_⟩
  exact (chg_grow h.c hc (by decide) (by decide) (by decide)).trans ⟨[wb], Gro.ofChg hs (by simpa using Nat.le_of_lt h.low), fun k hk => by obtain rfl : k = wb := List.mem_singleton.1 hk; exact ⟨_, _, _, j1, by decide, by decide, by decide⟩⟩
theorem RowsAt.set0 {S : Nat} {w : World} {wb : Nat} {vi : Value} {li : List Value} {x0 x1 x2 mo ex fl : Value} {lu lt ld lc : List Value} (h : RowsAt S w wb vi li x0 x1 x2 mo ex fl lu lt ld lc) (v : Value) : (∃ u, w.cell? ⟨wb, 0, none⟩ = some u) ∧ w.frozen? ⟨wb, 0, none⟩ = false ∧ RowsAt S (w.setCell ⟨wb, 0, none⟩ v) wb vi li v x1 x2 mo ex fl lu lt ld lc ∧ Grow S w (w.setCell ⟨wb, 0, none⟩ v) := by
  obtain ⟨vu, vt, vd, vc, h⟩ := h
  have j1 := h.blk
  have hs : Chg [wb] w (w.setCell ⟨wb, 0, none⟩ v) := (Chg.refl _ _).setCell (by simp) _
  have kp : ∀ {e z n : Nat} {u : Value} {xs : List Value}, w.ownsRow S e z u n xs → 28 ≠ e → (w.setCell ⟨wb, 0, none⟩ v).ownsRow S e z u n xs := fun hu he => ownsRow_kept hu hs (fun k hk hm => own_ne_type hu j1 he (by simpa using (by simpa using hm : k = wb) ▸ hk))
  exact ⟨⟨_, by simp [World.cell?, j1]; rfl⟩, by simp [World.frozen?, j1], ⟨vu, vt, vd, vc, obj_set j1 v, h.low, (by obtain ⟨c, e1, e2⟩ := h.res; exact ⟨c, obj_set_other e1 (by have := h.low; omega) v, e2⟩), kp h.i (by decide), kp h.u (by decide), kp h.t (by decide), kp h.d (by decide), kp h.c (by decide), h.it, h.id, h.ic, h.td, h.tc, h.dc⟩,
    ⟨[wb], Gro.ofChg hs (by simpa using Nat.le_of_lt h.low), fun k hk => by obtain rfl : k = wb := List.mem_singleton.1 hk; exact ⟨_, _, _, j1, by decide, by decide, by decide⟩⟩⟩
theorem RowsAt.set1 {S : Nat} {w : World} {wb : Nat} {vi : Value} {li : List Value} {x0 x1 x2 mo ex fl : Value} {lu lt ld lc : List Value} (h : RowsAt S w wb vi li x0 x1 x2 mo ex fl lu lt ld lc) (v : Value) : (∃ u, w.cell? ⟨wb, 1, none⟩ = some u) ∧ w.frozen? ⟨wb, 1, none⟩ = false ∧ RowsAt S (w.setCell ⟨wb, 1, none⟩ v) wb vi li x0 v x2 mo ex fl lu lt ld lc ∧ Grow S w (w.setCell ⟨wb, 1, none⟩ v) := by
  obtain ⟨vu, vt, vd, vc, h⟩ := h
  have j1 := h.blk
  have hs : Chg [wb] w (w.setCell ⟨wb, 1, none⟩ v) := (Chg.refl _ _).setCell (by simp) _
  have kp : ∀ {e z n : Nat} {u : Value} {xs : List Value}, w.ownsRow S e z u n xs → 28 ≠ e → (w.setCell ⟨wb, 1, none⟩ v).ownsRow S e z u n xs := fun hu he => ownsRow_kept hu hs (fun k hk hm => own_ne_type hu j1 he (by simpa using (by simpa using hm : k = wb) ▸ hk))
  exact ⟨⟨_, by simp [World.cell?, j1]; rfl⟩, by simp [World.frozen?, j1], ⟨vu, vt, vd, vc, obj_set j1 v, h.low, (by obtain ⟨c, e1, e2⟩ := h.res; exact ⟨c, obj_set_other e1 (by have := h.low; omega) v, e2⟩), kp h.i (by decide), kp h.u (by decide), kp h.t (by decide), kp h.d (by decide), kp h.c (by decide), h.it, h.id, h.ic, h.td, h.tc, h.dc⟩,
    ⟨[wb], Gro.ofChg hs (by simpa using Nat.le_of_lt h.low), fun k hk => by obtain rfl : k = wb := List.mem_singleton.1 hk; exact ⟨_, _, _, j1, by decide, by decide, by decide⟩⟩⟩
theorem RowsAt.set2 {S : Nat} {w : World} {wb : Nat} {vi : Value} {li : List Value} {x0 x1 x2 mo ex fl : Value} {lu lt ld lc : List Value} (h : RowsAt S w wb vi li x0 x1 x2 mo ex fl lu lt ld lc) (v : Value) : (∃ u, w.cell? ⟨wb, 2, none⟩ = some u) ∧ w.frozen? ⟨wb, 2, none⟩ = false ∧ RowsAt S (w.setCell ⟨wb, 2, none⟩ v) wb vi li x0 x1 v mo ex fl lu lt ld lc ∧ Grow S w (w.setCell ⟨wb, 2, none⟩ v) := by
  obtain ⟨vu, vt, vd, vc, h⟩ := h
  have j1 := h.blk
  have hs : Chg [wb] w (w.setCell ⟨wb, 2, none⟩ v) := (Chg.refl _ _).setCell (by simp) _
  have kp : ∀ {e z n : Nat} {u : Value} {xs : List Value}, w.ownsRow S e z u n xs → 28 ≠ e → (w.setCell ⟨wb, 2, none⟩ v).ownsRow S e z u n xs := fun hu he => ownsRow_kept hu hs (fun k hk hm => own_ne_type hu j1 he (by simpa using (by simpa using hm : k = wb) ▸ hk))
  exact ⟨⟨_, by simp [World.cell?, j1]; rfl⟩, by simp [World.frozen?, j1], ⟨vu, vt, vd, vc, obj_set j1 v, h.low, (by obtain ⟨c, e1, e2⟩ := h.res; exact ⟨c, obj_set_other e1 (by have := h.low; omega) v, e2⟩), kp h.i (by decide), kp h.u (by decide), kp h.t (by decide), kp h.d (by decide), kp h.c (by decide), h.it, h.id, h.ic, h.td, h.tc, h.dc⟩,
    ⟨[wb], Gro.ofChg hs (by simpa using Nat.le_of_lt h.low), fun k hk => by obtain rfl : k = wb := List.mem_singleton.1 hk; exact ⟨_, _, _, j1, by decide, by decide, by decide⟩⟩⟩
theorem RowsAt.set7 {S : Nat} {w : World} {wb : Nat} {vi : Value} {li : List Value} {x0 x1 x2 mo ex fl : Value} {lu lt ld lc : List Value} (h : RowsAt S w wb vi li x0 x1 x2 mo ex fl lu lt ld lc) (v : Value) : (∃ u, w.cell? ⟨wb, 7, none⟩ = some u) ∧ w.frozen? ⟨wb, 7, none⟩ = false ∧ RowsAt S (w.setCell ⟨wb, 7, none⟩ v) wb vi li x0 x1 x2 v ex fl lu lt ld lc ∧ Grow S w (w.setCell ⟨wb, 7, none⟩ v) := by
  obtain ⟨vu, vt, vd, vc, h⟩ := h
  have j1 := h.blk
  have hs : Chg [wb] w (w.setCell ⟨wb, 7, none⟩ v) := (Chg.refl _ _).setCell (by simp) _
  have kp : ∀ {e z n : Nat} {u : Value} {xs : List Value}, w.ownsRow S e z u n xs → 28 ≠ e → (w.setCell ⟨wb, 7, none⟩ v).ownsRow S e z u n xs := fun hu he => ownsRow_kept hu hs (fun k hk hm => own_ne_type hu j1 he (by simpa using (by simpa using hm : k = wb) ▸ hk))
  exact ⟨⟨_, by simp [World.cell?, j1]; rfl⟩, by simp [World.frozen?, j1], ⟨vu, vt, vd, vc, obj_set j1 v, h.low, (by obtain ⟨c, e1, e2⟩ := h.res; exact ⟨c, obj_set_other e1 (by have := h.low; omega) v, e2⟩), kp h.i (by decide), kp h.u (by decide), kp h.t (by decide), kp h.d (by decide), kp h.c (by decide), h.it, h.id, h.ic, h.td, h.tc, h.dc⟩,
    ⟨[wb], Gro.ofChg hs (by simpa using Nat.le_of_lt h.low), fun k hk => by obtain rfl : k = wb := List.mem_singleton.1 hk; exact ⟨_, _, _, j1, by decide, by decide, by decide⟩⟩⟩
theorem RowsAt.set8 {S : Nat} {w : World} {wb : Nat} {vi : Value} {li : List Value} {x0 x1 x2 mo ex fl : Value} {lu lt ld lc : List Value} (h : RowsAt S w wb vi li x0 x1 x2 mo ex fl lu lt ld lc) (v : Value) : (∃ u, w.cell? ⟨wb, 8, none⟩ = some u) ∧ w.frozen? ⟨wb, 8, none⟩ = false ∧ RowsAt S (w.setCell ⟨wb, 8, none⟩ v) wb vi li x0 x1 x2 mo v fl lu lt ld lc ∧ Grow S w (w.setCell ⟨wb, 8, none⟩ v) := by
  obtain ⟨vu, vt, vd, vc, h⟩ := h
  have j1 := h.blk
  have hs : Chg [wb] w (w.setCell ⟨wb, 8, none⟩ v) := (Chg.refl _ _).setCell (by simp) _
  have kp : ∀ {e z n : Nat} {u : Value} {xs : List Value}, w.ownsRow S e z u n xs → 28 ≠ e → (w.setCell ⟨wb, 8, none⟩ v).ownsRow S e z u n xs := fun hu he => ownsRow_kept hu hs (fun k hk hm => own_ne_type hu j1 he (by simpa using (by simpa using hm : k = wb) ▸ hk))
  exact ⟨⟨_, by simp [World.cell?, j1]; rfl⟩, by simp [World.frozen?, j1], ⟨vu, vt, vd, vc, obj_set j1 v, h.low, (by obtain ⟨c, e1, e2⟩ := h.res; exact ⟨c, obj_set_other e1 (by have := h.low; omega) v, e2⟩), kp h.i (by decide), kp h.u (by decide), kp h.t (by decide), kp h.d (by decide), kp h.c (by decide), h.it, h.id, h.ic, h.td, h.tc, h.dc⟩,
    ⟨[wb], Gro.ofChg hs (by simpa using Nat.le_of_lt h.low), fun k hk => by obtain rfl : k = wb := List.mem_singleton.1 hk; exact ⟨_, _, _, j1, by decide, by decide, by decide⟩⟩⟩
theorem RowsAt.set9 {S : Nat} {w : World} {wb : Nat} {vi : Value} {li : List Value} {x0 x1 x2 mo ex fl : Value} {lu lt ld lc : List Value} (h : RowsAt S w wb vi li x0 x1 x2 mo ex fl lu lt ld lc) (v : Value) : (∃ u, w.cell? ⟨wb, 9, none⟩ = some u) ∧ w.frozen? ⟨wb, 9, none⟩ = false ∧ RowsAt S (w.setCell ⟨wb, 9, none⟩ v) wb vi li x0 x1 x2 mo ex v lu lt ld lc ∧ Grow S w (w.setCell ⟨wb, 9, none⟩ v) := by
  obtain ⟨vu, vt, vd, vc, h⟩ := h
  have j1 := h.blk
  have hs : Chg [wb] w (w.setCell ⟨wb, 9, none⟩ v) := (Chg.refl _ _).setCell (by simp) _
  have kp : ∀ {e z n : Nat} {u : Value} {xs : List Value}, w.ownsRow S e z u n xs → 28 ≠ e → (w.setCell ⟨wb, 9, none⟩ v).ownsRow S e z u n xs := fun hu he => ownsRow_kept hu hs (fun k hk hm => own_ne_type hu j1 he (by simpa using (by simpa using hm : k = wb) ▸ hk))
  exact ⟨⟨_, by simp [World.cell?, j1]; rfl⟩, by simp [World.frozen?, j1], ⟨vu, vt, vd, vc, obj_set j1 v, h.low, (by obtain ⟨c, e1, e2⟩ := h.res; exact ⟨c, obj_set_other e1 (by have := h.low; omega) v, e2⟩), kp h.i (by decide), kp h.u (by decide), kp h.t (by decide), kp h.d (by decide), kp h.c (by decide), h.it, h.id, h.ic, h.td, h.tc, h.dc⟩,
    ⟨[wb], Gro.ofChg hs (by simpa using Nat.le_of_lt h.low), fun k hk => by obtain rfl : k = wb := List.mem_singleton.1 hk; exact ⟨_, _, _, j1, by decide, by decide, by decide⟩⟩⟩

abbrev Z28 : Obj := .cells #[.pointer none, .pointer none, .pointer none, .slice none 0 0, .slice none 0 0, .slice none 0 0, .slice none 0 0, .pointer none, .pointer none, .bool false] 28
theorem RowsAt.new (w : World) : RowsAt w.heap.size ((w.alloc Z28).alloc Z28) (w.heap.size + 1) (.slice none 0 0) [] (.pointer none) (.pointer none) (.pointer none) (.pointer none) (.pointer none) (.bool false) [] [] [] [] :=
  ⟨_, _, _, _, heap_new2 _ _ _, Nat.lt_succ_self _, ⟨_, ((Chg.refl [] _).alloc _).obj (heap_alloc_new _ _) (by simp), rfl⟩, World.ownsRow_nil _ _ _ _, World.ownsRow_nil _ _ _ _, World.ownsRow_nil _ _ _ _, World.ownsRow_nil _ _ _ _, World.ownsRow_nil _ _ _ _, Ap.nil _, Ap.nil _, Ap.nil _, Ap.nil _, Ap.nil _, Ap.nil _⟩
theorem RowsAt.cells {S : Nat} {w : World} {wb : Nat} {vi : Value} {li : List Value} {x0 x1 x2 mo ex fl : Value} {lu lt ld lc : List Value} (h : RowsAt S w wb vi li x0 x1 x2 mo ex fl lu lt ld lc) : ∃ vu vt vd vc, RowsV S w wb vi li x0 x1 x2 vu vt vd vc mo ex fl lu lt ld lc := h

end Go.Proofs.YbulkcvhiFmt
