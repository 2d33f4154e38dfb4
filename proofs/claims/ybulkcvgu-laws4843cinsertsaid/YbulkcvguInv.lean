/-
  Seat b4843a: what holds of the 'Live' between two enqueues.
-/
import Derived.Test.YbulkcvguOps
namespace Go.Proofs.Ybulkcvgu
open Go.RowKit
set_option linter.unusedVariables false

/-- The places: the 'Live', its row of n organisations, its two trees, the expected numbers' row. -/
structure Pl where
  (lb ab n g1 c1 x1 g2 c2 x2 eb ec u : Nat)

def Pl.all (p : Pl) : List Nat := [p.ab, p.lb, p.g1, p.x1, p.g2, p.x2, p.eb]

/-- The places are apart. -/
structure Pl.Apart (p : Pl) : Prop where
  ablb : p.ab ≠ p.lb
  abg1 : p.ab ≠ p.g1
  abx1 : p.ab ≠ p.x1
  abg2 : p.ab ≠ p.g2
  abx2 : p.ab ≠ p.x2
  abeb : p.ab ≠ p.eb
  lbx1 : p.lb ≠ p.x1
  lbx2 : p.lb ≠ p.x2
  g1x1 : p.g1 ≠ p.x1
  g1x2 : p.g1 ≠ p.x2
  x1g2 : p.x1 ≠ p.g2
  x1x2 : p.x1 ≠ p.x2
  x1eb : p.x1 ≠ p.eb
  g2x2 : p.g2 ≠ p.x2
  x2eb : p.x2 ≠ p.eb

theorem Pl.apart {p : Pl} (h : p.all.Nodup) : p.Apart := by
  simp only [Pl.all, List.nodup_cons, List.mem_cons, List.not_mem_nil, or_false, not_or, List.nodup_nil, and_true, not_false_eq_true] at h
  obtain ⟨⟨a1, a2, a3, a4, a5, a6⟩, ⟨b1, b2, b3, b4, b5⟩, ⟨c1, c2, c3, c4⟩, ⟨d1, d2, d3⟩, ⟨e1, e2⟩, f1⟩ := h
  exact ⟨a1, a2, a3, a4, a5, a6, b2, b4, c1, c3, d1, d2, d3, e1, f1⟩

structure Inv (w0 w : World) (p : Pl) (pr : Int) (es qs : List Int) (v1 v2 : Int) : Prop where
  live : LiveAt w p.lb p.ab p.n p.g1 p.c1 p.x1 p.g2 p.c2 p.x2 v1 v2
  nd : p.all.Nodup
  lo : ∀ b, b ∈ p.all → w0.heap.size ≤ b ∧ b < w.heap.size
  procs : w.cell? ⟨p.ab, p.u * 22, none⟩ = some (.int .i64 pr)
  free : ∀ j, w.frozen? ⟨p.ab, j, none⟩ = false
  queue : ∃ a c, w.cell? ⟨p.ab, p.u * 22 + 1, none⟩ = some (.slice a qs.length c) ∧ IsQ w (.slice a qs.length c) qs ∧ ∀ k, k ∈ blocksOf (.slice a qs.length c) → w0.heap.size ≤ k ∧ k ∉ p.all
  others : ∀ v, v < p.n → v ≠ p.u → w.cell? ⟨p.ab, v * 22 + 1, none⟩ = some (.slice none 0 0)
  exp : IsQ w (.slice (some ⟨p.eb, 0, none⟩) es.length p.ec) es
  chg : Chg [] w0 w

theorem Inv.drewN {w0 w : World} {p : Pl} {pr : Int} {es qs : List Int} {v1 v2 : Int} (h : Inv w0 w p pr es qs v1 v2) (q : Nat) : Inv w0 (w.drewN q) p pr es qs v1 v2 :=
  ⟨⟨h.live.orgs, h.live.wp, h.live.wo, h.live.l1, h.live.l2, h.live.b1, h.live.b2, h.live.f1, h.live.f2⟩, h.nd, h.lo, h.procs, h.free, h.queue, h.others, h.exp, h.chg.drewN q⟩

theorem Inv.step {w0 w w' : World} {p : Pl} {pr : Int} {es qs qs' : List Int} {v1 v2 v1' v2' : Int} {l : List Nat} {a : Option Addr} {c : Nat} (h : Inv w0 w p pr es qs v1 v2)
    (hb : ∀ k, k ∈ blocksOf (.slice a qs.length c) → w0.heap.size ≤ k ∧ k ∉ p.all) (hE : Enq p.ab p.u l (.slice a qs.length c) qs' w w') (hl : ∀ k, k ∈ l → k = p.x1 ∨ k = p.x2)
    (hb1 : w'.cell? ⟨p.x1, 0, none⟩ = some (.int .u64 v1')) (hb2 : w'.cell? ⟨p.x2, 0, none⟩ = some (.int .u64 v2')) (hf1 : w'.frozen? ⟨p.x1, 0, none⟩ = false) (hf2 : w'.frozen? ⟨p.x2, 0, none⟩ = false) :
    Inv w0 w' p pr es qs' v1' v2' := by
  obtain ⟨a', c', e1, e2, e3, e4, e5, e6⟩ := hE
  have A := Pl.apart h.nd
  have key : ∀ b, b ∈ p.all → b ≠ p.ab → b ≠ p.x1 → b ≠ p.x2 → b ∉ p.ab :: (l ++ blocksOf (.slice a qs.length c)) := by
    intro b hm h1 h2 h3 hc
    simp only [List.mem_cons, List.mem_append] at hc
    rcases hc with hc | hc | hc
    · exact h1 hc
    · rcases hl b hc with h | h
      · exact h2 h
      · exact h3 h
    · exact (hb b hc).2 hm
  have klb := key p.lb (by simp [Pl.all]) A.ablb.symm A.lbx1 A.lbx2
  have kg1 := key p.g1 (by simp [Pl.all]) A.abg1.symm A.g1x1 A.g1x2
  have kg2 := key p.g2 (by simp [Pl.all]) A.abg2.symm A.x1g2.symm A.g2x2
  have keb := key p.eb (by simp [Pl.all]) A.abeb.symm A.x1eb.symm A.x2eb.symm
  refine ⟨⟨e6.cell h.live.orgs klb, e6.cell h.live.wp klb, e6.cell h.live.wo klb, e6.cell h.live.l1 kg1, e6.cell h.live.l2 kg2, hb1, hb2, hf1, hf2⟩, h.nd, fun b hm => ⟨(h.lo b hm).1, Nat.lt_of_lt_of_le (h.lo b hm).2 e6.size⟩, ?_, fun j => (e5 j).trans (h.free j), ⟨a', c', e1, e2, ?_⟩, ?_, ?_, ?_⟩
  · rw [e4 _ (by omega)]; exact h.procs
  · intro k hk
    rcases e3 k hk with h1 | h1
    · exact hb k h1
    · refine ⟨Nat.le_trans h.chg.size h1, fun hm => ?_⟩
      have := (h.lo k hm).2
      omega
  · intro v hv hvu
    rw [e4 _ (by omega)]; exact h.others v hv hvu
  · exact h.exp.kept e6 (by simpa [blocksOf, Value.ownBlock] using keb)
  · refine (Chg.mono (l := p.ab :: (l ++ blocksOf (.slice a qs.length c))) ((h.chg.mono (by simp)).trans e6) (fun k hk => .inr ?_))
    simp only [List.mem_cons, List.mem_append] at hk
    rcases hk with rfl | hk | hk
    · exact (h.lo _ (by simp [Pl.all])).1
    · rcases hl k hk with rfl | rfl
      · exact (h.lo _ (by simp [Pl.all])).1
      · exact (h.lo _ (by simp [Pl.all])).1
    · exact (hb k hk).1

/-- 'enqueue' of x, the queue not empty. -/
theorem enqueue_inv_more {w0 w : World} {p : Pl} {pr : Int} {es qs : List Int} {v1 v2 : Int} (h : Inv w0 w p pr es qs v1 v2) (x : Int) (hu : p.u < p.n) (hn : p.n ≤ 4) (hs : qs.Pairwise (· ≤ ·)) (hz : qs.length ≤ 2048) (hz0 : 0 < qs.length) :
    Calls Yba.prog 8 #[.pointer (some ⟨p.lb, 0, none⟩), .int .i64 (p.u : Int), .int .i64 x] w fun e w' => e = .returned (.tuple #[]) ∧ Inv w0 w' p pr es (ins (qs.countP (· < x)) x qs) v1 v2 := by
  obtain ⟨a, c, h1, h2, h3⟩ := h.queue
  have A := Pl.apart h.nd
  refine (enqueue_more p.lb p.ab p.n p.u a c qs x w h.live.orgs h1 (h.free _) hu hn h2 hs hz hz0 (fun hm => (h3 _ hm).2 (by simp [Pl.all]))).mono ?_
  rintro e w' ⟨rfl, hE⟩
  have hc := hE
  obtain ⟨_, _, _, _, _, _, _, e6⟩ := hc
  have n1 : p.x1 ∉ p.ab :: ([] ++ blocksOf (.slice a qs.length c)) := by
    simp only [List.nil_append, List.mem_cons, not_or]
    exact ⟨A.abx1.symm, fun hm => (h3 _ hm).2 (by simp [Pl.all])⟩
  have n2 : p.x2 ∉ p.ab :: ([] ++ blocksOf (.slice a qs.length c)) := by
    simp only [List.nil_append, List.mem_cons, not_or]
    exact ⟨A.abx2.symm, fun hm => (h3 _ hm).2 (by simp [Pl.all])⟩
  exact ⟨rfl, h.step h3 hE (by simp) (e6.cell h.live.b1 n1) (e6.cell h.live.b2 n2) ((e6.frozen (p := ⟨p.x1, 0, none⟩) (h.lo p.x1 (by simp [Pl.all])).2 n1).trans h.live.f1) ((e6.frozen (p := ⟨p.x2, 0, none⟩) (h.lo p.x2 (by simp [Pl.all])).2 n2).trans h.live.f2)⟩

theorem enqueue_inv_with {w0 w : World} {p : Pl} {pr : Int} {es : List Int} {v2 : Int} (h : Inv w0 w p pr es [] 0 v2) (x : Int) (hu : p.u < p.n) (hn : p.n ≤ 4) (hp : 0 < pr) :
    Calls Yba.prog 8 #[.pointer (some ⟨p.lb, 0, none⟩), .int .i64 (p.u : Int), .int .i64 x] w fun e w' => e = .returned (.tuple #[]) ∧ ∃ v : Int, (v == 0) = false ∧ Inv w0 w' p pr es [x] v v2 := by
  obtain ⟨a, c, h1, h2, h3⟩ := h.queue
  have A := Pl.apart h.nd
  have hav : ∀ k, k ∈ p.all → k ∉ blocksOf (.slice a 0 c) := fun k hk hm => (h3 k hm).2 hk
  refine (enqueue_first_with p.lb p.ab p.n p.u p.g1 p.c1 p.x1 pr a c x w h.live.orgs h.procs h1 (h.free _) hu hn hp h.live.wp h.live.l1 h.live.b1 h.live.f1 h2 ⟨A.ablb.symm, A.abg1.symm, A.abx1.symm⟩ (fun k hk => hav k (by simp only [List.mem_cons, List.not_mem_nil, or_false] at hk; simp only [Pl.all, List.mem_cons]; rcases hk with h | h | h | h <;> simp [h]))).mono ?_
  rintro e w' ⟨rfl, hE, v, hv, hx, hf⟩
  have hc := hE
  obtain ⟨_, _, _, _, _, _, _, e6⟩ := hc
  have n2 : p.x2 ∉ p.ab :: ([p.x1] ++ blocksOf (.slice a 0 c)) := by
    simp only [List.mem_cons, List.mem_append, not_or, List.not_mem_nil, not_false_eq_true, and_true]
    exact ⟨A.abx2.symm, A.x1x2.symm, hav _ (by simp [Pl.all])⟩
  exact ⟨rfl, v, hv, h.step (a := a) (c := c) (qs := []) h3 hE (by simp) hx (e6.cell h.live.b2 n2) hf ((e6.frozen (p := ⟨p.x2, 0, none⟩) (h.lo p.x2 (by simp [Pl.all])).2 n2).trans h.live.f2)⟩

theorem enqueue_inv_without {w0 w : World} {p : Pl} {pr : Int} {es : List Int} {v1 : Int} (h : Inv w0 w p pr es [] v1 0) (x : Int) (hu : p.u < p.n) (hn : p.n ≤ 4) (hp : pr ≤ 0) :
    Calls Yba.prog 8 #[.pointer (some ⟨p.lb, 0, none⟩), .int .i64 (p.u : Int), .int .i64 x] w fun e w' => e = .returned (.tuple #[]) ∧ ∃ v : Int, (v == 0) = false ∧ Inv w0 w' p pr es [x] v1 v := by
  obtain ⟨a, c, h1, h2, h3⟩ := h.queue
  have A := Pl.apart h.nd
  have hav : ∀ k, k ∈ p.all → k ∉ blocksOf (.slice a 0 c) := fun k hk hm => (h3 k hm).2 hk
  refine (enqueue_first_without p.lb p.ab p.n p.u p.g2 p.c2 p.x2 pr a c x w h.live.orgs h.procs h1 (h.free _) hu hn hp h.live.wo h.live.l2 h.live.b2 h.live.f2 h2 ⟨A.ablb.symm, A.abg2.symm, A.abx2.symm⟩ (fun k hk => hav k (by simp only [List.mem_cons, List.not_mem_nil, or_false] at hk; simp only [Pl.all, List.mem_cons]; rcases hk with h | h | h | h <;> simp [h]))).mono ?_
  rintro e w' ⟨rfl, hE, v, hv, hx, hf⟩
  have hc := hE
  obtain ⟨_, _, _, _, _, _, _, e6⟩ := hc
  have n2 : p.x1 ∉ p.ab :: ([p.x2] ++ blocksOf (.slice a 0 c)) := by
    simp only [List.mem_cons, List.mem_append, not_or, List.not_mem_nil, not_false_eq_true, and_true]
    exact ⟨A.abx1.symm, A.x1x2, hav _ (by simp [Pl.all])⟩
  exact ⟨rfl, v, hv, h.step (a := a) (c := c) (qs := []) h3 hE (by simp) (e6.cell h.live.b1 n2) hx ((e6.frozen (p := ⟨p.x1, 0, none⟩) (h.lo p.x1 (by simp [Pl.all])).2 n2).trans h.live.f1) hf⟩

/-- At the start. -/
theorem inv_start {w0 w2 w3 : World} {lb ab n g1 c1 x1 g2 c2 x2 eb ec u : Nat} {es : List Int} (hL : LiveAt w3 lb ab n g1 c1 x1 g2 c2 x2 0 0) (hO : OrgsAt w3 ab n (fun _ => 0) (fun _ => .slice none 0 0))
    (hnd : [ab, lb, g1, x1, g2, x2].Nodup) (hlo : ∀ b, b ∈ [ab, lb, g1, x1, g2, x2] → w2.heap.size ≤ b ∧ b < w3.heap.size) (h23 : Chg [] w2 w3) (h02 : Chg [] w0 w2) (hu : u < n)
    (he : IsQ w2 (.slice (some ⟨eb, 0, none⟩) es.length ec) es) (heb : w0.heap.size ≤ eb) :
    Inv w0 w3 ⟨lb, ab, n, g1, c1, x1, g2, c2, x2, eb, ec, u⟩ 0 es [] 0 0 := by
  have hel : eb < w2.heap.size := he.lt eb (by simp [blocksOf, Value.ownBlock])
  have e2 := h02.size
  refine ⟨hL, ?_, ?_, hO.procs u hu, hO.free, ⟨none, 0, hO.queue u hu, .inl ⟨rfl, rfl⟩, by simp [blocksOf, Value.ownBlock]⟩, fun v hv _ => hO.queue v hv, he.kept h23 (by simp), h02.trans h23⟩
  · have e : (Pl.mk lb ab n g1 c1 x1 g2 c2 x2 eb ec u).all = [ab, lb, g1, x1, g2, x2] ++ [eb] := rfl
    rw [e, List.nodup_append]
    refine ⟨hnd, by simp, fun a ha b hb => ?_⟩
    have := (hlo a ha).1
    simp at hb
    omega
  · intro b hb
    have e : (Pl.mk lb ab n g1 c1 x1 g2 c2 x2 eb ec u).all = [ab, lb, g1, x1, g2, x2] ++ [eb] := rfl
    rw [e, List.mem_append] at hb
    rcases hb with hb | hb
    · have := hlo b hb
      exact ⟨by omega, this.2⟩
    · simp at hb
      subst hb
      exact ⟨heb, Nat.lt_of_lt_of_le hel h23.size⟩

theorem Inv.re {w0 w w' : World} {p : Pl} {pr pr' : Int} {es qs qs' : List Int} {v1 v2 v1' v2' : Int} {l : List Nat} (h : Inv w0 w p pr es qs v1 v2) (hc : Chg l w w') (hl : ∀ k, k ∈ l → k = p.ab ∨ k = p.x1 ∨ k = p.x2)
    (hb1 : w'.cell? ⟨p.x1, 0, none⟩ = some (.int .u64 v1')) (hb2 : w'.cell? ⟨p.x2, 0, none⟩ = some (.int .u64 v2')) (hf1 : w'.frozen? ⟨p.x1, 0, none⟩ = false) (hf2 : w'.frozen? ⟨p.x2, 0, none⟩ = false)
    (hpr : w'.cell? ⟨p.ab, p.u * 22, none⟩ = some (.int .i64 pr')) (hfr : ∀ j, w'.frozen? ⟨p.ab, j, none⟩ = false)
    (hq : ∃ a c, w'.cell? ⟨p.ab, p.u * 22 + 1, none⟩ = some (.slice a qs'.length c) ∧ IsQ w' (.slice a qs'.length c) qs' ∧ ∀ k, k ∈ blocksOf (.slice a qs'.length c) → w0.heap.size ≤ k ∧ k ∉ p.all)
    (hot : ∀ v, v < p.n → v ≠ p.u → w'.cell? ⟨p.ab, v * 22 + 1, none⟩ = some (.slice none 0 0)) : Inv w0 w' p pr' es qs' v1' v2' := by
  have A := Pl.apart h.nd
  have key : ∀ b, b ≠ p.ab → b ≠ p.x1 → b ≠ p.x2 → b ∉ l := by
    intro b h1 h2 h3 hc
    rcases hl b hc with h | h | h
    · exact h1 h
    · exact h2 h
    · exact h3 h
  have klb := key p.lb A.ablb.symm A.lbx1 A.lbx2
  have kg1 := key p.g1 A.abg1.symm A.g1x1 A.g1x2
  have kg2 := key p.g2 A.abg2.symm A.x1g2.symm A.g2x2
  have keb := key p.eb A.abeb.symm A.x1eb.symm A.x2eb.symm
  refine ⟨⟨hc.cell h.live.orgs klb, hc.cell h.live.wp klb, hc.cell h.live.wo klb, hc.cell h.live.l1 kg1, hc.cell h.live.l2 kg2, hb1, hb2, hf1, hf2⟩, h.nd, fun b hm => ⟨(h.lo b hm).1, Nat.lt_of_lt_of_le (h.lo b hm).2 hc.size⟩, hpr, hfr, hq, hot, h.exp.kept hc (by simpa [blocksOf, Value.ownBlock] using keb), ?_⟩
  refine (Chg.mono (l := l) ((h.chg.mono (by simp)).trans hc) (fun k hk => .inr ?_))
  rcases hl k hk with rfl | rfl | rfl
  · exact (h.lo _ (by simp [Pl.all])).1
  · exact (h.lo _ (by simp [Pl.all])).1
  · exact (h.lo _ (by simp [Pl.all])).1

section
variable {w0 w : World} {p : Pl} {pr : Int} {es qs : List Int} {v1 v2 : Int}

theorem Inv.ab_cell (h : Inv w0 w p pr es qs v1 v2) (x : Value) (j : Nat) (b k : Nat) (hb : b ≠ p.ab) : (w.setCell ⟨p.ab, j, none⟩ x).cell? ⟨b, k, none⟩ = w.cell? ⟨b, k, none⟩ :=
  World.cell?_setCell_other _ _ _ _ (fun e => hb (congrArg Addr.block e).symm)

theorem Inv.setProcs (h : Inv w0 w p pr es [] v1 v2) (pr' : Int) : Inv w0 (w.setCell ⟨p.ab, p.u * 22, none⟩ (.int .i64 pr')) p pr' es [] v1 v2 := by
  have A := Pl.apart h.nd
  obtain ⟨a, c, h1, h2, h3⟩ := h.queue
  refine h.re ((Chg.refl [p.ab] w).setCell (by simp) _) (by simp) ((h.ab_cell _ _ _ _ A.abx1.symm).trans h.live.b1) ((h.ab_cell _ _ _ _ A.abx2.symm).trans h.live.b2) ((World.frozen?_setCell _ _ _ _).trans h.live.f1) ((World.frozen?_setCell _ _ _ _).trans h.live.f2)
    (World.cell?_setCell_same _ _ _ h.procs) (fun j => (World.frozen?_setCell _ _ _ _).trans (h.free j)) ⟨a, c, ?_, h2.kept ((Chg.refl [p.ab] w).setCell (by simp) _) (fun k hk => ?_), h3⟩ (fun v hv hvu => ?_)
  · rw [World.cell?_setCell_other _ _ _ _ (fun e => by have := congrArg Addr.off e; simp at this)]; exact h1
  · simp only [List.mem_singleton]; rintro rfl; exact (h3 _ hk).2 (by simp [Pl.all])
  · rw [World.cell?_setCell_other _ _ _ _ (fun e => by have := congrArg Addr.off e; simp at this; omega)]; exact h.others v hv hvu

theorem Inv.setQueue (h : Inv w0 w p pr es [] v1 v2) {zs : List Int} {a : Option Addr} {c : Nat} (hq : IsQ w (.slice a zs.length c) zs) (hb : ∀ k, k ∈ blocksOf (.slice a zs.length c) → w0.heap.size ≤ k ∧ k ∉ p.all) :
    Inv w0 (w.setCell ⟨p.ab, p.u * 22 + 1, none⟩ (.slice a zs.length c)) p pr es zs v1 v2 := by
  have A := Pl.apart h.nd
  obtain ⟨a', c', h1, h2, h3⟩ := h.queue
  refine h.re ((Chg.refl [p.ab] w).setCell (by simp) _) (by simp) ((h.ab_cell _ _ _ _ A.abx1.symm).trans h.live.b1) ((h.ab_cell _ _ _ _ A.abx2.symm).trans h.live.b2) ((World.frozen?_setCell _ _ _ _).trans h.live.f1) ((World.frozen?_setCell _ _ _ _).trans h.live.f2)
    ?_ (fun j => (World.frozen?_setCell _ _ _ _).trans (h.free j)) ⟨a, c, World.cell?_setCell_same _ _ _ h1, hq.kept ((Chg.refl [p.ab] w).setCell (by simp) _) (fun k hk => ?_), hb⟩ (fun v hv hvu => ?_)
  · rw [World.cell?_setCell_other _ _ _ _ (fun e => by have := congrArg Addr.off e; simp at this)]; exact h.procs
  · simp only [List.mem_singleton]; rintro rfl; exact (hb _ hk).2 (by simp [Pl.all])
  · rw [World.cell?_setCell_other _ _ _ _ (fun e => by have := congrArg Addr.off e; simp at this; omega)]; exact h.others v hv hvu

theorem Inv.setBit1 {w' : World} {v : Int} (h : Inv w0 w p pr es qs v1 v2) (hx : w'.cell? ⟨p.x1, 0, none⟩ = some (.int .u64 v)) (hf : w'.frozen? ⟨p.x1, 0, none⟩ = false) (hc : Chg [p.x1] w w') : Inv w0 w' p pr es qs v v2 := by
  have A := Pl.apart h.nd
  obtain ⟨a, c, h1, h2, h3⟩ := h.queue
  have n1 : p.ab ∉ [p.x1] := by simpa using A.abx1
  refine h.re hc (by simp) hx (hc.cell h.live.b2 (by simpa using A.x1x2.symm)) hf ((hc.frozen (p := ⟨p.x2, 0, none⟩) (h.lo _ (by simp [Pl.all])).2 (by simpa using A.x1x2.symm)).trans h.live.f2) (hc.cell h.procs n1)
    (fun j => (hc.frozen (p := ⟨p.ab, j, none⟩) (h.lo _ (by simp [Pl.all])).2 n1).trans (h.free j)) ⟨a, c, hc.cell h1 n1, h2.kept hc (fun k hk => ?_), h3⟩ (fun v hv hvu => hc.cell (h.others v hv hvu) n1)
  simp only [List.mem_singleton]; rintro rfl; exact (h3 _ hk).2 (by simp [Pl.all])

theorem Inv.setBit2 {w' : World} {v : Int} (h : Inv w0 w p pr es qs v1 v2) (hx : w'.cell? ⟨p.x2, 0, none⟩ = some (.int .u64 v)) (hf : w'.frozen? ⟨p.x2, 0, none⟩ = false) (hc : Chg [p.x2] w w') : Inv w0 w' p pr es qs v1 v := by
  have A := Pl.apart h.nd
  obtain ⟨a, c, h1, h2, h3⟩ := h.queue
  have n1 : p.ab ∉ [p.x2] := by simpa using A.abx2
  refine h.re hc (by simp) (hc.cell h.live.b1 (by simpa using A.x1x2)) hx ((hc.frozen (p := ⟨p.x1, 0, none⟩) (h.lo _ (by simp [Pl.all])).2 (by simpa using A.x1x2)).trans h.live.f1) hf (hc.cell h.procs n1)
    (fun j => (hc.frozen (p := ⟨p.ab, j, none⟩) (h.lo _ (by simp [Pl.all])).2 n1).trans (h.free j)) ⟨a, c, hc.cell h1 n1, h2.kept hc (fun k hk => ?_), h3⟩ (fun v hv hvu => hc.cell (h.others v hv hvu) n1)
  simp only [List.mem_singleton]; rintro rfl; exact (h3 _ hk).2 (by simp [Pl.all])

theorem Inv.alloc (h : Inv w0 w p pr es qs v1 v2) (o : Obj) : Inv w0 (w.alloc o) p pr es qs v1 v2 := by
  obtain ⟨a, c, h1, h2, h3⟩ := h.queue
  have hc := (Chg.refl [] w).alloc o
  have fz : ∀ b j, b < w.heap.size → (w.alloc o).frozen? ⟨b, j, none⟩ = w.frozen? ⟨b, j, none⟩ := fun b j hb => hc.frozen (p := ⟨b, j, none⟩) hb (by simp)
  exact h.re hc (by simp) (hc.cell h.live.b1 (by simp)) (hc.cell h.live.b2 (by simp)) ((fz _ _ (h.lo _ (by simp [Pl.all])).2).trans h.live.f1) ((fz _ _ (h.lo _ (by simp [Pl.all])).2).trans h.live.f2) (hc.cell h.procs (by simp))
    (fun j => (fz _ _ (h.lo _ (by simp [Pl.all])).2).trans (h.free j)) ⟨a, c, hc.cell h1 (by simp), h2.kept hc (by simp), h3⟩ (fun v hv hvu => hc.cell (h.others v hv hvu) (by simp))

theorem Inv.below (h : Inv w0 w p pr es qs v1 v2) : Below w0.heap.size w0 w := h.chg.below (Nat.le_refl _) (by simp)
end

end Go.Proofs.Ybulkcvgu
