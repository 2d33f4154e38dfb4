/-
  Seat b4844aF: the variable s of readSignature.
-/
import Derived.Test.YbulkcvhiFmtRefD
namespace Go.Proofs.YbulkcvhiFmt
open Go.RowKit Go.Extern.Stop Go.Stop Go.Extern
set_option linter.unusedVariables false

theorem info41 : (Ybaf.prog.info? 41).map (fun i => (i.zero, i.size, i.bytes)) = some (some (.agg #[.string ⟨#[]⟩, .pointer none, .pointer none]), 3, 32) := by kernel_rfl

/-- The variable s at sb: its six fields; the rows of type 24 in X are as they are and lie apart from the certificates'. -/
def SigAt (ws w : World) (sb : Nat) (si sv : Value) (n : Nat) (rs : List Value) (cs : List Nat) (m x : Value) (X : List (Nat × Array Value)) : Prop :=
  ∃ vr vc, w.heap[sb]? = some (.cells #[si, vr, sv, vc, m, x] 39 (0, 0)) ∧ w.ownsRow ws.heap.size 41 3 vr n rs ∧ w.ownsRow ws.heap.size 24 1 vc cs.length (ptrs cs) ∧ Chg [] ws w ∧ ws.heap.size ≤ sb ∧
    ∀ k c, (k, c) ∈ X → w.heap[k]? = some (.cells c 24 (0, 0)) ∧ vc.ownBlock ≠ some k

theorem SigAt.keptC {ws w w' : World} {sb n : Nat} {si sv m x : Value} {rs : List Value} {cs : List Nat} {X : List (Nat × Array Value)} (h : SigAt ws w sb si sv n rs cs m x X) (hc : Chg [] w w') : SigAt ws w' sb si sv n rs cs m x X := by
  obtain ⟨vr, vc, h1, h2, h3, h4, h5, h6⟩ := h
  exact ⟨vr, vc, hc.obj h1 (by simp), ownsRow_kept h2 hc (by simp), ownsRow_kept h3 hc (by simp), h4.trans hc, h5, fun k c hk => ⟨hc.obj (h6 k c hk).1 (by simp), (h6 k c hk).2⟩⟩
theorem SigAt.chg {ws w : World} {sb n : Nat} {si sv m x : Value} {rs : List Value} {cs : List Nat} {X : List (Nat × Array Value)} (h : SigAt ws w sb si sv n rs cs m x X) : Chg [] ws w := by
  obtain ⟨_, _, _, _, _, h, _⟩ := h
  exact h
theorem SigAt.drop {ws w : World} {sb n : Nat} {si sv m x : Value} {rs : List Value} {cs : List Nat} {X Y : List (Nat × Array Value)} (h : SigAt ws w sb si sv n rs cs m x X) (hs : ∀ p, p ∈ Y → p ∈ X) : SigAt ws w sb si sv n rs cs m x Y := by
  obtain ⟨vr, vc, h1, h2, h3, h4, h5, h6⟩ := h
  exact ⟨vr, vc, h1, h2, h3, h4, h5, fun k c hk => h6 k c (hs _ hk)⟩

theorem own_ne_type {w : World} {S e z n k : Nat} {v : Value} {xs : List Value} {c : Array Value} {t : TypeId} {f : Nat × Nat} (h : w.ownsRow S e z v n xs) (hk : w.heap[k]? = some (.cells c t f)) (ht : t ≠ e) : k ∉ v.ownBlock.toList := by
  intro hm
  have hm' : v.ownBlock = some k := by simpa using hm
  rcases h.2 with ⟨rfl, _⟩ | ⟨g, cap, cur, rfl, _, hg, _⟩
  · simp [Value.ownBlock] at hm'
  · obtain rfl : g = k := by simpa [Value.ownBlock] using hm'
    rw [hg] at hk
    cases hk
    exact ht rfl

theorem own_block_ne {w : World} {S e e' z z' n n' : Nat} {v v' : Value} {xs xs' : List Value} (h : w.ownsRow S e z v n xs) (h' : w.ownsRow S e' z' v' n' xs') (ht : e ≠ e') (k : Nat) (hk : v.ownBlock = some k) : k ∉ v'.ownBlock.toList := by
  rcases h.2 with ⟨rfl, _⟩ | ⟨g, cap, cur, rfl, _, hg, _⟩
  · simp [Value.ownBlock] at hk
  · obtain rfl : g = k := by simpa [Value.ownBlock] using hk
    exact own_ne_type h' hg ht

theorem SigAt.cells {w : World} {sb : Nat} {si sv vr vc m x : Value} (h : w.heap[sb]? = some (.cells #[si, vr, sv, vc, m, x] 39 (0, 0))) :
    (w.cell? ⟨sb, 0, none⟩ = some si ∧ w.cell? ⟨sb, 1, none⟩ = some vr ∧ w.cell? ⟨sb, 2, none⟩ = some sv ∧ w.cell? ⟨sb, 3, none⟩ = some vc ∧ w.cell? ⟨sb, 4, none⟩ = some m ∧ w.cell? ⟨sb, 5, none⟩ = some x) ∧
    (w.frozen? ⟨sb, 0, none⟩ = false ∧ w.frozen? ⟨sb, 1, none⟩ = false ∧ w.frozen? ⟨sb, 2, none⟩ = false ∧ w.frozen? ⟨sb, 3, none⟩ = false ∧ w.frozen? ⟨sb, 4, none⟩ = false ∧ w.frozen? ⟨sb, 5, none⟩ = false) := by
  refine ⟨⟨?_, ?_, ?_, ?_, ?_, ?_⟩, ?_, ?_, ?_, ?_, ?_, ?_⟩ <;> simp [World.cell?, World.frozen?, h]

/-- A fresh row of elements is added to the rows kept apart. -/
theorem SigAt.row {ws w w' : World} {sb n : Nat} {si sv m x : Value} {rs : List Value} {cs : List Nat} {X : List (Nat × Array Value)} {v : Value} {kids : List Nat} (h : SigAt ws w sb si sv n rs cs m x X) (hc : Chg [] w w') (ho : w'.ownsRow w.heap.size 24 1 v kids.length (ptrs kids)) :
    ∃ a c Y, v = .slice a kids.length c ∧ kids.length ≤ c ∧ SigAt ws w' sb si sv n rs cs m x (Y ++ X) ∧
      ∀ wr n' rs' cs' m' x' si' sv', SigAt ws wr sb si' sv' n' rs' cs' m' x' (Y ++ X) → 0 < kids.length → ∃ g, a = some ⟨g, 0, none⟩ ∧ ∀ j k, kids[j]? = some k → wr.cell? ⟨g, j, none⟩ = some (.pointer (some ⟨k, 0, none⟩)) := by
  rcases ho.2 with ⟨rfl, hn⟩ | ⟨g, cap, cur, rfl, hb, hg, hle, h2, h3, h4⟩
  · exact ⟨none, 0, [], by rw [hn], by omega, h.keptC hc, fun _ _ _ _ _ _ _ _ _ h0 => by omega⟩
  · refine ⟨some ⟨g, 0, none⟩, cap, [(g, cur)], rfl, hle, ?_, fun wr n' rs' cs' m' x' si' sv' hF _ => ⟨g, rfl, fun j k hj => ?_⟩⟩
    · obtain ⟨vr, vc, k1, k2, k3, k4, k5, k6⟩ := h
      refine ⟨vr, vc, hc.obj k1 (by simp), ownsRow_kept k2 hc (by simp), ownsRow_kept k3 hc (by simp), k4.trans hc, k5, fun k o hk => ?_⟩
      rcases List.mem_append.1 hk with e | hk
      · obtain ⟨rfl, rfl⟩ : k = g ∧ o = cur := by simpa using e
        exact ⟨hg, fun e => by have := (k3.lt _ e).2; omega⟩
      · exact ⟨hc.obj (k6 k o hk).1 (by simp), (k6 k o hk).2⟩
    · obtain ⟨vr, vc, _, _, _, _, _, h6⟩ := hF
      have hw := (h6 g cur (by simp)).1
      have : cur[j]? = some (.pointer (some ⟨k, 0, none⟩)) := by
        have hlt : j < kids.length := (List.getElem?_eq_some_iff.1 hj).1
        have e : (cur.toList.take (kids.length * 1))[j]? = some (.pointer (some ⟨k, 0, none⟩)) := by rw [h4]; simp [ptrs, hj]
        rw [Nat.mul_one, List.getElem?_take_of_lt hlt] at e
        simpa using e
      simp [World.cell?, hw, this]

/-- The same, told by the row's own cells. -/
theorem SigAt.rowE {ws w w' : World} {sb n : Nat} {si sv m x : Value} {rs : List Value} {cs : List Nat} {X : List (Nat × Array Value)} {v : Value} {kids : List Nat} (h : SigAt ws w sb si sv n rs cs m x X) (hc : Chg [] w w') (ho : w'.ownsRow w.heap.size 24 1 v kids.length (ptrs kids)) :
    ∃ a c Y g cur, v = .slice a kids.length c ∧ kids.length ≤ c ∧ SigAt ws w' sb si sv n rs cs m x (Y ++ X) ∧ (∀ (j k : Nat), kids[j]? = some k → cur[j]? = some (Value.pointer (some ⟨k, 0, none⟩))) ∧ (0 < kids.length → a = some ⟨g, 0, none⟩ ∧ (g, cur) ∈ Y ++ X) := by
  rcases ho.2 with ⟨rfl, hn⟩ | ⟨g, cap, cur, rfl, hb, hg, hle, h2, h3, h4⟩
  · exact ⟨none, 0, [], 0, #[], by rw [hn], by omega, h.keptC hc, fun j k hj => by have := (List.getElem?_eq_some_iff.1 hj).1; omega, fun h0 => by omega⟩
  · refine ⟨some ⟨g, 0, none⟩, cap, [(g, cur)], g, cur, rfl, hle, ?_, fun j k hj => ?_, fun _ => ⟨rfl, by simp⟩⟩
    · obtain ⟨vr, vc, k1, k2, k3, k4, k5, k6⟩ := h
      refine ⟨vr, vc, hc.obj k1 (by simp), ownsRow_kept k2 hc (by simp), ownsRow_kept k3 hc (by simp), k4.trans hc, k5, fun k o hk => ?_⟩
      rcases List.mem_append.1 hk with e | hk
      · obtain ⟨rfl, rfl⟩ : k = g ∧ o = cur := by simpa using e
        exact ⟨hg, fun e => by have := (k3.lt _ e).2; omega⟩
      · exact ⟨hc.obj (k6 k o hk).1 (by simp), (k6 k o hk).2⟩
    · have hlt : j < kids.length := (List.getElem?_eq_some_iff.1 hj).1
      have e : (cur.toList.take (kids.length * 1))[j]? = some (.pointer (some ⟨k, 0, none⟩)) := by rw [h4]; simp [ptrs, hj]
      rw [Nat.mul_one, List.getElem?_take_of_lt hlt] at e
      simpa using e

theorem SigAt.setMod {ws w : World} {sb n : Nat} {si sv m x : Value} {rs : List Value} {cs : List Nat} {X : List (Nat × Array Value)} (h : SigAt ws w sb si sv n rs cs m x X) (v : Value) : SigAt ws (w.setCell ⟨sb, 4, none⟩ v) sb si sv n rs cs v x X := by
  obtain ⟨vr, vc, h1, h2, h3, h4, h5, h6⟩ := h
  have hs : Chg [sb] w (w.setCell ⟨sb, 4, none⟩ v) := (Chg.refl _ _).setCell (by simp) _
  refine ⟨vr, vc, obj_set h1 v, ownsRow_kept h2 hs (fun k hk hm => own_ne_type h2 h1 (by decide) (by simpa using (by simpa using hm : k = sb) ▸ hk)), ownsRow_kept h3 hs (fun k hk hm => own_ne_type h3 h1 (by decide) (by simpa using (by simpa using hm : k = sb) ▸ hk)), h4.setCell (.inr h5) v, h5, fun k c hk => ⟨obj_set_other (h6 k c hk).1 ?_ v, (h6 k c hk).2⟩⟩
  rintro rfl
  have := (h6 _ c hk).1
  rw [h1] at this
  cases this
theorem SigAt.setExp {ws w : World} {sb n : Nat} {si sv m x : Value} {rs : List Value} {cs : List Nat} {X : List (Nat × Array Value)} (h : SigAt ws w sb si sv n rs cs m x X) (v : Value) : SigAt ws (w.setCell ⟨sb, 5, none⟩ v) sb si sv n rs cs m v X := by
  obtain ⟨vr, vc, h1, h2, h3, h4, h5, h6⟩ := h
  have hs : Chg [sb] w (w.setCell ⟨sb, 5, none⟩ v) := (Chg.refl _ _).setCell (by simp) _
  refine ⟨vr, vc, obj_set h1 v, ownsRow_kept h2 hs (fun k hk hm => own_ne_type h2 h1 (by decide) (by simpa using (by simpa using hm : k = sb) ▸ hk)), ownsRow_kept h3 hs (fun k hk hm => own_ne_type h3 h1 (by decide) (by simpa using (by simpa using hm : k = sb) ▸ hk)), h4.setCell (.inr h5) v, h5, fun k c hk => ⟨obj_set_other (h6 k c hk).1 ?_ v, (h6 k c hk).2⟩⟩
  rintro rfl
  have := (h6 _ c hk).1
  rw [h1] at this
  cases this

/-- A certificate is appended and the field set. -/
theorem SigAt.pushCert {ws w w1 : World} {sb n b : Nat} {si sv m x vr vc v' : Value} {rs : List Value} {cs : List Nat} {X : List (Nat × Array Value)}
    (h1 : w.heap[sb]? = some (.cells #[si, vr, sv, vc, m, x] 39 (0, 0))) (h2 : w.ownsRow ws.heap.size 41 3 vr n rs) (h3 : w.ownsRow ws.heap.size 24 1 vc cs.length (ptrs cs)) (h4 : Chg [] ws w) (h5 : ws.heap.size ≤ sb)
    (h6 : ∀ k c, (k, c) ∈ X → w.heap[k]? = some (.cells c 24 (0, 0)) ∧ vc.ownBlock ≠ some k)
    (hown : w1.ownsRow ws.heap.size 24 1 v' (cs.length + 1) (ptrs cs ++ [.pointer (some ⟨b, 0, none⟩)])) (hc : Chg vc.ownBlock.toList w w1)
    (hat : ∀ k, v'.ownBlock = some k → vc.ownBlock = some k ∨ w.heap.size ≤ k) : w1.heap[sb]? = some (.cells #[si, vr, sv, vc, m, x] 39 (0, 0)) ∧ SigAt ws (w1.setCell ⟨sb, 3, none⟩ v') sb si sv n rs (cs ++ [b]) m x X := by
  have j1 : w1.heap[sb]? = some (.cells #[si, vr, sv, vc, m, x] 39 (0, 0)) := hc.obj h1 (own_ne_type h3 h1 (by decide))
  have j2 : w1.ownsRow ws.heap.size 41 3 vr n rs := ownsRow_kept h2 hc (own_block_ne h2 h3 (by decide))
  have hs : Chg [sb] w1 (w1.setCell ⟨sb, 3, none⟩ v') := (Chg.refl _ _).setCell (by simp) _
  have hc' : Chg [] ws w1 := (h4.mono (l' := vc.ownBlock.toList) (by simp)).trans hc |>.mono (fun k hk => .inr ((h3.lt k (by simpa using hk)).1))
  refine ⟨j1, vr, v', obj_set j1 v', ownsRow_kept j2 hs (fun k hk hm => own_ne_type j2 j1 (by decide) (by simpa using (by simpa using hm : k = sb) ▸ hk)), ?_, hc'.setCell (.inr h5) v', h5, fun k c hk => ⟨obj_set_other (hc.obj (h6 k c hk).1 (by simpa using (h6 k c hk).2)) ?_ v', fun e => ?_⟩⟩
  · have := ownsRow_kept hown hs (fun k hk hm => own_ne_type hown j1 (by decide) (by simpa using (by simpa using hm : k = sb) ▸ hk))
    simpa [ptrs] using this
  · rintro rfl
    have := (h6 _ c hk).1
    rw [h1] at this
    cases this
  · rcases hat k e with h | h
    · exact (h6 k c hk).2 h
    · have := (Array.getElem?_eq_some_iff.1 (h6 k c hk).1).1
      omega

/-- A reference is appended and the field set. -/
theorem SigAt.pushRef {ws w w1 : World} {sb n : Nat} {si sv m x vr vc v' a1 a2 a3 : Value} {rs : List Value} {cs : List Nat} {X : List (Nat × Array Value)}
    (h1 : w.heap[sb]? = some (.cells #[si, vr, sv, vc, m, x] 39 (0, 0))) (h2 : w.ownsRow ws.heap.size 41 3 vr n rs) (h3 : w.ownsRow ws.heap.size 24 1 vc cs.length (ptrs cs)) (h4 : Chg [] ws w) (h5 : ws.heap.size ≤ sb)
    (h6 : ∀ k c, (k, c) ∈ X → w.heap[k]? = some (.cells c 24 (0, 0)) ∧ vc.ownBlock ≠ some k)
    (hown : w1.ownsRow ws.heap.size 41 3 v' (n + 1) (rs ++ [a1, a2, a3])) (hc : Chg vr.ownBlock.toList w w1) : w1.heap[sb]? = some (.cells #[si, vr, sv, vc, m, x] 39 (0, 0)) ∧ SigAt ws (w1.setCell ⟨sb, 1, none⟩ v') sb si sv (n + 1) (rs ++ [a1, a2, a3]) cs m x X := by
  have j1 : w1.heap[sb]? = some (.cells #[si, vr, sv, vc, m, x] 39 (0, 0)) := hc.obj h1 (own_ne_type h2 h1 (by decide))
  have j3 : w1.ownsRow ws.heap.size 24 1 vc cs.length (ptrs cs) := ownsRow_kept h3 hc (own_block_ne h3 h2 (by decide))
  have hs : Chg [sb] w1 (w1.setCell ⟨sb, 1, none⟩ v') := (Chg.refl _ _).setCell (by simp) _
  have hc' : Chg [] ws w1 := (h4.mono (l' := vr.ownBlock.toList) (by simp)).trans hc |>.mono (fun k hk => .inr ((h2.lt k (by simpa using hk)).1))
  refine ⟨j1, v', vc, obj_set j1 v', ownsRow_kept hown hs (fun k hk hm => own_ne_type hown j1 (by decide) (by simpa using (by simpa using hm : k = sb) ▸ hk)), ownsRow_kept j3 hs (fun k hk hm => own_ne_type j3 j1 (by decide) (by simpa using (by simpa using hm : k = sb) ▸ hk)), hc'.setCell (.inr h5) v', h5, fun k c hk => ⟨obj_set_other (hc.obj (h6 k c hk).1 (own_ne_type h2 (h6 k c hk).1 (by decide))) ?_ v', (h6 k c hk).2⟩⟩
  rintro rfl
  have := (h6 _ c hk).1
  rw [h1] at this
  cases this

end Go.Proofs.YbulkcvhiFmt
