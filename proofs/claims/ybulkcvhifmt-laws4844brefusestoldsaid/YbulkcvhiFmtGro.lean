/-
  Seat b4844aF: the frame of the building: parents are set, rows grow.
-/
import Derived.Test.YbulkcvhiFmtTree
namespace Go.Proofs.YbulkcvhiFmt
open Go.RowKit Go.Extern.Stop Go.Stop Go.Extern
set_option linter.unusedVariables false

/-- The same object, but for an element's parent. -/
def Alike (o o' : Obj) : Prop := o' = o ∨ ∃ c c' : Array Value, o = .cells c 59 (0, 0) ∧ o' = .cells c' 59 (0, 0) ∧ c'.size = c.size ∧ ∀ i, i ≠ 4 → c'[i]? = c[i]?
theorem Alike.trans {a b c : Obj} (h : Alike a b) (k : Alike b c) : Alike a c := by
  rcases h with rfl | ⟨x, y, rfl, rfl, h1, h2⟩
  · exact k
  · rcases k with rfl | ⟨x', y', e, rfl, k1, k2⟩
    · exact .inr ⟨x, y, rfl, rfl, h1, h2⟩
    · cases e
      exact .inr ⟨x, y', rfl, rfl, k1.trans h1, fun i hi => (k2 i hi).trans (h2 i hi)⟩

/-- Below S nothing turns; above it elements get parents, and the blocks of l are free. -/
structure Gro (S : Nat) (l : List Nat) (w w' : World) : Prop where
  os : w'.os = w.os
  tape : w'.tape = w.tape
  output : w'.output = w.output
  size : w.heap.size ≤ w'.heap.size
  low : ∀ k, k < S → k < w.heap.size → w'.heap[k]? = w.heap[k]?
  alike : ∀ k o, w.heap[k]? = some o → k ∉ l → ∃ o', w'.heap[k]? = some o' ∧ Alike o o'

theorem Gro.refl (S : Nat) (l : List Nat) (w : World) : Gro S l w w := ⟨rfl, rfl, rfl, Nat.le_refl _, fun _ _ _ => rfl, fun k o h _ => ⟨o, h, .inl rfl⟩⟩
theorem Gro.trans {S : Nat} {l : List Nat} {a b c : World} (h : Gro S l a b) (k : Gro S l b c) : Gro S l a c :=
  ⟨k.os.trans h.os, k.tape.trans h.tape, k.output.trans h.output, Nat.le_trans h.size k.size, fun i hi hl => (k.low i hi (Nat.lt_of_lt_of_le hl h.size)).trans (h.low i hi hl), fun i o ho hl => by
    obtain ⟨o', h1, h2⟩ := h.alike i o ho hl
    obtain ⟨o'', h3, h4⟩ := k.alike i o' h1 hl
    exact ⟨o'', h3, h2.trans h4⟩⟩
theorem Gro.mono {S : Nat} {l l' : List Nat} {a b : World} (h : Gro S l a b) (hs : ∀ k, k ∈ l → k ∈ l' ∨ a.heap.size ≤ k) : Gro S l' a b :=
  ⟨h.os, h.tape, h.output, h.size, h.low, fun k o ho hl => h.alike k o ho (fun hm => by
    rcases hs k hm with h1 | h1
    · exact hl h1
    · have := (Array.getElem?_eq_some_iff.1 ho).1; omega)⟩
theorem Gro.ofChg {S : Nat} {l : List Nat} {a b : World} (h : Chg l a b) (hS : ∀ k, k ∈ l → S ≤ k) : Gro S l a b :=
  ⟨h.os, h.tape, h.output, h.size, fun k hk hl => h.block k hl (fun hm => by have := hS k hm; omega), fun k o ho hl => ⟨o, h.obj ho hl, .inl rfl⟩⟩
theorem Gro.alloc {S : Nat} {l : List Nat} {a b : World} (h : Gro S l a b) (o : Obj) : Gro S l a (b.alloc o) :=
  h.trans ((Gro.ofChg (l := []) ((Chg.refl _ _).alloc o) (by simp)).mono (by simp))
theorem Gro.chg {S : Nat} {l : List Nat} {a b : World} (h : Gro S l a b) (hS : a.heap.size ≤ S) : Chg [] a b := ⟨h.os, h.tape, h.output, h.size, fun k hk _ => h.low k (by omega) hk⟩
theorem Gro.obj {S : Nat} {l : List Nat} {a b : World} (h : Gro S l a b) {k : Nat} {o : Obj} (ho : a.heap[k]? = some o) (hl : k ∉ l) (ht : ∀ c, o ≠ .cells c 59 (0, 0)) : b.heap[k]? = some o := by
  obtain ⟨o', h1, h2⟩ := h.alike k o ho hl
  rcases h2 with rfl | ⟨c, _, rfl, _⟩
  · exact h1
  · exact (ht c rfl).elim
theorem Gro.objT {S : Nat} {l : List Nat} {a b : World} (h : Gro S l a b) {k : Nat} {c : Array Value} {t : TypeId} {f : Nat × Nat} (ho : a.heap[k]? = some (.cells c t f)) (hl : k ∉ l) (ht : t ≠ 59) : b.heap[k]? = some (.cells c t f) :=
  h.obj ho hl (fun c' e => by cases e; exact ht rfl)
theorem Gro.set4 {S : Nat} (w : World) {k : Nat} {c : Array Value} (h : w.heap[k]? = some (.cells c 59 (0, 0))) (hS : S ≤ k) (v : Value) : Gro S [] w (w.setCell ⟨k, 4, none⟩ v) := by
  refine ⟨rfl, rfl, rfl, by simp [World.setCell], fun i hi hl => ?_, fun i o ho _ => ?_⟩
  · have : k ≠ i := by omega
    simp only [World.setCell, Array.getElem?_modify, if_neg this]
  · by_cases hki : k = i
    · subst hki
      rw [h] at ho
      cases ho
      exact ⟨_, obj_set h v, .inr ⟨c, _, rfl, rfl, by simp, fun i hi => by simp [Ne.symm hi]⟩⟩
    · exact ⟨o, obj_set_other ho hki v, .inl rfl⟩

/-- The blocks of l are cells of kinds that no element is made of. -/
def Soft (w : World) (l : List Nat) : Prop := ∀ k, k ∈ l → ∃ c t f, w.heap[k]? = some (.cells c t f) ∧ t ≠ 59 ∧ t ≠ 46 ∧ t ≠ 69
theorem Soft.nil (w : World) : Soft w [] := fun k hk => by cases hk

theorem Gro.row {S S' e z n : Nat} {l : List Nat} {w w' : World} {v : Value} {xs : List Value} (h : Gro S l w w') (ho : w.ownsRow S' e z v n xs) (he : e ≠ 59) (hl : ∀ k, v.ownBlock = some k → k ∉ l) : w'.ownsRow S' e z v n xs := by
  refine ⟨ho.1, ?_⟩
  rcases ho.2 with h1 | ⟨g, cap, cur, rfl, hb, hg, rest⟩
  · exact .inl h1
  · exact .inr ⟨g, cap, cur, rfl, hb, h.objT hg (hl g rfl) he, rest⟩

theorem ElAt.keptG {S : Nat} {l : List Nat} {w w' : World} {b : Nat} {d : Nd} {kids : List Nat} (h : ElAt w b d kids) (hg : Gro S l w w') (hs : Soft w l) : ElAt w' b d kids := by
  have nl : ∀ {k : Nat} {c : Array Value} {t : TypeId} {f : Nat × Nat}, w.heap[k]? = some (.cells c t f) → (t = 59 ∨ t = 46 ∨ t = 69) → k ∉ l := by
    intro k c t f hk ht hm
    obtain ⟨c', t', f', h1, h2, h3, h4⟩ := hs k hm
    rw [hk] at h1
    cases h1
    rcases ht with rfl | rfl | rfl
    · exact h2 rfl
    · exact h3 rfl
    · exact h4 rfl
  obtain ⟨c, h1, h2⟩ := h.ty
  obtain ⟨o', hb', hal⟩ := hg.alike b _ h1 (nl h1 (.inl rfl))
  obtain ⟨c', rfl, hsz, hci⟩ : ∃ c' : Array Value, o' = .cells c' 59 (0, 0) ∧ c'.size = c.size ∧ ∀ i, i ≠ 4 → c'[i]? = c[i]? := by
    rcases hal with rfl | ⟨x, y, e, rfl, k1, k2⟩
    · exact ⟨c, rfl, rfl, fun _ _ => rfl⟩
    · cases e
      exact ⟨y, rfl, k1, k2⟩
  have hcell : ∀ i v, i ≠ 4 → w.cell? ⟨b, i, none⟩ = some v → w'.cell? ⟨b, i, none⟩ = some v := by
    intro i v hi hc
    simp only [World.cell?, h1, hb'] at hc ⊢
    have := hci i hi
    simp_all
  obtain ⟨v2, k2, a2⟩ := h.c2
  obtain ⟨v3, k3, a3⟩ := h.c3
  obtain ⟨mb, k5, a5⟩ := h.c5
  refine ⟨⟨c', hb', hsz.trans h2⟩, hcell 0 _ (by decide) h.c0, hcell 1 _ (by decide) h.c1, ⟨v2, hcell 2 _ (by decide) k2, ?_⟩, ⟨v3, hcell 3 _ (by decide) k3, ?_⟩, ⟨mb, hcell 5 _ (by decide) k5, ?_⟩⟩
  · cases hd : d.attr with
    | none => rw [hd] at a2; exact a2
    | some ax =>
      rw [hd] at a2
      obtain ⟨ab, e, hab⟩ := a2
      exact ⟨ab, e, hg.objT hab (nl hab (.inr (.inl rfl))) (by decide)⟩
  · refine hg.row a3 (by decide) (fun k hk => ?_)
    rcases a3.2 with ⟨rfl, _⟩ | ⟨g, cap, cur, rfl, _, hgg, _⟩
    · simp [Value.ownBlock] at hk
    · obtain rfl : g = k := by simpa [Value.ownBlock] using hk
      exact nl hgg (.inr (.inr rfl))
  · have hmb : mb ∉ l := by
      intro hm
      obtain ⟨c', t', f', e1, _⟩ := hs mb hm
      rw [a5] at e1
      cases e1
    exact hg.obj a5 hmb (fun c e => by cases e)

theorem RefAt.keptG {S : Nat} {l : List Nat} {w w' : World} {r : RefD} (h : RefAt w r) (hg : Gro S l w w') (hs : Soft w l) : RefAt w' r :=
  ⟨h.root.keptG hg hs, h.dm.keptG hg hs, h.dv.keptG hg hs, fun k => ⟨(h.ts k).1.keptG hg hs, (h.ts k).2.keptG hg hs⟩, h.out⟩
theorem AllAt.keptG {S : Nat} {l : List Nat} {w w' : World} {ks : List Kid} (h : AllAt w ks) (hg : Gro S l w w') (hs : Soft w l) : AllAt w' ks := fun x hx => (h x hx).keptG hg hs
theorem KiAt.keptG {S : Nat} {l : List Nat} {w w' : World} {k : KiD} (h : KiAt w k) (hg : Gro S l w w') (hs : Soft w l) : KiAt w' k := by
  refine ⟨h.root.keptG hg hs, ?_⟩
  cases k with
  | data b ks => exact ⟨h.sub.1.keptG hg hs, h.sub.2⟩
  | value b rsa m x => exact ⟨h.sub.1.keptG hg hs, h.sub.2.1.keptG hg hs, h.sub.2.2.keptG hg hs⟩
  | name b => trivial

end Go.Proofs.YbulkcvhiFmt
