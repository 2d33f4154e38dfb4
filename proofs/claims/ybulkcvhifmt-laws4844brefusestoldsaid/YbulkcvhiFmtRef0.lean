/-
  Seat b4844aF: what readReference's walks need.
-/
import Derived.Test.YbulkcvhiFmtNames
namespace Go.Proofs.YbulkcvhiFmt
open Go.RowKit Go.Extern.Stop Go.Stop Go.Extern
set_option linter.unusedVariables false

theorem isB_dm_ts (alg : ByteArray) : isB (dmNd alg) sTS = false := by kernel_rfl
theorem isB_ts_ts : isB tsNd sTS = true := by kernel_rfl

theorem own_two {w : World} {S x y : Nat} {v : Value} (h : w.ownsRow S 24 1 v ([x, y] : List Nat).length (ptrs [x, y])) : ∃ g c, v = .slice (some ⟨g, 0, none⟩) 2 c ∧ 2 ≤ c ∧ w.cell? ⟨g, 0, none⟩ = some (.pointer (some ⟨x, 0, none⟩)) ∧ w.cell? ⟨g, 1, none⟩ = some (.pointer (some ⟨y, 0, none⟩)) := by
  have hc := fun g hg j u => h.cells (g := g) hg j u
  rcases h.2 with ⟨_, hn⟩ | ⟨g, cap, cur, rfl, _, _, hle, _⟩
  · simp at hn
  · have h0 := hc g rfl 0 _ rfl
    have h1 := hc g rfl 1 _ rfl
    rw [Go.WideShapes.add_plain] at h0 h1
    exact ⟨g, cap, rfl, hle, h0, h1⟩

theorem heap_new2 (w : World) (o o' : Obj) : ((w.alloc o).alloc o').heap[w.heap.size + 1]? = some o' := by
  have := heap_alloc_new (w.alloc o) o'
  simpa using this

theorem Var3.set2 {w : World} {b : Nat} {x y z : Value} (h : Var3 w b x y z) (v : Value) : Var3 (w.setCell ⟨b, 2, none⟩ v) b x y v := obj_set h v
theorem Var3.fin {w0 w : World} {b r i : Nat} {x y z u : Value} (h : Var3 w b x y z) (hne : r ≠ b) (x' y' z' : Value) (hc : Chg [] w0 w) (hb : w0.heap.size ≤ b) (hr : w0.heap.size ≤ r) :
    Var3 ((((w.setCell ⟨r, i, none⟩ u).setCell ⟨b, 0, none⟩ x').setCell ⟨b, 1, none⟩ y').setCell ⟨b, 2, none⟩ z') b x' y' z' ∧
    Chg [] w0 ((((w.setCell ⟨r, i, none⟩ u).setCell ⟨b, 0, none⟩ x').setCell ⟨b, 1, none⟩ y').setCell ⟨b, 2, none⟩ z') :=
  ⟨(((h.other hne u).set0 x').set1 y').set2 z', (((hc.setCell (p := ⟨r, i, none⟩) (.inr hr) u).setCell (p := ⟨b, 0, none⟩) (.inr hb) x').setCell (p := ⟨b, 1, none⟩) (.inr hb) y').setCell (p := ⟨b, 2, none⟩) (.inr hb) z'⟩

theorem cut_no (uri : ByteArray) (w : World) (h : Lib.hasPrefix uri.data.toList sHash.data.toList = false) :
    Calls Ybaf.prog 21 #[.string uri, .string sHash] w fun e w' => ∃ x, e = .returned (.tuple #[.string x, .bool false]) ∧ w' = w :=
  (Ybaf.strings_CutPrefix uri sHash w).mono (fun e w' k => ⟨⟨(Lib.trimPrefix uri.data.toList sHash.data.toList).toArray⟩, by rw [k.1, h], k.2⟩)
theorem cut_yes (w : World) : Calls Ybaf.prog 21 #[.string sHObj, .string sHash] w fun e w' => e = .returned (.tuple #[.string sObj, .bool true]) ∧ w' = w :=
  (Ybaf.strings_CutPrefix sHObj sHash w).mono (fun e w' k => ⟨by rw [k.1, cut_hash.1, cut_hash.2], k.2⟩)

theorem errV_bad {v : Value} (h : ErrV false v) : ∃ p, v = .iface 72 (.pointer (some ⟨p, 0, none⟩)) := h
theorem Var3.fin0 {w0 w : World} {b : Nat} {x y z : Value} (h : Var3 w b x y z) (hc : Chg [] w0 w) (hb : w0.heap.size ≤ b) :
    Var3 (((w.setCell ⟨b, 0, none⟩ (.string ⟨#[]⟩)).setCell ⟨b, 1, none⟩ (.pointer none)).setCell ⟨b, 2, none⟩ (.pointer none)) b (.string ⟨#[]⟩) (.pointer none) (.pointer none) ∧
    Chg [] w0 (((w.setCell ⟨b, 0, none⟩ (.string ⟨#[]⟩)).setCell ⟨b, 1, none⟩ (.pointer none)).setCell ⟨b, 2, none⟩ (.pointer none)) :=
  ⟨((h.set0 _).set1 _).set2 _, ((hc.setCell (p := ⟨b, 0, none⟩) (.inr hb) _).setCell (p := ⟨b, 1, none⟩) (.inr hb) _).setCell (p := ⟨b, 2, none⟩) (.inr hb) _⟩
theorem own_three {w : World} {S x y z : Nat} {v : Value} (h : w.ownsRow S 24 1 v ([x, y, z] : List Nat).length (ptrs [x, y, z])) : ∃ g c, v = .slice (some ⟨g, 0, none⟩) 3 c ∧ 3 ≤ c ∧ w.cell? ⟨g, 0, none⟩ = some (.pointer (some ⟨x, 0, none⟩)) ∧ w.cell? ⟨g, 1, none⟩ = some (.pointer (some ⟨y, 0, none⟩)) ∧ w.cell? ⟨g, 2, none⟩ = some (.pointer (some ⟨z, 0, none⟩)) := by
  have hc := fun g hg j u => h.cells (g := g) hg j u
  rcases h.2 with ⟨_, hn⟩ | ⟨g, cap, cur, rfl, _, _, hle, _⟩
  · simp at hn
  · have h0 := hc g rfl 0 _ rfl
    have h1 := hc g rfl 1 _ rfl
    have h2 := hc g rfl 2 _ rfl
    rw [Go.WideShapes.add_plain] at h0 h1 h2
    exact ⟨g, cap, rfl, hle, h0, h1, h2⟩
theorem own_single {w : World} {S x : Nat} {v : Value} (h : w.ownsRow S 24 1 v ([x] : List Nat).length (ptrs [x])) : ∃ g c, v = .slice (some ⟨g, 0, none⟩) 1 c ∧ 1 ≤ c ∧ w.cell? ⟨g, 0, none⟩ = some (.pointer (some ⟨x, 0, none⟩)) := by
  have hc := fun g hg j u => h.cells (g := g) hg j u
  rcases h.2 with ⟨_, hn⟩ | ⟨g, cap, cur, rfl, _, _, hle, _⟩
  · simp at hn
  · have h0 := hc g rfl 0 _ rfl
    rw [Go.WideShapes.add_plain] at h0
    exact ⟨g, cap, rfl, hle, h0⟩
theorem own_strs3 {w : World} {S : Nat} {v : Value} (h : w.ownsRow S 9 1 v (1 + 2) ([.string sTS] ++ [.string sDM, .string sDV])) : ∃ g c, v = .slice (some ⟨g, 0, none⟩) 3 c ∧ 3 ≤ c ∧ ∀ j x, [sTS, sDM, sDV][j]? = some x → w.cell? ⟨g, 0 + j, none⟩ = some (.string x) := by
  have hc := fun g hg j u => h.cells (g := g) hg j u
  rcases h.2 with ⟨_, hn⟩ | ⟨g, cap, cur, rfl, _, _, hle, _⟩
  · simp at hn
  · refine ⟨g, cap, rfl, hle, fun j x hj => ?_⟩
    have := hc g rfl j (.string x) (by
      match j, hj with
      | 0, hj => simp at hj; subst hj; rfl
      | 1, hj => simp at hj; subst hj; rfl
      | 2, hj => simp at hj; subst hj; rfl)
    rwa [Go.WideShapes.add_plain] at this
theorem own_ts (w : World) : (w.alloc (.cells #[.string sTS] 9)).ownsRow w.heap.size 9 1 (.slice (some ⟨w.heap.size, 0, none⟩) 1 1) 1 [.string sTS] :=
  ⟨rfl, .inr ⟨w.heap.size, 1, #[.string sTS], rfl, Nat.le_refl _, heap_alloc_new _ _, Nat.le_refl _, by decide, rfl, rfl⟩⟩
theorem news_ts {w : World} {b : Nat} {o : Obj} (h : w.heap[b]? = some (.cells #[.string sDM, .string sDV] 9 (0, 0))) : ∀ j u, [Value.string sDM, .string sDV][j]? = some u → (w.alloc o).cell? ((⟨b, 0, none⟩ : Addr).add j) = some u := by
  intro j u hj
  have h' := ((Chg.refl [] w).alloc o).obj h (by simp)
  rw [Go.WideShapes.add_plain, Nat.zero_add]
  match j, hj with
  | 0, hj => simp at hj; subst hj; simp [World.cell?, h']
  | 1, hj => simp at hj; subst hj; simp [World.cell?, h']
theorem cells1 {w : World} {cb : Nat} {a : ByteArray} (h : w.heap[cb]? = some (.cells #[.string a] 9 (0, 0))) : ∀ j x, [a][j]? = some x → w.cell? ⟨cb, 0 + j, none⟩ = some (.string x) := by
  intro j x hj
  rw [Nat.zero_add]
  match j, hj with
  | 0, hj => simp at hj; subst hj; simp [World.cell?, h]

end Go.Proofs.YbulkcvhiFmt
