/-
  Seat b4843a: a queue (a slice of ints of the call's own, or nil) under slices.Insert, slices.Sort, slices.BinarySearch and slices.Equal, out of the shelf's contracts.
-/
import Derived.Test.YbulkcvguShelf
import Derived.Test.YbulkcvguLive
import Derived.Sort.OwnSortedInts
import Derived.Stop.Walk2
namespace Go.Proofs.Ybulkcvgu
open Go.RowKit
set_option linter.unusedVariables false

def ints (zs : List Int) : List Value := zs.map (Value.int .i64)

/-- The slice value v holds the numbers zs: nil, or a row of its own from the block's head on. -/
def IsQ (w : World) (v : Value) (zs : List Int) : Prop :=
  (v = .slice none 0 0 ∧ zs = []) ∨
  ∃ g cap cur, v = .slice (some ⟨g, 0, none⟩) zs.length cap ∧ w.heap[g]? = some (.cells cur 3 (0, 0)) ∧ zs.length ≤ cap ∧ cap ≤ maxLen ∧ cur.size = cap ∧ cur.toList.take zs.length = ints zs

def blocksOf (v : Value) : List Nat := v.ownBlock.toList

theorem IsQ.kept {w w' : World} {v : Value} {zs : List Int} {l : List Nat} (h : IsQ w v zs) (hc : Chg l w w') (hl : ∀ k, k ∈ blocksOf v → k ∉ l) : IsQ w' v zs := by
  rcases h with h | ⟨g, cap, cur, rfl, hg, rest⟩
  · exact .inl h
  · exact .inr ⟨g, cap, cur, rfl, (hc.block g (Array.getElem?_eq_some_iff.1 hg).1 (hl g (by simp [blocksOf, Value.ownBlock]))).trans hg, rest⟩

theorem IsQ.lt {w : World} {v : Value} {zs : List Int} (h : IsQ w v zs) : ∀ k, k ∈ blocksOf v → k < w.heap.size := by
  rcases h with ⟨rfl, _⟩ | ⟨g, cap, cur, rfl, hg, rest⟩
  · simp [blocksOf, Value.ownBlock]
  · intro k hk
    simp [blocksOf, Value.ownBlock] at hk
    subst hk
    exact (Array.getElem?_eq_some_iff.1 hg).1

/-! ### arrays -/
def setArr : Array Value → Nat → List Value → Array Value
  | c, _, [] => c
  | c, o, v :: r => setArr (c.setIfInBounds o v) (o + 1) r

theorem setArr_size : ∀ (vs : List Value) (o : Nat) (c : Array Value), (setArr c o vs).size = c.size
  | [], _, _ => rfl
  | v :: r, o, c => by rw [setArr, setArr_size r]; simp

theorem setArr_out : ∀ (vs : List Value) (o : Nat) (c : Array Value) (k : Nat), (k < o ∨ o + vs.length ≤ k) → (setArr c o vs)[k]? = c[k]?
  | [], _, _, _, _ => rfl
  | v :: r, o, c, k, h => by
    simp at h
    rw [setArr, setArr_out r (o + 1) _ k (by omega), Array.getElem?_setIfInBounds, if_neg (by omega)]

theorem setArr_in : ∀ (vs : List Value) (o : Nat) (c : Array Value) (j : Nat), o + vs.length ≤ c.size → j < vs.length → (setArr c o vs)[o + j]? = vs[j]?
  | [], _, _, _, _, h => absurd h (Nat.not_lt_zero _)
  | v :: r, o, c, 0, h, _ => by
    simp at h
    rw [setArr, setArr_out r (o + 1) _ _ (by omega)]
    simp [Array.getElem?_setIfInBounds]
    omega
  | v :: r, o, c, j + 1, h, hj => by
    simp at h hj
    have := setArr_in r (o + 1) (c.setIfInBounds o v) j (by simp; omega) hj
    rw [setArr, show o + (j + 1) = o + 1 + j by omega, this]
    simp

theorem heap_setCells (b : Nat) : ∀ (vs : List Value) (o : Nat) (w : World) (c : Array Value) (e : TypeId) (f : Nat × Nat), w.heap[b]? = some (.cells c e f) → (w.setCells b o vs).heap[b]? = some (.cells (setArr c o vs) e f)
  | [], _, _, _, _, _, h => h
  | v :: r, o, w, c, e, f, h => by
    rw [World.setCells, setArr]
    apply heap_setCells b r
    simp [World.setCell, Array.getElem?_modify, h]

theorem chg_setCells (b : Nat) {l : List Nat} {a : World} (hb : b ∈ l ∨ a.heap.size ≤ b) : ∀ (vs : List Value) (o : Nat) (w : World), Chg l a w → Chg l a (w.setCells b o vs)
  | [], _, _, h => h
  | v :: r, o, w, h => by
    rw [World.setCells]
    exact chg_setCells b hb r _ _ (h.setCell hb v)

/-! ### the insertion, on lists -/
def ins (i : Nat) (x : Int) (zs : List Int) : List Int := zs.take i ++ x :: zs.drop i

theorem ins_length (i : Nat) (x : Int) (zs : List Int) (hi : i ≤ zs.length) : (ins i x zs).length = zs.length + 1 := by
  simp [ins]; omega

theorem take_ins {zs : List Int} {i : Nat} {x : Int} (hi : i ≤ zs.length) (l : List Value) (hl : zs.length + 1 ≤ l.length)
    (h1 : ∀ j, j < i → l[j]? = (ints zs)[j]?) (h2 : l[i]? = some (.int .i64 x)) (h3 : ∀ j, i ≤ j → j < zs.length → l[j + 1]? = (ints zs)[j]?) :
    l.take (ins i x zs).length = ints (ins i x zs) := by
  rw [ins_length i x zs hi]
  apply List.ext_getElem?
  intro j
  by_cases hj : j < zs.length + 1
  · rw [List.getElem?_take_of_lt hj]
    rcases Nat.lt_trichotomy j i with h | h | h
    · rw [h1 j h]
      simp only [ints, ins, List.map_append, List.map_cons]
      rw [List.getElem?_append_left (by simp; omega), List.map_take, List.getElem?_take_of_lt h]
    · subst h
      rw [h2]
      simp only [ints, ins, List.map_append, List.map_cons]
      rw [List.getElem?_append_right (by simp; omega)]
      simp [Nat.min_eq_left hi]
    · obtain ⟨k, rfl⟩ : ∃ k, j = k + 1 := ⟨j - 1, by omega⟩
      rw [h3 k (by omega) (by omega)]
      simp only [ints, ins, List.map_append, List.map_cons]
      rw [List.getElem?_append_right (by simp; omega)]
      simp only [List.length_map, List.length_take, Nat.min_eq_left hi]
      rw [show k + 1 - i = (k - i) + 1 by omega, List.getElem?_cons_succ, List.map_drop, List.getElem?_drop]
      congr 1
      omega
  · rw [List.getElem?_eq_none (by simp; omega), List.getElem?_eq_none (by simp [ints, ins_length i x zs hi]; omega)]

theorem ints_one (zs : List Int) : ∀ v ∈ ints zs, v.oneCell' = true := by
  intro v hv
  simp only [ints, List.mem_map] at hv
  obtain ⟨z, _, rfl⟩ := hv
  rfl

theorem cell_of_heap {w : World} {g : Nat} {cur : Array Value} {e : TypeId} {f : Nat × Nat} (h : w.heap[g]? = some (.cells cur e f)) (j : Nat) : w.cell? ⟨g, j, none⟩ = cur[j]? := by simp [World.cell?, h]
theorem frozen_of_heap {w : World} {g : Nat} {cur : Array Value} {e : TypeId} (h : w.heap[g]? = some (.cells cur e (0, 0))) (j : Nat) : w.frozen? ⟨g, j, none⟩ = false := by simp [World.frozen?, h]

theorem cur_at {cur : Array Value} {zs : List Int} (ht : cur.toList.take zs.length = ints zs) {j : Nat} (hj : j < zs.length) : cur[j]? = (ints zs)[j]? := by
  rw [← ht, List.getElem?_take_of_lt hj, Array.getElem?_toList]

theorem zeros_size (k : Nat) : (Builtin.zeroCells (Value.int .i64 0).cells k).size = k := by simp [Builtin.zeroCells, Value.cells]

theorem chgN {l : List Nat} {w : World} (o : Obj) : Chg l w (w.drew.alloc o) := ((Chg.refl l w).drew).alloc o

theorem insert_nil (x : Int) (vb : Nat) (w : World) (hvb : w.heap[vb]? = some (.cells #[.int .i64 x] 3 (0, 0))) :
    Calls Yba.prog 15 #[.slice none 0 0, .int .i64 0, .slice (some ⟨vb, 0, none⟩) 1 1] w fun e w' => ∃ v', e = .returned v' ∧ IsQ w' v' [x] ∧ Chg [] w w' ∧ ∀ k, k ∈ blocksOf v' → w.heap.size ≤ k := by
  have hvs : ∀ j u, [Value.int .i64 x][j]? = some u → w.cell? ⟨vb, 0 + j, none⟩ = some u := by
    intro j u hj
    rw [cell_of_heap hvb, Nat.zero_add]
    simpa using hj
  have h1v : ∀ u ∈ [Value.int .i64 x], u.oneCell' = true := by simp [Value.oneCell']
  refine (Any2.slices_Insert_int_end_grow Yba.laysNm221 none 0 0 vb 0 1 1 [] [.int .i64 x] w (by decide) (by decide) (by decide) (by decide) rfl rfl (fun _ => rfl) (by simp) hvs h1v).mono ?_
  have hgc := grownCap_ge w (0 + 1) 0 3
  have hgm := grownCap_le_maxLen w (0 + 1) 0 3 (by decide)
  rintro e w' ⟨rfl, rfl⟩
  change ∃ v', Ending.returned (.slice (some ⟨w.heap.size, 0, none⟩) (0 + 1) (grownCap w (0 + 1) 0 3)) = .returned v' ∧ IsQ (w.drew.alloc (.cells (([] ++ [Value.int .i64 x]).toArray ++ Builtin.zeroCells (Value.int .i64 0).cells (grownCap w (0 + 1) 0 3 - (0 + 1))) 3)) v' [x] ∧ Chg [] w (w.drew.alloc (.cells (([] ++ [Value.int .i64 x]).toArray ++ Builtin.zeroCells (Value.int .i64 0).cells (grownCap w (0 + 1) 0 3 - (0 + 1))) 3)) ∧ _
  generalize grownCap w (0 + 1) 0 3 = G at hgc hgm ⊢
  refine ⟨_, rfl, .inr ⟨w.heap.size, G, _, rfl, heap_alloc_new _ _, hgc, hgm, ?_, by simp [ints]⟩, chgN _, by simp [blocksOf, Value.ownBlock]⟩
  simp [zeros_size]
  omega

theorem insert_row (g cap : Nat) (cur : Array Value) (zs : List Int) (i : Nat) (x : Int) (vb : Nat) (w : World) (hg : w.heap[g]? = some (.cells cur 3 (0, 0))) (hlc : zs.length ≤ cap) (hcm : cap ≤ maxLen) (hsz : cur.size = cap) (ht : cur.toList.take zs.length = ints zs)
    (hi : i ≤ zs.length) (hn : zs.length ≤ 4096) (hvb : w.heap[vb]? = some (.cells #[.int .i64 x] 3 (0, 0))) (hne : vb ≠ g) :
    Calls Yba.prog 15 #[.slice (some ⟨g, 0, none⟩) zs.length cap, .int .i64 (i : Int), .slice (some ⟨vb, 0, none⟩) 1 1] w fun e w' => ∃ v', e = .returned v' ∧ IsQ w' v' (ins i x zs) ∧ Chg [g] w w' ∧
      (blocksOf v' = [g] ∨ ∀ k, k ∈ blocksOf v' → w.heap.size ≤ k) := by
  have hvs : ∀ j u, [Value.int .i64 x][j]? = some u → w.cell? ⟨vb, 0 + j, none⟩ = some u := by
    intro j u hj
    rw [cell_of_heap hvb, Nat.zero_add]
    simpa using hj
  have h1v : ∀ u ∈ [Value.int .i64 x], u.oneCell' = true := by simp [Value.oneCell']
  have hcm' := hcm
  unfold maxLen at hcm'
  have hcs : ∀ j u, (ints zs)[j]? = some u → w.cell? ⟨g, 0 + j, none⟩ = some u := by
    intro j u hj
    have hjl : j < zs.length := by simpa [ints] using (List.getElem?_eq_some_iff.1 hj).1
    rw [cell_of_heap hg, Nat.zero_add, cur_at ht hjl, hj]
  have hil : (ints zs).length = zs.length := by simp [ints]
  by_cases hroom : zs.length + 1 ≤ cap
  · have hsp : ∀ j, j < zs.length + 1 → (w.cell? ⟨g, 0 + j, none⟩).isSome = true := by
      intro j hj
      rw [cell_of_heap hg, Nat.zero_add]
      simp [hsz]
      omega
    have hfz : ∀ j, w.frozen? ⟨g, 0 + j, none⟩ = false := fun j => frozen_of_heap hg _
    by_cases hin : i < zs.length
    · have hsa : w.shape? vb = some (3, 1) := by simp [World.shape?, hvb]
      have hsb : w.shape? g = some (3, cap) := by simp [World.shape?, hg, hsz]
      refine (Any2.slices_Insert_int_shift Yba.laysNm221 g 0 zs.length cap i vb 0 1 1 (ints zs) [.int .i64 x] w hin (by decide) hroom hcm' hne hil rfl hcs hsp (fun j _ => hfz j) hvs (ints_one zs) h1v 3 3 1 cap hsa hsb (by omega) (frozen_of_heap hvb _) (frozen_of_heap hvb _)).mono ?_
      rintro e w' ⟨rfl, rfl⟩
      have e1 := heap_setCells g [.int .i64 x] (0 + i) _ _ _ _ (heap_setCells g ((ints zs).drop i) (0 + (i + 1)) w.drew cur 3 (0, 0) hg)
      have hl1 : 0 + (i + 1) + ((ints zs).drop i).length ≤ cur.size := by simp [ints]; omega
      refine ⟨_, rfl, .inr ⟨g, cap, _, by rw [ins_length i x zs hi], e1, by rw [ins_length i x zs hi]; exact hroom, hcm, by rw [setArr_size, setArr_size, hsz], ?_⟩, chg_setCells g (by simp) _ _ _ (chg_setCells g (by simp) _ _ _ (Chg.refl _ w).drew), .inl (by simp [blocksOf, Value.ownBlock])⟩
      refine take_ins hi _ (by simp [setArr_size, hsz]; omega) (fun j hj => ?_) ?_ (fun j hj hjl => ?_)
      · rw [Array.getElem?_toList, setArr_out _ _ _ _ (by omega), setArr_out _ _ _ _ (by omega), cur_at ht (by omega)]
      · rw [Array.getElem?_toList]
        have := setArr_in [.int .i64 x] (0 + i) (setArr cur (0 + (i + 1)) ((ints zs).drop i)) 0 (by rw [setArr_size]; simp; omega) (by simp)
        simpa using this
      · rw [Array.getElem?_toList, setArr_out _ _ _ _ (by simp; omega)]
        have := setArr_in ((ints zs).drop i) (0 + (i + 1)) cur (j - i) hl1 (by simp [ints]; omega)
        rw [show 0 + (i + 1) + (j - i) = j + 1 by omega, List.getElem?_drop, show i + (j - i) = j by omega] at this
        exact this
    · obtain rfl : i = zs.length := by omega
      refine (Any2.slices_Insert_int_end_room Yba.laysNm221 g 0 zs.length cap vb 0 1 1 [.int .i64 x] w (by decide) hroom hcm' rfl (fun j hj => by rw [Nat.add_assoc]; exact hsp _ (by omega)) (fun j _ => by rw [Nat.add_assoc]; exact hfz _) hvs h1v).mono ?_
      rintro e w' ⟨rfl, rfl⟩
      have e1 := heap_setCells g [.int .i64 x] (0 + zs.length) w cur 3 (0, 0) hg
      refine ⟨_, rfl, .inr ⟨g, cap, _, by rw [ins_length _ x zs hi], e1, by rw [ins_length _ x zs hi]; exact hroom, hcm, by rw [setArr_size, hsz], ?_⟩, chg_setCells g (by simp) _ _ _ (Chg.refl _ w), .inl (by simp [blocksOf, Value.ownBlock])⟩
      refine take_ins hi _ (by simp [setArr_size, hsz]; omega) (fun j hj => ?_) ?_ (fun j hj hjl => by omega)
      · rw [Array.getElem?_toList, setArr_out _ _ _ _ (by omega), cur_at ht (by omega)]
      · rw [Array.getElem?_toList]
        have := setArr_in [.int .i64 x] (0 + zs.length) cur 0 (by simp; omega) (by simp)
        simpa using this
  · have hroom' : cap < zs.length + 1 := by omega
    by_cases hin : i < zs.length
    · refine (Any2.slices_Insert_int_grow Yba.laysNm221 g 0 zs.length cap i vb 0 1 1 (ints zs) [.int .i64 x] w hin (by decide) hlc hroom' (by omega) hil rfl hcs hvs (ints_one zs) h1v).mono ?_
      have hgc := grownCap_ge w (zs.length + 1) cap 3
      have hgm := grownCap_le_maxLen w (zs.length + 1) cap 3 (by unfold maxLen; omega)
      rintro e w' ⟨rfl, rfl⟩
      change ∃ v', Ending.returned (.slice (some ⟨w.heap.size, 0, none⟩) (zs.length + 1) (grownCap w (zs.length + 1) cap 3)) = .returned v' ∧
        IsQ ((((w.alloc (.cells (((ints zs).take i).toArray ++ Builtin.zeroCells (Value.int .i64 0).cells (zs.length + 1 - i) ++ Builtin.zeroCells (Value.int .i64 0).cells (grownCap w (zs.length + 1) cap 3 - (zs.length + 1))) 3)).drew.setCells w.heap.size i [Value.int .i64 x]).drew).setCells w.heap.size (i + 1) ((ints zs).drop i)) v' (ins i x zs) ∧
        Chg [g] w ((((w.alloc (.cells (((ints zs).take i).toArray ++ Builtin.zeroCells (Value.int .i64 0).cells (zs.length + 1 - i) ++ Builtin.zeroCells (Value.int .i64 0).cells (grownCap w (zs.length + 1) cap 3 - (zs.length + 1))) 3)).drew.setCells w.heap.size i [Value.int .i64 x]).drew).setCells w.heap.size (i + 1) ((ints zs).drop i)) ∧ _
      generalize grownCap w (zs.length + 1) cap 3 = G at hgc hgm ⊢
      generalize hA : ((ints zs).take i).toArray ++ Builtin.zeroCells (Value.int .i64 0).cells (zs.length + 1 - i) ++ Builtin.zeroCells (Value.int .i64 0).cells (G - (zs.length + 1)) = A
      have hAs : A.size = G := by rw [← hA]; simp [zeros_size, ints]; omega
      have hAl : ∀ j, j < i → A[j]? = (ints zs)[j]? := by
        intro j hj
        rw [← hA, Array.getElem?_append_left (by simp [zeros_size, ints]; omega), Array.getElem?_append_left (by simp [ints]; omega)]
        simp [List.getElem?_take_of_lt hj]
      have e0 : (w.alloc (.cells A 3)).drew.heap[w.heap.size]? = some (.cells A 3 (0, 0)) := heap_alloc_new _ _
      have e1 := heap_setCells w.heap.size ((ints zs).drop i) (i + 1) _ _ _ _ (show ((w.alloc (.cells A 3)).drew.setCells w.heap.size i [.int .i64 x]).drew.heap[w.heap.size]? = _ from heap_setCells w.heap.size [.int .i64 x] i _ _ _ _ e0)
      have hl1 : i + 1 + ((ints zs).drop i).length ≤ (setArr A i [.int .i64 x]).size := by rw [setArr_size]; simp [ints]; omega
      refine ⟨_, rfl, .inr ⟨w.heap.size, G, _, by rw [ins_length i x zs hi], e1, by rw [ins_length i x zs hi]; exact hgc, hgm, by rw [setArr_size, setArr_size, hAs], ?_⟩, ?_, .inr (by simp [blocksOf, Value.ownBlock])⟩
      · refine take_ins hi _ (by simp [setArr_size, hAs]; omega) (fun j hj => ?_) ?_ (fun j hj hjl => ?_)
        · rw [Array.getElem?_toList, setArr_out _ _ _ _ (by omega), setArr_out _ _ _ _ (by omega), hAl j hj]
        · rw [Array.getElem?_toList, setArr_out _ _ _ _ (by omega)]
          have := setArr_in [.int .i64 x] i A 0 (by simp; omega) (by simp)
          simpa using this
        · rw [Array.getElem?_toList]
          have := setArr_in ((ints zs).drop i) (i + 1) (setArr A i [.int .i64 x]) (j - i) hl1 (by simp [ints]; omega)
          rw [show i + 1 + (j - i) = j + 1 by omega, List.getElem?_drop, show i + (j - i) = j by omega] at this
          exact this
      · exact chg_setCells w.heap.size (.inr (Nat.le_refl _)) _ _ _ (chg_setCells w.heap.size (.inr (Nat.le_refl _)) _ _ _ ((Chg.refl [g] w).alloc _).drew).drew
    · obtain rfl : i = zs.length := by omega
      refine (Any2.slices_Insert_int_end_grow Yba.laysNm221 (some ⟨g, 0, none⟩) zs.length cap vb 0 1 1 (ints zs) [.int .i64 x] w (by decide) hlc hroom' (by omega) hil rfl (by simp) (fun a ha j u hj => by cases ha; rw [Addr.add_lit]; exact hcs j u hj) hvs h1v).mono ?_
      have hgc := grownCap_ge w (zs.length + 1) cap 3
      have hgm := grownCap_le_maxLen w (zs.length + 1) cap 3 (by unfold maxLen; omega)
      rintro e w' ⟨rfl, rfl⟩
      change ∃ v', Ending.returned (.slice (some ⟨w.heap.size, 0, none⟩) (zs.length + 1) (grownCap w (zs.length + 1) cap 3)) = .returned v' ∧
        IsQ (w.drew.alloc (.cells ((ints zs ++ [Value.int .i64 x]).toArray ++ Builtin.zeroCells (Value.int .i64 0).cells (grownCap w (zs.length + 1) cap 3 - (zs.length + 1))) 3)) v' (ins zs.length x zs) ∧
        Chg [g] w (w.drew.alloc (.cells ((ints zs ++ [Value.int .i64 x]).toArray ++ Builtin.zeroCells (Value.int .i64 0).cells (grownCap w (zs.length + 1) cap 3 - (zs.length + 1))) 3)) ∧ _
      generalize grownCap w (zs.length + 1) cap 3 = G at hgc hgm ⊢
      refine ⟨_, rfl, .inr ⟨w.heap.size, G, _, by rw [ins_length _ x zs hi], heap_alloc_new _ _, by rw [ins_length _ x zs hi]; exact hgc, hgm, ?_, ?_⟩, chgN _, .inr (by simp [blocksOf, Value.ownBlock])⟩
      · simp [zeros_size, ints]; omega
      · refine take_ins hi _ (by simp [ints]) (fun j hj => ?_) ?_ (fun j hj hjl => by omega)
        · rw [Array.getElem?_toList, Array.getElem?_append_left (by simp [ints]; omega)]
          simp [List.getElem?_append_left (show j < (ints zs).length by omega)]
        · rw [Array.getElem?_toList, Array.getElem?_append_left (by simp [ints])]
          simp [ints]

/-- slices.Insert(q, i, x), x's block being vb. -/
theorem insert_q (v : Value) (zs : List Int) (i : Nat) (x : Int) (vb : Nat) (w : World) (hq : IsQ w v zs) (hi : i ≤ zs.length) (hn : zs.length ≤ 4096)
    (hvb : w.heap[vb]? = some (.cells #[.int .i64 x] 3 (0, 0))) (hne : vb ∉ blocksOf v) :
    Calls Yba.prog 15 #[v, .int .i64 (i : Int), .slice (some ⟨vb, 0, none⟩) 1 1] w fun e w' => ∃ v', e = .returned v' ∧ IsQ w' v' (ins i x zs) ∧ Chg (blocksOf v) w w' ∧
      (blocksOf v' = blocksOf v ∨ ∀ k, k ∈ blocksOf v' → w.heap.size ≤ k) := by
  rcases hq with ⟨rfl, rfl⟩ | ⟨g, cap, cur, rfl, hg, hlc, hcm, hsz, ht⟩
  · obtain rfl : i = 0 := by simpa using hi
    refine (insert_nil x vb w hvb).mono ?_
    rintro e w' ⟨v', rfl, h1, h2, h3⟩
    exact ⟨v', rfl, h1, h2, .inr h3⟩
  · exact insert_row g cap cur zs i x vb w hg hlc hcm hsz ht hi hn hvb (by simpa [blocksOf, Value.ownBlock] using hne)

theorem cells_q {w : World} {g : Nat} {cur : Array Value} {zs : List Int} (hg : w.heap[g]? = some (.cells cur 3 (0, 0))) (ht : cur.toList.take zs.length = ints zs) :
    ∀ j, j < zs.length → w.cell? ⟨g, 0 + j, none⟩ = some (.int .i64 (zs.getD j 0)) := by
  intro j hj
  rw [cell_of_heap hg, Nat.zero_add, cur_at ht hj]
  simp [ints, List.getD, List.getElem?_eq_getElem hj]

/-- slices.BinarySearch of a sorted queue. -/
theorem search_q (v : Value) (zs : List Int) (x : Int) (w : World) (hq : IsQ w v zs) (hn : zs.length ≤ 4096) (hs : zs.Pairwise (· ≤ ·)) :
    Calls Yba.prog 14 #[v, .int .i64 x] w fun e w' => (∃ b, e = .returned (.tuple #[.int .i64 ((zs.countP (· < x) : Nat) : Int), .bool b])) ∧ ∃ q, w' = w.drewN q := by
  rcases hq with ⟨rfl, rfl⟩ | ⟨g, cap, cur, rfl, hg, hlc, hcm, hsz, ht⟩
  · refine (Any.slices_BinarySearch_int_empty Yba.laysNm225 none 0 x w).mono ?_
    rintro e w' ⟨rfl, rfl⟩
    exact ⟨⟨_, rfl⟩, 0, rfl⟩
  · have hc := cells_q hg ht
    refine (Any.slices_BinarySearch_int Yba.laysNm225 g 0 zs.length cap zs x w (Nat.le_refl _) (by omega) hc (by simpa using hs)).mono ?_
    rintro e w' ⟨rfl, h⟩
    rw [List.take_length]
    exact ⟨⟨_, rfl⟩, h⟩

def sorted (zs : List Int) : List Int := zs.mergeSort fun x y => decide (x ≤ y)

/-- slices.Sort. -/
theorem sort_q (v : Value) (zs : List Int) (w : World) (hq : IsQ w v zs) (hn : zs.length ≤ 4096) :
    Calls Yba.prog 5 #[v] w fun e w' => e = .returned (.tuple #[]) ∧ IsQ w' v (sorted zs) ∧ Chg (blocksOf v) w w' := by
  rcases hq with ⟨rfl, rfl⟩ | ⟨g, cap, cur, rfl, hg, hlc, hcm, hsz, ht⟩
  · refine (Any.slices_Sort_int_none Yba.lays189 none 0 w).mono ?_
    rintro e w' ⟨rfl, rfl⟩
    exact ⟨rfl, .inl ⟨rfl, by simp [sorted]⟩, Chg.refl _ _⟩
  · refine (Any.slices_Sort_int Yba.lays189 g 0 cap zs w (holds_of_blockI hg ht) (Array.getElem?_eq_some_iff.1 hg).1 (by omega)).mono ?_
    rintro e w' ⟨rfl, n, os, rfl⟩
    have hl : (sorted zs).length = zs.length := by simp [sorted]
    refine ⟨rfl, .inr ⟨g, cap, _, by rw [hl], heap_sortedI _ hg, by rw [hl]; exact hlc, hcm, by simp [Sort.putCells, hsz], ?_⟩, Chg.ofGrown (grownBy_sortedI _) (by simp [blocksOf, Value.ownBlock])⟩
    exact take_putCellsI cur (sorted zs) (by omega)

/-- slices.Equal of two equal queues. -/
theorem equal_q (v v' : Value) (zs : List Int) (w : World) (hq : IsQ w v zs) (hq' : IsQ w v' zs) (hn : zs.length ≤ 4096) :
    Calls Yba.prog 9 #[v, v'] w fun e w' => e = .returned (.bool true) ∧ ∃ q, w' = w.drewN q := by
  have hz : ∀ (a1 a2 : Option Addr) (c d : Nat), Calls Yba.prog 9 #[.slice a1 0 c, .slice a2 0 d] w fun e w' => e = .returned (.bool true) ∧ ∃ q, w' = w.drewN q := by
    intro a1 a2 c d
    refine (Any.slices_Equal_int_empty Yba.lays111 a1 a2 c 0 d w (by omega)).mono ?_
    rintro e w' ⟨rfl, rfl⟩
    exact ⟨rfl, 0, rfl⟩
  rcases hq with ⟨rfl, rfl⟩ | ⟨g, cap, cur, rfl, hg, hlc, hcm, hsz, ht⟩
  · rcases hq' with ⟨rfl, _⟩ | ⟨g', cap', cur', rfl, _⟩
    · exact hz _ _ _ _
    · exact hz _ _ _ _
  · rcases hq' with ⟨rfl, rfl⟩ | ⟨g', cap', cur', rfl, hg', hlc', hcm', hsz', ht'⟩
    · exact hz _ _ _ _
    · refine (Any.slices_Equal_int Yba.lays111 g 0 zs.length cap g' 0 zs.length cap' zs zs w (Nat.le_refl _) (Nat.le_refl _) (by omega) (by omega) (cells_q hg ht) (cells_q hg' ht')).mono ?_
      rintro e w' ⟨rfl, h⟩
      exact ⟨by simp, h⟩

/-! ### sorted lists -/
theorem sorted_pairwise (zs : List Int) : (sorted zs).Pairwise (· ≤ ·) := by
  have := List.pairwise_mergeSort (le := fun x y : Int => decide (x ≤ y)) (by intro a b c; simp; omega) (by intro a b; simp; omega) zs
  simpa [sorted] using this

theorem sorted_perm (zs : List Int) : (sorted zs).Perm zs := List.mergeSort_perm _ _

theorem eq_of_sorted {l l' : List Int} (h : l.Pairwise (· ≤ ·)) (h' : l'.Pairwise (· ≤ ·)) (hp : l.Perm l') : l = l' :=
  List.Perm.eq_of_pairwise (fun a b _ _ h1 h2 => by omega) h h' hp

/-- The place that the search gives keeps the order. -/
theorem ins_sorted {zs : List Int} {x : Int} (h : zs.Pairwise (· ≤ ·)) : (ins (zs.countP (· < x)) x zs).Pairwise (· ≤ ·) := by
  induction zs with
  | nil => simp [ins]
  | cons a l ih =>
    obtain ⟨ha, hl⟩ := List.pairwise_cons.1 h
    by_cases hax : a < x
    · have e : (a :: l).countP (· < x) = l.countP (· < x) + 1 := by simp [hax]
      rw [e]
      have e2 : ins (l.countP (· < x) + 1) x (a :: l) = a :: ins (l.countP (· < x)) x l := by simp [ins]
      rw [e2]
      refine List.pairwise_cons.2 ⟨fun b hb => ?_, ih hl⟩
      simp only [ins, List.mem_append, List.mem_cons] at hb
      rcases hb with hb | rfl | hb
      · exact ha b (List.mem_of_mem_take hb)
      · omega
      · exact ha b (List.mem_of_mem_drop hb)
    · have e : (a :: l).countP (· < x) = 0 := by
        rw [List.countP_eq_zero]
        intro b hb
        rcases List.mem_cons.1 hb with rfl | hb
        · simpa using hax
        · have := ha b hb
          simp; omega
      rw [e]
      simp only [ins, List.take_zero, List.nil_append, List.drop_zero]
      refine List.pairwise_cons.2 ⟨fun b hb => ?_, h⟩
      rcases List.mem_cons.1 hb with rfl | hb
      · omega
      · have := ha b hb
        omega

theorem ins_perm (i : Nat) (x : Int) (zs : List Int) : (ins i x zs).Perm (x :: zs) := by
  have : (zs.take i ++ x :: zs.drop i).Perm (x :: (zs.take i ++ zs.drop i)) := List.perm_middle
  rwa [List.take_append_drop] at this

theorem count_le (zs : List Int) (x : Int) : zs.countP (· < x) ≤ zs.length := List.countP_le_length

end Go.Proofs.Ybulkcvgu
