/-
  Seat b4844aF: walk, root, byID.
-/
import Derived.Test.YbulkcvhiFmtVisit
namespace Go.Proofs.YbulkcvhiFmt
open Go.RowKit Go.Extern.Stop Go.Stop Go.Extern
set_option linter.unusedVariables false

/-- The elements with the Id, in the document's order, of the tree at b, at most n deep. -/
def Hits (ws : World) (id : ByteArray) : Nat → Nat → List Nat → Prop
  | 0, _, _ => False
  | n + 1, b, hs => ∃ (d : Nd) (kids : List Nat) (hss : List (List Nat)), ElAt ws b d kids ∧ kids.length ≤ 4096 ∧ hss.length = kids.length ∧ (∀ (i : Nat) (k : Nat) (h : List Nat), kids[i]? = some k → hss[i]? = some h → Hits ws id n k h) ∧ hs = ownHit d id b ++ hss.flatten

theorem Hits.keptC {ws w' : World} {id : ByteArray} (hc : Chg [] ws w') : ∀ {n b : Nat} {hs : List Nat}, Hits ws id n b hs → Hits w' id n b hs
  | 0, _, _, h => h.elim
  | n + 1, b, hs, h => by
    obtain ⟨d, kids, hss, h1, h2, h3, h4, h5⟩ := h
    exact ⟨d, kids, hss, h1.keptC hc, h2, h3, fun i k h hk hh => Hits.keptC hc (h4 i k h hk hh), h5⟩

theorem take_flatten_succ {α : Type} {xs : List (List α)} {k : Nat} (h : k < xs.length) : (xs.take (k + 1)).flatten = (xs.take k).flatten ++ xs[k] := by
  rw [List.take_succ_eq_append_getElem h, List.flatten_append]; simp only [List.flatten_cons, List.flatten_nil, List.append_nil]

/-- The elements of b, a fresh row, lie apart from 'found'. -/
theorem FoundAt.add {ws w w' : World} {fb ib g n : Nat} {id : ByteArray} {L : List Nat} {X : List (Nat × Obj)} {cur : Array Value} (h : FoundAt ws w fb ib id L X) (hc : Chg [] w w') (hg : w.heap.size ≤ g) (ho : w'.heap[g]? = some (.cells cur 24 (0, 0))) :
    FoundAt ws w' fb ib id L ((g, .cells cur 24 (0, 0)) :: X) := by
  obtain ⟨v, h1, h2, h3, h4, h5, h6⟩ := h
  refine ⟨v, hc.obj h1 (by simp), hc.obj h2 (by simp), ownsRow_kept h3 hc (by simp), h4.trans hc, h5, fun k o hk => ?_⟩
  rcases List.mem_cons.1 hk with e | hk
  · obtain ⟨rfl, rfl⟩ : k = g ∧ o = .cells cur 24 (0, 0) := by simpa using e
    refine ⟨ho, ?_, fun e => ?_⟩
    · have := (Array.getElem?_eq_some_iff.1 h1).1
      omega
    · have := (h3.lt _ e).2
      omega
  · exact ⟨hc.obj (h6 k o hk).1 (by simp), (h6 k o hk).2⟩

theorem FoundAt.drop {ws w : World} {fb ib : Nat} {id : ByteArray} {L : List Nat} {X Y : List (Nat × Obj)} (h : FoundAt ws w fb ib id L X) (hs : ∀ p, p ∈ Y → p ∈ X) : FoundAt ws w fb ib id L Y := by
  obtain ⟨v, h1, h2, h3, h4, h5, h6⟩ := h
  exact ⟨v, h1, h2, h3, h4, h5, fun k o hk => h6 k o (hs _ hk)⟩

theorem FoundAt.chg {ws w : World} {fb ib : Nat} {id : ByteArray} {L : List Nat} {X : List (Nat × Obj)} (h : FoundAt ws w fb ib id L X) : Chg [] ws w := by
  obtain ⟨_, _, _, _, h, _⟩ := h
  exact h

/-- The row of kids, kept apart. -/
theorem FoundAt.row {ws w w' : World} {fb ib : Nat} {id : ByteArray} {L : List Nat} {X : List (Nat × Obj)} {v : Value} {kids : List Nat} (h : FoundAt ws w fb ib id L X) (hc : Chg [] w w') (ho : w'.ownsRow w.heap.size 24 1 v kids.length (ptrs kids)) :
    ∃ a c Y, v = .slice a kids.length c ∧ FoundAt ws w' fb ib id L (Y ++ X) ∧
      ∀ wr L', FoundAt ws wr fb ib id L' (Y ++ X) → 0 < kids.length → ∃ g, a = some ⟨g, 0, none⟩ ∧ ∀ j k, kids[j]? = some k → wr.cell? ⟨g, j, none⟩ = some (.pointer (some ⟨k, 0, none⟩)) := by
  rcases ho.2 with ⟨rfl, hn⟩ | ⟨g, cap, cur, rfl, hb, hg, h1, h2, h3, h4⟩
  · exact ⟨none, 0, [], by rw [hn], h.keptC hc, fun _ _ _ h0 => by omega⟩
  · refine ⟨some ⟨g, 0, none⟩, cap, [(g, .cells cur 24 (0, 0))], rfl, h.add (n := 0) hc hb hg, fun wr L' hF _ => ⟨g, rfl, fun j k hj => ?_⟩⟩
    obtain ⟨v, _, _, _, _, _, h6⟩ := hF
    have hw := (h6 g (.cells cur 24 (0, 0)) (by simp)).1
    have : cur[j]? = some (.pointer (some ⟨k, 0, none⟩)) := by
      have hlt : j < kids.length := (List.getElem?_eq_some_iff.1 hj).1
      have e : (cur.toList.take (kids.length * 1))[j]? = some (.pointer (some ⟨k, 0, none⟩)) := by rw [h4]; simp [ptrs, hj]
      rw [Nat.mul_one, List.getElem?_take_of_lt hlt] at e
      simpa using e
    simp [World.cell?, hw, this]

set_option maxHeartbeats 3200000 in
theorem walk_el (id : ByteArray) (ib fb : Nat) (ws : World) : ∀ (n b : Nat) (hs L : List Nat) (X : List (Nat × Obj)) (w : World), Hits ws id n b hs → FoundAt ws w fb ib id L X → (L ++ hs).length ≤ 1024 →
    Calls Ybaf.prog 30 #[.pointer (some ⟨b, 0, none⟩), .func (.func 31) #[] #[.pointer (some ⟨ib, 0, none⟩), .pointer (some ⟨fb, 0, none⟩)]] w fun e w' => e = .returned (.tuple #[]) ∧ FoundAt ws w' fb ib id (L ++ hs) X := by
  intro n
  induction n with
  | zero => intro b hs L X w h; exact h.elim
  | succ n ih =>
    intro b hs L X w h hFnd hl
    obtain ⟨d, kids, hss, h1, h2, h3, h4, h5⟩ := h
    have HE : Hid (ElAt ws b d kids) := h1
    have HFD : Hid (FoundAt ws w fb ib id L X) := hFnd
    have HK : Hid (∀ (i : Nat) (k : Nat) (h : List Nat), kids[i]? = some k → hss[i]? = some h → Hits ws id n k h) := h4
    have HHS : Hid (hs = ownHit d id b ++ hss.flatten) := h5
    have HL : Hid ((L ++ hs).length ≤ 1024) := hl
    have HIH : Hid (∀ (b : Nat) (hs L : List Nat) (X : List (Nat × Obj)) (w : World), Hits ws id n b hs → FoundAt ws w fb ib id L X → (L ++ hs).length ≤ 1024 →
      Calls Ybaf.prog 30 #[.pointer (some ⟨b, 0, none⟩), .func (.func 31) #[] #[.pointer (some ⟨ib, 0, none⟩), .pointer (some ⟨fb, 0, none⟩)]] w fun e w' => e = .returned (.tuple #[]) ∧ FoundAt ws w' fb ib id (L ++ hs) X) := ih
    have HL3 : Hid (hss.length = kids.length) := h3
    have hl0 : L.length ≤ 1024 := by simp at hl; omega
    clear h1 hFnd h4 h5 hl ih h3
    go_enter Ybaf.func30, Ybaf.ntmps30
    go_wp2_with (first
      | (go_at_call 31; refine (visit_el id ib fb b d kids L X ws w HE.out HFD.out hl0).mono ?_; rintro e w1 ⟨rfl, hF1⟩; have HF1 : Hid (FoundAt ws w1 fb ib id (L ++ ownHit d id b) X) := hF1; clear hF1)
      | (go_at_call 14; refine (elements_el b d kids w1 (HE.out.keptC HF1.out.chg) h2).mono ?_; rintro e w2 ⟨v, rfl, hO2, hC2⟩; obtain ⟨a, c, Y, rfl, hF2, hrow⟩ := HF1.out.row hC2 hO2; have HF2 : Hid (FoundAt ws w2 fb ib id (L ++ ownHit d id b) (Y ++ X)) := hF2; have HROW : Hid (∀ wr L', FoundAt ws wr fb ib id L' (Y ++ X) → 0 < kids.length → ∃ g, a = some ⟨g, 0, none⟩ ∧ ∀ j k, kids[j]? = some k → wr.cell? ⟨g, j, none⟩ = some (.pointer (some ⟨k, 0, none⟩))) := hrow; clear hO2 hC2 hF2 hrow))
    go_loopw [12] (fun i wr => ∃ (k : Nat), k ≤ kids.length ∧ i = .int .i64 k ∧ FoundAt ws wr fb ib id (L ++ ownHit d id b ++ (hss.take k).flatten) (Y ++ X)) (fun i _ => kids.length - (intOf i).toNat)
    case atStart => exact ⟨0, Nat.zero_le _, rfl, by simpa using HF2.out⟩
    case round =>
      obtain ⟨k, hkk, rfl, hFw⟩ := hrel
      have HFW : Hid (FoundAt ws wr fb ib id (L ++ ownHit d id b ++ (hss.take k).flatten) (Y ++ X)) := hFw
      clear hFw
      by_cases hlt : k < kids.length
      · have hki : (k : Int) < (kids.length : Int) := by omega
        have hlt' : k < hss.length := by rw [HL3.out]; exact hlt
        obtain ⟨g, rfl, hg⟩ := HROW.out wr _ HFW.out (by omega)
        have hgk := hg k kids[k] (by simp [hlt])
        have HHK : Hid (Hits ws id n kids[k] hss[k]) := HK.out k _ _ (by simp [hlt]) (by simp [hlt'])
        have HLK : Hid ((L ++ ownHit d id b ++ (hss.take k).flatten ++ hss[k]).length ≤ 1024) := by
          have h := HL.out
          rw [HHS.out] at h
          show _ ≤ _
          have e : hss.flatten = (hss.take k).flatten ++ (hss[k] ++ (hss.drop (k + 1)).flatten) := by
            conv => lhs; rw [← List.take_append_drop k hss, List.flatten_append, List.drop_eq_getElem_cons hlt', List.flatten_cons]
          rw [e] at h
          simp only [List.length_append] at h ⊢
          omega
        clear hg
        go_wp2_with (go_at_call 30; refine (HIH.out kids[k] hss[k] (L ++ ownHit d id b ++ (hss.take k).flatten) (Y ++ X) wr HHK.out HFW.out HLK.out).mono ?_; rintro e w4 ⟨rfl, hF4⟩)
        go_roundw
        case rel => exact ⟨k + 1, by omega, by go_num, by rw [take_flatten_succ hlt', ← List.append_assoc]; exact hF4⟩
        case measure => simp [intOf]; omega
      · have hki : ¬ (k : Int) < (kids.length : Int) := by omega
        have hki' : (kids.length : Int) ≤ (k : Int) := by omega
        have HEND : Hid (FoundAt ws wr fb ib id (L ++ hs) X) := by
          have h := HFW.out
          rw [List.take_of_length_le (by rw [HL3.out]; omega), List.append_assoc, ← HHS.out] at h
          exact h.drop (fun p hp => by simp [hp])
        go_wp2
        go_end0
        exact ⟨rfl, HEND.out⟩

theorem own_one {w : World} {S t c : Nat} {a : Option Addr} (h : w.ownsRow S 24 1 (.slice a ([] ++ [t]).length c) ([] ++ [t]).length (ptrs ([] ++ [t]))) : ∃ g, a = some ⟨g, 0, none⟩ ∧ w.cell? ⟨g, 0, none⟩ = some (.pointer (some ⟨t, 0, none⟩)) := by
  have hc := fun g hg => h.cells (g := g) hg 0 (.pointer (some ⟨t, 0, none⟩)) rfl
  rcases h.2 with ⟨_, hn⟩ | ⟨g, cap, cur, he, _⟩
  · simp at hn
  · obtain ⟨rfl, rfl⟩ : a = some ⟨g, 0, none⟩ ∧ c = cap := by simpa using he
    have := hc g rfl
    rw [Go.WideShapes.add_plain] at this
    exact ⟨g, rfl, this⟩

theorem root_el (b : Nat) (w : World) (hp : w.cell? ⟨b, 4, none⟩ = some (.pointer none)) :
    Calls Ybaf.prog 29 #[.pointer (some ⟨b, 0, none⟩)] w fun e w' => e = .returned (.pointer (some ⟨b, 0, none⟩)) ∧ w' = w := by
  go_enter Ybaf.func29, Ybaf.ntmps29
  go_wp2
  refine wp_loop_rounds 1 ?_
  rw [rounds_succ]
  go_wp2
  go_ret
  exact ⟨rfl, rfl⟩

set_option maxHeartbeats 1600000 in
/-- One element bears the Id. -/
theorem byID_one (id : ByteArray) (n b t : Nat) (w : World) (hp : w.cell? ⟨b, 4, none⟩ = some (.pointer none)) (hh : Hits w id n b [t]) :
    Calls Ybaf.prog 22 #[.pointer (some ⟨b, 0, none⟩), .string id] w fun e w' => e = .returned (.tuple #[.pointer (some ⟨t, 0, none⟩), .nilIface]) ∧ Chg [] w w' := by
  have HH : Hid (Hits w id n b [t]) := hh
  have hb : b < w.heap.size := World.block_lt_of_cell? w _ hp
  have HF0 : Hid (FoundAt w ((w.alloc (.cells #[.string id] 9)).alloc (.cells #[.slice none 0 0] 26)) (w.heap.size + 1) w.heap.size id [] []) := by
    refine ⟨.slice none 0 0, ?_, ?_, World.ownsRow_nil _ _ _ _, ((Chg.refl _ _).alloc _).alloc _, ⟨by omega, Nat.le_refl _⟩, fun k o hk => by simp at hk⟩
    · have := heap_alloc_new (w.alloc (.cells #[.string id] 9)) (.cells #[.slice none 0 0] 26)
      simpa using this
    · rw [heap_alloc_old _ _ (by simp)]
      exact heap_alloc_new _ _
  have hp2 : ((w.alloc (.cells #[.string id] 9)).alloc (.cells #[.slice none 0 0] 26)).cell? ⟨b, 4, none⟩ = some (.pointer none) := (((Chg.refl [] w).alloc _).alloc _).cell hp (by simp)
  have HP2 : Hid (((w.alloc (.cells #[.string id] 9)).alloc (.cells #[.slice none 0 0] 26)).cell? ⟨b, 4, none⟩ = some (.pointer none)) := hp2
  clear hh hp2
  go_enter Ybaf.func22, Ybaf.ntmps22
  go_wp2_with (first
    | (go_at_call 29; refine (root_el b _ HP2.out).mono ?_; rintro e w1 ⟨rfl, hw1⟩; rw [hw1]; clear hw1)
    | (go_at_call 30; refine (walk_el id w.heap.size (w.heap.size + 1) w n b [t] [] [] _ HH.out HF0.out (by simp)).mono ?_; rintro e w2 ⟨rfl, hF2⟩; obtain ⟨v, f1, f2, f3, f4, f5, f6⟩ := hF2; obtain ⟨a, c, rfl⟩ := own_len f3; obtain ⟨g, rfl, hg⟩ := own_one f3; have hfc : w2.cell? ⟨w.heap.size + 1, 0, none⟩ = some (.slice (some ⟨g, 0, none⟩) 1 c) := (by simp [World.cell?, f1]); have HC2 : Hid (Chg [] w w2) := f4; clear f1 f2 f3 f4 f5 f6))
  go_ret2
  exact ⟨rfl, HC2.out⟩

end Go.Proofs.YbulkcvhiFmt
