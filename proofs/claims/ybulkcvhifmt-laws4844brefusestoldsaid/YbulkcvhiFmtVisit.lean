/-
  Seat b4844aF: byID's closure.
-/
import Derived.Test.YbulkcvhiFmtExpect0
namespace Go.Proofs.YbulkcvhiFmt
open Go.RowKit Go.Extern.Stop Go.Stop Go.Extern
set_option linter.unusedVariables false

def nmAt : Nat → ByteArray
  | 0 => ⟨#[73, 100]⟩
  | 1 => ⟨#[73, 68]⟩
  | _ => ⟨#[105, 100]⟩
def hitAt (d : Nd) (id : ByteArray) (k : Nat) : Bool := (attrOf d (nmAt k)).isSome && (((attrOf d (nmAt k)).getD ⟨#[]⟩).toList == id.toList)
def hitB (d : Nd) (id : ByteArray) : Bool := hitAt d id 0 || (hitAt d id 1 || hitAt d id 2)

/-- The variable 'found' at fb holds a slice of the elements L; the id lies at ib; all else that was is as it was; so are the blocks X, which lie apart from both. -/
def FoundAt (ws w : World) (fb ib : Nat) (id : ByteArray) (L : List Nat) (X : List (Nat × Obj)) : Prop :=
  ∃ v, w.heap[fb]? = some (.cells #[v] 26 (0, 0)) ∧ w.heap[ib]? = some (.cells #[.string id] 9 (0, 0)) ∧ w.ownsRow ws.heap.size 24 1 v L.length (ptrs L) ∧ Chg [] ws w ∧ (ws.heap.size ≤ fb ∧ ws.heap.size ≤ ib) ∧
    ∀ k o, (k, o) ∈ X → w.heap[k]? = some o ∧ k ≠ fb ∧ v.ownBlock ≠ some k

theorem Chg.obj {l : List Nat} {a b : World} (h : Chg l a b) {k : Nat} {o : Obj} (ho : a.heap[k]? = some o) (hl : k ∉ l) : b.heap[k]? = some o := (h.block k (Array.getElem?_eq_some_iff.1 ho).1 hl).trans ho

theorem FoundAt.keptC {ws w w' : World} {fb ib : Nat} {id : ByteArray} {L : List Nat} {X : List (Nat × Obj)} (h : FoundAt ws w fb ib id L X) (hc : Chg [] w w') : FoundAt ws w' fb ib id L X := by
  obtain ⟨v, h1, h2, h3, h4, h5, h6⟩ := h
  exact ⟨v, hc.obj h1 (by simp), hc.obj h2 (by simp), ownsRow_kept h3 hc (by simp), h4.trans hc, h5, fun k o hk => ⟨hc.obj (h6 k o hk).1 (by simp), (h6 k o hk).2⟩⟩

theorem found_ne {w : World} {S fb n : Nat} {v x : Value} {xs : List Value} {f : Nat × Nat} (h1 : w.heap[fb]? = some (.cells #[x] 26 f)) (h3 : w.ownsRow S 24 1 v n xs) : fb ∉ v.ownBlock.toList := by
  intro hm
  have hm' : v.ownBlock = some fb := by simpa using hm
  rcases h3.2 with ⟨rfl, _⟩ | ⟨g, cap, cur, rfl, _, hg, _⟩
  · simp [Value.ownBlock] at hm'
  · obtain rfl : g = fb := by simpa [Value.ownBlock] using hm'
    rw [hg] at h1
    cases h1

theorem found_hit {ws w w1 : World} {fb ib b : Nat} {id : ByteArray} {L : List Nat} {X : List (Nat × Obj)} {v v' : Value} (h1 : w.heap[fb]? = some (.cells #[v] 26 (0, 0))) (h2 : w.heap[ib]? = some (.cells #[.string id] 9 (0, 0)))
    (h3 : w.ownsRow ws.heap.size 24 1 v L.length (ptrs L)) (h4 : Chg [] ws w) (h5 : ws.heap.size ≤ fb) (h6 : ws.heap.size ≤ ib)
    (hown : w1.ownsRow ws.heap.size 24 1 v' (L.length + 1) (ptrs L ++ [.pointer (some ⟨b, 0, none⟩)])) (hc : Chg v.ownBlock.toList w w1)
    (hX : ∀ k o, (k, o) ∈ X → w.heap[k]? = some o ∧ k ≠ fb ∧ v.ownBlock ≠ some k) (hat : ∀ k, v'.ownBlock = some k → v.ownBlock = some k ∨ w.heap.size ≤ k) : FoundAt ws (w1.setCell ⟨fb, 0, none⟩ v') fb ib id (L ++ [b]) X := by
  have nb : ∀ k c t f, w.heap[k]? = some (.cells c t f) → t ≠ 24 → k ∉ v.ownBlock.toList := by
    intro k c t f hk ht hm
    have hm' : v.ownBlock = some k := by simpa using hm
    rcases h3.2 with ⟨rfl, _⟩ | ⟨g, cap, cur, rfl, _, hg, _⟩
    · simp [Value.ownBlock] at hm'
    · obtain rfl : g = k := by simpa [Value.ownBlock] using hm'
      rw [hg] at hk
      cases hk
      exact ht rfl
  have j1 : w1.heap[fb]? = some (.cells #[v] 26 (0, 0)) := hc.obj h1 (nb _ _ _ _ h1 (by decide))
  have j2 : w1.heap[ib]? = some (.cells #[.string id] 9 (0, 0)) := hc.obj h2 (nb _ _ _ _ h2 (by decide))
  have hne : fb ≠ ib := by
    rintro rfl
    rw [j1] at j2
    cases j2
  have hc' : Chg [] ws w1 := (h4.mono (l' := v.ownBlock.toList) (by simp)).trans hc |>.mono (fun k hk => .inr ((h3.lt k (by simpa using hk)).1))
  have hs : Chg [fb] w1 (w1.setCell ⟨fb, 0, none⟩ v') := (Chg.refl _ _).setCell (by simp) _
  refine ⟨v', ?_, hs.obj j2 (by simp; exact fun e => hne e.symm), ?_, (hc'.mono (l' := [fb]) (by simp)).trans hs |>.mono (fun k hk => .inr (by simp at hk; omega)), ⟨h5, h6⟩, fun k o hk => ?_⟩
  · have hlt : fb < w1.heap.size := (Array.getElem?_eq_some_iff.1 j1).1
    simp only [World.setCell, Array.getElem?_modify, if_pos, j1, Option.map_some]
    rfl
  · have := ownsRow_kept hown hs (fun k hk => by
      intro hm
      obtain rfl : k = fb := by simpa using hm
      rcases hown.2 with ⟨rfl, _⟩ | ⟨g, cap, cur, rfl, _, hg, _⟩
      · simp [Value.ownBlock] at hk
      · obtain rfl : g = k := by simpa [Value.ownBlock] using hk
        rw [j1] at hg
        cases hg)
    simpa [ptrs] using this
  · obtain ⟨k1, k2, k3⟩ := hX k o hk
    refine ⟨hs.obj (hc.obj k1 (by simpa using k3)) (by simpa using k2), k2, fun e => ?_⟩
    rcases hat k e with h | h
    · exact k3 h
    · have := (Array.getElem?_eq_some_iff.1 k1).1
      omega

def ownHit (d : Nd) (id : ByteArray) (b : Nat) : List Nat := if hitB d id then [b] else []
theorem ownHit_yes {d : Nd} {id : ByteArray} {b : Nat} (h : hitB d id = true) : ownHit d id b = [b] := by rw [ownHit, if_pos h]
theorem ownHit_no {d : Nd} {id : ByteArray} {b : Nat} (h : hitB d id = false) : ownHit d id b = [] := by rw [ownHit, if_neg (by rw [h]; simp)]

set_option maxHeartbeats 3200000 in
theorem visit_el (id : ByteArray) (ib fb b : Nat) (d : Nd) (kids : List Nat) (L : List Nat) (X : List (Nat × Obj)) (ws w : World) (hE : ElAt ws b d kids) (hFnd : FoundAt ws w fb ib id L X) (hl : L.length ≤ 1024) :
    Calls Ybaf.prog 31 #[.pointer (some ⟨b, 0, none⟩), .pointer (some ⟨ib, 0, none⟩), .pointer (some ⟨fb, 0, none⟩)] w fun e w' => e = .returned (.tuple #[]) ∧ FoundAt ws w' fb ib id (L ++ ownHit d id b) X := by
  obtain ⟨i0, hi0, hz0, hz1, hz2⟩ := info_parts info24
  have HE : Hid (ElAt ws b d kids) := hE
  have HFD : Hid (FoundAt ws w fb ib id L X) := hFnd
  clear hE hFnd
  go_enter Ybaf.func31, Ybaf.ntmps31
  go_wp2
  have hnb : ∀ k, k < 3 → (w.alloc (.cells #[.string ⟨#[73, 100]⟩, .string ⟨#[73, 68]⟩, .string ⟨#[105, 100]⟩] 9)).cell? ⟨w.heap.size, k, none⟩ = some (.string (nmAt k)) := by
    intro k hk
    rw [World.cell?_alloc_at _ _ _ _ rfl]
    match k, hk with
    | 0, _ => rfl
    | 1, _ => rfl
    | 2, _ => rfl
  obtain ⟨w0, hw0⟩ : ∃ w0, w0 = w.alloc (.cells #[.string ⟨#[73, 100]⟩, .string ⟨#[73, 68]⟩, .string ⟨#[105, 100]⟩] 9) := ⟨_, rfl⟩
  have HFD0 : Hid (FoundAt ws w0 fb ib id L X) := by rw [hw0]; exact HFD.out.keptC ((Chg.refl _ _).alloc _)
  rw [← hw0] at hnb ⊢
  have HNB : Hid (∀ k, k < 3 → w0.cell? ⟨w.heap.size, k, none⟩ = some (.string (nmAt k))) := hnb
  clear hnb hw0 HFD
  generalize w.heap.size = nb at *
  go_loopw [10] (fun i wr => ∃ (k : Nat), k ≤ 3 ∧ i = .int .i64 k ∧ Chg [] w0 wr ∧ ∀ j, j < k → hitAt d id j = false) (fun i _ => 3 - (intOf i).toNat)
  case atStart => exact ⟨0, by omega, rfl, Chg.refl _ _, fun j hj => by omega⟩
  case round =>
    obtain ⟨k, hk, rfl, hC, hall⟩ := hrel
    have HALL : Hid (∀ j, j < k → hitAt d id j = false) := hall
    have HC : Hid (Chg [] w0 wr) := hC
    clear hall hC
    by_cases hlt : k < 3
    · have hki : (k : Int) < 3 := by omega
      have hnk := HC.out.cell (HNB.out k hlt) (by simp)
      have HFW : Hid (FoundAt ws wr fb ib id L X) := HFD0.out.keptC HC.out
      have HEW : Hid (ElAt wr b d kids) := HE.out.keptC (by obtain ⟨_, _, _, _, h, _⟩ := HFW.out; exact h)
      cases hs : (attrOf d (nmAt k)).isSome
      · have HN : Hid (hitAt d id k = false) := by show hitAt d id k = false; rw [hitAt, hs]; rfl
        go_wp2_with (go_at_call 20; refine (attr_el (nmAt k) b d kids wr HEW.out).mono ?_; rw [hs]; rintro e w1 ⟨rfl, hC1⟩)
        go_roundw
        case rel => exact ⟨k + 1, by omega, by go_num, HC.out.trans hC1, fun j hj => by by_cases hjk : j = k; (subst hjk; exact HN.out); exact HALL.out j (by omega)⟩
        case measure => simp [intOf]; omega
      · cases hq : (((attrOf d (nmAt k)).getD ⟨#[]⟩).toList == id.toList)
        · have HN : Hid (hitAt d id k = false) := by show hitAt d id k = false; rw [hitAt, hs, hq]; rfl
          go_wp2_with (go_at_call 20; refine (attr_el (nmAt k) b d kids wr HEW.out).mono ?_; rw [hs]; rintro e w1 ⟨rfl, hC1⟩; have hid := (by obtain ⟨_, _, h, _⟩ := HFW.out.keptC hC1; exact h : w1.heap[ib]? = some (.cells #[.string id] 9 (0, 0))); have hidc : w1.cell? ⟨ib, 0, none⟩ = some (.string id) := (by simp [World.cell?, hid]); clear hid)
          go_roundw
          case rel => exact ⟨k + 1, by omega, by go_num, HC.out.trans hC1, fun j hj => by by_cases hjk : j = k; (subst hjk; exact HN.out); exact HALL.out j (by omega)⟩
          case measure => simp [intOf]; omega
        · have HY : Hid (hitB d id = true) := by
            have : hitAt d id k = true := by rw [hitAt, hs, hq]; rfl
            show hitB d id = true
            match k, hlt with
            | 0, _ => simp [hitB, this]
            | 1, _ => simp [hitB, this]
            | 2, _ => simp [hitB, this]
          go_wp2_with (first
            | (go_at_call 20; refine (attr_el (nmAt k) b d kids wr HEW.out).mono ?_; rw [hs]; rintro e w1 ⟨rfl, hC1⟩; obtain ⟨v, f1, f2, f3, f4, ⟨f5, f6⟩, f7⟩ := HFW.out.keptC hC1; have hidc : w1.cell? ⟨ib, 0, none⟩ = some (.string id) := (by simp [World.cell?, f2]); have hfc : w1.cell? ⟨fb, 0, none⟩ = some v := (by simp [World.cell?, f1]); have hff : w1.frozen? ⟨fb, 0, none⟩ = false := (by simp [World.frozen?, f1]); have hsz := f4.size; have F1 : Hid (w1.heap[fb]? = some (.cells #[v] 26 (0, 0))) := f1; have F2 : Hid (w1.heap[ib]? = some (.cells #[.string id] 9 (0, 0))) := f2; have F3 : Hid (w1.ownsRow ws.heap.size 24 1 v L.length (ptrs L)) := f3; have F4 : Hid (Chg [] ws w1) := f4; have F7 : Hid (∀ k o, (k, o) ∈ X → w1.heap[k]? = some o ∧ k ≠ fb ∧ v.ownBlock ≠ some k) := f7; clear f1 f2 f3 f4 f7 hC1)
            | (at_builtin; refine wpList_append_own_at _ rfl _ _ 26 rfl ws.heap.size 24 i0 (.pointer none) 1 8 Ybaf.underlying26 hi0 hz0 hz1 hz2 rfl (by decide) v L.length (ptrs L) rfl (F3.out.alloc _) ⟨w1.heap.size, 0, none⟩ 1 1 [.pointer (some ⟨b, 0, none⟩)] rfl rfl ?hn ?h1 (by unfold maxLen; omega) (by omega) (by simp; omega) ?_))
          case hn =>
            intro i u hi'
            obtain ⟨rfl, rfl⟩ := one_at hi'
            simp [Addr.add, World.cell?_alloc_at]
          case h1 => simp [Value.oneCell']
          intro v' w2 hown hgrow hnil hat
          obtain ⟨a', c', rfl⟩ := own_len hown
          have hc2 : Chg v.ownBlock.toList w1 w2 := ((Chg.refl _ w1).alloc _).trans (Chg.ofGrown hgrow (fun k hk => .inl (by simp [hk])))
          have HR : Hid (FoundAt ws (w2.setCell ⟨fb, 0, none⟩ (.slice a' (L.length + 1) c')) fb ib id (L ++ [b]) X) := found_hit F1.out F2.out F3.out F4.out f5 f6 hown hc2 F7.out (fun k hk => by
            rcases hat with h | h
            · exact .inl (h ▸ hk)
            · right; rw [h] at hk; simp at hk; omega)
          have hnf : fb ∉ v.ownBlock.toList := found_ne F1.out F3.out
          have hfc2 : w2.cell? ⟨fb, 0, none⟩ = some v := hc2.cell hfc hnf
          have hff2 : w2.frozen? ⟨fb, 0, none⟩ = false := (hc2.frozen (p := ⟨fb, 0, none⟩) (World.block_lt_of_cell? w1 _ hfc) hnf).trans hff
          clear hown hgrow hnil hat hc2 hnf hfc hff
          go_wp2
          refine bodyPost_ret (results_none rfl _ _ _) rfl ?_
          exact ⟨rfl, by rw [ownHit_yes HY.out]; exact HR.out⟩
    · have hki : ¬ (k : Int) < 3 := by omega
      have hki' : (3 : Int) ≤ (k : Int) := by omega
      have HN : Hid (hitB d id = false) := by
        show hitB d id = false
        simp [hitB, HALL.out 0 (by omega), HALL.out 1 (by omega), HALL.out 2 (by omega)]
      go_wp2
      go_end0
      exact ⟨rfl, by rw [ownHit_no HN.out, List.append_nil]; exact HFD0.out.keptC HC.out⟩

end Go.Proofs.YbulkcvhiFmt
