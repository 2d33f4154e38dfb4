/-
  Seat b4844aF: expect, behind the first test.
-/
import Derived.Test.YbulkcvhiFmtExpect0
namespace Go.Proofs.YbulkcvhiFmt
open Go.RowKit Go.Extern.Stop Go.Stop Go.Extern
set_option linter.unusedVariables false

theorem Chg.ofBelow {w w' : World} (h : Below w.heap.size w w') : Chg [] w w' := ⟨h.os, h.tape, h.output, h.size, fun k hk _ => h.block k hk⟩

theorem own_lower {w : World} {S S' e z n : Nat} {v : Value} {xs : List Value} (h : w.ownsRow S e z v n xs) (hs : S' ≤ S) : w.ownsRow S' e z v n xs := by
  refine ⟨h.1, ?_⟩
  rcases h.2 with h | ⟨g, cap, cur, rfl, hb, rest⟩
  · exact .inl h
  · exact .inr ⟨g, cap, cur, rfl, by omega, rest⟩

/-- The kids of an element, each an element. -/
def KidsAt (w : World) (kids : List Nat) (nds : Nat → Nd) (kk : Nat → List Nat) : Prop := ∀ i k, kids[i]? = some k → ElAt w k (nds i) (kk i)
theorem KidsAt.keptC {w w' : World} {kids : List Nat} {nds : Nat → Nd} {kk : Nat → List Nat} (h : KidsAt w kids nds kk) (hc : Chg [] w w') : KidsAt w' kids nds kk := fun i k hi => (h i k hi).keptC hc

theorem all_range_false {n k : Nat} {p : Nat → Bool} (hk : k < n) (hp : p k = false) : (List.range n).all p = false := by
  rw [List.all_eq_false]
  exact ⟨k, List.mem_range.2 hk, by rw [hp]; simp⟩
theorem all_range_true {n : Nat} {p : Nat → Bool} (h : ∀ j, j < n → p j = true) : (List.range n).all p = true := by
  rw [List.all_eq_true]
  exact fun j hj => h j (List.mem_range.1 hj)

set_option maxHeartbeats 6400000 in
theorem expect_rest (F : Interp) (nm rep : ByteArray) (cs : List ByteArray) (cb : Nat) (b : Nat) (d : Nd) (kids : List Nat) (nds : Nat → Nd) (kk : Nat → List Nat) (w : World) (hF : F.answers w.tape) (h : ElAt w b d kids) (hn : isB d nm = true)
    (hk : kids.length ≤ 4096) (hks : KidsAt w kids nds kk) (hcs : ∀ j x, cs[j]? = some x → w.cell? ⟨cb, 0 + j, none⟩ = some (.string x)) (hne : ∀ (j : Nat) (x : ByteArray), cs[j]? = some x → (x.toList == []) = false) (hcl : 0 < cs.length) (hcl' : cs.length ≤ 4) (hbk : cb < w.heap.size)
    (hj : (Lib.join (cs.map (·.data.toList)) [44, 32]).length ≤ 140737488355328) (hrep : rep.size ≤ 1024) (cc : Nat) (hcc : cs.length ≤ cc) :
    Calls Ybaf.prog 11 #[.pointer (some ⟨b, 0, none⟩), .string nm, .slice (some ⟨cb, 0, none⟩) cs.length cc, .string rep] w fun e w' => ∃ v1 v2, e = .returned (.tuple #[v1, v2]) ∧
      ExpV w w' ((List.range kids.length).all (okAt cs rep nds) && decide (cs.length ≤ kids.length)) kids v1 v2 ∧ Chg [] w w' := by
  have HE : Hid (ElAt w b d kids) := h
  have HF : Hid (F.answers w.tape) := hF
  have HKS : Hid (KidsAt w kids nds kk) := hks
  have HCS : Hid (∀ j x, cs[j]? = some x → w.cell? ⟨cb, 0 + j, none⟩ = some (.string x)) := hcs
  have HNE : Hid (∀ (j : Nat) (x : ByteArray), cs[j]? = some x → (x.toList == []) = false) := hne
  have HJ : Hid ((Lib.join (cs.map (·.data.toList)) [44, 32]).length ≤ 140737488355328) := hj
  clear h hF hks hcs hj hne
  have JN : Calls Ybaf.prog 19 #[.slice (some ⟨cb, 0, none⟩) cs.length cc, .string ⟨#[44, 32]⟩] w fun e w' => ∃ l : ByteArray, e = .returned (.string l) ∧ l.size ≤ 140737488355328 ∧ Chg [] w w' :=
    (Ybaf.strings_Join cb 0 cc cs ⟨#[44, 32]⟩ w HCS.out hbk (by omega) hcc HJ.out).mono (fun e w' h => ⟨_, h.1, by simpa [ByteArray.size] using HJ.out, Chg.ofBelow h.2⟩)
  have hs0 : 20 + rep.size ≤ 9223372036854775807 := by omega
  have hs1 : ¬ 9223372036854775807 < 20 + rep.size := by omega
  cases hr : (rep.toList == [])
  · go_enter Ybaf.func11, Ybaf.ntmps11
    go_wp2_with (first
      | (go_at_call 15; refine (is_el nm b d kids w HE.out).mono ?_; rw [hn]; rintro e w1 ⟨rfl, hw1⟩; rw [hw1]; clear hw1)
      | (go_at_call 19; refine JN.mono ?_; rintro e w2 ⟨lay, rfl, hls, hC2⟩; have HC2 : Hid (Chg [] w w2) := hC2; clear JN hC2; have hs2 : lay.size + (20 + rep.size) ≤ 9223372036854775807 := (by omega); have hs3 : ¬ 9223372036854775807 < lay.size + (20 + rep.size) := (by omega))
      | (go_at_call 14; refine (elements_el b d kids w2 (HE.out.keptC HC2.out) hk).mono ?_; rintro e w3 ⟨v, rfl, hO3, hC3⟩; obtain ⟨a, c, rfl⟩ := own_len hO3; have HO3 : Hid (w3.ownsRow w2.heap.size 24 1 (.slice a kids.length c) kids.length (ptrs kids)) := hO3; have HC3 : Hid (Chg [] w w3) := HC2.out.trans hC3; clear hO3 hC3))
    have HT3 : Hid (w3.tape = w.tape) := HC3.out.tape
    have HO3 : Hid (w3.ownsRow w.heap.size 24 1 (.slice a kids.length c) kids.length (ptrs kids)) := own_lower HO3.out HC2.out.size
    clear hs0 hs1 hs2 hs3 hls
    have hxs : (ptrs kids).length = kids.length := by simp [ptrs]
    have HSH : Hid (0 < kids.length → ∃ g, a = some ⟨g, 0, none⟩ ∧ ∀ j u, (ptrs kids)[j]? = some u → w3.cell? ⟨g, j, none⟩ = some u) := by
      have := HO3.out
      rw [← hxs] at this
      obtain ⟨a', c', he, hh⟩ := own_shape this
      obtain ⟨rfl, rfl⟩ : a = a' ∧ c = c' := by simpa [hxs] using he
      rwa [hxs] at hh
    clear hxs
    obtain ⟨LAY, hLAY⟩ : ∃ l : ByteArray, l = lay ++ (⟨#[44, 32, 97, 110, 100, 32, 97, 110, 121, 32, 110, 117, 109, 98, 101, 114, 32, 111, 102, 32]⟩ ++ rep) := ⟨_, rfl⟩
    rw [← hLAY]
    clear hLAY
    go_loopw [46] (fun i wr => ∃ (k : Nat), k ≤ kids.length ∧ i = .int .i64 k ∧ wr = w3 ∧ ∀ j, j < k → okAt cs rep nds j = true) (fun i _ => kids.length - (intOf i).toNat)
    case atStart => exact ⟨0, Nat.zero_le _, rfl, rfl, fun j hj => by omega⟩
    case round =>
      obtain ⟨k, hkk, rfl, rfl, hall⟩ := hrel
      obtain ⟨w3, rfl⟩ : ∃ w3 : World, w3 = wr := ⟨_, rfl⟩
      have HALL : Hid (∀ j, j < k → okAt cs rep nds j = true) := hall
      clear hall
      by_cases hlt : k < kids.length
      · have hki : (k : Int) < (kids.length : Int) := by omega
        obtain ⟨g, rfl, hg⟩ := HSH.out (by omega)
        have hgk : w3.cell? ⟨g, k, none⟩ = some (.pointer (some ⟨kids[k], 0, none⟩)) := hg k _ (by simp [ptrs, hlt])
        clear hg
        have HK3 : Hid (ElAt w3 kids[k] (nds k) (kk k)) := (HKS.out.keptC HC3.out) k kids[k] (by simp [hlt])
        have h0 := HK3.out.c0
        have h1 := HK3.out.c1
        by_cases hkc : k < cs.length
        · have hkci : (k : Int) < (cs.length : Int) := by omega
          have hcx : w3.cell? ⟨cb, k, none⟩ = some (.string cs[k]) := by have := HC3.out.cell (HCS.out k cs[k] (by simp [hkc])) (by simp); rwa [Nat.zero_add] at this
          have hcn := HNE.out k cs[k] (by simp [hkc])
          have HW : Hid (wantOf cs rep k = cs[k]) := by simp [Hid, wantOf, hkc]
          cases hq : isB (nds k) cs[k]
          · have HBAD : Hid (okAt cs rep nds k = false) := by show okAt cs rep nds k = false; rw [okAt, HW.out, hq]; simp
            go_wp2_with (go_at_call 15; refine (is_el (cs[k]) kids[k] (nds k) (kk k) _ HK3.out).mono ?_; rw [hq]; rintro e w4 ⟨rfl, hw4⟩; rw [hw4]; clear hw4)

            go_region_with (first
              | (go_at_call 18; refine (qualified_any (nds k).name _).mono ?_; rintro e w5 ⟨rfl, hw5⟩; rw [hw5]; clear hw5)
              | (go_at_call 17; refine (errorf_E4 F nm (nds k).name LAY _ _ (by have := HF.out; rw [← HT3.out] at this; exact this) (by simp [World.cell?_alloc_at]) (by simp [World.cell?_alloc_at]) (by simp [World.cell?_alloc_at])).mono ?_; rintro e w6 ⟨p, rfl, hC6⟩))
            all_goals
              go_wp2
              go_ret2
              exact ⟨.slice none 0 0, .iface 72 (.pointer (some ⟨p, 0, none⟩)), rfl, ExpV.bad (by rw [all_range_false hlt HBAD.out]; rfl), HC3.out.trans (by first | exact ((Chg.refl _ _).alloc _).drew.trans hC6 | exact ((Chg.refl _ _).alloc _).trans hC6)⟩

          · have HOK : Hid (okAt cs rep nds k = true) := by show okAt cs rep nds k = true; rw [okAt, HW.out, hq, hcn]; rfl
            go_wp2_with (go_at_call 15; refine (is_el (cs[k]) kids[k] (nds k) (kk k) _ HK3.out).mono ?_; rw [hq]; rintro e w4 ⟨rfl, hw4⟩; rw [hw4]; clear hw4)

            go_roundw
            case rel => exact ⟨k + 1, by omega, by go_num, by first | trivial | rfl, fun j hj => by by_cases hjk : j = k; (subst hjk; exact HOK.out); exact HALL.out j (by omega)⟩
            case measure => simp [intOf]; omega

        · have hkci : ¬ (k : Int) < (cs.length : Int) := by omega
          have hkci' : (cs.length : Int) ≤ (k : Int) := by omega
          have HW : Hid (wantOf cs rep k = rep) := by simp [Hid, wantOf, hkc]
          cases hq : isB (nds k) rep
          · have HBAD : Hid (okAt cs rep nds k = false) := by show okAt cs rep nds k = false; rw [okAt, HW.out, hq]; simp
            go_wp2_with (go_at_call 15; refine (is_el (rep) kids[k] (nds k) (kk k) _ HK3.out).mono ?_; rw [hq]; rintro e w4 ⟨rfl, hw4⟩; rw [hw4]; clear hw4)

            go_region_with (first
              | (go_at_call 18; refine (qualified_any (nds k).name _).mono ?_; rintro e w5 ⟨rfl, hw5⟩; rw [hw5]; clear hw5)
              | (go_at_call 17; refine (errorf_E4 F nm (nds k).name LAY _ _ (by have := HF.out; rw [← HT3.out] at this; exact this) (by simp [World.cell?_alloc_at]) (by simp [World.cell?_alloc_at]) (by simp [World.cell?_alloc_at])).mono ?_; rintro e w6 ⟨p, rfl, hC6⟩))
            all_goals
              go_wp2
              go_ret2
              exact ⟨.slice none 0 0, .iface 72 (.pointer (some ⟨p, 0, none⟩)), rfl, ExpV.bad (by rw [all_range_false hlt HBAD.out]; rfl), HC3.out.trans (by first | exact ((Chg.refl _ _).alloc _).drew.trans hC6 | exact ((Chg.refl _ _).alloc _).trans hC6)⟩

          · have HOK : Hid (okAt cs rep nds k = true) := by show okAt cs rep nds k = true; rw [okAt, HW.out, hq, hr]; rfl
            go_wp2_with (go_at_call 15; refine (is_el (rep) kids[k] (nds k) (kk k) _ HK3.out).mono ?_; rw [hq]; rintro e w4 ⟨rfl, hw4⟩; rw [hw4]; clear hw4)

            go_roundw
            case rel => exact ⟨k + 1, by omega, by go_num, by first | trivial | rfl, fun j hj => by by_cases hjk : j = k; (subst hjk; exact HOK.out); exact HALL.out j (by omega)⟩
            case measure => simp [intOf]; omega

      · obtain rfl : k = kids.length := by omega
        have HA : Hid ((List.range kids.length).all (okAt cs rep nds) = true) := all_range_true HALL.out
        by_cases hlc : kids.length < cs.length
        · have hlci : (kids.length : Int) < (cs.length : Int) := by omega
          have hcx : w3.cell? ⟨cb, kids.length, none⟩ = some (.string cs[kids.length]) := by have := HC3.out.cell (HCS.out kids.length cs[kids.length] (by simp [hlc])) (by simp); rwa [Nat.zero_add] at this
          go_wp2_with (go_at_call 17; refine (errorf_E5 F nm cs[kids.length] w3.heap.size _ (by have := HF.out; rw [← HT3.out] at this; exact this) (by simp [World.cell?_alloc_at]) (by simp [World.cell?_alloc_at])).mono ?_; rintro e w6 ⟨p, rfl, hC6⟩)
          go_ret2
          exact ⟨.slice none 0 0, .iface 72 (.pointer (some ⟨p, 0, none⟩)), rfl, ExpV.bad (by rw [HA.out, decide_eq_false (by omega)]; rfl), HC3.out.trans (((Chg.refl _ _).alloc _).trans hC6)⟩
        · have hlci : ¬ (kids.length : Int) < (cs.length : Int) := by omega
          have hlci' : (cs.length : Int) ≤ (kids.length : Int) := by omega
          go_wp2
          go_ret2
          exact ⟨.slice a kids.length c, .nilIface, rfl, by rw [HA.out, decide_eq_true (by omega)]; exact ⟨rfl, HO3.out⟩, HC3.out⟩

  · go_enter Ybaf.func11, Ybaf.ntmps11
    go_wp2_with (first
      | (go_at_call 15; refine (is_el nm b d kids w HE.out).mono ?_; rw [hn]; rintro e w1 ⟨rfl, hw1⟩; rw [hw1]; clear hw1)
      | (go_at_call 19; refine JN.mono ?_; rintro e w2 ⟨lay, rfl, hls, hC2⟩; have HC2 : Hid (Chg [] w w2) := hC2; clear JN hC2; have hs2 : lay.size + (20 + rep.size) ≤ 9223372036854775807 := (by omega); have hs3 : ¬ 9223372036854775807 < lay.size + (20 + rep.size) := (by omega))
      | (go_at_call 14; refine (elements_el b d kids w2 (HE.out.keptC HC2.out) hk).mono ?_; rintro e w3 ⟨v, rfl, hO3, hC3⟩; obtain ⟨a, c, rfl⟩ := own_len hO3; have HO3 : Hid (w3.ownsRow w2.heap.size 24 1 (.slice a kids.length c) kids.length (ptrs kids)) := hO3; have HC3 : Hid (Chg [] w w3) := HC2.out.trans hC3; clear hO3 hC3))
    have HT3 : Hid (w3.tape = w.tape) := HC3.out.tape
    have HO3 : Hid (w3.ownsRow w.heap.size 24 1 (.slice a kids.length c) kids.length (ptrs kids)) := own_lower HO3.out HC2.out.size
    clear hs0 hs1 hs2 hs3 hls
    have hxs : (ptrs kids).length = kids.length := by simp [ptrs]
    have HSH : Hid (0 < kids.length → ∃ g, a = some ⟨g, 0, none⟩ ∧ ∀ j u, (ptrs kids)[j]? = some u → w3.cell? ⟨g, j, none⟩ = some u) := by
      have := HO3.out
      rw [← hxs] at this
      obtain ⟨a', c', he, hh⟩ := own_shape this
      obtain ⟨rfl, rfl⟩ : a = a' ∧ c = c' := by simpa [hxs] using he
      rwa [hxs] at hh
    clear hxs
    obtain ⟨LAY, hLAY⟩ : ∃ l : ByteArray, l = lay := ⟨_, rfl⟩
    rw [← hLAY]
    clear hLAY
    go_loopw [46] (fun i wr => ∃ (k : Nat), k ≤ kids.length ∧ i = .int .i64 k ∧ wr = w3 ∧ ∀ j, j < k → okAt cs rep nds j = true) (fun i _ => kids.length - (intOf i).toNat)
    case atStart => exact ⟨0, Nat.zero_le _, rfl, rfl, fun j hj => by omega⟩
    case round =>
      obtain ⟨k, hkk, rfl, rfl, hall⟩ := hrel
      obtain ⟨w3, rfl⟩ : ∃ w3 : World, w3 = wr := ⟨_, rfl⟩
      have HALL : Hid (∀ j, j < k → okAt cs rep nds j = true) := hall
      clear hall
      by_cases hlt : k < kids.length
      · have hki : (k : Int) < (kids.length : Int) := by omega
        obtain ⟨g, rfl, hg⟩ := HSH.out (by omega)
        have hgk : w3.cell? ⟨g, k, none⟩ = some (.pointer (some ⟨kids[k], 0, none⟩)) := hg k _ (by simp [ptrs, hlt])
        clear hg
        have HK3 : Hid (ElAt w3 kids[k] (nds k) (kk k)) := (HKS.out.keptC HC3.out) k kids[k] (by simp [hlt])
        have h0 := HK3.out.c0
        have h1 := HK3.out.c1
        by_cases hkc : k < cs.length
        · have hkci : (k : Int) < (cs.length : Int) := by omega
          have hcx : w3.cell? ⟨cb, k, none⟩ = some (.string cs[k]) := by have := HC3.out.cell (HCS.out k cs[k] (by simp [hkc])) (by simp); rwa [Nat.zero_add] at this
          have hcn := HNE.out k cs[k] (by simp [hkc])
          have HW : Hid (wantOf cs rep k = cs[k]) := by simp [Hid, wantOf, hkc]
          cases hq : isB (nds k) cs[k]
          · have HBAD : Hid (okAt cs rep nds k = false) := by show okAt cs rep nds k = false; rw [okAt, HW.out, hq]; simp
            go_wp2_with (go_at_call 15; refine (is_el (cs[k]) kids[k] (nds k) (kk k) _ HK3.out).mono ?_; rw [hq]; rintro e w4 ⟨rfl, hw4⟩; rw [hw4]; clear hw4)

            go_region_with (first
              | (go_at_call 18; refine (qualified_any (nds k).name _).mono ?_; rintro e w5 ⟨rfl, hw5⟩; rw [hw5]; clear hw5)
              | (go_at_call 17; refine (errorf_E4 F nm (nds k).name LAY _ _ (by have := HF.out; rw [← HT3.out] at this; exact this) (by simp [World.cell?_alloc_at]) (by simp [World.cell?_alloc_at]) (by simp [World.cell?_alloc_at])).mono ?_; rintro e w6 ⟨p, rfl, hC6⟩))
            all_goals
              go_wp2
              go_ret2
              exact ⟨.slice none 0 0, .iface 72 (.pointer (some ⟨p, 0, none⟩)), rfl, ExpV.bad (by rw [all_range_false hlt HBAD.out]; rfl), HC3.out.trans (by first | exact ((Chg.refl _ _).alloc _).drew.trans hC6 | exact ((Chg.refl _ _).alloc _).trans hC6)⟩

          · have HOK : Hid (okAt cs rep nds k = true) := by show okAt cs rep nds k = true; rw [okAt, HW.out, hq, hcn]; rfl
            go_wp2_with (go_at_call 15; refine (is_el (cs[k]) kids[k] (nds k) (kk k) _ HK3.out).mono ?_; rw [hq]; rintro e w4 ⟨rfl, hw4⟩; rw [hw4]; clear hw4)

            go_roundw
            case rel => exact ⟨k + 1, by omega, by go_num, by first | trivial | rfl, fun j hj => by by_cases hjk : j = k; (subst hjk; exact HOK.out); exact HALL.out j (by omega)⟩
            case measure => simp [intOf]; omega

        · have hkci : ¬ (k : Int) < (cs.length : Int) := by omega
          have hkci' : (cs.length : Int) ≤ (k : Int) := by omega
          have HW : Hid (wantOf cs rep k = rep) := by simp [Hid, wantOf, hkc]
          have HBAD : Hid (okAt cs rep nds k = false) := by show okAt cs rep nds k = false; rw [okAt, HW.out, hr]; rfl
          go_wp2
          go_region_with (first
            | (go_at_call 18; refine (qualified_any (nds k).name _).mono ?_; rintro e w5 ⟨rfl, hw5⟩; rw [hw5]; clear hw5)
            | (go_at_call 17; refine (errorf_E4 F nm (nds k).name LAY _ _ (by have := HF.out; rw [← HT3.out] at this; exact this) (by simp [World.cell?_alloc_at]) (by simp [World.cell?_alloc_at]) (by simp [World.cell?_alloc_at])).mono ?_; rintro e w6 ⟨p, rfl, hC6⟩))
          all_goals
            go_wp2
            go_ret2
            exact ⟨.slice none 0 0, .iface 72 (.pointer (some ⟨p, 0, none⟩)), rfl, ExpV.bad (by rw [all_range_false hlt HBAD.out]; rfl), HC3.out.trans (by first | exact ((Chg.refl _ _).alloc _).drew.trans hC6 | exact ((Chg.refl _ _).alloc _).trans hC6)⟩

      · obtain rfl : k = kids.length := by omega
        have HA : Hid ((List.range kids.length).all (okAt cs rep nds) = true) := all_range_true HALL.out
        by_cases hlc : kids.length < cs.length
        · have hlci : (kids.length : Int) < (cs.length : Int) := by omega
          have hcx : w3.cell? ⟨cb, kids.length, none⟩ = some (.string cs[kids.length]) := by have := HC3.out.cell (HCS.out kids.length cs[kids.length] (by simp [hlc])) (by simp); rwa [Nat.zero_add] at this
          go_wp2_with (go_at_call 17; refine (errorf_E5 F nm cs[kids.length] w3.heap.size _ (by have := HF.out; rw [← HT3.out] at this; exact this) (by simp [World.cell?_alloc_at]) (by simp [World.cell?_alloc_at])).mono ?_; rintro e w6 ⟨p, rfl, hC6⟩)
          go_ret2
          exact ⟨.slice none 0 0, .iface 72 (.pointer (some ⟨p, 0, none⟩)), rfl, ExpV.bad (by rw [HA.out, decide_eq_false (by omega)]; rfl), HC3.out.trans (((Chg.refl _ _).alloc _).trans hC6)⟩
        · have hlci : ¬ (kids.length : Int) < (cs.length : Int) := by omega
          have hlci' : (cs.length : Int) ≤ (kids.length : Int) := by omega
          go_wp2
          go_ret2
          exact ⟨.slice a kids.length c, .nilIface, rfl, by rw [HA.out, decide_eq_true (by omega)]; exact ⟨rfl, HO3.out⟩, HC3.out⟩

/-- The kids of an element, listed: block, what it is, its own kids. -/
abbrev Kid := Nat × Nd × List Nat
def kidsOf (ks : List Kid) : List Nat := ks.map (·.1)
def ndOf (ks : List Kid) (i : Nat) : Nd := ((ks[i]?).map (·.2.1)).getD ⟨⟨#[]⟩, none, ⟨#[]⟩⟩
def expK (d : Nd) (nm : ByteArray) (cs : List ByteArray) (rep : ByteArray) (ks : List Kid) : Bool := expB d nm cs rep (ndOf ks) (kidsOf ks).length
def AllAt (w : World) (ks : List Kid) : Prop := ∀ x, x ∈ ks → ElAt w x.1 x.2.1 x.2.2
theorem AllAt.keptC {w w' : World} {ks : List Kid} (h : AllAt w ks) (hc : Chg [] w w') : AllAt w' ks := fun x hx => (h x hx).keptC hc
theorem AllAt.kidsAt {w : World} {ks : List Kid} (h : AllAt w ks) : KidsAt w (kidsOf ks) (ndOf ks) (fun i => ((ks[i]?).map (·.2.2)).getD []) := by
  intro i k hi
  simp only [kidsOf, List.getElem?_map, Option.map_eq_some_iff] at hi
  obtain ⟨x, hx, rfl⟩ := hi
  have := h x (List.mem_of_getElem? hx)
  simpa [ndOf, hx] using this

theorem expect_ks (F : Interp) (nm rep : ByteArray) (cs : List ByteArray) (cb cc b : Nat) (d : Nd) (ks : List Kid) (w : World) (hF : F.answers w.tape) (h : ElAt w b d (kidsOf ks)) (hks : AllAt w ks)
    (hk : (kidsOf ks).length ≤ 4096) (hcs : ∀ j x, cs[j]? = some x → w.cell? ⟨cb, 0 + j, none⟩ = some (.string x)) (hne : ∀ (j : Nat) (x : ByteArray), cs[j]? = some x → (x.toList == []) = false) (hcl : 0 < cs.length) (hcl' : cs.length ≤ 4) (hbk : cb < w.heap.size)
    (hj : (Lib.join (cs.map (·.data.toList)) [44, 32]).length ≤ 140737488355328) (hrep : rep.size ≤ 1024) (hcc : cs.length ≤ cc) :
    Calls Ybaf.prog 11 #[.pointer (some ⟨b, 0, none⟩), .string nm, .slice (some ⟨cb, 0, none⟩) cs.length cc, .string rep] w fun e w' => ∃ v1 v2, e = .returned (.tuple #[v1, v2]) ∧
      ExpV w w' (expK d nm cs rep ks) (kidsOf ks) v1 v2 ∧ Chg [] w w' := by
  cases hn : isB d nm
  · have e : expK d nm cs rep ks = false := by rw [expK, expB, hn, Bool.false_and]
    rw [e]
    exact expect_name F nm rep cs _ b d (kidsOf ks) w hF h hn
  · have e : expK d nm cs rep ks = ((List.range (kidsOf ks).length).all (okAt cs rep (ndOf ks)) && decide (cs.length ≤ (kidsOf ks).length)) := by rw [expK, expB, hn, Bool.true_and]
    rw [e]
    exact expect_rest F nm rep cs cb b d (kidsOf ks) (ndOf ks) _ w hF h hn hk hks.kidsAt hcs hne hcl hcl' hbk hj hrep cc hcc

end Go.Proofs.YbulkcvhiFmt
