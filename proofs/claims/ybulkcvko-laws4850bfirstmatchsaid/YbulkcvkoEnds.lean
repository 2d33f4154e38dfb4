/-
  Seat b4850a: the walk of 'LawS4850BFirstMatch' at no description and at too many.
-/
import Derived.Test.YbulkcvkoLaw
namespace Go.Proofs.Ybulkcvko
open Go.RowKit
set_option linter.unusedVariables false

set_option maxHeartbeats 6400000 in
theorem law_zero (a0 : Option Addr) (n cap : Nat) (sps : Nat → Sp) (m p : ByteArray) (w : World) (h0 : n = 0) :
    Calls Yba.prog 3 #[.slice a0 n cap, .string m, .string p] w fun x w' => x = .returned (.bool true) ∧ Below w.heap.size w w' := by
  have h1 : n ≤ 1024 := by omega
  have hno : ∀ j, j < n → ansB (sps j) = true → (m.toList == (sps j).meth.toList) = false := fun j hj => by omega
  have hgt : ¬ (1024 < (n : Int)) := by omega
  have hmk := mk24 n h1
  obtain ⟨i0, hi, hz0, hz1, hz2⟩ := info_parts info28
  have HNO : Hid (∀ j, j < n → ansB (sps j) = true → (m.toList == (sps j).meth.toList) = false) := hno
  clear hno
  have HN : Hid (n = 0) := h0
  clear h0
  go_enter Yba.func3, Yba.ntmps3
  go_wp2
  go_loopw [8, 9] (fun t i wr => ∃ (k : Nat) (e : Nat → Nat), k ≤ n ∧ i = .int .i64 k ∧ t = .slice (some ⟨w.heap.size + 1, 0, none⟩) k n ∧ Lay w wr n k e sps) (fun _ i _ => n - (intOf i).toNat)
  case atStart => exact ⟨0, fun _ => 0, Nat.zero_le _, rfl, rfl, lay_start n h1 sps w⟩
  case round =>
    obtain ⟨k, e, hk, rfl, rfl, hY⟩ := hrel
    by_cases hlt : k < n
    · have := HN.out; omega
    · obtain rfl : k = n := by omega
      have RP := reply_none m p w.heap.size (w.heap.size + 1) k k e sps wr h1 hY.toxics hY.log hY.free HNO.out
      have HCW : Hid (Chg [] w wr) := hY.chg
      clear hY hmk
      go_wp2_with fail
      refine RP.mono ?_
      rintro x w5 ⟨rfl, hL5⟩
      have H5 : Hid (LogAt wr w5 w.heap.size (callsTo sps k)) := hL5
      clear hL5 RP
      go_wp2
      obtain ⟨w6, hw6⟩ : ∃ w6, w6 = w5.alloc (.cells #[.int .i64 0, .string ⟨#[]⟩] 48) := ⟨_, rfl⟩
      have L6 : LogAt wr w6 w.heap.size (callsTo sps k) := by rw [hw6]; exact H5.out.alloc _
      have C6 : Chg [] w w6 := by
        obtain ⟨_, _, _, _, h, _⟩ := L6
        exact ((HCW.out.mono (l' := [w.heap.size]) (by simp)).trans h).mono (by simp)
      have B6 : w6.heap[w5.heap.size]? = some (.cells #[.int .i64 0, .string ⟨#[]⟩] 48 (0, 0)) := by rw [hw6]; exact heap_alloc_new _ _
      rw [← hw6]
      obtain ⟨wo, rfl⟩ : ∃ wo : World, wo = wr := ⟨_, rfl⟩
      have H6 : Hid (LogAt wo w6 w.heap.size (callsTo sps k)) := L6
      have HC6 : Hid (Chg [] w w6) := C6
      have HB6 : Hid (w6.heap[w5.heap.size]? = some (.cells #[.int .i64 0, .string ⟨#[]⟩] 48 (0, 0))) := B6
      clear hw6 L6 C6 B6 H5 HCW
      obtain ⟨i3, hi3, hz30, hz31, hz32⟩ := info_parts info3
      go_loopw [18, 19, 20] (fun wt cl i wq => ∃ (j : Nat) (a : Option Addr) (c : Nat), j ≤ k ∧ i = .int .i64 j ∧ wt = .int .i64 (-1) ∧ cl = .slice a (callsTo sps j).length c ∧ wq.ownsRow w6.heap.size 3 1 (.slice a (callsTo sps j).length c) (callsTo sps j).length (ints (callsTo sps j)) ∧ Chg [] w6 wq) (fun _ _ i _ => k - (intOf i).toNat)
      case atStart => exact ⟨0, none, 0, Nat.zero_le _, rfl, rfl, rfl, World.ownsRow_nil _ _ _ _, Chg.refl _ _⟩
      case round =>
        obtain ⟨j, a, c, hj, rfl, rfl, rfl, hO, hQ⟩ := hrel
        have hlen := callsTo_length sps j
        by_cases hlj : j < k
        · have := HN.out; omega
        · obtain rfl : j = k := by omega
          obtain ⟨a2, c2, hv2, hcells⟩ := log_shape hO
          obtain ⟨rfl, rfl⟩ : a = a2 ∧ c = c2 := by injection hv2 with h1 h2 h3; exact ⟨h1, h3⟩
          have hl0 : (callsTo sps j).length = 0 := by have := callsTo_length sps j; have := HN.out; omega
          have hpos0 : ¬ 0 < (callsTo sps j).length := by omega
          clear hl0
          · have hcW := hQ
            have LW := H6.out.keptNew hcW
            obtain ⟨vl, kl1, _, kl3, _, _⟩ := LW
            obtain ⟨al, cl, hvl, hcl⟩ := log_shape kl3
            rw [hvl] at kl1
            have hwW : Chg [] w wr := HC6.out.trans hcW
            have hrb : wr.heap[w5.heap.size]? = some (.cells #[.int .i64 0, .string ⟨#[]⟩] 48 (0, 0)) := (hcW.block w5.heap.size (Array.getElem?_eq_some_iff.1 HB6.out).1 (by simp)).trans HB6.out
            have rb0 := blk_cell hrb 0
            have rb1 := blk_cell hrb 1
            have HBW : Hid (∀ q, Below w.heap.size w (wr.drewN q)) := fun q => (hwW.drewN q).below (Nat.le_refl _) (by simp)
            have hLk : (callsTo sps j).length ≤ 1024 := by have := callsTo_length sps j; omega
            generalize (callsTo sps j) = L at *
            clear hcW hwW hvl kl3 hcl hrb hcells
            go_wp2
            go_loopw [22] (fun i wq => ∃ i' q : Nat, i' ≤ L.length ∧ i = .int .i64 i' ∧ wq = wr.drewN q) (fun i _ => L.length - (intOf i).toNat)
            case atStart => exact ⟨0, 0, Nat.zero_le _, rfl, rfl⟩
            case round =>
              obtain ⟨i', q, hi', rfl, rfl⟩ := hrel
              by_cases hli : i' < L.length
              · omega
              · obtain rfl : i' = L.length := by omega
                go_wp2
                go_wp2
                go_ret
                exact ⟨by simp, HBW.out _⟩


theorem law_big (a0 : Option Addr) (n cap : Nat) (m p : ByteArray) (w : World) (h0 : 1024 < n) (h1 : n ≤ 9223372036854775807) :
    Calls Yba.prog 3 #[.slice a0 n cap, .string m, .string p] w fun x w' => x = .returned (.bool true) ∧ Below w.heap.size w w' := by
  have hgt : (1024 : Int) < (n : Int) := by omega
  go_enter Yba.func3, Yba.ntmps3
  go_wp2
  go_ret
  exact ⟨by simp, Below.refl _ _⟩

/-- The first description that answers by the method; or none does. -/
theorem first_or_none (p : Nat → Bool) (n : Nat) : (∃ mi, mi < n ∧ p mi = true ∧ ∀ j, j < mi → p j = false) ∨ ∀ j, j < n → p j = false := by
  induction n with
  | zero => exact .inr fun j hj => by omega
  | succ n ih =>
    rcases ih with ⟨mi, h1, h2, h3⟩ | h
    · exact .inl ⟨mi, by omega, h2, h3⟩
    · cases hp : p n
      · refine .inr fun j hj => ?_
        by_cases hjn : j = n
        · rw [hjn, hp]
        · exact h j (by omega)
      · exact .inl ⟨n, by omega, hp, h⟩

end Go.Proofs.Ybulkcvko
