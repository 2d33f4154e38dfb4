/-
  Seat b4843aF: the plain scan, the map that the law fills, and the walk of 'LawS4843ALookup'.
-/
import Derived.Test.YbulkcvguFmtCalls
namespace Go.Proofs.YbulkcvguFmt
open Go.RowKit Go.Extern.Stop Go.Stop Go.Extern Go.Maps Go.WideMaps
set_option linter.unusedVariables false

/-- The map after the first k keys. -/
def mapTo (ks : Nat → ByteArray) (vl : Nat → Int) : Nat → DataW Unit
  | 0 => .map []
  | k + 1 => (mapTo ks vl k).put (.string (ks k).data.toList) (.lit (.int .i64 (vl k)))

/-- The plain scan after the first k keys: was the key met, and the value beside its last place. -/
def fndTo (ks : Nat → ByteArray) (q : ByteArray) : Nat → Bool
  | 0 => false
  | k + 1 => ((ks k).toList == q.toList) || fndTo ks q k
def wantTo (ks : Nat → ByteArray) (vl : Nat → Int) (q : ByteArray) : Nat → Int
  | 0 => 0
  | k + 1 => if (ks k).toList == q.toList then vl k else wantTo ks vl q k

theorem mapTo_isMap (ks : Nat → ByteArray) (vl : Nat → Int) (k : Nat) : IsMap (mapTo ks vl k) := by
  induction k with
  | zero => exact isMap_empty
  | succ k ih => exact ih.put _ _

theorem scan_has (ks : Nat → ByteArray) (vl : Nat → Int) (q : ByteArray) (k : Nat) :
    Maps.has (mapTo ks vl k) (.string q.data.toList) = fndTo ks q k ∧
    (mapTo ks vl k).atKey (.string q.data.toList) (.lit (.int .i64 0)) = .lit (.int .i64 (wantTo ks vl q k)) := by
  induction k with
  | zero => exact ⟨rfl, rfl⟩
  | succ k ih =>
    by_cases h : (ks k).toList = q.toList
    · have h' : (ks k).data.toList = q.data.toList := by rw [← ByteArray.toList_eq, ← ByteArray.toList_eq, h]
      simp only [fndTo, wantTo, h, beq_self_eq_true, Bool.true_or, if_true]
      refine ⟨?_, ?_⟩
      · rw [mapTo, h']; exact has_put_same (mapTo_isMap ks vl k) (by simp [WideAt.IsKeyLit]) _
      · rw [mapTo, h']; exact atKey_put_same (mapTo_isMap ks vl k) (by simp [WideAt.IsKeyLit]) _ _
    · have hb : ((ks k).toList == q.toList) = false := by simp [h]
      have hne : (Lit.string q.data.toList) ≠ .string (ks k).data.toList := by
        intro hh
        injection hh with hh
        exact h (by rw [ByteArray.toList_eq, ByteArray.toList_eq, hh])
      simp only [fndTo, wantTo, hb, Bool.false_or]
      rw [mapTo, has_put_other hne, atKey_put_other hne]
      exact ih

theorem makeHint (n : Int) (w : World) : (Instr.makeMap 24 (some (.int .i64 n))).run Ybaf.prog w = .ok (.map (some w.heap.size)) (w.alloc (.map #[] 0)) := by kernel_rfl

/-- 'err.(*refusal)' of the one type of error that 'registered' makes. -/
theorem as29 (v : Value) (w : World) : (Instr.typeAssert (.iface 29 v) 26 29 true).run Ybaf.prog w = .ok (.tuple #[v, .bool true]) w := by kernel_rfl

set_option maxRecDepth 100000 in
set_option maxHeartbeats 1600000 in
theorem law_none_id (F : Interp) (kb ko nk kc : Nat) (va : Option Addr) (vc : Nat) (q : ByteArray) (pk : Int) (ks : Nat → ByteArray) (vl : Nat → Int) (w : World) (hF : F.answers w.tape)
    (hk0 : 0 < nk) (hk1 : nk ≤ 1024) (hp0 : 0 ≤ pk) (hp1 : pk ≤ 255) (hkb : kb < w.heap.size)
    (hkc : ∀ j, j < nk → w.cell? ⟨kb, ko + j, none⟩ = some (.string (ks j))) (hks : ∀ j, j < nk → (ks j).size ≤ maxLen) (hq : q.size ≤ maxLen)
    (hvj : ∀ j, vl j = (j : Int))
    (hvw : ∀ j, j < nk → (Lit.int .i64 (vl j)).wf = true) :
    Calls Ybaf.prog 3 #[.slice (some ⟨kb, ko, none⟩) nk kc, .slice va 0 vc, .string q, .bool false, .int .u8 pk] w fun e w' => e = .returned (.bool true) ∧ Below w.heap.size w w' := by
  have HK : Hid (∀ j, j < nk → w.cell? ⟨kb, ko + j, none⟩ = some (.string (ks j))) := hkc
  clear hkc
  have hmm := makeHint
  have hta := as29
  have hgt : ¬ (1024 < (nk : Int)) := by omega
  have hk0' : (0 : Int) < (nk : Int) := by omega
  go_enter Ybaf.func3, Ybaf.ntmps3
  go_wp2
  go_loopw [48] (fun i wr => ∃ k : Nat, k ≤ nk ∧ i = .int .i64 k ∧ wr.ownsMap Ybaf.prog 9 (plainElem Ybaf.prog 3) w.heap.size k (mapTo ks vl k) ∧ Below w.heap.size w wr)
    (fun i _ => nk - (intOf i).toNat)
  case atStart => exact ⟨0, Nat.zero_le _, rfl, World.ownsMap_made _ _ _ _, (Below.refl _ _).alloc (Nat.le_refl _) _⟩
  case round =>
    obtain ⟨k, hk, rfl, hown, hnx⟩ := hrel
    by_cases hlt : k < nk
    · obtain ⟨s, hs⟩ : ∃ s, s = ks k := ⟨_, rfl⟩
      have hcx : wr.cell? ⟨kb, ko + k, none⟩ = some (.string s) := by rw [hs]; exact (hnx.cell (by exact hkb)).trans (HK.out k hlt)
      have hkey : keyOf Ybaf.prog 9 (.string s) = some (.string (ks k).data.toList) := by rw [hs]; exact keyOf_string_mk Ybaf.underlying9 (hks k hlt)
      have hpe : plainElem (H := Unit) Ybaf.prog 3 (.int .i64 (k : Int)) = some (.lit (.int .i64 (vl k)), []) := by rw [← hvj k]; exact plainElem_int Ybaf.underlying3 (hvw k hlt)
      clear hs hvj
      go_wp2_with (first
        | (at_mapUpdate; refine wpList_mapUpdate_own _ rfl _ _ _ 24 rfl 9 3 law9 Ybaf.underlying24 _ w.heap.size k _ rfl hown (by unfold maxLen; omega) _ _ _ rfl rfl hkey _ [] hpe ?_)
        | go_in)
      intro w1 hown1 hgrow1
      have R1 : w1.ownsMap Ybaf.prog 9 (plainElem Ybaf.prog 3) w.heap.size (k + 1) (mapTo ks vl (k + 1)) := hown1
      have R2 := hnx.grown hgrow1 hnx.size (fun j hj => by cases hj; exact Nat.le_refl _)
      clear hown1 hgrow1 hown hcx
      go_wp2
      go_roundw
      case rel => exact ⟨k + 1, by omega, by go_num, R1, R2⟩
      case measure => simp [intOf]; omega
    · obtain rfl : k = nk := by omega
      go_wp2_with (first
        | (at_len; refine wpList_len_own _ rfl _ 24 rfl 9 3 Ybaf.underlying24 _ w.heap.size k _ rfl hown ?_))
      go_loop [17, 18, 72] (fun f x i => ∃ j : Nat, j ≤ k ∧ i = .int .i64 j ∧ f = .bool (fndTo ks q j) ∧ x = .int .i64 (wantTo ks vl q j)) (fun _ _ i => k - (intOf i).toNat)
      case atStart => exact ⟨0, Nat.zero_le _, rfl, rfl, rfl⟩
      case round =>
        obtain ⟨j, hj, rfl, rfl, rfl⟩ := hrel
        by_cases hlj : j < k
        · have hcx : wr.cell? ⟨kb, ko + j, none⟩ = some (.string (ks j)) := (hnx.cell (by exact hkb)).trans (HK.out j hlj)
          cases heq : (ks j).toList == q.toList
          · have HF : Hid (fndTo ks q (j + 1) = fndTo ks q j) := by simp [Hid, fndTo, heq]
            have HW : Hid (wantTo ks vl q (j + 1) = wantTo ks vl q j) := by simp [Hid, wantTo, heq]
            go_wp2
            go_round
            case rel => exact ⟨j + 1, by omega, by go_num, by rw [HF.out], by rw [HW.out]⟩
            case measure => simp [intOf]; omega
          · have HF : Hid (fndTo ks q (j + 1) = true) := by simp [Hid, fndTo, heq]
            have HW : Hid (wantTo ks vl q (j + 1) = j) := by simp [Hid, wantTo, heq, hvj]
            clear hvj
            go_wp2
            go_round
            case rel => exact ⟨j + 1, by omega, by go_num, by rw [HF.out], by rw [HW.out]⟩
            case measure => simp [intOf]; omega
        · obtain rfl : j = k := by omega
          obtain ⟨hh, ha⟩ := scan_has ks vl q j
          have hFr : F.answers wr.tape := by rw [hnx.tape]; exact hF
          cases hf : fndTo ks q j
          · rw [hf] at hh
            go_wp2_with (first
              | (go_at_call 4; refine (registered_miss F q hq _ j _ _ (by exact hFr) hown hh).mono ?_; rintro e w' ⟨t, rfl, rfl⟩)
              | (at_len; refine wpList_len_own _ rfl _ 24 rfl 9 3 Ybaf.underlying24 _ w.heap.size j _ rfl ((hown.alloc _).alloc _).drew ?_))
            go_ret
            exact ⟨rfl, ((hnx.alloc hnx.size _).alloc (by simp; have := hnx.size; omega) _).drew⟩
          · rw [hf] at hh
            go_wp2_with (first
              | (go_at_call 4; refine (registered_hit q hq _ j _ _ hown hh).mono ?_; rintro e w' ⟨c, rfl, hat, rfl⟩; obtain rfl : c = wantTo ks vl q j := (by rw [ha] at hat; simpa using hat.symm))
              | (at_len; refine wpList_len_own _ rfl _ 24 rfl 9 3 Ybaf.underlying24 _ w.heap.size j _ rfl hown ?_))
            go_ret
            exact ⟨by simp, hnx⟩

set_option maxRecDepth 100000 in
set_option maxHeartbeats 1600000 in
theorem law_none_key (F : Interp) (kb ko nk kc : Nat) (va : Option Addr) (vc : Nat) (id q : ByteArray) (pk : Int) (ks : Nat → ByteArray) (vl : Nat → Int) (w : World) (hF : F.answers w.tape)
    (hk0 : 0 < nk) (hk1 : nk ≤ 1024) (hp0 : 0 ≤ pk) (hp1 : pk ≤ 255) (hkb : kb < w.heap.size)
    (hkc : ∀ j, j < nk → w.cell? ⟨kb, ko + j, none⟩ = some (.string (ks j))) (hks : ∀ j, j < nk → (ks j).size ≤ maxLen) (hq : q.size ≤ maxLen)
    (hqc : w.cell? ⟨kb, ko + (pk % (nk : Int)).toNat, none⟩ = some (.string q))
    (hvj : ∀ j, vl j = (j : Int))
    (hvw : ∀ j, j < nk → (Lit.int .i64 (vl j)).wf = true) :
    Calls Ybaf.prog 3 #[.slice (some ⟨kb, ko, none⟩) nk kc, .slice va 0 vc, .string id, .bool true, .int .u8 pk] w fun e w' => e = .returned (.bool true) ∧ Below w.heap.size w w' := by
  have HK : Hid (∀ j, j < nk → w.cell? ⟨kb, ko + j, none⟩ = some (.string (ks j))) := hkc
  clear hkc
  have hmm := makeHint
  have hta := as29
  have hgt : ¬ (1024 < (nk : Int)) := by omega
  have hk0' : (0 : Int) < (nk : Int) := by omega
  have hm0 : 0 ≤ pk % (nk : Int) := Int.emod_nonneg _ (by omega)
  have hm1 : pk % (nk : Int) < (nk : Int) := Int.emod_lt_of_pos _ hk0'
  go_enter Ybaf.func3, Ybaf.ntmps3
  go_wp2
  clear hm0 hm1
  go_loopw [48] (fun i wr => ∃ k : Nat, k ≤ nk ∧ i = .int .i64 k ∧ wr.ownsMap Ybaf.prog 9 (plainElem Ybaf.prog 3) w.heap.size k (mapTo ks vl k) ∧ Below w.heap.size w wr)
    (fun i _ => nk - (intOf i).toNat)
  case atStart => exact ⟨0, Nat.zero_le _, rfl, World.ownsMap_made _ _ _ _, (Below.refl _ _).alloc (Nat.le_refl _) _⟩
  case round =>
    obtain ⟨k, hk, rfl, hown, hnx⟩ := hrel
    by_cases hlt : k < nk
    · obtain ⟨s, hs⟩ : ∃ s, s = ks k := ⟨_, rfl⟩
      have hcx : wr.cell? ⟨kb, ko + k, none⟩ = some (.string s) := by rw [hs]; exact (hnx.cell (by exact hkb)).trans (HK.out k hlt)
      have hkey : keyOf Ybaf.prog 9 (.string s) = some (.string (ks k).data.toList) := by rw [hs]; exact keyOf_string_mk Ybaf.underlying9 (hks k hlt)
      have hpe : plainElem (H := Unit) Ybaf.prog 3 (.int .i64 (k : Int)) = some (.lit (.int .i64 (vl k)), []) := by rw [← hvj k]; exact plainElem_int Ybaf.underlying3 (hvw k hlt)
      clear hs hvj
      go_wp2_with (first
        | (at_mapUpdate; refine wpList_mapUpdate_own _ rfl _ _ _ 24 rfl 9 3 law9 Ybaf.underlying24 _ w.heap.size k _ rfl hown (by unfold maxLen; omega) _ _ _ rfl rfl hkey _ [] hpe ?_)
        | go_in)
      intro w1 hown1 hgrow1
      have R1 : w1.ownsMap Ybaf.prog 9 (plainElem Ybaf.prog 3) w.heap.size (k + 1) (mapTo ks vl (k + 1)) := hown1
      have R2 := hnx.grown hgrow1 hnx.size (fun j hj => by cases hj; exact Nat.le_refl _)
      clear hown1 hgrow1 hown hcx
      go_wp2
      go_roundw
      case rel => exact ⟨k + 1, by omega, by go_num, R1, R2⟩
      case measure => simp [intOf]; omega
    · obtain rfl : k = nk := by omega
      go_wp2_with (first
        | (at_len; refine wpList_len_own _ rfl _ 24 rfl 9 3 Ybaf.underlying24 _ w.heap.size k _ rfl hown ?_))
      go_loop [17, 18, 72] (fun f x i => ∃ j : Nat, j ≤ k ∧ i = .int .i64 j ∧ f = .bool (fndTo ks q j) ∧ x = .int .i64 (wantTo ks vl q j)) (fun _ _ i => k - (intOf i).toNat)
      case atStart => exact ⟨0, Nat.zero_le _, rfl, rfl, rfl⟩
      case round =>
        obtain ⟨j, hj, rfl, rfl, rfl⟩ := hrel
        by_cases hlj : j < k
        · have hcx : wr.cell? ⟨kb, ko + j, none⟩ = some (.string (ks j)) := (hnx.cell (by exact hkb)).trans (HK.out j hlj)
          cases heq : (ks j).toList == q.toList
          · have HF : Hid (fndTo ks q (j + 1) = fndTo ks q j) := by simp [Hid, fndTo, heq]
            have HW : Hid (wantTo ks vl q (j + 1) = wantTo ks vl q j) := by simp [Hid, wantTo, heq]
            go_wp2
            go_round
            case rel => exact ⟨j + 1, by omega, by go_num, by rw [HF.out], by rw [HW.out]⟩
            case measure => simp [intOf]; omega
          · have HF : Hid (fndTo ks q (j + 1) = true) := by simp [Hid, fndTo, heq]
            have HW : Hid (wantTo ks vl q (j + 1) = j) := by simp [Hid, wantTo, heq, hvj]
            clear hvj
            go_wp2
            go_round
            case rel => exact ⟨j + 1, by omega, by go_num, by rw [HF.out], by rw [HW.out]⟩
            case measure => simp [intOf]; omega
        · obtain rfl : j = k := by omega
          obtain ⟨hh, ha⟩ := scan_has ks vl q j
          have hFr : F.answers wr.tape := by rw [hnx.tape]; exact hF
          cases hf : fndTo ks q j
          · rw [hf] at hh
            go_wp2_with (first
              | (go_at_call 4; refine (registered_miss F q hq _ j _ _ (by exact hFr) hown hh).mono ?_; rintro e w' ⟨t, rfl, rfl⟩)
              | (at_len; refine wpList_len_own _ rfl _ 24 rfl 9 3 Ybaf.underlying24 _ w.heap.size j _ rfl ((hown.alloc _).alloc _).drew ?_))
            go_ret
            exact ⟨rfl, ((hnx.alloc hnx.size _).alloc (by simp; have := hnx.size; omega) _).drew⟩
          · rw [hf] at hh
            go_wp2_with (first
              | (go_at_call 4; refine (registered_hit q hq _ j _ _ hown hh).mono ?_; rintro e w' ⟨c, rfl, hat, rfl⟩; obtain rfl : c = wantTo ks vl q j := (by rw [ha] at hat; simpa using hat.symm))
              | (at_len; refine wpList_len_own _ rfl _ 24 rfl 9 3 Ybaf.underlying24 _ w.heap.size j _ rfl hown ?_))
            go_ret
            exact ⟨by simp, hnx⟩

set_option maxRecDepth 100000 in
set_option maxHeartbeats 1600000 in
theorem law_vals_id (F : Interp) (kb ko nk kc : Nat) (vb vo nv : Nat) (vc : Nat) (q : ByteArray) (pk : Int) (ks : Nat → ByteArray) (vl : Nat → Int) (w : World) (hF : F.answers w.tape)
    (hk0 : 0 < nk) (hk1 : nk ≤ 1024) (hp0 : 0 ≤ pk) (hp1 : pk ≤ 255) (hkb : kb < w.heap.size) (hnv : nv ≤ 9223372036854775807) (hv0 : 0 < nv) (hvb : vb < w.heap.size)
    (hkc : ∀ j, j < nk → w.cell? ⟨kb, ko + j, none⟩ = some (.string (ks j))) (hks : ∀ j, j < nk → (ks j).size ≤ maxLen) (hq : q.size ≤ maxLen)
    (hvc : ∀ j : Nat, j < nk → w.cell? ⟨vb, vo + j % nv, none⟩ = some (.int .i64 (vl j)))
    (hvw : ∀ j, j < nk → (Lit.int .i64 (vl j)).wf = true) :
    Calls Ybaf.prog 3 #[.slice (some ⟨kb, ko, none⟩) nk kc, .slice (some ⟨vb, vo, none⟩) nv vc, .string q, .bool false, .int .u8 pk] w fun e w' => e = .returned (.bool true) ∧ Below w.heap.size w w' := by
  have HK : Hid (∀ j, j < nk → w.cell? ⟨kb, ko + j, none⟩ = some (.string (ks j))) := hkc
  clear hkc
  have hmm := makeHint
  have hta := as29
  have hgt : ¬ (1024 < (nk : Int)) := by omega
  have hk0' : (0 : Int) < (nk : Int) := by omega
  have hv0' : (0 : Int) < (nv : Int) := by omega
  have HC : Hid (∀ j : Nat, j < nk → w.cell? ⟨vb, vo + j % nv, none⟩ = some (.int .i64 (vl j))) := hvc
  clear hvc
  go_enter Ybaf.func3, Ybaf.ntmps3
  go_wp2
  go_loopw [48] (fun i wr => ∃ k : Nat, k ≤ nk ∧ i = .int .i64 k ∧ wr.ownsMap Ybaf.prog 9 (plainElem Ybaf.prog 3) w.heap.size k (mapTo ks vl k) ∧ Below w.heap.size w wr)
    (fun i _ => nk - (intOf i).toNat)
  case atStart => exact ⟨0, Nat.zero_le _, rfl, World.ownsMap_made _ _ _ _, (Below.refl _ _).alloc (Nat.le_refl _) _⟩
  case round =>
    obtain ⟨k, hk, rfl, hown, hnx⟩ := hrel
    by_cases hlt : k < nk
    · obtain ⟨s, hs⟩ : ∃ s, s = ks k := ⟨_, rfl⟩
      have hcx : wr.cell? ⟨kb, ko + k, none⟩ = some (.string s) := by rw [hs]; exact (hnx.cell (by exact hkb)).trans (HK.out k hlt)
      have hkey : keyOf Ybaf.prog 9 (.string s) = some (.string (ks k).data.toList) := by rw [hs]; exact keyOf_string_mk Ybaf.underlying9 (hks k hlt)
      have hcv : wr.cell? ⟨vb, vo + k % nv, none⟩ = some (.int .i64 (vl k)) := (hnx.cell (by exact hvb)).trans (HC.out k hlt)
      have hm0 : 0 ≤ (k : Int) % (nv : Int) := Int.emod_nonneg _ (by omega)
      have hm1 : (k : Int) % (nv : Int) < (nv : Int) := Int.emod_lt_of_pos _ hv0'
      have hpe : plainElem (H := Unit) Ybaf.prog 3 (.int .i64 (vl k)) = some (.lit (.int .i64 (vl k)), []) := plainElem_int Ybaf.underlying3 (hvw k hlt)
      clear hs
      go_wp2_with (first
        | (at_mapUpdate; refine wpList_mapUpdate_own _ rfl _ _ _ 24 rfl 9 3 law9 Ybaf.underlying24 _ w.heap.size k _ rfl hown (by unfold maxLen; omega) _ _ _ rfl rfl hkey _ [] hpe ?_)
        | go_in)
      intro w1 hown1 hgrow1
      have R1 : w1.ownsMap Ybaf.prog 9 (plainElem Ybaf.prog 3) w.heap.size (k + 1) (mapTo ks vl (k + 1)) := hown1
      have R2 := hnx.grown hgrow1 hnx.size (fun j hj => by cases hj; exact Nat.le_refl _)
      clear hown1 hgrow1 hown hcx
      go_wp2
      go_roundw
      case rel => exact ⟨k + 1, by omega, by go_num, R1, R2⟩
      case measure => simp [intOf]; omega
    · obtain rfl : k = nk := by omega
      go_wp2_with (first
        | (at_len; refine wpList_len_own _ rfl _ 24 rfl 9 3 Ybaf.underlying24 _ w.heap.size k _ rfl hown ?_))
      go_loop [17, 18, 72] (fun f x i => ∃ j : Nat, j ≤ k ∧ i = .int .i64 j ∧ f = .bool (fndTo ks q j) ∧ x = .int .i64 (wantTo ks vl q j)) (fun _ _ i => k - (intOf i).toNat)
      case atStart => exact ⟨0, Nat.zero_le _, rfl, rfl, rfl⟩
      case round =>
        obtain ⟨j, hj, rfl, rfl, rfl⟩ := hrel
        by_cases hlj : j < k
        · have hcx : wr.cell? ⟨kb, ko + j, none⟩ = some (.string (ks j)) := (hnx.cell (by exact hkb)).trans (HK.out j hlj)
          have hcv : wr.cell? ⟨vb, vo + j % nv, none⟩ = some (.int .i64 (vl j)) := (hnx.cell (by exact hvb)).trans (HC.out j hlj)
          have hm0 : 0 ≤ (j : Int) % (nv : Int) := Int.emod_nonneg _ (by omega)
          have hm1 : (j : Int) % (nv : Int) < (nv : Int) := Int.emod_lt_of_pos _ hv0'
          cases heq : (ks j).toList == q.toList
          · have HF : Hid (fndTo ks q (j + 1) = fndTo ks q j) := by simp [Hid, fndTo, heq]
            have HW : Hid (wantTo ks vl q (j + 1) = wantTo ks vl q j) := by simp [Hid, wantTo, heq]
            go_wp2
            go_round
            case rel => exact ⟨j + 1, by omega, by go_num, by rw [HF.out], by rw [HW.out]⟩
            case measure => simp [intOf]; omega
          · have HF : Hid (fndTo ks q (j + 1) = true) := by simp [Hid, fndTo, heq]
            have HW : Hid (wantTo ks vl q (j + 1) = vl j) := by simp [Hid, wantTo, heq]
            go_wp2
            go_round
            case rel => exact ⟨j + 1, by omega, by go_num, by rw [HF.out], by rw [HW.out]⟩
            case measure => simp [intOf]; omega
        · obtain rfl : j = k := by omega
          obtain ⟨hh, ha⟩ := scan_has ks vl q j
          have hFr : F.answers wr.tape := by rw [hnx.tape]; exact hF
          cases hf : fndTo ks q j
          · rw [hf] at hh
            go_wp2_with (first
              | (go_at_call 4; refine (registered_miss F q hq _ j _ _ (by exact hFr) hown hh).mono ?_; rintro e w' ⟨t, rfl, rfl⟩)
              | (at_len; refine wpList_len_own _ rfl _ 24 rfl 9 3 Ybaf.underlying24 _ w.heap.size j _ rfl ((hown.alloc _).alloc _).drew ?_))
            go_ret
            exact ⟨rfl, ((hnx.alloc hnx.size _).alloc (by simp; have := hnx.size; omega) _).drew⟩
          · rw [hf] at hh
            go_wp2_with (first
              | (go_at_call 4; refine (registered_hit q hq _ j _ _ hown hh).mono ?_; rintro e w' ⟨c, rfl, hat, rfl⟩; obtain rfl : c = wantTo ks vl q j := (by rw [ha] at hat; simpa using hat.symm))
              | (at_len; refine wpList_len_own _ rfl _ 24 rfl 9 3 Ybaf.underlying24 _ w.heap.size j _ rfl hown ?_))
            go_ret
            exact ⟨by simp, hnx⟩

set_option maxRecDepth 100000 in
set_option maxHeartbeats 1600000 in
theorem law_vals_key (F : Interp) (kb ko nk kc : Nat) (vb vo nv : Nat) (vc : Nat) (id q : ByteArray) (pk : Int) (ks : Nat → ByteArray) (vl : Nat → Int) (w : World) (hF : F.answers w.tape)
    (hk0 : 0 < nk) (hk1 : nk ≤ 1024) (hp0 : 0 ≤ pk) (hp1 : pk ≤ 255) (hkb : kb < w.heap.size) (hnv : nv ≤ 9223372036854775807) (hv0 : 0 < nv) (hvb : vb < w.heap.size)
    (hkc : ∀ j, j < nk → w.cell? ⟨kb, ko + j, none⟩ = some (.string (ks j))) (hks : ∀ j, j < nk → (ks j).size ≤ maxLen) (hq : q.size ≤ maxLen)
    (hqc : w.cell? ⟨kb, ko + (pk % (nk : Int)).toNat, none⟩ = some (.string q))
    (hvc : ∀ j : Nat, j < nk → w.cell? ⟨vb, vo + j % nv, none⟩ = some (.int .i64 (vl j)))
    (hvw : ∀ j, j < nk → (Lit.int .i64 (vl j)).wf = true) :
    Calls Ybaf.prog 3 #[.slice (some ⟨kb, ko, none⟩) nk kc, .slice (some ⟨vb, vo, none⟩) nv vc, .string id, .bool true, .int .u8 pk] w fun e w' => e = .returned (.bool true) ∧ Below w.heap.size w w' := by
  have HK : Hid (∀ j, j < nk → w.cell? ⟨kb, ko + j, none⟩ = some (.string (ks j))) := hkc
  clear hkc
  have hmm := makeHint
  have hta := as29
  have hgt : ¬ (1024 < (nk : Int)) := by omega
  have hk0' : (0 : Int) < (nk : Int) := by omega
  have hm0 : 0 ≤ pk % (nk : Int) := Int.emod_nonneg _ (by omega)
  have hm1 : pk % (nk : Int) < (nk : Int) := Int.emod_lt_of_pos _ hk0'
  have hv0' : (0 : Int) < (nv : Int) := by omega
  have HC : Hid (∀ j : Nat, j < nk → w.cell? ⟨vb, vo + j % nv, none⟩ = some (.int .i64 (vl j))) := hvc
  clear hvc
  go_enter Ybaf.func3, Ybaf.ntmps3
  go_wp2
  clear hm0 hm1
  go_loopw [48] (fun i wr => ∃ k : Nat, k ≤ nk ∧ i = .int .i64 k ∧ wr.ownsMap Ybaf.prog 9 (plainElem Ybaf.prog 3) w.heap.size k (mapTo ks vl k) ∧ Below w.heap.size w wr)
    (fun i _ => nk - (intOf i).toNat)
  case atStart => exact ⟨0, Nat.zero_le _, rfl, World.ownsMap_made _ _ _ _, (Below.refl _ _).alloc (Nat.le_refl _) _⟩
  case round =>
    obtain ⟨k, hk, rfl, hown, hnx⟩ := hrel
    by_cases hlt : k < nk
    · obtain ⟨s, hs⟩ : ∃ s, s = ks k := ⟨_, rfl⟩
      have hcx : wr.cell? ⟨kb, ko + k, none⟩ = some (.string s) := by rw [hs]; exact (hnx.cell (by exact hkb)).trans (HK.out k hlt)
      have hkey : keyOf Ybaf.prog 9 (.string s) = some (.string (ks k).data.toList) := by rw [hs]; exact keyOf_string_mk Ybaf.underlying9 (hks k hlt)
      have hcv : wr.cell? ⟨vb, vo + k % nv, none⟩ = some (.int .i64 (vl k)) := (hnx.cell (by exact hvb)).trans (HC.out k hlt)
      have hm0 : 0 ≤ (k : Int) % (nv : Int) := Int.emod_nonneg _ (by omega)
      have hm1 : (k : Int) % (nv : Int) < (nv : Int) := Int.emod_lt_of_pos _ hv0'
      have hpe : plainElem (H := Unit) Ybaf.prog 3 (.int .i64 (vl k)) = some (.lit (.int .i64 (vl k)), []) := plainElem_int Ybaf.underlying3 (hvw k hlt)
      clear hs
      go_wp2_with (first
        | (at_mapUpdate; refine wpList_mapUpdate_own _ rfl _ _ _ 24 rfl 9 3 law9 Ybaf.underlying24 _ w.heap.size k _ rfl hown (by unfold maxLen; omega) _ _ _ rfl rfl hkey _ [] hpe ?_)
        | go_in)
      intro w1 hown1 hgrow1
      have R1 : w1.ownsMap Ybaf.prog 9 (plainElem Ybaf.prog 3) w.heap.size (k + 1) (mapTo ks vl (k + 1)) := hown1
      have R2 := hnx.grown hgrow1 hnx.size (fun j hj => by cases hj; exact Nat.le_refl _)
      clear hown1 hgrow1 hown hcx
      go_wp2
      go_roundw
      case rel => exact ⟨k + 1, by omega, by go_num, R1, R2⟩
      case measure => simp [intOf]; omega
    · obtain rfl : k = nk := by omega
      go_wp2_with (first
        | (at_len; refine wpList_len_own _ rfl _ 24 rfl 9 3 Ybaf.underlying24 _ w.heap.size k _ rfl hown ?_))
      go_loop [17, 18, 72] (fun f x i => ∃ j : Nat, j ≤ k ∧ i = .int .i64 j ∧ f = .bool (fndTo ks q j) ∧ x = .int .i64 (wantTo ks vl q j)) (fun _ _ i => k - (intOf i).toNat)
      case atStart => exact ⟨0, Nat.zero_le _, rfl, rfl, rfl⟩
      case round =>
        obtain ⟨j, hj, rfl, rfl, rfl⟩ := hrel
        by_cases hlj : j < k
        · have hcx : wr.cell? ⟨kb, ko + j, none⟩ = some (.string (ks j)) := (hnx.cell (by exact hkb)).trans (HK.out j hlj)
          have hcv : wr.cell? ⟨vb, vo + j % nv, none⟩ = some (.int .i64 (vl j)) := (hnx.cell (by exact hvb)).trans (HC.out j hlj)
          have hm0 : 0 ≤ (j : Int) % (nv : Int) := Int.emod_nonneg _ (by omega)
          have hm1 : (j : Int) % (nv : Int) < (nv : Int) := Int.emod_lt_of_pos _ hv0'
          cases heq : (ks j).toList == q.toList
          · have HF : Hid (fndTo ks q (j + 1) = fndTo ks q j) := by simp [Hid, fndTo, heq]
            have HW : Hid (wantTo ks vl q (j + 1) = wantTo ks vl q j) := by simp [Hid, wantTo, heq]
            go_wp2
            go_round
            case rel => exact ⟨j + 1, by omega, by go_num, by rw [HF.out], by rw [HW.out]⟩
            case measure => simp [intOf]; omega
          · have HF : Hid (fndTo ks q (j + 1) = true) := by simp [Hid, fndTo, heq]
            have HW : Hid (wantTo ks vl q (j + 1) = vl j) := by simp [Hid, wantTo, heq]
            go_wp2
            go_round
            case rel => exact ⟨j + 1, by omega, by go_num, by rw [HF.out], by rw [HW.out]⟩
            case measure => simp [intOf]; omega
        · obtain rfl : j = k := by omega
          obtain ⟨hh, ha⟩ := scan_has ks vl q j
          have hFr : F.answers wr.tape := by rw [hnx.tape]; exact hF
          cases hf : fndTo ks q j
          · rw [hf] at hh
            go_wp2_with (first
              | (go_at_call 4; refine (registered_miss F q hq _ j _ _ (by exact hFr) hown hh).mono ?_; rintro e w' ⟨t, rfl, rfl⟩)
              | (at_len; refine wpList_len_own _ rfl _ 24 rfl 9 3 Ybaf.underlying24 _ w.heap.size j _ rfl ((hown.alloc _).alloc _).drew ?_))
            go_ret
            exact ⟨rfl, ((hnx.alloc hnx.size _).alloc (by simp; have := hnx.size; omega) _).drew⟩
          · rw [hf] at hh
            go_wp2_with (first
              | (go_at_call 4; refine (registered_hit q hq _ j _ _ hown hh).mono ?_; rintro e w' ⟨c, rfl, hat, rfl⟩; obtain rfl : c = wantTo ks vl q j := (by rw [ha] at hat; simpa using hat.symm))
              | (at_len; refine wpList_len_own _ rfl _ 24 rfl 9 3 Ybaf.underlying24 _ w.heap.size j _ rfl hown ?_))
            go_ret
            exact ⟨by simp, hnx⟩

/-- More than 1024 keys: the law looks no further. -/
theorem law_big (ka va : Option Addr) (nk kc nv vc : Nat) (q : ByteArray) (u : Bool) (pk : Int) (w : World) (hk1 : 1024 < nk) (hk2 : nk ≤ 9223372036854775807) :
    Calls Ybaf.prog 3 #[.slice ka nk kc, .slice va nv vc, .string q, .bool u, .int .u8 pk] w fun e w' => e = .returned (.bool true) ∧ Below w.heap.size w w' := by
  have hgt : 1024 < (nk : Int) := by omega
  go_enter Ybaf.func3, Ybaf.ntmps3
  go_wp2
  go_ret
  exact ⟨rfl, Below.refl _ _⟩

set_option maxRecDepth 100000 in
set_option maxHeartbeats 1600000 in
/-- No key. -/
theorem law_zero (F : Interp) (ka va : Option Addr) (kc nv vc : Nat) (q : ByteArray) (u : Bool) (pk : Int) (w : World) (hF : F.answers w.tape) (hq : q.size ≤ maxLen) :
    Calls Ybaf.prog 3 #[.slice ka 0 kc, .slice va nv vc, .string q, .bool u, .int .u8 pk] w fun e w' => e = .returned (.bool true) ∧ Below w.heap.size w w' := by
  have hmm := makeHint
  have hta := as29
  have hown := fun W : World => World.ownsMap_made W Ybaf.prog 9 (plainElem (H := Unit) Ybaf.prog 3)
  cases u <;>
  · go_enter Ybaf.func3, Ybaf.ntmps3
    go_wp2
    refine wp_loop_rounds 1 ?_
    rw [rounds_succ]
    go_wp2_with (first
      | (at_len; refine wpList_len_own _ rfl _ 24 rfl 9 3 Ybaf.underlying24 _ w.heap.size 0 _ rfl (hown w) ?_))
    refine wp_loop_rounds 1 ?_
    rw [rounds_succ]
    go_wp2_with (first
      | (go_at_call 4; refine (registered_miss F q hq _ 0 _ _ (by exact hF) (hown w) rfl).mono ?_; rintro e w' ⟨t, rfl, rfl⟩)
      | (at_len; refine wpList_len_own _ rfl _ 24 rfl 9 3 Ybaf.underlying24 _ w.heap.size 0 _ rfl (((hown w).alloc _).alloc _).drew ?_))
    go_ret
    exact ⟨rfl, ((((Below.refl _ w).alloc (Nat.le_refl _) _).alloc (by simp) _).alloc (by simp; omega) _).drew⟩

end Go.Proofs.YbulkcvguFmt
