/-
  Seat b4850a: the walks of the answer's closure and of 'answers'.
-/
import Derived.Test.YbulkcvkoProg
import Derived.WalkKit
import Derived.WalkLawsBesides
import Derived.Outline
import Derived.OwnWalk
import Derived.Maps.AppendAt
import Derived.Laws.EntriesVeiled
import Derived.Deep.QuietTactic
import Derived.BigQuiet
import Derived.Deep.RegionWith
namespace Go.Proofs.Ybulkcvko
open Go.RowKit
set_option linter.unusedVariables false

/-- 'w'' is 'w' with new blocks, draws, and changes in the blocks of the list alone. -/
structure Chg (l : List Nat) (w w' : World) : Prop where
  os : w'.os = w.os
  tape : w'.tape = w.tape
  output : w'.output = w.output
  size : w.heap.size ≤ w'.heap.size
  block : ∀ k, k < w.heap.size → k ∉ l → w'.heap[k]? = w.heap[k]?

theorem Chg.refl (l : List Nat) (w : World) : Chg l w w := ⟨rfl, rfl, rfl, Nat.le_refl _, fun _ _ _ => rfl⟩
theorem Chg.trans {l : List Nat} {a b c : World} (h : Chg l a b) (k : Chg l b c) : Chg l a c :=
  ⟨k.os.trans h.os, k.tape.trans h.tape, k.output.trans h.output, Nat.le_trans h.size k.size, fun i hi hl => (k.block i (Nat.lt_of_lt_of_le hi h.size) hl).trans (h.block i hi hl)⟩
theorem Chg.mono {l l' : List Nat} {a b : World} (h : Chg l a b) (hs : ∀ k, k ∈ l → k ∈ l' ∨ a.heap.size ≤ k) : Chg l' a b :=
  ⟨h.os, h.tape, h.output, h.size, fun i hi hl => h.block i hi (fun hm => by rcases hs i hm with h1 | h1; exact hl h1; omega)⟩
theorem Chg.drew {l : List Nat} {a b : World} (h : Chg l a b) : Chg l a b.drew := ⟨h.os, h.tape, h.output, h.size, h.block⟩
theorem Chg.drewN {l : List Nat} {a b : World} (h : Chg l a b) (n : Nat) : Chg l a (b.drewN n) := ⟨h.os, h.tape, h.output, h.size, h.block⟩
theorem Chg.setCell {l : List Nat} {a b : World} (h : Chg l a b) {p : Addr} (hp : p.block ∈ l ∨ a.heap.size ≤ p.block) (v : Value) : Chg l a (b.setCell p v) := by
  refine ⟨h.os, h.tape, h.output, by simpa [World.setCell] using h.size, fun k hk hl => ?_⟩
  have : p.block ≠ k := by
    rintro rfl
    rcases hp with hp | hp
    · exact hl hp
    · omega
  simp only [World.setCell, Array.getElem?_modify, if_neg this]
  exact h.block k hk hl
theorem Chg.ofGrown {l : List Nat} {a b : World} {r : Option Nat} (h : a.grownBy b r) (hr : ∀ k, r = some k → k ∈ l ∨ a.heap.size ≤ k) : Chg l a b :=
  ⟨h.os, h.tape, h.output, h.size, fun k hk hl => h.block k hk (fun e => by rcases hr k e.symm with h1 | h1; exact hl h1; omega)⟩
theorem Chg.alloc {l : List Nat} {a b : World} (h : Chg l a b) (o : Obj) : Chg l a (b.alloc o) :=
  h.trans (Chg.ofGrown (World.grownBy_alloc b o none) (by simp))
theorem Chg.cell {l : List Nat} {a b : World} (h : Chg l a b) {p : Addr} {v : Value} (hc : a.cell? p = some v) (hp : p.block ∉ l) : b.cell? p = some v :=
  (World.cell?_of_block (h.block p.block (World.block_lt_of_cell? a p hc) hp)).trans hc
theorem Chg.frozen {l : List Nat} {a b : World} (h : Chg l a b) {p : Addr} (hlt : p.block < a.heap.size) (hp : p.block ∉ l) : b.frozen? p = a.frozen? p :=
  World.frozen?_of_block (h.block p.block hlt hp)
theorem Chg.below {l : List Nat} {a b : World} (h : Chg l a b) {B : Nat} (hB : B ≤ a.heap.size) (hl : ∀ k, k ∈ l → B ≤ k) : Below B a b :=
  ⟨h.os, h.tape, h.output, h.size, fun k hk => h.block k (by omega) (fun hm => by have := hl k hm; omega)⟩

def ints (zs : List Int) : List Value := zs.map (Value.int .i64)
theorem info3 : (Yba.prog.info? 3).map (fun i => (i.zero, i.size, i.bytes)) = some (some (.int .i64 0), 1, 8) := by kernel_rfl

theorem ownsRow_kept {w w' : World} {l : List Nat} {S e z n : Nat} {v : Value} {xs : List Value} (h : w.ownsRow S e z v n xs) (hc : Chg l w w') (hl : ∀ k, v.ownBlock = some k → k ∉ l) : w'.ownsRow S e z v n xs := by
  refine ⟨h.1, ?_⟩
  rcases h.2 with h | ⟨g, cap, cur, rfl, hb, hg, rest⟩
  · exact .inl h
  · exact .inr ⟨g, cap, cur, rfl, hb, (hc.block g (Array.getElem?_eq_some_iff.1 hg).1 (hl g rfl)).trans hg, rest⟩

/-- The log: the variable at lg holds a slice that owns the numbers L; nothing below the world ws has turned but that variable. -/
def LogAt (ws w : World) (lg : Nat) (L : List Int) : Prop :=
  ∃ v, w.cell? ⟨lg, 0, none⟩ = some v ∧ w.frozen? ⟨lg, 0, none⟩ = false ∧ w.ownsRow ws.heap.size 3 1 v L.length (ints L) ∧ Chg [lg] ws w ∧ lg < ws.heap.size

theorem log_end {ws w1 : World} {lg r : Nat} {V a b y y0 y1 : Value} (L' : List Int) (hown : w1.ownsRow ws.heap.size 3 1 V L'.length (ints L')) (h1 : w1.cell? ⟨lg, 0, none⟩ = some y) (hf : w1.frozen? ⟨lg, 0, none⟩ = false) (hc : Chg [lg] ws w1) (hl : lg < ws.heap.size)
    (hr : ws.heap.size ≤ r) (hrV : V.ownBlock ≠ some r) (hr0 : w1.cell? ⟨r, 0, none⟩ = some y0) (hr1 : w1.cell? ⟨r, 1, none⟩ = some y1) :
    LogAt ws (((w1.setCell ⟨lg, 0, none⟩ V).setCell ⟨r, 0, none⟩ a).setCell ⟨r, 1, none⟩ b) lg L' ∧
    (((w1.setCell ⟨lg, 0, none⟩ V).setCell ⟨r, 0, none⟩ a).setCell ⟨r, 1, none⟩ b).cell? ⟨r, 0, none⟩ = some a ∧ (((w1.setCell ⟨lg, 0, none⟩ V).setCell ⟨r, 0, none⟩ a).setCell ⟨r, 1, none⟩ b).cell? ⟨r, 1, none⟩ = some b := by
  have hlr : lg ≠ r := by omega
  have ne0 : (⟨r, 0, none⟩ : Addr) ≠ ⟨lg, 0, none⟩ := fun e => hlr (congrArg Addr.block e).symm
  have ne1 : (⟨r, 1, none⟩ : Addr) ≠ ⟨lg, 0, none⟩ := fun e => hlr (congrArg Addr.block e).symm
  have ne2 : (⟨r, 1, none⟩ : Addr) ≠ ⟨r, 0, none⟩ := fun e => by have := congrArg Addr.off e; simp at this
  have hk := (((Chg.refl [lg, r] w1).setCell (p := ⟨lg, 0, none⟩) (by simp) V).setCell (p := ⟨r, 0, none⟩) (by simp) a).setCell (p := ⟨r, 1, none⟩) (by simp) b
  refine ⟨⟨V, ?_, ?_, ownsRow_kept hown hk (fun k hkb => ?_), ((hc.mono (l' := [lg, r]) (by simp)).trans hk).mono (by simp; omega), hl⟩, ?_, ?_⟩
  · rw [World.cell?_setCell_other _ _ _ _ ne1, World.cell?_setCell_other _ _ _ _ ne0]
    exact World.cell?_setCell_same _ _ _ h1
  · rw [World.frozen?_setCell, World.frozen?_setCell, World.frozen?_setCell]; exact hf
  · have := (hown.lt k hkb).1
    simp only [List.mem_cons, List.not_mem_nil, or_false, not_or]
    exact ⟨by omega, fun e => hrV (e ▸ hkb)⟩
  · rw [World.cell?_setCell_other _ _ _ _ ne2]
    have h : (w1.setCell ⟨lg, 0, none⟩ V).cell? ⟨r, 0, none⟩ = some y0 := by rw [World.cell?_setCell_other _ _ _ _ ne0.symm]; exact hr0
    exact World.cell?_setCell_same _ _ _ h
  · have h : ((w1.setCell ⟨lg, 0, none⟩ V).setCell ⟨r, 0, none⟩ a).cell? ⟨r, 1, none⟩ = some y1 := by rw [World.cell?_setCell_other _ _ _ _ ne2.symm, World.cell?_setCell_other _ _ _ _ ne1.symm]; exact hr1
    exact World.cell?_setCell_same _ _ _ h

set_option maxHeartbeats 800000 in
theorem answer_no (m p wm : ByteArray) (ws : World) (lg ib mb sb : Nat) (L : List Int) (idx st : Int) (w : World) (hL : LogAt ws w lg L) (hl : L.length ≤ 2048)
    (hi : ws.cell? ⟨ib, 0, none⟩ = some (.int .i64 idx)) (hm : ws.cell? ⟨mb, 0, none⟩ = some (.string wm)) (hs : ws.cell? ⟨sb, 0, none⟩ = some (.int .i64 st)) (hin : ib ≠ lg) (hmn : mb ≠ lg) (hsn : sb ≠ lg) (hne : (m.toList == wm.toList) = false) :
    Calls Yba.prog 4 #[.string m, .string p, .pointer (some ⟨lg, 0, none⟩), .pointer (some ⟨ib, 0, none⟩), .pointer (some ⟨mb, 0, none⟩), .pointer (some ⟨sb, 0, none⟩)] w fun e w' =>
      e = .returned (.tuple #[.agg #[.int .i64 0, .string ⟨#[]⟩], .bool false]) ∧ LogAt ws w' lg (L ++ [idx]) ∧ ∀ b c t f, w.heap[b]? = some (.cells c t f) → t ≠ 3 → b ≠ lg → w'.heap[b]? = some (.cells c t f) := by
  obtain ⟨i0, hi0, hz0, hz1, hz2⟩ := info_parts info3
  obtain ⟨v, k1, k2, k3, k4, k5⟩ := hL
  have ki : w.cell? ⟨ib, 0, none⟩ = some (.int .i64 idx) := k4.cell hi (by simpa using hin)
  have km : w.cell? ⟨mb, 0, none⟩ = some (.string wm) := k4.cell hm (by simpa using hmn)
  have ks : w.cell? ⟨sb, 0, none⟩ = some (.int .i64 st) := k4.cell hs (by simpa using hsn)
  have hlw : lg < w.heap.size := World.block_lt_of_cell? w _ k1
  have hiw : ib < w.heap.size := World.block_lt_of_cell? w _ ki
  have hmw : mb < w.heap.size := World.block_lt_of_cell? w _ km
  have hsw : sb < w.heap.size := World.block_lt_of_cell? w _ ks
  have hsz := k4.size
  have hmS : mb < ws.heap.size := World.block_lt_of_cell? ws _ hm
  have hsS : sb < ws.heap.size := World.block_lt_of_cell? ws _ hs
  have kb : ∀ k, v.ownBlock = some k → ws.heap.size ≤ k ∧ k < w.heap.size := k3.lt
  have K3 : Hid (w.ownsRow ws.heap.size 3 1 v L.length (ints L)) := k3
  have K4 : Hid (Chg [lg] ws w) := k4
  clear k3 k4 hi hm hs hin
  go_enter Yba.func4, Yba.ntmps4
  go_wp2_with (first
    | (at_builtin; refine wpList_append_own _ rfl _ _ 23 rfl ws.heap.size 3 i0 (.int .i64 0) 1 8 Yba.underlying23 hi0 hz0 hz1 hz2 rfl (by decide) v L.length (ints L) rfl ((K3.out.alloc _).alloc _) ⟨w.heap.size + 1, 0, none⟩ 1 1 [.int .i64 idx] rfl rfl ?hn ?h1 (by unfold maxLen; omega) (by omega) (by simp; omega) ?_))
  case hn => simpa using cell_one_new (w.alloc (.cells #[.int .i64 0, .string ⟨#[]⟩] 48)) (.int .i64 idx) 3
  case h1 => simp [Value.oneCell']
  intro v' w1 hown hgrow hnil
  have hc1 : Chg v.ownBlock.toList w w1 := ((((Chg.refl _ w).alloc _).alloc _).trans (Chg.ofGrown hgrow (fun k hk => .inl (by simp [hk]))))
  have nb : ∀ b, b < ws.heap.size → b ∉ v.ownBlock.toList := fun b hb hm => by
    have := (kb b (by simpa using hm)).1
    omega
  have nb2 : ∀ b, w.heap.size ≤ b → some b ≠ v.ownBlock := fun b hb hm => by
    have := (kb b hm.symm).2
    omega
  obtain ⟨g, cap, hv, hgS⟩ : ∃ g cap, v' = .slice (some ⟨g, 0, none⟩) (L.length + 1) cap ∧ ws.heap.size ≤ g := by
    rcases hown.2 with ⟨_, hn⟩ | ⟨g, cap, cur, rfl, hb, _⟩
    · omega
    · exact ⟨g, cap, rfl, hb⟩
  have j1 : w1.cell? ⟨lg, 0, none⟩ = some v := hc1.cell k1 (nb lg k5)
  have j2 : w1.frozen? ⟨lg, 0, none⟩ = false := (hc1.frozen (p := ⟨lg, 0, none⟩) hlw (nb lg k5)).trans k2
  have jm : w1.cell? ⟨mb, 0, none⟩ = some (.string wm) := hc1.cell km (nb mb hmS)
  have js : w1.cell? ⟨sb, 0, none⟩ = some (.int .i64 st) := hc1.cell ks (nb sb hsS)
  have jr : w1.heap[w.heap.size]? = some (.cells #[.int .i64 0, .string ⟨#[]⟩] 48) := by
    rw [hgrow.block w.heap.size (by simp; omega) (nb2 _ (Nat.le_refl _))]
    rw [heap_alloc_old _ _ (by simp)]
    exact heap_alloc_new _ _
  have jr0 : w1.cell? ⟨w.heap.size, 0, none⟩ = some (.int .i64 0) := by simp [World.cell?, jr]
  have jr1 : w1.cell? ⟨w.heap.size, 1, none⟩ = some (.string ⟨#[]⟩) := by simp [World.cell?, jr]
  have jf0 : w1.frozen? ⟨w.heap.size, 0, none⟩ = false := by simp [World.frozen?, jr]
  have jf1 : w1.frozen? ⟨w.heap.size, 1, none⟩ = false := by simp [World.frozen?, jr]
  have jl : lg < w1.heap.size := World.block_lt_of_cell? w1 _ j1
  have jrw : w.heap.size < w1.heap.size := World.block_lt_of_cell? w1 _ jr0
  have hnl : ¬ w.heap.size = lg := by omega
  have HO : Hid (w1.ownsRow ws.heap.size 3 1 v' (L.length + 1) (ints L ++ [.int .i64 idx])) := hown
  have HC : Hid (Chg v.ownBlock.toList w w1) := hc1
  rw [hv]
  have hVr : (Value.slice (some ⟨g, 0, none⟩) (L.length + 1) cap).ownBlock ≠ some w.heap.size := by
    intro e
    obtain rfl : g = w.heap.size := by simpa [Value.ownBlock] using e
    rcases hown.2 with ⟨hn, _⟩ | ⟨g', cap', cur, he, _, hg', _⟩
    · rw [hv] at hn; cases hn
    · rw [hv] at he
      obtain ⟨⟨rfl⟩, _⟩ : w.heap.size = g' ∧ _ := by simpa using he
      rw [jr] at hg'
      cases hg'
  have hcs : Chg [lg] ws w1 := ((K4.out.mono (l' := lg :: v.ownBlock.toList) (by simp)).trans (hc1.mono (fun k hk => .inl (List.mem_cons_of_mem _ hk)))).mono (fun k hk => by
    simp only [List.mem_cons, Option.mem_toList] at hk
    rcases hk with rfl | hk
    · exact .inl (by simp)
    · exact .inr (kb k hk).1)
  have hln : (L ++ [idx]).length = L.length + 1 := by simp
  have hown' : w1.ownsRow ws.heap.size 3 1 (.slice (some ⟨g, 0, none⟩) (L.length + 1) cap) (L ++ [idx]).length (ints (L ++ [idx])) := by
    rw [hln, ← hv]
    simpa [ints] using hown
  have E := fun a b => log_end (a := a) (b := b) (L ++ [idx]) hown' j1 j2 hcs k5 hsz hVr jr0 jr1
  have HE : Hid (∀ a b, _) := E
  have HK : Hid (∀ a b' y, ∀ b c t f, w.heap[b]? = some (.cells c t f) → t ≠ 3 → b ≠ lg → (((w1.setCell ⟨lg, 0, none⟩ y).setCell ⟨w.heap.size, 0, none⟩ a).setCell ⟨w.heap.size, 1, none⟩ b').heap[b]? = some (.cells c t f)) := by
    intro a b' y b c t f hb ht hbl
    have hbw : b < w.heap.size := (Array.getElem?_eq_some_iff.1 hb).1
    have hno : b ∉ v.ownBlock.toList := by
      intro hm
      have hm' : v.ownBlock = some b := by simpa using hm
      rcases K3.out.2 with ⟨rfl, _⟩ | ⟨g', cap', cur, rfl, _, hg', _⟩
      · simp [Value.ownBlock] at hm'
      · obtain rfl : g' = b := by simpa [Value.ownBlock] using hm'
        rw [hg'] at hb
        cases hb
        exact ht rfl
    have hk := (((hc1.mono (l' := lg :: v.ownBlock.toList) (fun k hk => .inl (List.mem_cons_of_mem _ hk))).setCell (p := ⟨lg, 0, none⟩) (.inl (by simp)) y).setCell (p := ⟨w.heap.size, 0, none⟩) (.inr (Nat.le_refl _)) a).setCell (p := ⟨w.heap.size, 1, none⟩) (.inr (Nat.le_refl _)) b'
    exact (hk.block b hbw (by simp only [List.mem_cons, not_or]; exact ⟨hbl, hno⟩)).trans hb
  clear hown hgrow hnil hc1 jr k1 k2 ki km ks hVr hcs hown' E hln
  go_wp2
  obtain ⟨E1, E2, E3⟩ := HE.out (.int .i64 0) (.string ⟨#[]⟩)
  exact bodyPost_ret (v := .tuple #[.agg #[(.int .i64 0), (.string ⟨#[]⟩)], .bool false]) (by simp [results, Yba.results4, go_sem, E2, E3]) rfl ⟨rfl, E1, HK.out _ _ _⟩

set_option maxHeartbeats 800000 in
theorem answer_yes (m p wm : ByteArray) (ws : World) (lg ib mb sb : Nat) (L : List Int) (idx st : Int) (w : World) (hL : LogAt ws w lg L) (hl : L.length ≤ 2048)
    (hi : ws.cell? ⟨ib, 0, none⟩ = some (.int .i64 idx)) (hm : ws.cell? ⟨mb, 0, none⟩ = some (.string wm)) (hs : ws.cell? ⟨sb, 0, none⟩ = some (.int .i64 st)) (hin : ib ≠ lg) (hmn : mb ≠ lg) (hsn : sb ≠ lg) (hne : (m.toList == wm.toList) = true) :
    Calls Yba.prog 4 #[.string m, .string p, .pointer (some ⟨lg, 0, none⟩), .pointer (some ⟨ib, 0, none⟩), .pointer (some ⟨mb, 0, none⟩), .pointer (some ⟨sb, 0, none⟩)] w fun e w' =>
      e = .returned (.tuple #[.agg #[.int .i64 st, .string p], .bool true]) ∧ LogAt ws w' lg (L ++ [idx]) ∧ ∀ b c t f, w.heap[b]? = some (.cells c t f) → t ≠ 3 → b ≠ lg → w'.heap[b]? = some (.cells c t f) := by
  obtain ⟨i0, hi0, hz0, hz1, hz2⟩ := info_parts info3
  obtain ⟨v, k1, k2, k3, k4, k5⟩ := hL
  have ki : w.cell? ⟨ib, 0, none⟩ = some (.int .i64 idx) := k4.cell hi (by simpa using hin)
  have km : w.cell? ⟨mb, 0, none⟩ = some (.string wm) := k4.cell hm (by simpa using hmn)
  have ks : w.cell? ⟨sb, 0, none⟩ = some (.int .i64 st) := k4.cell hs (by simpa using hsn)
  have hlw : lg < w.heap.size := World.block_lt_of_cell? w _ k1
  have hiw : ib < w.heap.size := World.block_lt_of_cell? w _ ki
  have hmw : mb < w.heap.size := World.block_lt_of_cell? w _ km
  have hsw : sb < w.heap.size := World.block_lt_of_cell? w _ ks
  have hsz := k4.size
  have hmS : mb < ws.heap.size := World.block_lt_of_cell? ws _ hm
  have hsS : sb < ws.heap.size := World.block_lt_of_cell? ws _ hs
  have kb : ∀ k, v.ownBlock = some k → ws.heap.size ≤ k ∧ k < w.heap.size := k3.lt
  have K3 : Hid (w.ownsRow ws.heap.size 3 1 v L.length (ints L)) := k3
  have K4 : Hid (Chg [lg] ws w) := k4
  clear k3 k4 hi hm hs hin
  go_enter Yba.func4, Yba.ntmps4
  go_wp2_with (first
    | (at_builtin; refine wpList_append_own _ rfl _ _ 23 rfl ws.heap.size 3 i0 (.int .i64 0) 1 8 Yba.underlying23 hi0 hz0 hz1 hz2 rfl (by decide) v L.length (ints L) rfl ((K3.out.alloc _).alloc _) ⟨w.heap.size + 1, 0, none⟩ 1 1 [.int .i64 idx] rfl rfl ?hn ?h1 (by unfold maxLen; omega) (by omega) (by simp; omega) ?_))
  case hn => simpa using cell_one_new (w.alloc (.cells #[.int .i64 0, .string ⟨#[]⟩] 48)) (.int .i64 idx) 3
  case h1 => simp [Value.oneCell']
  intro v' w1 hown hgrow hnil
  have hc1 : Chg v.ownBlock.toList w w1 := ((((Chg.refl _ w).alloc _).alloc _).trans (Chg.ofGrown hgrow (fun k hk => .inl (by simp [hk]))))
  have nb : ∀ b, b < ws.heap.size → b ∉ v.ownBlock.toList := fun b hb hm => by
    have := (kb b (by simpa using hm)).1
    omega
  have nb2 : ∀ b, w.heap.size ≤ b → some b ≠ v.ownBlock := fun b hb hm => by
    have := (kb b hm.symm).2
    omega
  obtain ⟨g, cap, hv, hgS⟩ : ∃ g cap, v' = .slice (some ⟨g, 0, none⟩) (L.length + 1) cap ∧ ws.heap.size ≤ g := by
    rcases hown.2 with ⟨_, hn⟩ | ⟨g, cap, cur, rfl, hb, _⟩
    · omega
    · exact ⟨g, cap, rfl, hb⟩
  have j1 : w1.cell? ⟨lg, 0, none⟩ = some v := hc1.cell k1 (nb lg k5)
  have j2 : w1.frozen? ⟨lg, 0, none⟩ = false := (hc1.frozen (p := ⟨lg, 0, none⟩) hlw (nb lg k5)).trans k2
  have jm : w1.cell? ⟨mb, 0, none⟩ = some (.string wm) := hc1.cell km (nb mb hmS)
  have js : w1.cell? ⟨sb, 0, none⟩ = some (.int .i64 st) := hc1.cell ks (nb sb hsS)
  have jr : w1.heap[w.heap.size]? = some (.cells #[.int .i64 0, .string ⟨#[]⟩] 48) := by
    rw [hgrow.block w.heap.size (by simp; omega) (nb2 _ (Nat.le_refl _))]
    rw [heap_alloc_old _ _ (by simp)]
    exact heap_alloc_new _ _
  have jr0 : w1.cell? ⟨w.heap.size, 0, none⟩ = some (.int .i64 0) := by simp [World.cell?, jr]
  have jr1 : w1.cell? ⟨w.heap.size, 1, none⟩ = some (.string ⟨#[]⟩) := by simp [World.cell?, jr]
  have jf0 : w1.frozen? ⟨w.heap.size, 0, none⟩ = false := by simp [World.frozen?, jr]
  have jf1 : w1.frozen? ⟨w.heap.size, 1, none⟩ = false := by simp [World.frozen?, jr]
  have jl : lg < w1.heap.size := World.block_lt_of_cell? w1 _ j1
  have jrw : w.heap.size < w1.heap.size := World.block_lt_of_cell? w1 _ jr0
  have hnl : ¬ w.heap.size = lg := by omega
  have HO : Hid (w1.ownsRow ws.heap.size 3 1 v' (L.length + 1) (ints L ++ [.int .i64 idx])) := hown
  have HC : Hid (Chg v.ownBlock.toList w w1) := hc1
  rw [hv]
  have hVr : (Value.slice (some ⟨g, 0, none⟩) (L.length + 1) cap).ownBlock ≠ some w.heap.size := by
    intro e
    obtain rfl : g = w.heap.size := by simpa [Value.ownBlock] using e
    rcases hown.2 with ⟨hn, _⟩ | ⟨g', cap', cur, he, _, hg', _⟩
    · rw [hv] at hn; cases hn
    · rw [hv] at he
      obtain ⟨⟨rfl⟩, _⟩ : w.heap.size = g' ∧ _ := by simpa using he
      rw [jr] at hg'
      cases hg'
  have hcs : Chg [lg] ws w1 := ((K4.out.mono (l' := lg :: v.ownBlock.toList) (by simp)).trans (hc1.mono (fun k hk => .inl (List.mem_cons_of_mem _ hk)))).mono (fun k hk => by
    simp only [List.mem_cons, Option.mem_toList] at hk
    rcases hk with rfl | hk
    · exact .inl (by simp)
    · exact .inr (kb k hk).1)
  have hln : (L ++ [idx]).length = L.length + 1 := by simp
  have hown' : w1.ownsRow ws.heap.size 3 1 (.slice (some ⟨g, 0, none⟩) (L.length + 1) cap) (L ++ [idx]).length (ints (L ++ [idx])) := by
    rw [hln, ← hv]
    simpa [ints] using hown
  have E := fun a b => log_end (a := a) (b := b) (L ++ [idx]) hown' j1 j2 hcs k5 hsz hVr jr0 jr1
  have HE : Hid (∀ a b, _) := E
  have HK : Hid (∀ a b' y, ∀ b c t f, w.heap[b]? = some (.cells c t f) → t ≠ 3 → b ≠ lg → (((w1.setCell ⟨lg, 0, none⟩ y).setCell ⟨w.heap.size, 0, none⟩ a).setCell ⟨w.heap.size, 1, none⟩ b').heap[b]? = some (.cells c t f)) := by
    intro a b' y b c t f hb ht hbl
    have hbw : b < w.heap.size := (Array.getElem?_eq_some_iff.1 hb).1
    have hno : b ∉ v.ownBlock.toList := by
      intro hm
      have hm' : v.ownBlock = some b := by simpa using hm
      rcases K3.out.2 with ⟨rfl, _⟩ | ⟨g', cap', cur, rfl, _, hg', _⟩
      · simp [Value.ownBlock] at hm'
      · obtain rfl : g' = b := by simpa [Value.ownBlock] using hm'
        rw [hg'] at hb
        cases hb
        exact ht rfl
    have hk := (((hc1.mono (l' := lg :: v.ownBlock.toList) (fun k hk => .inl (List.mem_cons_of_mem _ hk))).setCell (p := ⟨lg, 0, none⟩) (.inl (by simp)) y).setCell (p := ⟨w.heap.size, 0, none⟩) (.inr (Nat.le_refl _)) a).setCell (p := ⟨w.heap.size, 1, none⟩) (.inr (Nat.le_refl _)) b'
    exact (hk.block b hbw (by simp only [List.mem_cons, not_or]; exact ⟨hbl, hno⟩)).trans hb
  clear hown hgrow hnil hc1 jr k1 k2 ki km ks hVr hcs hown' E hln
  go_wp2
  obtain ⟨E1, E2, E3⟩ := HE.out (.int .i64 st) (.string p)
  exact bodyPost_ret (v := .tuple #[.agg #[(.int .i64 st), (.string p)], .bool true]) (by simp [results, Yba.results4, go_sem, E2, E3]) rfl ⟨rfl, E1, HK.out _ _ _⟩

end Go.Proofs.Ybulkcvko
