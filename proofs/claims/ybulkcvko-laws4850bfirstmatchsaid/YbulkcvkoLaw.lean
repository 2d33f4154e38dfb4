/-
  Seat b4850a: the walk of 'LawS4850BFirstMatch'.
-/
import Derived.Test.YbulkcvkoMatch
namespace Go.Proofs.Ybulkcvko
open Go.RowKit
set_option linter.unusedVariables false

def madeP (n : Nat) : Array Value := madeCells (Value.pointer none).cells n
theorem info28 : (Yba.prog.info? 28).map (fun i => (i.zero, i.size, i.bytes)) = some (some (.pointer none), 1, 8) := by kernel_rfl

/-- make([]*entry, 0, n). -/
theorem mk24 (n : Nat) (hn : n ≤ 1024) (w : World) : (Instr.makeSlice 24 (.int .i64 0) (.int .i64 (n : Int))).run Yba.prog w = .ok (.slice (some ⟨w.heap.size, 0, none⟩) 0 n) (w.alloc (.cells (madeP n) 28)) := by
  obtain ⟨i0, hi, hz0, hz1, hz2⟩ := info_parts info28
  have hr := run_make (P := Yba.prog) w 24 28 i0 (.pointer none) Yba.underlying24 hi hz0 .i64 .i64 0 (n : Int) (by omega) (by omega) (by rw [hz2]; omega) (by omega)
  simpa [hz1, madeP] using hr

/-- The entry at block eb, made of the j-th description, all its blocks from S on. -/
def EntNew (w : World) (lg S eb j : Nat) (s : Sp) : Prop :=
  S ≤ eb ∧ w.cell? ⟨eb, 3, none⟩ = some (.string (streamOf s)) ∧ (s.has = false → w.cell? ⟨eb, 15, none⟩ = some .nilFunc) ∧
  (s.has = true → ∃ ib mb sb, S ≤ ib ∧ S ≤ mb ∧ S ≤ sb ∧ w.cell? ⟨eb, 15, none⟩ = some (.func (.func 4) #[] #[.pointer (some ⟨lg, 0, none⟩), .pointer (some ⟨ib, 0, none⟩), .pointer (some ⟨mb, 0, none⟩), .pointer (some ⟨sb, 0, none⟩)]) ∧
    w.cell? ⟨ib, 0, none⟩ = some (.int .i64 (j : Int)) ∧ w.cell? ⟨mb, 0, none⟩ = some (.string s.meth) ∧ w.cell? ⟨sb, 0, none⟩ = some (.int .i64 s.st))

theorem EntNew.kept {w w' : World} {lg S eb j : Nat} {s : Sp} {l : List Nat} (h : EntNew w lg S eb j s) (hc : Chg l w w') (hl : ∀ b, b ∈ l → b < S) : EntNew w' lg S eb j s := by
  obtain ⟨h1, h2, h3, h4⟩ := h
  have nl : ∀ b, S ≤ b → b ∉ l := fun b hb hm => by have := hl b hm; omega
  refine ⟨h1, hc.cell h2 (nl _ h1), fun hs => hc.cell (h3 hs) (nl _ h1), fun hs => ?_⟩
  obtain ⟨ib, mb, sb, n1, n2, n3, k1, k2, k3, k4⟩ := h4 hs
  exact ⟨ib, mb, sb, n1, n2, n3, hc.cell k1 (nl _ h1), hc.cell k2 (nl _ n1), hc.cell k3 (nl _ n2), hc.cell k4 (nl _ n3)⟩

theorem EntNew.ent {w : World} {lg S eb j : Nat} {s : Sp} (h : EntNew w lg S eb j s) (hS : lg < S) : EntAt w lg eb j s := by
  obtain ⟨h1, h2, h3, h4⟩ := h
  refine ⟨by omega, h2, h3, fun hs => ?_⟩
  obtain ⟨ib, mb, sb, n1, n2, n3, k⟩ := h4 hs
  exact ⟨ib, mb, sb, by omega, by omega, by omega, k⟩

def ptrs (e : Nat → Nat) (k : Nat) : List Value := (List.range k).map fun j => .pointer (some ⟨e j, 0, none⟩)

/-- What holds in the first loop. -/
structure Lay (w wr : World) (n k : Nat) (e : Nat → Nat) (sps : Nat → Sp) : Prop where
  row : wr.ownsRow 0 28 1 (.slice (some ⟨w.heap.size + 1, 0, none⟩) k n) k (ptrs e k)
  ent : ∀ j, j < k → EntNew wr w.heap.size (w.heap.size + 2) (e j) j (sps j)
  log : wr.cell? ⟨w.heap.size, 0, none⟩ = some (.slice none 0 0)
  free : wr.frozen? ⟨w.heap.size, 0, none⟩ = false
  chg : Chg [] w wr

/-- The descriptions that came in. -/
def SpecsAt (w : World) (b off n : Nat) (sps : Nat → Sp) : Prop :=
  ∀ j, j < n → w.cell? ⟨b, off + j * 4, none⟩ = some (.int .u8 (sps j).kind) ∧ w.cell? ⟨b, off + j * 4 + 1, none⟩ = some (.bool (sps j).has) ∧
    w.cell? ⟨b, off + j * 4 + 1 + 1, none⟩ = some (.string (sps j).meth) ∧ w.cell? ⟨b, off + j * 4 + 1 + 1 + 1, none⟩ = some (.int .i64 (sps j).st) ∧ 0 ≤ (sps j).kind ∧ (sps j).kind ≤ 255

theorem ent_off (wr : World) (A B D : Obj) (C : Array Value) (s : Sp) (lg S j : Nat) (hS : S ≤ wr.heap.size) (h3 : C[3]? = some (.string (streamOf s))) (h15 : C[15]? = some .nilFunc) (hh : s.has = false) :
    EntNew ((((wr.alloc A).alloc B).alloc (.cells C 46)).alloc D) lg S (wr.heap.size + 1 + 1) j s := by
  have at2 : ∀ i v, C[i]? = some v → ((((wr.alloc A).alloc B).alloc (.cells C 46)).alloc D).cell? ⟨wr.heap.size + 1 + 1, i, none⟩ = some v := fun i v hv =>
    ((Chg.refl [] _).alloc D).cell (by rw [World.cell?_alloc_at _ _ _ _ (by simp)]; exact hv) (by simp)
  exact ⟨by omega, at2 3 _ h3, fun _ => at2 15 _ h15, fun h => by rw [hh] at h; cases h⟩

theorem ent_on (wr : World) (A D : Obj) (C : Array Value) (s : Sp) (lg S j : Nat) (hS : S ≤ wr.heap.size) (h3 : C[3]? = some (.string (streamOf s)))
    (h15 : C[15]? = some (.func (.func 4) #[] #[.pointer (some ⟨lg, 0, none⟩), .pointer (some ⟨wr.heap.size + 1, 0, none⟩), .pointer (some ⟨wr.heap.size + 1 + 1 + 1, 0, none⟩), .pointer (some ⟨wr.heap.size + 1 + 1 + 1 + 1, 0, none⟩)])) (hh : s.has = true) :
    EntNew ((((((wr.alloc A).alloc (.cells #[.int .i64 (j : Int)] 3)).alloc (.cells C 46)).alloc (.cells #[.string s.meth] 9)).alloc (.cells #[.int .i64 s.st] 3)).alloc D) lg S (wr.heap.size + 1 + 1) j s := by
  have at2 : ∀ i v, C[i]? = some v → ((((((wr.alloc A).alloc (.cells #[.int .i64 (j : Int)] 3)).alloc (.cells C 46)).alloc (.cells #[.string s.meth] 9)).alloc (.cells #[.int .i64 s.st] 3)).alloc D).cell? ⟨wr.heap.size + 1 + 1, i, none⟩ = some v := fun i v hv =>
    ((((Chg.refl [] _).alloc _).alloc _).alloc D).cell (by rw [World.cell?_alloc_at _ _ _ _ (by simp)]; exact hv) (by simp)
  refine ⟨by omega, at2 3 _ h3, fun h => absurd (hh.symm.trans h) (by decide), fun _ => ⟨wr.heap.size + 1, wr.heap.size + 1 + 1 + 1, wr.heap.size + 1 + 1 + 1 + 1, by omega, by omega, by omega, at2 15 _ h15, ?_, ?_, ?_⟩⟩
  · exact (((((Chg.refl [] _).alloc _).alloc _).alloc _).alloc D).cell (by rw [World.cell?_alloc_at _ _ _ _ (by simp)]; rfl) (by simp)
  · exact (((Chg.refl [] _).alloc _).alloc D).cell (by rw [World.cell?_alloc_at _ _ _ _ (by simp)]; rfl) (by simp)
  · exact ((Chg.refl [] _).alloc D).cell (by rw [World.cell?_alloc_at _ _ _ _ (by simp)]; rfl) (by simp)

theorem lay_step {w wr W w1 : World} {n k eb : Nat} {e : Nat → Nat} {sps : Nat → Sp} (h : Lay w wr n k e sps) (hW : Chg [] wr W) (hg : W.grownBy w1 (some (w.heap.size + 1)))
    (ho : w1.ownsRow 0 28 1 (.slice (some ⟨w.heap.size + 1, 0, none⟩) (k + 1) n) (k + 1) (ptrs e k ++ [.pointer (some ⟨eb, 0, none⟩)])) (hE : EntNew W w.heap.size (w.heap.size + 2) eb k (sps k)) :
    Lay w w1 n (k + 1) (fun j => if j = k then eb else e j) sps := by
  have hc : Chg [w.heap.size + 1] W w1 := Chg.ofGrown hg (by simp)
  have hn : w.heap.size ∉ [w.heap.size + 1] := by simp
  have hlw : w.heap.size < wr.heap.size := World.block_lt_of_cell? wr _ h.log
  refine ⟨?_, ?_, ?_, ?_, ?_⟩
  · have e1 : ptrs (fun j => if j = k then eb else e j) (k + 1) = ptrs e k ++ [.pointer (some ⟨eb, 0, none⟩)] := by
      simp only [ptrs, List.range_succ, List.map_append, List.map_cons, List.map_nil, if_true]
      congr 1
      apply List.map_congr_left
      intro j hj
      rw [if_neg (by have := List.mem_range.1 hj; omega)]
    rw [e1]
    exact ho
  · intro j hj
    by_cases hjk : j = k
    · subst hjk
      rw [if_pos rfl]
      exact hE.kept hc (by simp)
    · rw [if_neg hjk]
      exact ((h.ent j (by omega)).kept hW (by simp)).kept hc (by simp)
  · exact hc.cell (hW.cell h.log (by simp)) hn
  · rw [hc.frozen (p := ⟨w.heap.size, 0, none⟩) (Nat.lt_of_lt_of_le hlw hW.size) hn, hW.frozen (p := ⟨w.heap.size, 0, none⟩) hlw (by simp)]
    exact h.free
  · exact (((h.chg.trans hW).mono (l' := [w.heap.size + 1]) (by simp)).trans hc).mono (by simp)

theorem one_at {x u : Value} {j : Nat} (h : [x][j]? = some u) : j = 0 ∧ u = x := by
  cases j with
  | zero => simpa using h.symm
  | succ j => simp at h

theorem lay_start (n : Nat) (hn : n ≤ 1024) (sps : Nat → Sp) (w : World) : Lay w ((w.alloc (.cells #[.slice none 0 0] 23)).alloc (.cells (madeP n) 28)) n 0 (fun _ => 0) sps := by
  have hc : Chg [] w ((w.alloc (.cells #[.slice none 0 0] 23)).alloc (.cells (madeP n) 28)) := ((Chg.refl [] w).alloc _).alloc _
  refine ⟨?_, fun j hj => by omega, ?_, ?_, hc⟩
  · have := World.ownsRow_made (base := 0) (e := 28) (size := 1) (w.alloc (.cells #[.slice none 0 0] 23)) (madeP n) n (Nat.zero_le _) (by unfold maxLen; omega) (by simp [madeP, size_madeCells])
    simpa [ptrs] using this
  · exact ((Chg.refl [] _).alloc _).cell (by rw [World.cell?_alloc_at _ _ _ _ rfl]; rfl) (by simp)
  · rw [((Chg.refl [] (w.alloc (.cells #[.slice none 0 0] 23))).alloc (.cells (madeP n) 28)).frozen (p := ⟨w.heap.size, 0, none⟩) (by simp) (by simp), World.frozen?_alloc_at _ _ _ _ rfl]

/-- A slice that owns the numbers L: its shape and its cells. -/
theorem log_shape {w : World} {S : Nat} {v : Value} {L : List Int} (h : w.ownsRow S 3 1 v L.length (ints L)) :
    ∃ a c, v = .slice a L.length c ∧ (0 < L.length → ∃ g, a = some ⟨g, 0, none⟩ ∧ ∀ j, j < L.length → w.cell? ⟨g, j, none⟩ = some (.int .i64 (L.getD j 0))) := by
  have hc := fun g hg => h.cells (g := g) hg
  rcases h.2 with ⟨rfl, hn⟩ | ⟨g, cap, cur, rfl, _⟩
  · exact ⟨none, 0, by rw [hn], fun h0 => by omega⟩
  · refine ⟨some ⟨g, 0, none⟩, cap, rfl, fun _ => ⟨g, rfl, fun j hj => ?_⟩⟩
    have := hc g rfl j (.int .i64 (L.getD j 0)) (by simp [ints, List.getD, List.getElem?_eq_getElem hj])
    rwa [Go.WideShapes.add_plain, Nat.zero_add] at this

theorem beq_swap (a b : List UInt8) : (a == b) = (b == a) := by rw [Bool.eq_iff_iff, beq_iff_eq, beq_iff_eq]; exact ⟨Eq.symm, Eq.symm⟩

theorem LogAt.keptNew {ws w w' : World} {lg : Nat} {L : List Int} (h : LogAt ws w lg L) (hc : Chg [] w w') : LogAt ws w' lg L := by
  obtain ⟨v, k1, k2, k3, k4, k5⟩ := h
  exact ⟨v, hc.cell k1 (by simp), (hc.frozen (p := ⟨lg, 0, none⟩) (World.block_lt_of_cell? w _ k1) (by simp)).trans k2, ownsRow_kept k3 hc (by simp), k4.trans (hc.mono (by simp)), k5⟩

theorem Lay.toxics {w wr : World} {n : Nat} {e : Nat → Nat} {sps : Nat → Sp} (h : Lay w wr n n e sps) : Toxics wr w.heap.size (w.heap.size + 1) n e sps := by
  refine ⟨fun j hj => ?_, fun j hj => (h.ent j hj).ent (by omega), by omega⟩
  have := h.row.cells (g := w.heap.size + 1) rfl j (.pointer (some ⟨e j, 0, none⟩)) (by simp [ptrs, hj])
  rwa [Go.WideShapes.add_plain, Nat.zero_add] at this

set_option maxRecDepth 100000 in
set_option maxHeartbeats 6400000 in
theorem law_match (b off n cap : Nat) (sps : Nat → Sp) (m p : ByteArray) (w : World) (h0 : 0 < n) (h1 : n ≤ 1024) (hb : b < w.heap.size) (hS : SpecsAt w b off n sps) (mi : Nat) (hmi : mi < n) (hma : ansB (sps mi) = true) (hmm : (m.toList == (sps mi).meth.toList) = true)
    (hno : ∀ j, j < mi → ansB (sps j) = true → (m.toList == (sps j).meth.toList) = false) :
    Calls Yba.prog 3 #[.slice (some ⟨b, off, none⟩) n cap, .string m, .string p] w fun x w' => x = .returned (.bool true) ∧ Below w.heap.size w w' := by
  have hgt : ¬ (1024 < (n : Int)) := by omega
  have hmk := mk24 n h1
  obtain ⟨i0, hi, hz0, hz1, hz2⟩ := info_parts info28
  have HS : Hid (SpecsAt w b off n sps) := hS
  clear hS
  have HNO : Hid (∀ j, j < mi → ansB (sps j) = true → (m.toList == (sps j).meth.toList) = false) := hno
  have HMA : Hid (ansB (sps mi) = true) := hma
  have HMM : Hid ((m.toList == (sps mi).meth.toList) = true) := hmm
  clear hno hma hmm
  go_enter Yba.func3, Yba.ntmps3
  go_wp2
  go_loopw [8, 9] (fun t i wr => ∃ (k : Nat) (e : Nat → Nat), k ≤ n ∧ i = .int .i64 k ∧ t = .slice (some ⟨w.heap.size + 1, 0, none⟩) k n ∧ Lay w wr n k e sps) (fun _ i _ => n - (intOf i).toNat)
  case atStart => exact ⟨0, fun _ => 0, Nat.zero_le _, rfl, rfl, lay_start n h1 sps w⟩
  case round =>
    obtain ⟨k, e, hk, rfl, rfl, hY⟩ := hrel
    by_cases hlt : k < n
    · obtain ⟨c0, c1, c2, c3, g1, g2⟩ := HS.out k hlt
      have hki : (k : Int) < (n : Int) := by omega
      have d0 := hY.chg.cell c0 (by simp)
      have d1 := hY.chg.cell c1 (by simp)
      have d2 := hY.chg.cell c2 (by simp)
      have d3 := hY.chg.cell c3 (by simp)
      have HY : Hid (Lay w wr n k e sps) := hY
      have HZ : Hid (w.heap.size + 2 ≤ wr.heap.size) := by
        have h : w.heap.size + 1 < wr.heap.size := (hY.row.lt _ rfl).2
        show _ ≤ _
        omega
      clear hY c0 c1 c2 c3 hmk
      cases hh : (sps k).has
      · rw [hh] at d1
        cases ha : ((sps k).kind % 3 == 0)
        · cases hb' : ((sps k).kind % 3 == 1)
          · have hst : streamOf (sps k) = ⟨#[]⟩ := by simp [streamOf, ha, hb']
            go_wp2_with (first
              | (at_builtin; refine wpList_append_fits _ rfl _ _ 24 rfl 0 28 i0 1 Yba.underlying24 hi hz1 (w.heap.size + 1) k n (ptrs e k) rfl ((((HY.out.row.alloc _).alloc _).alloc _).alloc _) ⟨wr.heap.size + 1 + 1 + 1, 0, none⟩ 1 1 [.pointer (some ⟨wr.heap.size + 1 + 1, 0, none⟩)] rfl rfl ?hn ?h1 (by omega) ?_))
            case hn =>
              intro j u hj
              obtain ⟨rfl, rfl⟩ : j = 0 ∧ u = .pointer (some ⟨wr.heap.size + 1 + 1, 0, none⟩) := one_at hj
              simp [Addr.add, World.cell?_alloc_at]
            case h1 => simp [Value.oneCell']
            intro w1 hown1 hgrow1
            have R := lay_step HY.out (((((Chg.refl [] wr).alloc _).alloc _).alloc _).alloc _) hgrow1 hown1 (ent_off wr _ _ _ _ _ _ _ _ HZ.out (by rw [hst]; rfl) rfl hh)
            clear hown1 hgrow1
            go_wp2
            go_roundw
            case rel => exact ⟨k + 1, _, by omega, by go_num, rfl, R⟩
            case measure => simp [intOf]; omega
          · have hst : streamOf (sps k) = downS := by simp [streamOf, ha, hb']
            go_wp2_with (first
              | (at_builtin; refine wpList_append_fits _ rfl _ _ 24 rfl 0 28 i0 1 Yba.underlying24 hi hz1 (w.heap.size + 1) k n (ptrs e k) rfl ((((HY.out.row.alloc _).alloc _).alloc _).alloc _) ⟨wr.heap.size + 1 + 1 + 1, 0, none⟩ 1 1 [.pointer (some ⟨wr.heap.size + 1 + 1, 0, none⟩)] rfl rfl ?hn ?h1 (by omega) ?_))
            case hn =>
              intro j u hj
              obtain ⟨rfl, rfl⟩ : j = 0 ∧ u = .pointer (some ⟨wr.heap.size + 1 + 1, 0, none⟩) := one_at hj
              simp [Addr.add, World.cell?_alloc_at]
            case h1 => simp [Value.oneCell']
            intro w1 hown1 hgrow1
            have R := lay_step HY.out (((((Chg.refl [] wr).alloc _).alloc _).alloc _).alloc _) hgrow1 hown1 (ent_off wr _ _ _ _ _ _ _ _ HZ.out (by rw [hst]; rfl) rfl hh)
            clear hown1 hgrow1
            go_wp2
            go_roundw
            case rel => exact ⟨k + 1, _, by omega, by go_num, rfl, R⟩
            case measure => simp [intOf]; omega
        · have hst : streamOf (sps k) = upS := by simp [streamOf, ha]
          go_wp2_with (first
            | (at_builtin; refine wpList_append_fits _ rfl _ _ 24 rfl 0 28 i0 1 Yba.underlying24 hi hz1 (w.heap.size + 1) k n (ptrs e k) rfl ((((HY.out.row.alloc _).alloc _).alloc _).alloc _) ⟨wr.heap.size + 1 + 1 + 1, 0, none⟩ 1 1 [.pointer (some ⟨wr.heap.size + 1 + 1, 0, none⟩)] rfl rfl ?hn ?h1 (by omega) ?_))
          case hn =>
            intro j u hj
            obtain ⟨rfl, rfl⟩ : j = 0 ∧ u = .pointer (some ⟨wr.heap.size + 1 + 1, 0, none⟩) := one_at hj
            simp [Addr.add, World.cell?_alloc_at]
          case h1 => simp [Value.oneCell']
          intro w1 hown1 hgrow1
          have R := lay_step HY.out (((((Chg.refl [] wr).alloc _).alloc _).alloc _).alloc _) hgrow1 hown1 (ent_off wr _ _ _ _ _ _ _ _ HZ.out (by rw [hst]; rfl) rfl hh)
          clear hown1 hgrow1
          go_wp2
          go_roundw
          case rel => exact ⟨k + 1, _, by omega, by go_num, rfl, R⟩
          case measure => simp [intOf]; omega
      · rw [hh] at d1
        cases ha : ((sps k).kind % 3 == 0)
        · cases hb' : ((sps k).kind % 3 == 1)
          · have hst : streamOf (sps k) = ⟨#[]⟩ := by simp [streamOf, ha, hb']
            go_wp2_with (first
              | (at_builtin; refine wpList_append_fits _ rfl _ _ 24 rfl 0 28 i0 1 Yba.underlying24 hi hz1 (w.heap.size + 1) k n (ptrs e k) rfl ((((((HY.out.row.alloc _).alloc _).alloc _).alloc _).alloc _).alloc _) ⟨wr.heap.size + 1 + 1 + 1 + 1 + 1, 0, none⟩ 1 1 [.pointer (some ⟨wr.heap.size + 1 + 1, 0, none⟩)] rfl rfl ?hn ?h1 (by omega) ?_))
            case hn =>
              intro j u hj
              obtain ⟨rfl, rfl⟩ : j = 0 ∧ u = .pointer (some ⟨wr.heap.size + 1 + 1, 0, none⟩) := one_at hj
              simp [Addr.add, World.cell?_alloc_at]
            case h1 => simp [Value.oneCell']
            intro w1 hown1 hgrow1
            have R := lay_step HY.out (((((((Chg.refl [] wr).alloc _).alloc _).alloc _).alloc _).alloc _).alloc _) hgrow1 hown1 (ent_on wr _ _ _ _ _ _ _ HZ.out (by rw [hst]; rfl) rfl hh)
            clear hown1 hgrow1
            go_wp2
            go_roundw
            case rel => exact ⟨k + 1, _, by omega, by go_num, rfl, R⟩
            case measure => simp [intOf]; omega
          · have hst : streamOf (sps k) = downS := by simp [streamOf, ha, hb']
            go_wp2_with (first
              | (at_builtin; refine wpList_append_fits _ rfl _ _ 24 rfl 0 28 i0 1 Yba.underlying24 hi hz1 (w.heap.size + 1) k n (ptrs e k) rfl ((((((HY.out.row.alloc _).alloc _).alloc _).alloc _).alloc _).alloc _) ⟨wr.heap.size + 1 + 1 + 1 + 1 + 1, 0, none⟩ 1 1 [.pointer (some ⟨wr.heap.size + 1 + 1, 0, none⟩)] rfl rfl ?hn ?h1 (by omega) ?_))
            case hn =>
              intro j u hj
              obtain ⟨rfl, rfl⟩ : j = 0 ∧ u = .pointer (some ⟨wr.heap.size + 1 + 1, 0, none⟩) := one_at hj
              simp [Addr.add, World.cell?_alloc_at]
            case h1 => simp [Value.oneCell']
            intro w1 hown1 hgrow1
            have R := lay_step HY.out (((((((Chg.refl [] wr).alloc _).alloc _).alloc _).alloc _).alloc _).alloc _) hgrow1 hown1 (ent_on wr _ _ _ _ _ _ _ HZ.out (by rw [hst]; rfl) rfl hh)
            clear hown1 hgrow1
            go_wp2
            go_roundw
            case rel => exact ⟨k + 1, _, by omega, by go_num, rfl, R⟩
            case measure => simp [intOf]; omega
        · have hst : streamOf (sps k) = upS := by simp [streamOf, ha]
          go_wp2_with (first
            | (at_builtin; refine wpList_append_fits _ rfl _ _ 24 rfl 0 28 i0 1 Yba.underlying24 hi hz1 (w.heap.size + 1) k n (ptrs e k) rfl ((((((HY.out.row.alloc _).alloc _).alloc _).alloc _).alloc _).alloc _) ⟨wr.heap.size + 1 + 1 + 1 + 1 + 1, 0, none⟩ 1 1 [.pointer (some ⟨wr.heap.size + 1 + 1, 0, none⟩)] rfl rfl ?hn ?h1 (by omega) ?_))
          case hn =>
            intro j u hj
            obtain ⟨rfl, rfl⟩ : j = 0 ∧ u = .pointer (some ⟨wr.heap.size + 1 + 1, 0, none⟩) := one_at hj
            simp [Addr.add, World.cell?_alloc_at]
          case h1 => simp [Value.oneCell']
          intro w1 hown1 hgrow1
          have R := lay_step HY.out (((((((Chg.refl [] wr).alloc _).alloc _).alloc _).alloc _).alloc _).alloc _) hgrow1 hown1 (ent_on wr _ _ _ _ _ _ _ HZ.out (by rw [hst]; rfl) rfl hh)
          clear hown1 hgrow1
          go_wp2
          go_roundw
          case rel => exact ⟨k + 1, _, by omega, by go_num, rfl, R⟩
          case measure => simp [intOf]; omega
    · obtain rfl : k = n := by omega
      have RP := reply_match m p w.heap.size (w.heap.size + 1) k k e sps wr h1 mi hmi HMA.out HMM.out hY.toxics hY.log hY.free HNO.out
      have HCW : Hid (Chg [] w wr) := hY.chg
      clear hY hmk
      go_wp2_with fail
      refine RP.mono ?_
      rintro x w5 ⟨rfl, hL5⟩
      have H5 : Hid (LogAt wr w5 w.heap.size (callsTo sps (mi + 1))) := hL5
      clear hL5 RP
      go_wp2
      obtain ⟨w6, hw6⟩ : ∃ w6, w6 = w5.alloc (.cells #[.int .i64 (sps mi).st, .string p] 48) := ⟨_, rfl⟩
      have L6 : LogAt wr w6 w.heap.size (callsTo sps (mi + 1)) := by rw [hw6]; exact H5.out.alloc _
      have C6 : Chg [] w w6 := by
        obtain ⟨_, _, _, _, h, _⟩ := L6
        exact ((HCW.out.mono (l' := [w.heap.size]) (by simp)).trans h).mono (by simp)
      have B6 : w6.heap[w5.heap.size]? = some (.cells #[.int .i64 (sps mi).st, .string p] 48 (0, 0)) := by rw [hw6]; exact heap_alloc_new _ _
      rw [← hw6]
      obtain ⟨wo, rfl⟩ : ∃ wo : World, wo = wr := ⟨_, rfl⟩
      have H6 : Hid (LogAt wo w6 w.heap.size (callsTo sps (mi + 1))) := L6
      have HC6 : Hid (Chg [] w w6) := C6
      have HB6 : Hid (w6.heap[w5.heap.size]? = some (.cells #[.int .i64 (sps mi).st, .string p] 48 (0, 0))) := B6
      clear hw6 L6 C6 B6 H5 HCW
      obtain ⟨i3, hi3, hz30, hz31, hz32⟩ := info_parts info3
      go_loopw [18, 19, 20] (fun wt cl i wq => ∃ (j : Nat) (a : Option Addr) (c : Nat), j ≤ mi ∧ i = .int .i64 j ∧ wt = .int .i64 (-1) ∧ cl = .slice a (callsTo sps j).length c ∧ wq.ownsRow w6.heap.size 3 1 (.slice a (callsTo sps j).length c) (callsTo sps j).length (ints (callsTo sps j)) ∧ Chg [] w6 wq) (fun _ _ i _ => k - (intOf i).toNat)
      case atStart => exact ⟨0, none, 0, Nat.zero_le _, rfl, rfl, rfl, World.ownsRow_nil _ _ _ _, Chg.refl _ _⟩
      case round =>
        obtain ⟨j, a, c, hj, rfl, rfl, rfl, hO, hQ⟩ := hrel
        have hlen := callsTo_length sps j
        by_cases hlj : j < mi
        · obtain ⟨c0, c1, c2, c3, g1, g2⟩ := HS.out j (by omega)
          have hji : (j : Int) < (k : Int) := by omega
          have hcw := HC6.out.trans hQ
          have d0 := hcw.cell c0 (by simp)
          have d1 := hcw.cell c1 (by simp)
          have d2 := hcw.cell c2 (by simp)
          have d3 := hcw.cell c3 (by simp)
          have HO : Hid (wr.ownsRow w6.heap.size 3 1 (.slice a (callsTo sps j).length c) (callsTo sps j).length (ints (callsTo sps j))) := hO
          have HQ : Hid (Chg [] w6 wr) := hQ
          have hsz : w6.heap.size ≤ wr.heap.size := hQ.size
          clear hO hQ c0 c1 c2 c3 hcw
          cases ha : ((sps j).kind % 3 == 0)
          · have HCL : Hid (callsTo sps (j + 1) = callsTo sps j) := by simp [Hid, callsTo, ansB, ha]
            go_wp2
            go_roundw
            case rel => exact ⟨j + 1, a, c, by omega, by go_num, rfl, by rw [HCL.out], by rw [HCL.out]; exact HO.out.alloc _, HQ.out.alloc _⟩
            case measure => simp [intOf]; omega
          · cases hh : (sps j).has
            · have HCL : Hid (callsTo sps (j + 1) = callsTo sps j) := by simp [Hid, callsTo, ansB, hh]
              rw [hh] at d1
              go_wp2
              go_roundw
              case rel => exact ⟨j + 1, a, c, by omega, by go_num, rfl, by rw [HCL.out], by rw [HCL.out]; exact HO.out.alloc _, HQ.out.alloc _⟩
              case measure => simp [intOf]; omega
            · rw [hh] at d1
              have hans : ansB (sps j) = true := by simp [ansB, ha, hh]
              have HCL : Hid (callsTo sps (j + 1) = callsTo sps j ++ [(j : Int)]) := by simp [Hid, callsTo, hans]
              have hm := HNO.out j hlj hans
              have hm' : ((sps j).meth.toList == m.toList) = false := by rw [beq_swap]; exact hm
              clear hm hans
              go_wp2_with (first
                | (at_builtin; refine wpList_append_own _ rfl _ _ 23 rfl w6.heap.size 3 i3 (.int .i64 0) 1 8 Yba.underlying23 hi3 hz30 hz31 hz32 rfl (by decide) (.slice a (callsTo sps j).length c) (callsTo sps j).length (ints (callsTo sps j)) rfl ((HO.out.alloc _).alloc _) ⟨wr.heap.size + 1, 0, none⟩ 1 1 [.int .i64 (j : Int)] rfl rfl ?hn ?h1 (by unfold maxLen; omega) (by omega) (by simp; omega) ?_))
              case hn =>
                intro i u hi'
                obtain ⟨rfl, rfl⟩ : i = 0 ∧ u = .int .i64 (j : Int) := one_at hi'
                simp [Addr.add, World.cell?_alloc_at]
              case h1 => simp [Value.oneCell']
              intro v' w7 hown hgrow hnil
              have hC7 : Chg [] w6 w7 := (((HQ.out.alloc _).alloc _).mono (l' := (Value.slice a (callsTo sps j).length c).ownBlock.toList) (by simp)).trans (Chg.ofGrown hgrow (fun k hk => .inl (by simp [hk]))) |>.mono (fun k hk => .inr ((HO.out.lt k (by simpa using hk)).1))
              have hown' : w7.ownsRow w6.heap.size 3 1 v' (callsTo sps (j + 1)).length (ints (callsTo sps (j + 1))) := by rw [HCL.out]; simpa [ints] using hown
              obtain ⟨a', c', hv, hcells⟩ := log_shape hown'
              have hl7 : (callsTo sps (j + 1)).length = (callsTo sps j).length + 1 := by rw [HCL.out]; simp
              rw [hv] at hown'
              rw [hv]
              have hbox : w7.cell? ⟨wr.heap.size, 2, none⟩ = some (.string (sps j).meth) := hgrow.cell (((Chg.refl [] _).alloc _).cell (p := ⟨wr.heap.size, 2, none⟩) (by rw [World.cell?_alloc_at _ _ _ _ rfl]; rfl) (by simp)) (fun e => by have := (HO.out.lt _ e.symm).2; simp at this)
              have HC7 : Hid (Chg [] w6 w7) := hC7
              have HO7 : Hid (w7.ownsRow w6.heap.size 3 1 (.slice a' (callsTo sps (j + 1)).length c') (callsTo sps (j + 1)).length (ints (callsTo sps (j + 1)))) := hown'
              clear hown hgrow hnil hC7 hown' hv HO HQ d0 d1 d2 d3 hl7
              clear hcells
              go_wp2
              go_roundw
              case rel => exact ⟨j + 1, a', c', by omega, by go_num, rfl, rfl, HO7.out, HC7.out⟩
              case measure => simp [intOf]; omega
        · obtain rfl : j = mi := by omega
          obtain ⟨c0, c1, c2, c3, g1, g2⟩ := HS.out j hmi
          have hji : (j : Int) < (k : Int) := by omega
          have hcw := HC6.out.trans hQ
          have d0 := hcw.cell c0 (by simp)
          have d1 := hcw.cell c1 (by simp)
          have d2 := hcw.cell c2 (by simp)
          have d3 := hcw.cell c3 (by simp)
          have HO : Hid (wr.ownsRow w6.heap.size 3 1 (.slice a (callsTo sps j).length c) (callsTo sps j).length (ints (callsTo sps j))) := hO
          have HQ : Hid (Chg [] w6 wr) := hQ
          have hsz : w6.heap.size ≤ wr.heap.size := hQ.size
          clear hO hQ c0 c1 c2 c3 hcw
          have hma' := HMA.out
          simp only [ansB, Bool.and_eq_true] at hma'
          have ha := hma'.1
          have hh := hma'.2
          rw [hh] at d1
          have HCL : Hid (callsTo sps (j + 1) = callsTo sps j ++ [(j : Int)]) := by simp [Hid, callsTo, HMA.out]
          have hm' : ((sps j).meth.toList == m.toList) = true := by rw [beq_swap]; exact HMM.out
          clear hma'
          go_wp2_with (first
            | (at_builtin; refine wpList_append_own _ rfl _ _ 23 rfl w6.heap.size 3 i3 (.int .i64 0) 1 8 Yba.underlying23 hi3 hz30 hz31 hz32 rfl (by decide) (.slice a (callsTo sps j).length c) (callsTo sps j).length (ints (callsTo sps j)) rfl ((HO.out.alloc _).alloc _) ⟨wr.heap.size + 1, 0, none⟩ 1 1 [.int .i64 (j : Int)] rfl rfl ?hn ?h1 (by unfold maxLen; omega) (by omega) (by simp; omega) ?_))
          case hn =>
            intro i u hi'
            obtain ⟨rfl, rfl⟩ : i = 0 ∧ u = .int .i64 (j : Int) := one_at hi'
            simp [Addr.add, World.cell?_alloc_at]
          case h1 => simp [Value.oneCell']
          intro v' w7 hown hgrow hnil
          have hC7 : Chg [] w6 w7 := (((HQ.out.alloc _).alloc _).mono (l' := (Value.slice a (callsTo sps j).length c).ownBlock.toList) (by simp)).trans (Chg.ofGrown hgrow (fun k hk => .inl (by simp [hk]))) |>.mono (fun k hk => .inr ((HO.out.lt k (by simpa using hk)).1))
          have hown' : w7.ownsRow w6.heap.size 3 1 v' (callsTo sps (j + 1)).length (ints (callsTo sps (j + 1))) := by rw [HCL.out]; simpa [ints] using hown
          obtain ⟨a', c', hv, hcells⟩ := log_shape hown'
          have hl7 : (callsTo sps (j + 1)).length = (callsTo sps j).length + 1 := by rw [HCL.out]; simp
          rw [hv] at hown'
          rw [hv]
          have hbox : w7.cell? ⟨wr.heap.size, 2, none⟩ = some (.string (sps j).meth) := hgrow.cell (((Chg.refl [] _).alloc _).cell (p := ⟨wr.heap.size, 2, none⟩) (by rw [World.cell?_alloc_at _ _ _ _ rfl]; rfl) (by simp)) (fun e => by have := (HO.out.lt _ e.symm).2; simp at this)
          have HC7 : Hid (Chg [] w6 w7) := hC7
          have HO7 : Hid (w7.ownsRow w6.heap.size 3 1 (.slice a' (callsTo sps (j + 1)).length c') (callsTo sps (j + 1)).length (ints (callsTo sps (j + 1)))) := hown'
          clear hown hgrow hnil hC7 hown' hv HO HQ d0 d1 d2 d3
          have hcW := HC7.out
          have LW := H6.out.keptNew hcW
          obtain ⟨vl, kl1, _, kl3, _, _⟩ := LW
          obtain ⟨al, cl, hvl, hcl⟩ := log_shape kl3
          rw [hvl] at kl1
          have hwW : Chg [] w w7 := HC6.out.trans hcW
          have hrb : w7.heap[w5.heap.size]? = some (.cells #[.int .i64 (sps j).st, .string p] 48 (0, 0)) := (hcW.block w5.heap.size (Array.getElem?_eq_some_iff.1 HB6.out).1 (by simp)).trans HB6.out
          have rb0 := blk_cell hrb 0
          have rb1 := blk_cell hrb 1
          have HBW : Hid (∀ q, Below w.heap.size w (w7.drewN q)) := fun q => (hwW.drewN q).below (Nat.le_refl _) (by simp)
          obtain ⟨_, _, _, y3, _, _⟩ := HS.out j hmi
          have rs3 : w7.cell? ⟨b, off + j * 4 + 3, none⟩ = some (.int .i64 (sps j).st) := hwW.cell (p := ⟨b, off + j * 4 + 3, none⟩) y3 (by simp)
          have hmk : (j : Int) < (k : Int) := by omega
          have hmn : ¬ ((j : Int) < 0) := by omega
          have hpos : 0 < (callsTo sps (j + 1)).length := by rw [hl7]; omega
          obtain ⟨gl, hal, hcl'⟩ := hcl hpos
          obtain ⟨gc, hac, hcc'⟩ := hcells hpos
          rw [hal] at kl1
          rw [hac]
          have HCL1 : Hid (∀ i, i < (callsTo sps (j + 1)).length → w7.cell? ⟨gl, i, none⟩ = some (.int .i64 ((callsTo sps (j + 1)).getD i 0))) := hcl'
          have HCC1 : Hid (∀ i, i < (callsTo sps (j + 1)).length → w7.cell? ⟨gc, i, none⟩ = some (.int .i64 ((callsTo sps (j + 1)).getD i 0))) := hcc'
          have hLk : (callsTo sps (j + 1)).length ≤ 1024 := by have := callsTo_length sps (j + 1); omega
          generalize (callsTo sps (j + 1)) = L at *
          clear hcW hwW hvl kl3 hcl hrb hcells hl7 hpos hal hac hcl' hcc'
          go_wp2
          go_loopw [22] (fun i wq => ∃ i' q : Nat, i' ≤ L.length ∧ i = .int .i64 i' ∧ wq = w7.drewN q) (fun i _ => L.length - (intOf i).toNat)
          case atStart => exact ⟨0, 0, Nat.zero_le _, rfl, rfl⟩
          case round =>
            obtain ⟨i', q, hi', rfl, rfl⟩ := hrel
            by_cases hli : i' < L.length
            · have hii : (i' : Int) < (L.length : Int) := by omega
              have x1 := HCL1.out i' hli
              have x2 := HCC1.out i' hli
              obtain ⟨y, hy⟩ : ∃ y, y = L.getD i' 0 := ⟨_, rfl⟩
              rw [← hy] at x1 x2
              clear hy
              go_wp2
              go_quiet (fail)
              go_wp2
              go_roundw
              case rel => exact ⟨i' + 1, _, by omega, by go_num, rfl⟩
              case measure => simp [intOf]; omega
            · obtain rfl : i' = L.length := by omega
              go_wp2
              go_quiet (fail)
              go_wp2
              go_ret
              exact ⟨by simp, by rw [World.drewN_drewN]; exact HBW.out _⟩

set_option maxRecDepth 100000 in
set_option maxHeartbeats 6400000 in
theorem law_none (b off n cap : Nat) (sps : Nat → Sp) (m p : ByteArray) (w : World) (h0 : 0 < n) (h1 : n ≤ 1024) (hb : b < w.heap.size) (hS : SpecsAt w b off n sps)
    (hno : ∀ j, j < n → ansB (sps j) = true → (m.toList == (sps j).meth.toList) = false) :
    Calls Yba.prog 3 #[.slice (some ⟨b, off, none⟩) n cap, .string m, .string p] w fun x w' => x = .returned (.bool true) ∧ Below w.heap.size w w' := by
  have hgt : ¬ (1024 < (n : Int)) := by omega
  have hmk := mk24 n h1
  obtain ⟨i0, hi, hz0, hz1, hz2⟩ := info_parts info28
  have HS : Hid (SpecsAt w b off n sps) := hS
  clear hS
  have HNO : Hid (∀ j, j < n → ansB (sps j) = true → (m.toList == (sps j).meth.toList) = false) := hno
  clear hno
  go_enter Yba.func3, Yba.ntmps3
  go_wp2
  go_loopw [8, 9] (fun t i wr => ∃ (k : Nat) (e : Nat → Nat), k ≤ n ∧ i = .int .i64 k ∧ t = .slice (some ⟨w.heap.size + 1, 0, none⟩) k n ∧ Lay w wr n k e sps) (fun _ i _ => n - (intOf i).toNat)
  case atStart => exact ⟨0, fun _ => 0, Nat.zero_le _, rfl, rfl, lay_start n h1 sps w⟩
  case round =>
    obtain ⟨k, e, hk, rfl, rfl, hY⟩ := hrel
    by_cases hlt : k < n
    · obtain ⟨c0, c1, c2, c3, g1, g2⟩ := HS.out k hlt
      have hki : (k : Int) < (n : Int) := by omega
      have d0 := hY.chg.cell c0 (by simp)
      have d1 := hY.chg.cell c1 (by simp)
      have d2 := hY.chg.cell c2 (by simp)
      have d3 := hY.chg.cell c3 (by simp)
      have HY : Hid (Lay w wr n k e sps) := hY
      have HZ : Hid (w.heap.size + 2 ≤ wr.heap.size) := by
        have h : w.heap.size + 1 < wr.heap.size := (hY.row.lt _ rfl).2
        show _ ≤ _
        omega
      clear hY c0 c1 c2 c3 hmk
      cases hh : (sps k).has
      · rw [hh] at d1
        cases ha : ((sps k).kind % 3 == 0)
        · cases hb' : ((sps k).kind % 3 == 1)
          · have hst : streamOf (sps k) = ⟨#[]⟩ := by simp [streamOf, ha, hb']
            go_wp2_with (first
              | (at_builtin; refine wpList_append_fits _ rfl _ _ 24 rfl 0 28 i0 1 Yba.underlying24 hi hz1 (w.heap.size + 1) k n (ptrs e k) rfl ((((HY.out.row.alloc _).alloc _).alloc _).alloc _) ⟨wr.heap.size + 1 + 1 + 1, 0, none⟩ 1 1 [.pointer (some ⟨wr.heap.size + 1 + 1, 0, none⟩)] rfl rfl ?hn ?h1 (by omega) ?_))
            case hn =>
              intro j u hj
              obtain ⟨rfl, rfl⟩ : j = 0 ∧ u = .pointer (some ⟨wr.heap.size + 1 + 1, 0, none⟩) := one_at hj
              simp [Addr.add, World.cell?_alloc_at]
            case h1 => simp [Value.oneCell']
            intro w1 hown1 hgrow1
            have R := lay_step HY.out (((((Chg.refl [] wr).alloc _).alloc _).alloc _).alloc _) hgrow1 hown1 (ent_off wr _ _ _ _ _ _ _ _ HZ.out (by rw [hst]; rfl) rfl hh)
            clear hown1 hgrow1
            go_wp2
            go_roundw
            case rel => exact ⟨k + 1, _, by omega, by go_num, rfl, R⟩
            case measure => simp [intOf]; omega
          · have hst : streamOf (sps k) = downS := by simp [streamOf, ha, hb']
            go_wp2_with (first
              | (at_builtin; refine wpList_append_fits _ rfl _ _ 24 rfl 0 28 i0 1 Yba.underlying24 hi hz1 (w.heap.size + 1) k n (ptrs e k) rfl ((((HY.out.row.alloc _).alloc _).alloc _).alloc _) ⟨wr.heap.size + 1 + 1 + 1, 0, none⟩ 1 1 [.pointer (some ⟨wr.heap.size + 1 + 1, 0, none⟩)] rfl rfl ?hn ?h1 (by omega) ?_))
            case hn =>
              intro j u hj
              obtain ⟨rfl, rfl⟩ : j = 0 ∧ u = .pointer (some ⟨wr.heap.size + 1 + 1, 0, none⟩) := one_at hj
              simp [Addr.add, World.cell?_alloc_at]
            case h1 => simp [Value.oneCell']
            intro w1 hown1 hgrow1
            have R := lay_step HY.out (((((Chg.refl [] wr).alloc _).alloc _).alloc _).alloc _) hgrow1 hown1 (ent_off wr _ _ _ _ _ _ _ _ HZ.out (by rw [hst]; rfl) rfl hh)
            clear hown1 hgrow1
            go_wp2
            go_roundw
            case rel => exact ⟨k + 1, _, by omega, by go_num, rfl, R⟩
            case measure => simp [intOf]; omega
        · have hst : streamOf (sps k) = upS := by simp [streamOf, ha]
          go_wp2_with (first
            | (at_builtin; refine wpList_append_fits _ rfl _ _ 24 rfl 0 28 i0 1 Yba.underlying24 hi hz1 (w.heap.size + 1) k n (ptrs e k) rfl ((((HY.out.row.alloc _).alloc _).alloc _).alloc _) ⟨wr.heap.size + 1 + 1 + 1, 0, none⟩ 1 1 [.pointer (some ⟨wr.heap.size + 1 + 1, 0, none⟩)] rfl rfl ?hn ?h1 (by omega) ?_))
          case hn =>
            intro j u hj
            obtain ⟨rfl, rfl⟩ : j = 0 ∧ u = .pointer (some ⟨wr.heap.size + 1 + 1, 0, none⟩) := one_at hj
            simp [Addr.add, World.cell?_alloc_at]
          case h1 => simp [Value.oneCell']
          intro w1 hown1 hgrow1
          have R := lay_step HY.out (((((Chg.refl [] wr).alloc _).alloc _).alloc _).alloc _) hgrow1 hown1 (ent_off wr _ _ _ _ _ _ _ _ HZ.out (by rw [hst]; rfl) rfl hh)
          clear hown1 hgrow1
          go_wp2
          go_roundw
          case rel => exact ⟨k + 1, _, by omega, by go_num, rfl, R⟩
          case measure => simp [intOf]; omega
      · rw [hh] at d1
        cases ha : ((sps k).kind % 3 == 0)
        · cases hb' : ((sps k).kind % 3 == 1)
          · have hst : streamOf (sps k) = ⟨#[]⟩ := by simp [streamOf, ha, hb']
            go_wp2_with (first
              | (at_builtin; refine wpList_append_fits _ rfl _ _ 24 rfl 0 28 i0 1 Yba.underlying24 hi hz1 (w.heap.size + 1) k n (ptrs e k) rfl ((((((HY.out.row.alloc _).alloc _).alloc _).alloc _).alloc _).alloc _) ⟨wr.heap.size + 1 + 1 + 1 + 1 + 1, 0, none⟩ 1 1 [.pointer (some ⟨wr.heap.size + 1 + 1, 0, none⟩)] rfl rfl ?hn ?h1 (by omega) ?_))
            case hn =>
              intro j u hj
              obtain ⟨rfl, rfl⟩ : j = 0 ∧ u = .pointer (some ⟨wr.heap.size + 1 + 1, 0, none⟩) := one_at hj
              simp [Addr.add, World.cell?_alloc_at]
            case h1 => simp [Value.oneCell']
            intro w1 hown1 hgrow1
            have R := lay_step HY.out (((((((Chg.refl [] wr).alloc _).alloc _).alloc _).alloc _).alloc _).alloc _) hgrow1 hown1 (ent_on wr _ _ _ _ _ _ _ HZ.out (by rw [hst]; rfl) rfl hh)
            clear hown1 hgrow1
            go_wp2
            go_roundw
            case rel => exact ⟨k + 1, _, by omega, by go_num, rfl, R⟩
            case measure => simp [intOf]; omega
          · have hst : streamOf (sps k) = downS := by simp [streamOf, ha, hb']
            go_wp2_with (first
              | (at_builtin; refine wpList_append_fits _ rfl _ _ 24 rfl 0 28 i0 1 Yba.underlying24 hi hz1 (w.heap.size + 1) k n (ptrs e k) rfl ((((((HY.out.row.alloc _).alloc _).alloc _).alloc _).alloc _).alloc _) ⟨wr.heap.size + 1 + 1 + 1 + 1 + 1, 0, none⟩ 1 1 [.pointer (some ⟨wr.heap.size + 1 + 1, 0, none⟩)] rfl rfl ?hn ?h1 (by omega) ?_))
            case hn =>
              intro j u hj
              obtain ⟨rfl, rfl⟩ : j = 0 ∧ u = .pointer (some ⟨wr.heap.size + 1 + 1, 0, none⟩) := one_at hj
              simp [Addr.add, World.cell?_alloc_at]
            case h1 => simp [Value.oneCell']
            intro w1 hown1 hgrow1
            have R := lay_step HY.out (((((((Chg.refl [] wr).alloc _).alloc _).alloc _).alloc _).alloc _).alloc _) hgrow1 hown1 (ent_on wr _ _ _ _ _ _ _ HZ.out (by rw [hst]; rfl) rfl hh)
            clear hown1 hgrow1
            go_wp2
            go_roundw
            case rel => exact ⟨k + 1, _, by omega, by go_num, rfl, R⟩
            case measure => simp [intOf]; omega
        · have hst : streamOf (sps k) = upS := by simp [streamOf, ha]
          go_wp2_with (first
            | (at_builtin; refine wpList_append_fits _ rfl _ _ 24 rfl 0 28 i0 1 Yba.underlying24 hi hz1 (w.heap.size + 1) k n (ptrs e k) rfl ((((((HY.out.row.alloc _).alloc _).alloc _).alloc _).alloc _).alloc _) ⟨wr.heap.size + 1 + 1 + 1 + 1 + 1, 0, none⟩ 1 1 [.pointer (some ⟨wr.heap.size + 1 + 1, 0, none⟩)] rfl rfl ?hn ?h1 (by omega) ?_))
          case hn =>
            intro j u hj
            obtain ⟨rfl, rfl⟩ : j = 0 ∧ u = .pointer (some ⟨wr.heap.size + 1 + 1, 0, none⟩) := one_at hj
            simp [Addr.add, World.cell?_alloc_at]
          case h1 => simp [Value.oneCell']
          intro w1 hown1 hgrow1
          have R := lay_step HY.out (((((((Chg.refl [] wr).alloc _).alloc _).alloc _).alloc _).alloc _).alloc _) hgrow1 hown1 (ent_on wr _ _ _ _ _ _ _ HZ.out (by rw [hst]; rfl) rfl hh)
          clear hown1 hgrow1
          go_wp2
          go_roundw
          case rel => exact ⟨k + 1, _, by omega, by go_num, rfl, R⟩
          case measure => simp [intOf]; omega
    · obtain rfl : k = n := by omega
      have RP := reply_none m p w.heap.size (w.heap.size + 1) k k e sps wr h1 hY.toxics hY.log hY.free HNO.out
      have HCW : Hid (Chg [] w wr) := hY.chg
      clear hY hmk
      go_wp2_with fail
      refine RP.mono ?_
      rintro x w5 ⟨rfl, hL5⟩
      have H5 : Hid (LogAt wr w5 w.heap.size (callsTo sps k)) := hL5
      clear hL5 RP
      go_wp2
      obtain ⟨w6, hw6⟩ : ∃ w6, w6 = w5.alloc (.cells #[.int .i64 0, .string ⟨#[]⟩] 48) := ⟨_, rfl⟩
      have L6 : LogAt wr w6 w.heap.size (callsTo sps k) := by rw [hw6]; exact H5.out.alloc _
      have C6 : Chg [] w w6 := by
        obtain ⟨_, _, _, _, h, _⟩ := L6
        exact ((HCW.out.mono (l' := [w.heap.size]) (by simp)).trans h).mono (by simp)
      have B6 : w6.heap[w5.heap.size]? = some (.cells #[.int .i64 0, .string ⟨#[]⟩] 48 (0, 0)) := by rw [hw6]; exact heap_alloc_new _ _
      rw [← hw6]
      obtain ⟨wo, rfl⟩ : ∃ wo : World, wo = wr := ⟨_, rfl⟩
      have H6 : Hid (LogAt wo w6 w.heap.size (callsTo sps k)) := L6
      have HC6 : Hid (Chg [] w w6) := C6
      have HB6 : Hid (w6.heap[w5.heap.size]? = some (.cells #[.int .i64 0, .string ⟨#[]⟩] 48 (0, 0))) := B6
      clear hw6 L6 C6 B6 H5 HCW
      obtain ⟨i3, hi3, hz30, hz31, hz32⟩ := info_parts info3
      go_loopw [18, 19, 20] (fun wt cl i wq => ∃ (j : Nat) (a : Option Addr) (c : Nat), j ≤ k ∧ i = .int .i64 j ∧ wt = .int .i64 (-1) ∧ cl = .slice a (callsTo sps j).length c ∧ wq.ownsRow w6.heap.size 3 1 (.slice a (callsTo sps j).length c) (callsTo sps j).length (ints (callsTo sps j)) ∧ Chg [] w6 wq) (fun _ _ i _ => k - (intOf i).toNat)
      case atStart => exact ⟨0, none, 0, Nat.zero_le _, rfl, rfl, rfl, World.ownsRow_nil _ _ _ _, Chg.refl _ _⟩
      case round =>
        obtain ⟨j, a, c, hj, rfl, rfl, rfl, hO, hQ⟩ := hrel
        have hlen := callsTo_length sps j
        by_cases hlj : j < k
        · obtain ⟨c0, c1, c2, c3, g1, g2⟩ := HS.out j hlj
          have hji : (j : Int) < (k : Int) := by omega
          have hcw := HC6.out.trans hQ
          have d0 := hcw.cell c0 (by simp)
          have d1 := hcw.cell c1 (by simp)
          have d2 := hcw.cell c2 (by simp)
          have d3 := hcw.cell c3 (by simp)
          have HO : Hid (wr.ownsRow w6.heap.size 3 1 (.slice a (callsTo sps j).length c) (callsTo sps j).length (ints (callsTo sps j))) := hO
          have HQ : Hid (Chg [] w6 wr) := hQ
          have hsz : w6.heap.size ≤ wr.heap.size := hQ.size
          clear hO hQ c0 c1 c2 c3 hcw
          cases ha : ((sps j).kind % 3 == 0)
          · have HCL : Hid (callsTo sps (j + 1) = callsTo sps j) := by simp [Hid, callsTo, ansB, ha]
            go_wp2
            go_roundw
            case rel => exact ⟨j + 1, a, c, by omega, by go_num, rfl, by rw [HCL.out], by rw [HCL.out]; exact HO.out.alloc _, HQ.out.alloc _⟩
            case measure => simp [intOf]; omega
          · cases hh : (sps j).has
            · have HCL : Hid (callsTo sps (j + 1) = callsTo sps j) := by simp [Hid, callsTo, ansB, hh]
              rw [hh] at d1
              go_wp2
              go_roundw
              case rel => exact ⟨j + 1, a, c, by omega, by go_num, rfl, by rw [HCL.out], by rw [HCL.out]; exact HO.out.alloc _, HQ.out.alloc _⟩
              case measure => simp [intOf]; omega
            · rw [hh] at d1
              have hans : ansB (sps j) = true := by simp [ansB, ha, hh]
              have HCL : Hid (callsTo sps (j + 1) = callsTo sps j ++ [(j : Int)]) := by simp [Hid, callsTo, hans]
              have hm := HNO.out j hlj hans
              have hm' : ((sps j).meth.toList == m.toList) = false := by rw [beq_swap]; exact hm
              clear hm hans
              go_wp2_with (first
                | (at_builtin; refine wpList_append_own _ rfl _ _ 23 rfl w6.heap.size 3 i3 (.int .i64 0) 1 8 Yba.underlying23 hi3 hz30 hz31 hz32 rfl (by decide) (.slice a (callsTo sps j).length c) (callsTo sps j).length (ints (callsTo sps j)) rfl ((HO.out.alloc _).alloc _) ⟨wr.heap.size + 1, 0, none⟩ 1 1 [.int .i64 (j : Int)] rfl rfl ?hn ?h1 (by unfold maxLen; omega) (by omega) (by simp; omega) ?_))
              case hn =>
                intro i u hi'
                obtain ⟨rfl, rfl⟩ : i = 0 ∧ u = .int .i64 (j : Int) := one_at hi'
                simp [Addr.add, World.cell?_alloc_at]
              case h1 => simp [Value.oneCell']
              intro v' w7 hown hgrow hnil
              have hC7 : Chg [] w6 w7 := (((HQ.out.alloc _).alloc _).mono (l' := (Value.slice a (callsTo sps j).length c).ownBlock.toList) (by simp)).trans (Chg.ofGrown hgrow (fun k hk => .inl (by simp [hk]))) |>.mono (fun k hk => .inr ((HO.out.lt k (by simpa using hk)).1))
              have hown' : w7.ownsRow w6.heap.size 3 1 v' (callsTo sps (j + 1)).length (ints (callsTo sps (j + 1))) := by rw [HCL.out]; simpa [ints] using hown
              obtain ⟨a', c', hv, hcells⟩ := log_shape hown'
              have hl7 : (callsTo sps (j + 1)).length = (callsTo sps j).length + 1 := by rw [HCL.out]; simp
              rw [hv] at hown'
              rw [hv]
              have hbox : w7.cell? ⟨wr.heap.size, 2, none⟩ = some (.string (sps j).meth) := hgrow.cell (((Chg.refl [] _).alloc _).cell (p := ⟨wr.heap.size, 2, none⟩) (by rw [World.cell?_alloc_at _ _ _ _ rfl]; rfl) (by simp)) (fun e => by have := (HO.out.lt _ e.symm).2; simp at this)
              have HC7 : Hid (Chg [] w6 w7) := hC7
              have HO7 : Hid (w7.ownsRow w6.heap.size 3 1 (.slice a' (callsTo sps (j + 1)).length c') (callsTo sps (j + 1)).length (ints (callsTo sps (j + 1)))) := hown'
              clear hown hgrow hnil hC7 hown' hv HO HQ d0 d1 d2 d3 hl7
              clear hcells
              go_wp2
              go_roundw
              case rel => exact ⟨j + 1, a', c', by omega, by go_num, rfl, rfl, HO7.out, HC7.out⟩
              case measure => simp [intOf]; omega
        · obtain rfl : j = k := by omega
          obtain ⟨a2, c2, hv2, hcells⟩ := log_shape hO
          obtain ⟨rfl, rfl⟩ : a = a2 ∧ c = c2 := by injection hv2 with h1 h2 h3; exact ⟨h1, h3⟩
          by_cases hpos0 : 0 < (callsTo sps j).length
          · have hcW := hQ
            have LW := H6.out.keptNew hcW
            obtain ⟨vl, kl1, _, kl3, _, _⟩ := LW
            obtain ⟨al, cl, hvl, hcl⟩ := log_shape kl3
            rw [hvl] at kl1
            have hwW : Chg [] w wr := HC6.out.trans hcW
            have hrb : wr.heap[w5.heap.size]? = some (.cells #[.int .i64 0, .string ⟨#[]⟩] 48 (0, 0)) := (hcW.block w5.heap.size (Array.getElem?_eq_some_iff.1 HB6.out).1 (by simp)).trans HB6.out
            have rb0 := blk_cell hrb 0
            have rb1 := blk_cell hrb 1
            have HBW : Hid (∀ q, Below w.heap.size w (wr.drewN q)) := fun q => (hwW.drewN q).below (Nat.le_refl _) (by simp)
            have hpos : 0 < (callsTo sps j).length := hpos0
            obtain ⟨gl, hal, hcl'⟩ := hcl hpos
            obtain ⟨gc, hac, hcc'⟩ := hcells hpos
            rw [hal] at kl1
            rw [hac]
            have HCL1 : Hid (∀ i, i < (callsTo sps j).length → wr.cell? ⟨gl, i, none⟩ = some (.int .i64 ((callsTo sps j).getD i 0))) := hcl'
            have HCC1 : Hid (∀ i, i < (callsTo sps j).length → wr.cell? ⟨gc, i, none⟩ = some (.int .i64 ((callsTo sps j).getD i 0))) := hcc'
            have hLk : (callsTo sps j).length ≤ 1024 := by have := callsTo_length sps j; omega
            generalize (callsTo sps j) = L at *
            clear hcW hwW hvl kl3 hcl hrb hpos hcells hal hac hcl' hcc'
            go_wp2
            go_loopw [22] (fun i wq => ∃ i' q : Nat, i' ≤ L.length ∧ i = .int .i64 i' ∧ wq = wr.drewN q) (fun i _ => L.length - (intOf i).toNat)
            case atStart => exact ⟨0, 0, Nat.zero_le _, rfl, rfl⟩
            case round =>
              obtain ⟨i', q, hi', rfl, rfl⟩ := hrel
              by_cases hli : i' < L.length
              · have hii : (i' : Int) < (L.length : Int) := by omega
                have x1 := HCL1.out i' hli
                have x2 := HCC1.out i' hli
                obtain ⟨y, hy⟩ : ∃ y, y = L.getD i' 0 := ⟨_, rfl⟩
                rw [← hy] at x1 x2
                clear hy
                go_wp2
                go_quiet (fail)
                go_wp2
                go_roundw
                case rel => exact ⟨i' + 1, _, by omega, by go_num, rfl⟩
                case measure => simp [intOf]; omega
              · obtain rfl : i' = L.length := by omega
                go_wp2
                go_wp2
                go_ret
                exact ⟨by simp, HBW.out _⟩
          · have hcW := hQ
            have LW := H6.out.keptNew hcW
            obtain ⟨vl, kl1, _, kl3, _, _⟩ := LW
            obtain ⟨al, cl, hvl, hcl⟩ := log_shape kl3
            rw [hvl] at kl1
            have hwW : Chg [] w wr := HC6.out.trans hcW
            have hrb : wr.heap[w5.heap.size]? = some (.cells #[.int .i64 0, .string ⟨#[]⟩] 48 (0, 0)) := (hcW.block w5.heap.size (Array.getElem?_eq_some_iff.1 HB6.out).1 (by simp)).trans HB6.out
            have rb0 := blk_cell hrb 0
            have rb1 := blk_cell hrb 1
            have HBW : Hid (∀ q, Below w.heap.size w (wr.drewN q)) := fun q => (hwW.drewN q).below (Nat.le_refl _) (by simp)
            have hLk : (callsTo sps j).length ≤ 1024 := by have := callsTo_length sps j; omega
            generalize (callsTo sps j) = L at *
            clear hcW hwW hvl kl3 hcl hrb hcells
            go_wp2
            go_loopw [22] (fun i wq => ∃ i' q : Nat, i' ≤ L.length ∧ i = .int .i64 i' ∧ wq = wr.drewN q) (fun i _ => L.length - (intOf i).toNat)
            case atStart => exact ⟨0, 0, Nat.zero_le _, rfl, rfl⟩
            case round =>
              obtain ⟨i', q, hi', rfl, rfl⟩ := hrel
              by_cases hli : i' < L.length
              · omega
              · obtain rfl : i' = L.length := by omega
                go_wp2
                go_wp2
                go_ret
                exact ⟨by simp, HBW.out _⟩

end Go.Proofs.Ybulkcvko
