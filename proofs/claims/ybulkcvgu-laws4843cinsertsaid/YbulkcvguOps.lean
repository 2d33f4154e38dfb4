/-
  Seat b4843a: make, copy and append on a slice of ints of the call's own.
-/
import Derived.Test.YbulkcvguEnqueue
import Derived.Laws.CopyOwn
namespace Go.Proofs.Ybulkcvgu
open Go.RowKit
set_option linter.unusedVariables false

def madeQ (c : Nat) : Array Value := madeCells (Value.int .i64 0).cells c
theorem madeQ_size (c : Nat) : (madeQ c).size = c := size_madeCells _ _
theorem info3 : (Yba.prog.info? 3).map (fun i => (i.zero, i.size, i.bytes)) = some (some (.int .i64 0), 1, 8) := by kernel_rfl
theorem size3 : (Yba.prog.info? 3).map (·.size) = some 1 := by kernel_rfl

/-- make([]int, n, c). -/
theorem mk22 (n c : Nat) (hnc : n ≤ c) (hc : c ≤ 4096) (w : World) : (Instr.makeSlice 22 (.int .i64 (n : Int)) (.int .i64 (c : Int))).run Yba.prog w = .ok (.slice (some ⟨w.heap.size, 0, none⟩) n c) (w.alloc (.cells (madeQ c) 3)) := by
  obtain ⟨i0, hi, hz0, hz1, hz2⟩ := info_parts info3
  have hr := run_make (P := Yba.prog) w 22 3 i0 (.int .i64 0) Yba.underlying22 hi hz0 .i64 .i64 (n : Int) (c : Int) (by omega) (by omega) (by rw [hz2]; omega) (by omega)
  simpa [hz1, madeQ] using hr

theorem chg_setRow {l : List Nat} {w : World} {g : Nat} (hg : g ∈ l) (cs : Array Value) : Chg l w (w.setRow g cs) :=
  ⟨rfl, rfl, rfl, by simp [World.setRow], fun k hk hl => setRow_other w g k cs (fun e => hl (e ▸ hg))⟩

/-- copy(d, s), both of length n, d the head of a row of the call's own: its run. -/
theorem copy_q {w : World} (g cap : Nat) (sp : Option Addr) (sc : Nat) (zs : List Int) (cur : Array Value) (hg : w.heap[g]? = some (.cells cur 3 (0, 0))) (hsz : cur.size = cap) (hfit : zs.length ≤ cap) (hcm : cap ≤ maxLen)
    (hpos : 0 < zs.length → ∃ ad, sp = some ad ∧ ∀ j v, (ints zs)[j]? = some v → w.cell? (ad.add j) = some v) :
    ∃ w', (∀ ty, (Builtin.copy_ #[22, 22] ty #[.slice (some ⟨g, 0, none⟩) zs.length cap, .slice sp zs.length sc]).run Yba.prog w = .ok (.int .i64 (zs.length : Int)) w') ∧
      IsQ w' (.slice (some ⟨g, 0, none⟩) zs.length cap) zs ∧ Chg [g] w w' := by
  by_cases h0 : zs.length = 0
  · obtain rfl : zs = [] := List.eq_nil_of_length_eq_zero h0
    exact ⟨w, fun ty => run_copy_none (P := Yba.prog) w 22 22 ty 3 _ sp 0 cap 0 sc Yba.underlying22 size3 rfl, .inr ⟨g, cap, cur, rfl, hg, hfit, hcm, hsz, by simp [ints]⟩, Chg.refl _ _⟩
  · obtain ⟨ad, rfl, hsrc⟩ := hpos (by omega)
    have hl : (ints zs).length = zs.length := by simp [ints]
    have hrun := fun ty => run_copy_row (P := Yba.prog) w 22 22 ty 3 g 0 zs.length cap ad zs.length sc cur 3 (ints zs) Yba.underlying22 size3 hg (by rw [hl]; exact (Nat.min_self _).symm) hsrc (by omega) (ints_one zs)
    refine ⟨_, fun ty => (hrun ty).trans (by rw [hl]; rfl), .inr ⟨g, cap, _, rfl, setRow_heap w g cur _ 3 _ hg, hfit, hcm, ?_, ?_⟩, chg_setRow (by simp) _⟩
    · simp [hl]; omega
    · simp [hl]

/-- append(q, x) where there is room. -/
theorem append_q {w : World} {ops : Array Oper} {rest : List Oper} {o : Oper} {a : Act} {Q : Exit → Act → World → Prop} (hgd : o.guard = none) (s x : Operand)
    (ho : o.op = .call { callee := .builtin .append, args := #[s, x], argTypes := #[22, 22] }) (g cap vb : Nat) (zs : List Int) (y : Int)
    (hs : a.eval s = .slice (some ⟨g, 0, none⟩) zs.length cap) (hx : a.eval x = .slice (some ⟨vb, 0, none⟩) 1 1) (hq : IsQ w (.slice (some ⟨g, 0, none⟩) zs.length cap) zs) (hroom : zs.length + 1 ≤ cap)
    (hv : ∀ j u, [Value.int .i64 y][j]? = some u → w.cell? ((⟨vb, 0, none⟩ : Addr).add j) = some u)
    (h : ∀ w', IsQ w' (.slice (some ⟨g, 0, none⟩) (zs.length + 1) cap) (zs ++ [y]) → Chg [g] w w' → wpList Yba.prog ops Q rest (a.put o.dst (.slice (some ⟨g, 0, none⟩) (zs.length + 1) cap)) w') :
    wpList Yba.prog ops Q (o :: rest) a w := by
  obtain ⟨i0, hi, hz0, hz1, hz2⟩ := info_parts info3
  rcases hq with ⟨h0, _⟩ | ⟨g', cap', cur, he, hg, hlc, hcm, hsz, ht⟩
  · cases h0
  obtain ⟨⟨rfl⟩, rfl⟩ : g = g' ∧ cap = cap' := by simpa using he
  have hown : w.ownsRow 0 3 1 (.slice (some ⟨g, 0, none⟩) zs.length cap) zs.length (ints zs) := ⟨by simp [ints], .inr ⟨g, cap, cur, rfl, Nat.zero_le _, hg, hlc, hcm, by simpa using hsz, by simpa using ht⟩⟩
  refine wpList_append_fits _ hgd s x 22 ho 0 3 i0 1 Yba.underlying22 hi hz1 g zs.length cap (ints zs) hs hown ⟨vb, 0, none⟩ 1 1 [.int .i64 y] hx rfl hv (by simp [Value.oneCell']) hroom ?_
  intro w' hown' hgr
  refine h w' ?_ (Chg.ofGrown hgr (by simp))
  rcases hown'.2 with ⟨h0, _⟩ | ⟨g2, cap2, cur2, he2, _, hg2, hlc2, hcm2, hsz2, ht2⟩
  · cases h0
  obtain ⟨⟨rfl⟩, rfl⟩ : g = g2 ∧ cap = cap2 := by simpa using he2
  exact .inr ⟨g, cap, cur2, by simp, hg2, by simpa using hlc2, hcm2, by simpa using hsz2, by simpa [ints] using ht2⟩

end Go.Proofs.Ybulkcvgu
