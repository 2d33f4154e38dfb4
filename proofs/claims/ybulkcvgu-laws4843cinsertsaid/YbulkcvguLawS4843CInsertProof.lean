/-
  The proof of 'Rows.LawS4843CInsertSaid'. The walk is ours; the frame is the skeleton tool's print for this function.
-/
import Derived.Test.YbulkcvguRows
import Derived.WalkKit
import Derived.ProofKit
import Derived.OpenShut
import Derived.ShutString
import Derived.ChangeOld
import Derived.Below
import Derived.Test.YbulkcvguIns
namespace Go.Proofs.Ybulkcvgu.lawS4843CInsert
open Go.ChangeShapes Go.WideShapes Go.ChangeAt Go.RowKit
open Go.ChangeMaps (open_string shut_string)
set_option linter.unusedVariables false

theorem own : ownKnob Yba.prog.godebug = none := by kernel_rfl
theorem laidOut : laidOutB Yba.prog = true := by kernel_rfl

/-- WHAT THE WALK IS TOLD OF A SLICE OF INTEGERS THAT CAME IN: it is nil; or it leads to a row of 'cap' cells, the numbers 'zs' (the first 'len' are its elements, the rest its spare room), each fitting its kind. -/
def IsRow (k : IntKind) (w : World) (a : Option Addr) (len cap : Nat) (zs : List Int) : Prop :=
  (a = none ∧ len = 0 ∧ cap = 0 ∧ zs = []) ∨
  ∃ x, a = some x ∧ len ≤ cap ∧ cap ≤ maxLen ∧ zs.length = cap ∧ (∀ i, i < zs.length → w.cell? (x.add i) = some (.int k (zs.getD i 0))) ∧ ∀ n ∈ zs, (Lit.int k n).wf = true

/-! ### STEP 1: THE WALK -/
theorem walk (a0 : Option Addr) (len0 cap0 : Nat) (z0 : List Int) (a1 : Int) (a2 : Int) (a3 : Int) (a4 : Bool) (w : World) (w0 : IsRow .i64 w a0 len0 cap0 z0) (w1 : (Lit.int .i64 a1).wf = true) (w2 : (Lit.int .u8 a2).wf = true) (w3 : (Lit.int .u8 a3).wf = true) :
    Calls Yba.prog 3 #[.slice a0 len0 cap0, .int .i64 a1, .int .u8 a2, .int .u8 a3, .bool a4] w fun e w' => e = .returned (.bool true) ∧ Below w.heap.size w w' := by
  have hlen : len0 ≤ 9223372036854775807 := by
    rcases w0 with ⟨_, h, _⟩ | ⟨_, _, h1, h2, _⟩
    · omega
    · unfold maxLen at h2; omega
  have b2 : 0 ≤ a2 ∧ a2 ≤ 255 := by
    have := w2
    simp [Lit.wf, IntKind.min, IntKind.max, IntKind.signed, IntKind.bits] at this
    omega
  have b3 : 0 ≤ a3 ∧ a3 ≤ 255 := by
    have := w3
    simp [Lit.wf, IntKind.min, IntKind.max, IntKind.signed, IntKind.bits] at this
    omega
  by_cases hbig : 1024 < len0
  · exact ins_big a0 len0 cap0 a1 a2 a3 a4 w hbig hlen
  obtain ⟨n, hn⟩ : ∃ n : Nat, a2 % 4 + 1 = (n : Int) := ⟨(a2 % 4 + 1).toNat, by omega⟩
  have hn1 : 1 ≤ n := by omega
  have hn4 : n ≤ 4 := by omega
  have hm0 : 0 ≤ a3 % (n : Int) := Int.emod_nonneg _ (by omega)
  have hm1 : a3 % (n : Int) < (n : Int) := Int.emod_lt_of_pos _ (by omega)
  obtain ⟨u, hu⟩ : ∃ u : Nat, a3 % (n : Int) = (u : Int) := ⟨(a3 % (n : Int)).toNat, by omega⟩
  have hun : u < n := by omega
  by_cases hz : len0 = 0
  · subst hz
    cases a4
    · exact ins_none_without a0 cap0 a1 a2 a3 n u w b2.1 b2.2 b3.1 b3.2 hn1 hn4 hun hn hu
    · exact ins_none_with a0 cap0 a1 a2 a3 n u w b2.1 b2.2 b3.1 b3.2 hn1 hn4 hun hn hu
  rcases w0 with ⟨_, h, _⟩ | ⟨x, rfl, hl, hm, hzl, hcell, _⟩
  · omega
  obtain ⟨b, off, rfl, hc⟩ := ints_at hcell (by omega)
  have hb : b < w.heap.size := World.block_lt_of_cell? w _ (hc 0 (by omega))
  have hzs : (z0.take len0).length = len0 := by rw [List.length_take]; omega
  have hc' : ∀ j v, (ints (z0.take len0))[j]? = some v → w.cell? ((⟨b, off, none⟩ : Addr).add j) = some v := by
    intro j v hj
    have hjl : j < (z0.take len0).length := by simpa [ints] using (List.getElem?_eq_some_iff.1 hj).1
    rw [Go.WideShapes.add_plain, hc j (by omega)]
    have hjz : j < z0.length := by omega
    simp only [ints, List.getElem?_map, List.getElem?_take_of_lt (show j < len0 by omega), List.getElem?_eq_getElem hjz, Option.map_some, Option.some.injEq] at hj
    simp [List.getD, List.getElem?_eq_getElem hjz, hj]
  cases a4
  · exact ins_some_without b off len0 cap0 (z0.take len0) a1 a2 a3 n u w hzs (by omega) (by omega) hb hc' b2.1 b2.2 b3.1 b3.2 hn1 hn4 hun hn hu
  · exact ins_some_with b off len0 cap0 (z0.take len0) a1 a2 a3 n u w hzs (by omega) (by omega) hb hc' b2.1 b2.2 b3.1 b3.2 hn1 hn4 hun hn hu

/-! ### THE ROW's STEP: WRITTEN OUT: LEAVE IT -/
set_option maxRecDepth 100000 in
theorem lifted (os : Os) (started : os.Started) (H : Type) (enc : TypeId × Value → H) :
    ReturnsInHanded {} Yba.checked os 3 .any (Rows.lawS4843CInsertSpec.pre6 enc Yba.prog Yba.f3 Rows.lawS4843CInsertRow.domain false) (Rows.lawS4843CInsertSpec.post enc Yba.prog Yba.f3 false true false false) := by
  refine returnsInHanded_of_change (C := Yba.checked) own started (by kernel_rfl) Yba.func3
    (ChangeSpec.witness6 (enc := enc) (C := Yba.checked) false ⟨#[], #[.slice none 0 0, .int .i64 0, .int .u8 0, .int .u8 0, .bool false], []⟩ 8 (by kernel_rfl) (by kernel_rfl) (by kernel_rfl) (by kernel_rfl)) ?_
  intro W base args ds gs before hval0 hW hcnd _
  have hval : ∀ (j : Nat) t v, Yba.f3.params[j]? = some t → args[j]? = some v → Value.okWide Yba.prog W .any base t v := hval0
  have hW' := hW
  obtain ⟨p, q, hA0, hV, rfl, hfz, hnd⟩ := hW
  have hA : DataW.TrodAll enc Yba.prog W 0 (fun _ => true) true Yba.f3.params.toList args.toList ds p := hA0
  rw [Yba.params3] at hA hval
  obtain ⟨v0, vs0, d0, ds0, p0, q0, hargs, rfl, rfl, h0, r0⟩ := trodAll_cons hA
  obtain ⟨v1, vs1, d1, ds1, p1, q1, rfl, rfl, rfl, h1, r1⟩ := trodAll_cons r0
  obtain ⟨v2, vs2, d2, ds2, p2, q2, rfl, rfl, rfl, h2, r2⟩ := trodAll_cons r1
  obtain ⟨v3, vs3, d3, ds3, p3, q3, rfl, rfl, rfl, h3, r3⟩ := trodAll_cons r2
  obtain ⟨v4, vs4, d4, ds4, p4, q4, rfl, rfl, rfl, h4, r4⟩ := trodAll_cons r3
  obtain ⟨rfl, rfl, rfl⟩ := trodAll_nil r4
  obtain rfl : args = #[v0, v1, v2, v3, v4] := by cases args; simp_all
  obtain ⟨rfl, rfl⟩ := trodVars_none hV
  obtain ⟨a0, len0, cap0, rfl⟩ := okWide_slice Yba.underlying22 (hval 0 22 v0 rfl rfl)
  have k0 := h0
  have lt0 : ∀ x ∈ p0, x.block < W.heap.size := by obtain ⟨m, hm⟩ := k0; exact DataW.trod_lt m _ _ _ hm
  obtain ⟨z0, w0⟩ : ∃ zs, IsRow .i64 W a0 len0 cap0 zs := by
    obtain ⟨fuel, hf⟩ := h0
    rcases open_ints Yba.underlying22 Yba.underlying3 (by kernel_rfl) hf with ⟨hcs, _⟩ | ⟨x, l, c, zs, hcs, _, hl, hm, hz, _, hcell, hwz⟩
    · simp [Value.cells] at hcs
      obtain ⟨rfl, rfl, rfl⟩ := hcs
      exact ⟨[], .inl ⟨rfl, rfl, rfl, rfl⟩⟩
    · simp [Value.cells] at hcs
      obtain ⟨rfl, rfl, rfl⟩ := hcs
      exact ⟨zs, .inr ⟨_, rfl, hl, hm, by simpa using hz, hcell, hwz⟩⟩
  obtain ⟨a1, rfl, rfl, rfl, w1⟩ := open_int Yba.underlying3 (hval 1 3 v1 rfl rfl) h1
  obtain ⟨a2, rfl, rfl, rfl, w2⟩ := open_int Yba.underlying5 (hval 2 5 v2 rfl rfl) h2
  obtain ⟨a3, rfl, rfl, rfl, w3⟩ := open_int Yba.underlying5 (hval 3 5 v3 rfl rfl) h3
  obtain ⟨a4, rfl, rfl, rfl⟩ := open_bool Yba.underlying4 (hval 4 4 v4 rfl rfl) h4
  clear hA0 hval0
  refine (walk a0 len0 cap0 z0 a1 a2 a3 a4 W w0 w1 w2 w3).mono fun e W' ⟨he, bel⟩ => ?_
  subst he
  exact ⟨_, rfl, _, _, _, [], _, [], hW', trodAll_mk1 (shut_bool Yba.underlying4 _), (trodAll_cons_mk (Below.trod laidOut (by kernel_rfl) (of_decide_eq_true (by kernel_rfl)) k0 bel lt0) (trodAll_cons_mk (shut_int Yba.underlying3 w1) (trodAll_cons_mk (shut_int Yba.underlying5 w2) (trodAll_cons_mk (shut_int Yba.underlying5 w3) (trodAll_cons_mk (shut_bool Yba.underlying4 _) trodAll_mk0))))), rfl, bel.frame _, fun h => by cases h⟩

theorem over : Rows.lawS4843CInsertRow.holds Yba.pinned (OpenSpec.ofChange Rows.lawS4843CInsertSpec) :=
  OpenClaim.holds_of_wide 3 Yba.f3 rfl rfl rfl rfl rfl rfl rfl ⟨rfl, rfl, rfl, rfl, rfl⟩ rfl rfl rfl rfl rfl (by kernel_rfl) Yba.func3 (by kernel_rfl)
    (of_decide_eq_true (by kernel_rfl)) (by unfold Func.isWrapper; first | (rw [if_pos (by decide +kernel)]; kernel_rfl) | (rw [if_neg (by decide +kernel)]; exact ⟨rfl, rfl⟩))
    (fun os started H enc _ => lifted os started H enc)

/-- ████ THE STATEMENT ████ -/
theorem proved : Rows.LawS4843CInsertSaid := over
end Go.Proofs.Ybulkcvgu.lawS4843CInsert
