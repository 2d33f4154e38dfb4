/-
  The proof of 'Rows.LawS4850BFirstMatchSaid'.
-/
import Derived.Test.YbulkcvkoRows
import Derived.WalkKit
import Derived.ProofKit
import Derived.OpenShut
import Derived.ShutString
import Derived.ChangeOld
import Derived.Below
import Derived.Deep.Slices
import Derived.Lib.SmallJoins
import Derived.Test.YbulkcvkoEnds
namespace Go.Proofs.Ybulkcvko.lawS4850BFirstMatch
open Go.ChangeShapes Go.WideShapes Go.ChangeAt Go.RowKit
open Go.ChangeMaps (open_string shut_string)
set_option linter.unusedVariables false

theorem own : ownKnob Yba.prog.godebug = none := by kernel_rfl
theorem laidOut : laidOutB Yba.prog = true := by kernel_rfl

/-- What the walk is told of the slice of descriptions. -/
def IsSpecs (w : World) (a : Option Addr) (len : Nat) (sps : Nat → Sp) : Prop :=
  len ≤ maxLen ∧ (len = 0 ∨ ∃ b off, a = some ⟨b, off, none⟩ ∧ b < w.heap.size ∧ SpecsAt w b off len sps)

theorem walk (a0 : Option Addr) (len0 cap0 : Nat) (sps : Nat → Sp) (m p : ByteArray) (w : World) (h : IsSpecs w a0 len0 sps) :
    Calls Yba.prog 3 #[.slice a0 len0 cap0, .string m, .string p] w fun e w' => e = .returned (.bool true) ∧ Below w.heap.size w w' := by
  have hm := h.1
  unfold maxLen at hm
  by_cases hbig : 1024 < len0
  · exact law_big a0 len0 cap0 m p w hbig (by omega)
  by_cases hz : len0 = 0
  · exact law_zero a0 len0 cap0 sps m p w hz
  rcases h.2 with h0 | ⟨b, off, rfl, hb, hS⟩
  · exact absurd h0 hz
  rcases first_or_none (fun j => ansB (sps j) && (m.toList == (sps j).meth.toList)) len0 with ⟨mi, h1, h2, h3⟩ | h3
  · simp only [Bool.and_eq_true] at h2
    refine law_match b off len0 cap0 sps m p w (by omega) (by omega) hb hS mi h1 h2.1 h2.2 fun j hj ha => ?_
    have := h3 j hj
    rwa [ha, Bool.true_and] at this
  · refine law_none b off len0 cap0 sps m p w (by omega) (by omega) hb hS fun j hj ha => ?_
    have := h3 j hj
    rwa [ha, Bool.true_and] at this

/-- The slice that came in, opened. -/
theorem specs_of {H : Type} {enc : TypeId × Value → H} {w : World} {base : Nat} {spare : Nat → Bool} {held : Bool} {fuel : Nat} {a0 : Option Addr} {len0 cap0 : Nat} {x : DataW H × List MemPlace}
    (h : DataW.trod enc Yba.prog w base spare held fuel 22 [.slice a0 len0 cap0] = some x) : ∃ sps, IsSpecs w a0 len0 sps := by
  have ce : Yba.prog.cellsOf 26 = 4 := by kernel_rfl
  rcases Go.Deep.open_slice Yba.underlying22 h with ⟨hcs, _⟩ | ⟨a, len, cap, mm, n, D, Pl, hcs, hb, hl, hm, hmm, _, hx⟩
  · simp at hcs
    obtain ⟨rfl, rfl, rfl⟩ := hcs
    exact ⟨fun _ => ⟨0, false, ⟨#[]⟩, 0⟩, by unfold maxLen; omega, .inl rfl⟩
  · simp at hcs
    obtain ⟨rfl, rfl, rfl⟩ := hcs
    have hlm : len0 ≤ mm := by rw [hmm]; split <;> omega
    rw [ce] at hx
    by_cases hz : len0 = 0
    · exact ⟨fun _ => ⟨0, false, ⟨#[]⟩, 0⟩, by omega, .inl hz⟩
    have each : ∀ i, i < mm → ∃ s : Sp, w.cell? (a.add (i * 4)) = some (.int .u8 s.kind) ∧ w.cell? (a.add (i * 4 + 1)) = some (.bool s.has) ∧ w.cell? (a.add (i * 4 + 2)) = some (.string s.meth) ∧
        w.cell? (a.add (i * 4 + 3)) = some (.int .i64 s.st) ∧ 0 ≤ s.kind ∧ s.kind ≤ 255 := by
      intro i hi
      obtain ⟨cs', g1, g2⟩ := hx i hi
      obtain ⟨_, hlen, hcell⟩ := World.cells?_some g1
      obtain ⟨y0, y1, y2, y3, n', _, _, t0, t1, t2, t3⟩ := Go.Joins.trod_struct4 Yba.underlying26 g2
      match cs', hlen with
      | [v0, v1, v2, v3], _ =>
        have k5 : Yba.prog.cellsOf 5 = 1 := by kernel_rfl
        have k4 : Yba.prog.cellsOf 4 = 1 := by kernel_rfl
        have k9 : Yba.prog.cellsOf 9 = 1 := by kernel_rfl
        have k3 : Yba.prog.cellsOf 3 = 1 := by kernel_rfl
        simp only [k5, k4, k9, k3, List.drop, List.take] at t0 t1 t2 t3
        obtain ⟨z0, e0, _, wf⟩ := DataW.trod_int Yba.underlying5 t0
        obtain ⟨z1, e1, _⟩ := DataW.trod_bool Yba.underlying4 t1
        obtain ⟨z2, e2, _⟩ := DataW.trod_string Yba.underlying9 t2
        obtain ⟨z3, e3, _, _⟩ := DataW.trod_int Yba.underlying3 t3
        simp only [List.cons.injEq, and_true] at e0 e1 e2 e3
        subst e0 e1 e2 e3
        have b0 : 0 ≤ z0 ∧ z0 ≤ 255 := by
          simp [Lit.wf, IntKind.min, IntKind.max, IntKind.signed, IntKind.bits] at wf
          omega
        have c0 := hcell 0 (by omega)
        have c1 := hcell 1 (by omega)
        have c2 := hcell 2 (by omega)
        have c3 := hcell 3 (by omega)
        rw [Go.Deep.add_add] at c0 c1 c2 c3
        exact ⟨⟨z0, z1, z2, z3⟩, by simpa using c0, by simpa using c1, by simpa using c2, by simpa using c3, b0.1, b0.2⟩
    haveI : Inhabited Sp := ⟨⟨0, false, ⟨#[]⟩, 0⟩⟩
    obtain ⟨sps, hs⟩ := Go.Deep.choose_lt each
    have f0 := (hs 0 (by omega)).1
    obtain ⟨b, off, rfl⟩ : ∃ b off, a = ⟨b, off, none⟩ := by
      obtain ⟨b, off, spot⟩ := a
      have hspot : spot = none := by simpa [Addr.add] using World.cell?_spot f0
      subst hspot
      exact ⟨b, off, rfl⟩
    have hb' : b < w.heap.size := World.block_lt_of_cell? w _ f0
    refine ⟨sps, by omega, .inr ⟨b, off, rfl, hb', fun j hj => ?_⟩⟩
    obtain ⟨c0, c1, c2, c3, g1, g2⟩ := hs j (by omega)
    rw [add_plain] at c0 c1 c2 c3
    exact ⟨c0, c1, c2, c3, g1, g2⟩

set_option maxRecDepth 100000 in
theorem lifted (os : Os) (started : os.Started) (H : Type) (enc : TypeId × Value → H) :
    ReturnsInHanded {} Yba.checked os 3 .any (Rows.lawS4850BFirstMatchSpec.pre6 enc Yba.prog Yba.f3 Rows.lawS4850BFirstMatchRow.domain false) (Rows.lawS4850BFirstMatchSpec.post enc Yba.prog Yba.f3 false true false false) := by
  refine returnsInHanded_of_change (C := Yba.checked) own started (by kernel_rfl) Yba.func3
    (ChangeSpec.witness6 (enc := enc) (C := Yba.checked) false ⟨#[], #[.slice none 0 0, .string ⟨#[]⟩, .string ⟨#[]⟩], []⟩ 8 (by kernel_rfl) (by kernel_rfl) (by kernel_rfl) (by kernel_rfl)) ?_
  intro W base args ds gs before hval0 hW hcnd _
  have hval : ∀ (j : Nat) t v, Yba.f3.params[j]? = some t → args[j]? = some v → Value.okWide Yba.prog W .any base t v := hval0
  have hW' := hW
  obtain ⟨p, q, hA0, hV, rfl, hfz, hnd⟩ := hW
  have hA : DataW.TrodAll enc Yba.prog W 0 (fun _ => true) true Yba.f3.params.toList args.toList ds p := hA0
  rw [Yba.params3] at hA hval
  obtain ⟨v0, vs0, d0, ds0, p0, q0, hargs, rfl, rfl, h0, r0⟩ := trodAll_cons hA
  obtain ⟨v1, vs1, d1, ds1, p1, q1, rfl, rfl, rfl, h1, r1⟩ := trodAll_cons r0
  obtain ⟨v2, vs2, d2, ds2, p2, q2, rfl, rfl, rfl, h2, r2⟩ := trodAll_cons r1
  obtain ⟨rfl, rfl, rfl⟩ := trodAll_nil r2
  obtain rfl : args = #[v0, v1, v2] := by cases args; simp_all
  obtain ⟨rfl, rfl⟩ := trodVars_none hV
  obtain ⟨a0, len0, cap0, rfl⟩ := okWide_slice Yba.underlying22 (hval 0 22 v0 rfl rfl)
  have k0 := h0
  have lt0 : ∀ x ∈ p0, x.block < W.heap.size := by obtain ⟨m, hm⟩ := k0; exact DataW.trod_lt m _ _ _ hm
  obtain ⟨sps, w0⟩ : ∃ sps, IsSpecs W a0 len0 sps := by
    obtain ⟨fuel, hf⟩ := h0
    exact specs_of hf
  have k1 := h1
  have k2 := h2
  obtain ⟨a1, rfl, rfl, rfl, w1⟩ := open_string Yba.underlying9 (hval 1 9 v1 rfl rfl) h1
  obtain ⟨a2, rfl, rfl, rfl, w2⟩ := open_string Yba.underlying9 (hval 2 9 v2 rfl rfl) h2
  clear hA0 hval0
  refine (walk a0 len0 cap0 sps a1 a2 W w0).mono fun e W' ⟨he, bel⟩ => ?_
  subst he
  exact ⟨_, rfl, _, _, _, [], _, [], hW', trodAll_mk1 (shut_bool Yba.underlying4 _), (trodAll_cons_mk (Below.trod laidOut (by kernel_rfl) (of_decide_eq_true (by kernel_rfl)) k0 bel lt0) (trodAll_cons_mk (shut_string Yba.underlying9 w1) (trodAll_cons_mk (shut_string Yba.underlying9 w2) trodAll_mk0))), rfl, bel.frame _, fun h => by cases h⟩

theorem over : Rows.lawS4850BFirstMatchRow.holds Yba.pinned (OpenSpec.ofChange Rows.lawS4850BFirstMatchSpec) :=
  OpenClaim.holds_of_wide 3 Yba.f3 rfl rfl rfl rfl rfl rfl rfl ⟨rfl, rfl, rfl, rfl, rfl⟩ rfl rfl rfl rfl rfl (by kernel_rfl) Yba.func3 (by kernel_rfl)
    (of_decide_eq_true (by kernel_rfl)) (by unfold Func.isWrapper; first | (rw [if_pos (by decide +kernel)]; kernel_rfl) | (rw [if_neg (by decide +kernel)]; exact ⟨rfl, rfl⟩))
    (fun os started H enc _ => lifted os started H enc)

/-- ████ THE STATEMENT ████ -/
theorem proved : Rows.LawS4850BFirstMatchSaid := over
end Go.Proofs.Ybulkcvko.lawS4850BFirstMatch
