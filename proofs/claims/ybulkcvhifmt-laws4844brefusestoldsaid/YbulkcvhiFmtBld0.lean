/-
  Seat b4844aF: what the building's loops hold.
-/
import Derived.Test.YbulkcvhiFmtRowz
import Derived.Test.YbulkcvhiFmtHit
namespace Go.Proofs.YbulkcvhiFmt
open Go.RowKit Go.Extern.Stop Go.Stop Go.Extern
set_option linter.unusedVariables false

/-- A slice of bytes that came in. -/
def U8s (w : World) (a : Option Addr) (n : Nat) : Prop := 0 < n → ∃ b o, a = some ⟨b, o, none⟩ ∧ ∀ j, j < n → ∃ x : Int, w.cell? ⟨b, o + j, none⟩ = some (.int .u8 x) ∧ 0 ≤ x ∧ x ≤ 255
theorem U8s.at {w w' : World} {S n k : Nat} {a : Option Addr} (h : U8s w a n) (hw : Grow w.heap.size w w') (hk : k < n) : ∃ b o, a = some ⟨b, o, none⟩ ∧ ∃ x : Int, w'.cell? ⟨b, o + k, none⟩ = some (.int .u8 x) ∧ 0 ≤ x ∧ x ≤ 255 := by
  obtain ⟨b, o, rfl, hx⟩ := h (by omega)
  obtain ⟨x, h1, h2⟩ := hx k hk
  exact ⟨b, o, rfl, x, hw.low (World.block_lt_of_cell? w _ h1) h1, h2⟩

/-- What the building hands over. -/
def Built (w' : World) (v : Value) : Prop := ∃ D : SigD, SigTree w' D ∧
  ((D.ok = true ∧ ∃ vu vt vd vc, WantAt w' D vu vt vd vc ∧ v = .agg #[.pointer (some ⟨D.sig, 0, none⟩), .pointer (some ⟨D.si, 0, none⟩), .pointer (some ⟨D.sv, 0, none⟩), vu, vt, vd, vc, kiMo D.kis, kiEx D.kis, .bool false]) ∨
   (D.ok = false ∧ ∃ (ua ta da ca mp xp : Option Addr) (un uc tn tc dn dc cn cc : Nat), v = .agg #[.pointer (some ⟨D.sig, 0, none⟩), .pointer (some ⟨D.si, 0, none⟩), .pointer (some ⟨D.sv, 0, none⟩), .slice ua un uc, .slice ta tn tc, .slice da dn dc, .slice ca cn cc, .pointer mp, .pointer xp, .bool true]))

theorem own_b1 (S : Nat) (w : World) (x : Value) (hS : S ≤ w.heap.size) : (w.alloc (.cells #[x] 24)).ownsRow S 24 1 (.slice (some ⟨w.heap.size, 0, none⟩) 1 1) 1 [x] :=
  ⟨rfl, .inr ⟨w.heap.size, 1, #[x], rfl, hS, heap_alloc_new _ _, Nat.le_refl _, by decide, rfl, rfl⟩⟩
theorem own_b2 (S : Nat) (w : World) (x y : Value) (hS : S ≤ w.heap.size) : (w.alloc (.cells #[x, y] 24)).ownsRow S 24 1 (.slice (some ⟨w.heap.size, 0, none⟩) 2 2) 2 [x, y] :=
  ⟨rfl, .inr ⟨w.heap.size, 2, #[x, y], rfl, hS, heap_alloc_new _ _, Nat.le_refl _, by decide, rfl, rfl⟩⟩
theorem own_b3 (S : Nat) (w : World) (x y z : Value) (hS : S ≤ w.heap.size) : (w.alloc (.cells #[x, y, z] 24)).ownsRow S 24 1 (.slice (some ⟨w.heap.size, 0, none⟩) 3 3) 3 [x, y, z] :=
  ⟨rfl, .inr ⟨w.heap.size, 3, #[x, y, z], rfl, hS, heap_alloc_new _ _, Nat.le_refl _, by decide, rfl, rfl⟩⟩
theorem own_b4 (S : Nat) (w : World) (x y z u : Value) (hS : S ≤ w.heap.size) : (w.alloc (.cells #[x, y, z, u] 24)).ownsRow S 24 1 (.slice (some ⟨w.heap.size, 0, none⟩) 4 4) 4 [x, y, z, u] :=
  ⟨rfl, .inr ⟨w.heap.size, 4, #[x, y, z, u], rfl, hS, heap_alloc_new _ _, Nat.le_refl _, by decide, rfl, rfl⟩⟩
theorem cell2_new (w : World) (x y : Value) (t : TypeId) : ∀ j u, [x, y][j]? = some u → (w.alloc (.cells #[x, y] t)).cell? ((⟨w.heap.size, 0, none⟩ : Addr).add j) = some u := by
  intro j u hj
  match j, hj with
  | 0, hj => simp at hj; subst hj; simp [Addr.add]
  | 1, hj => simp at hj; subst hj; simp [Addr.add]

abbrev P0 : Value := .pointer none
/-- The first loop. -/
structure Loop1 (S : Nat) (w1 wr : World) (wb : Nat) (vi : Value) (cm sm obj : Nat) (rs : List RefD) (okf : Nat → Bool) : Prop where
  rows : RowsAt S wr wb vi (ptrs (cm :: sm :: rs.map (·.rb))) P0 P0 P0 P0 P0 (.bool false) (urisV rs) (tgtsV obj rs) (digsV rs) []
  grow : Grow S w1 wr
  refs : ∀ r, r ∈ rs → RefAt wr r ∧ S ≤ r.rb
  ok : ∀ j r, rs[j]? = some r → r.ok = okf j
theorem Loop1.step {S : Nat} {w1 wr w' : World} {wb : Nat} {vi vi' : Value} {cm sm obj : Nat} {rs : List RefD} {okf : Nat → Bool} {r : RefD} (h : Loop1 S w1 wr wb vi cm sm obj rs okf) (hg : Grow S wr w') (hr : RefAt w' r) (hlow : S ≤ r.rb) (hok : r.ok = okf rs.length)
    (hrows : RowsAt S w' wb vi' (ptrs (cm :: sm :: rs.map (·.rb)) ++ [.pointer (some ⟨r.rb, 0, none⟩)]) P0 P0 P0 P0 P0 (.bool false) (urisV rs ++ [.string r.uri]) (tgtsV obj rs ++ [.pointer (r.tp obj)]) (digsV rs ++ [.pointer (some ⟨r.dv, 0, none⟩)]) []) : Loop1 S w1 w' wb vi' cm sm obj (rs ++ [r]) okf := by
  refine ⟨?_, h.grow.trans hg, fun r' hr' => ?_, fun j r' hj => ?_⟩
  · simpa [ptrs, urisV, tgtsV, digsV] using hrows
  · rcases List.mem_append.1 hr' with h1 | h1
    · exact ⟨hg.ref (h.refs r' h1).1, (h.refs r' h1).2⟩
    · obtain rfl : r' = r := by simpa using h1
      exact ⟨hr, hlow⟩
  · by_cases hlt : j < rs.length
    · rw [List.getElem?_append_left hlt] at hj
      exact h.ok j r' hj
    · rw [List.getElem?_append_right (by omega)] at hj
      obtain ⟨rfl, rfl⟩ : r = r' ∧ j = rs.length := by
        have h0 : j - rs.length < 1 := by have := (List.getElem?_eq_some_iff.1 hj).1; simpa using this
        have e : j = rs.length := by omega
        subst e
        simpa using hj
      exact hok

/-- The second loop. -/
structure Loop2 (S : Nat) (w2 wr : World) (wb : Nat) (vi : Value) (x1 x2 : Value) (lu lt ld : List Value) (kis : List KiD) : Prop where
  rows : RowsAt S wr wb vi (ptrs (kis.map KiD.b)) P0 x1 x2 (kiMo kis) (kiEx kis) (.bool false) lu lt ld (ptrs (kiCerts kis))
  grow : Grow S w2 wr
  kis : ∀ k, k ∈ kis → (KiAt wr k ∧ k.plain) ∧ S ≤ k.b ∧ k.certs.length ≤ 2
theorem Loop2.step {S : Nat} {w2 wr w' : World} {wb : Nat} {vi vi' x1 x2 : Value} {lu lt ld : List Value} {kis : List KiD} {k : KiD} (h : Loop2 S w2 wr wb vi x1 x2 lu lt ld kis) (hg : Grow S wr w') (hk : KiAt w' k ∧ k.plain) (hlow : S ≤ k.b) (hc : k.certs.length ≤ 2)
    (hrows : RowsAt S w' wb vi' (ptrs (kis.map KiD.b) ++ [.pointer (some ⟨k.b, 0, none⟩)]) P0 x1 x2 (k.mo (kiMo kis)) (k.ex (kiEx kis)) (.bool false) lu lt ld (ptrs (kiCerts kis) ++ ptrs k.certs)) : Loop2 S w2 w' wb vi' x1 x2 lu lt ld (kis ++ [k]) := by
  refine ⟨?_, h.grow.trans hg, fun k' hk' => ?_⟩
  · rw [kiMo_snoc, kiEx_snoc, kiCerts_snoc]
    simpa [ptrs] using hrows
  · rcases List.mem_append.1 hk' with h1 | h1
    · exact ⟨⟨hg.ki (h.kis k' h1).1.1, (h.kis k' h1).1.2⟩, (h.kis k' h1).2⟩
    · obtain rfl : k' = k := by simpa using h1
      exact ⟨hk, hlow, hc⟩
theorem kiCerts_le {l : List KiD} (h : ∀ k, k ∈ l → k.certs.length ≤ 2) : (kiCerts l).length ≤ 2 * l.length := by
  induction l with
  | nil => simp [kiCerts]
  | cons k l ih =>
    have h1 := h k (by simp)
    have h2 := ih (fun k' hk' => h k' (by simp [hk']))
    have e : kiCerts (k :: l) = k.certs ++ kiCerts l := by simp [kiCerts]
    rw [e]
    simp only [List.length_append, List.length_cons]
    omega

end Go.Proofs.YbulkcvhiFmt
