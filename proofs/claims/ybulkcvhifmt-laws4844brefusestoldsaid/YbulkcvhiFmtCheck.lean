/-
  Seat b4844aF: the check, where the Signature is read.
-/
import Derived.Test.YbulkcvhiFmtCheck0
namespace Go.Proofs.YbulkcvhiFmt
open Go.RowKit Go.Extern.Stop Go.Stop Go.Extern
set_option linter.unusedVariables false

def urisV (rs : List RefD) : List Value := rs.map fun r => .string r.uri
def tgtsV (obj : Nat) (rs : List RefD) : List Value := rs.map fun r => .pointer (r.tp obj)
def digsV (rs : List RefD) : List Value := rs.map fun r => .pointer (some ⟨r.dv, 0, none⟩)
structure WantAt (w : World) (D : SigD) (vu vt vd vc : Value) : Prop where
  u : ∃ S, w.ownsRow S 9 1 vu D.rs.length (urisV D.rs)
  t : ∃ S, w.ownsRow S 24 1 vt D.rs.length (tgtsV D.obj D.rs)
  d : ∃ S, w.ownsRow S 24 1 vd D.rs.length (digsV D.rs)
  c : ∃ S, w.ownsRow S 24 1 vc (kiCerts D.kis).length (ptrs (kiCerts D.kis))
theorem WantAt.keptC {w w' : World} {D : SigD} {vu vt vd vc : Value} (h : WantAt w D vu vt vd vc) (hc : Chg [] w w') : WantAt w' D vu vt vd vc := by
  obtain ⟨⟨S1, h1⟩, ⟨S2, h2⟩, ⟨S3, h3⟩, S4, h4⟩ := h
  exact ⟨⟨S1, ownsRow_kept h1 hc (by simp)⟩, ⟨S2, ownsRow_kept h2 hc (by simp)⟩, ⟨S3, ownsRow_kept h3 hc (by simp)⟩, S4, ownsRow_kept h4 hc (by simp)⟩

theorem kiMo_ptr (l : List KiD) : ∃ p, kiMo l = .pointer p := by
  have : ∀ (l : List KiD) (v : Value), (∃ p, v = .pointer p) → ∃ p, l.foldl (fun p k => k.mo p) v = .pointer p := by
    intro l
    induction l with
    | nil => intro v h; exact h
    | cons k l ih =>
      intro v h
      refine ih _ ?_
      cases k with
      | value b r m x => exact ⟨_, rfl⟩
      | data b ks => exact h
      | name b => exact h
  exact this l _ ⟨none, rfl⟩
theorem kiEx_ptr (l : List KiD) : ∃ p, kiEx l = .pointer p := by
  have : ∀ (l : List KiD) (v : Value), (∃ p, v = .pointer p) → ∃ p, l.foldl (fun p k => k.ex p) v = .pointer p := by
    intro l
    induction l with
    | nil => intro v h; exact h
    | cons k l ih =>
      intro v h
      refine ih _ ?_
      cases k with
      | value b r m x => exact ⟨_, rfl⟩
      | data b ks => exact h
      | name b => exact h
  exact this l _ ⟨none, rfl⟩

theorem row_cells {w : World} {S e n : Nat} {a : Option Addr} {c : Nat} {xs : List Value} (h : w.ownsRow S e 1 (.slice a n c) n xs) (hn : xs.length = n) (hpos : 0 < n) : ∃ g, a = some ⟨g, 0, none⟩ ∧ ∀ j u, xs[j]? = some u → w.cell? ⟨g, j, none⟩ = some u := by
  subst hn
  obtain ⟨a', c', he, hh⟩ := own_shape h
  obtain ⟨rfl, rfl⟩ : a = a' ∧ c = c' := by simpa using he
  exact hh hpos
theorem row3_cells {w : World} {S : Nat} {a : Option Addr} {c : Nat} {obj : Nat} {rs : List RefD} (h : w.ownsRow S 41 3 (.slice a rs.length c) rs.length (refVs obj rs)) (hpos : 0 < rs.length) :
    ∃ g, a = some ⟨g, 0, none⟩ ∧ ∀ j r, rs[j]? = some r → w.cell? ⟨g, j * 3, none⟩ = some (.string r.uri) ∧ w.cell? ⟨g, j * 3 + 1, none⟩ = some (.pointer (r.tp obj)) ∧ w.cell? ⟨g, j * 3 + 2, none⟩ = some (.pointer (some ⟨r.dv, 0, none⟩)) := by
  have hc := fun g hg j u => h.cells (g := g) hg j u
  have hv : ∀ (rs : List RefD) (j : Nat) (r : RefD), rs[j]? = some r → (refVs obj rs)[j * 3]? = some (.string r.uri) ∧ (refVs obj rs)[j * 3 + 1]? = some (.pointer (r.tp obj)) ∧ (refVs obj rs)[j * 3 + 2]? = some (.pointer (some ⟨r.dv, 0, none⟩)) := by
    intro rs
    induction rs with
    | nil => intro j r hj; simp at hj
    | cons r0 rs ih =>
      intro j r hj
      cases j with
      | zero => simp at hj; subst hj; exact ⟨rfl, rfl, rfl⟩
      | succ j =>
        obtain ⟨i1, i2, i3⟩ := ih j r (by simpa using hj)
        have e : refVs obj (r0 :: rs) = .string r0.uri :: .pointer (r0.tp obj) :: .pointer (some ⟨r0.dv, 0, none⟩) :: refVs obj rs := by simp [refVs]
        have e0 : (j + 1) * 3 = j * 3 + 3 := by omega
        rw [e, e0]
        exact ⟨i1, i2, i3⟩
  rcases h.2 with ⟨he, hn⟩ | ⟨g, cap, cur, he, _⟩
  · omega
  · obtain ⟨rfl, rfl⟩ : a = some ⟨g, 0, none⟩ ∧ c = cap := by simpa using he
    refine ⟨g, rfl, fun j r hj => ?_⟩
    obtain ⟨i1, i2, i3⟩ := hv rs j r hj
    have k1 := hc g rfl _ _ i1
    have k2 := hc g rfl _ _ i2
    have k3 := hc g rfl _ _ i3
    rw [Go.WideShapes.add_plain, Nat.zero_add] at k1 k2 k3
    exact ⟨k1, k2, k3⟩

set_option maxHeartbeats 3200000 in
theorem check_ok (F : Interp) (D : SigD) (w : World) (vu vt vd vc : Value) (hF : F.answers w.tape) (h : SigTree w D) (hW : WantAt w D vu vt vd vc) (hok : D.ok = true) :
    Calls Ybaf.prog 5 #[.agg #[.pointer (some ⟨D.sig, 0, none⟩), .pointer (some ⟨D.si, 0, none⟩), .pointer (some ⟨D.sv, 0, none⟩), vu, vt, vd, vc, kiMo D.kis, kiEx D.kis, .bool false]] w fun e w' => e = .returned (.bool true) ∧ Chg [] w w' := by
  have HC0 : Hid (∀ o, Chg [] w (w.alloc o)) := fun o => (Chg.refl _ _).alloc o
  obtain ⟨mp, hmp⟩ := kiMo_ptr D.kis
  obtain ⟨xp, hxp⟩ := kiEx_ptr D.kis
  rw [hmp, hxp]
  obtain ⟨ua, uc, rfl⟩ := own_len hW.u.choose_spec
  obtain ⟨ta, tc, rfl⟩ := own_len hW.t.choose_spec
  obtain ⟨da, dc, rfl⟩ := own_len hW.d.choose_spec
  obtain ⟨ca, cc, rfl⟩ := own_len hW.c.choose_spec
  have RS : Hid (∀ o, Calls Ybaf.prog 7 #[.pointer (some ⟨D.sig, 0, none⟩)] (w.alloc o) fun e w' => ∃ sb, e = .returned (.tuple #[.pointer (some ⟨sb, 0, none⟩), .nilIface]) ∧ SigAt (w.alloc o) w' sb (.pointer (some ⟨D.si, 0, none⟩)) (.pointer (some ⟨D.sv, 0, none⟩)) D.rs.length (refVs D.obj D.rs) (kiCerts D.kis) (.pointer mp) (.pointer xp) [] ∧ Chg [] (w.alloc o) w') := by
    intro o
    refine (readSig_all F D (w.alloc o) (by have := hF; rw [← (HC0.out o).tape] at this; exact this) (h.keptC (HC0.out o))).mono ?_
    rintro e w' ⟨v1, v2, rfl, hO, hC⟩
    rw [hok] at hO
    obtain ⟨rfl, sb, rfl, hS⟩ := hO
    rw [hmp, hxp] at hS
    exact ⟨sb, rfl, hS, hC⟩
  have hrl := h.rl
  have hcl0 := h.cl D.kis.length
  rw [List.take_length] at hcl0
  have HW : Hid (WantAt w D (.slice ua D.rs.length uc) (.slice ta D.rs.length tc) (.slice da D.rs.length dc) (.slice ca (kiCerts D.kis).length cc)) := hW
  clear h hF hW hmp hxp hok
  have hn24 := neq24
  have he24 := eq24
  go_enter Ybaf.func5, Ybaf.ntmps5
  go_wp2_with (go_at_call 7; refine (RS.out _).mono ?_; rintro e w2 ⟨sb, rfl, hS, hC2⟩; have hb := hC2.obj (heap_alloc_new w _) (by simp); have hbc : ∀ j u, (#[Value.pointer (some ⟨D.sig, 0, none⟩), .pointer (some ⟨D.si, 0, none⟩), .pointer (some ⟨D.sv, 0, none⟩), .slice ua D.rs.length uc, .slice ta D.rs.length tc, .slice da D.rs.length dc, .slice ca (kiCerts D.kis).length cc, .pointer mp, .pointer xp, .bool false])[j]? = some u → w2.cell? ⟨w.heap.size, j, none⟩ = some u := (fun j u hj => by simp [World.cell?, hb, hj]); have b1 := hbc 1 _ rfl; have b2 := hbc 2 _ rfl; have b3 := hbc 3 _ rfl; have b9 := hbc 9 _ rfl; have HBC : Hid (∀ j u, (#[Value.pointer (some ⟨D.sig, 0, none⟩), .pointer (some ⟨D.si, 0, none⟩), .pointer (some ⟨D.sv, 0, none⟩), .slice ua D.rs.length uc, .slice ta D.rs.length tc, .slice da D.rs.length dc, .slice ca (kiCerts D.kis).length cc, .pointer mp, .pointer xp, .bool false])[j]? = some u → w2.cell? ⟨w.heap.size, j, none⟩ = some u) := hbc; have HC2 : Hid (Chg [] w w2) := (HC0.out _).trans hC2; obtain ⟨vr, vk, h1, h2, h3, -⟩ := hS; obtain ⟨⟨s0, s1, s2, s3, s4, s5⟩, f0, f1, f2, f3, f4, f5⟩ := SigAt.cells h1; obtain ⟨ra, rc, rfl⟩ := own_len3 h2; obtain ⟨ka, kc, rfl⟩ := own_len h3; have H2 : Hid (w2.ownsRow _ 41 3 _ D.rs.length (refVs D.obj D.rs)) := h2; have H3 : Hid (w2.ownsRow _ 24 1 _ (kiCerts D.kis).length (ptrs (kiCerts D.kis))) := h3; clear hb hC2 hbc h1 h2 h3 f0 f1 f2 f3 f4 f5)
  go_quiet (fail)
  go_wp2
  go_quiet (fail)
  go_wp2
  go_loopw [57] (fun i wr => ∃ (k : Nat), k ≤ D.rs.length ∧ i = .int .i64 k ∧ Chg [] w2 wr) (fun i _ => D.rs.length - (intOf i).toNat)
  case atStart => exact ⟨0, Nat.zero_le _, rfl, (Chg.refl _ _).drewN _⟩
  case round =>
    obtain ⟨k, hkk, rfl, hC⟩ := hrel
    have HC : Hid (Chg [] w2 wr) := hC
    clear hC
    by_cases hlt : k < D.rs.length
    · have hki : (k : Int) < (D.rs.length : Int) := by omega
      have HWK : Hid (WantAt w2 D (.slice ua D.rs.length uc) (.slice ta D.rs.length tc) (.slice da D.rs.length dc) (.slice ca (kiCerts D.kis).length cc)) := HW.out.keptC HC2.out
      obtain ⟨S1, hu⟩ := HWK.out.u
      obtain ⟨S2, ht⟩ := HWK.out.t
      obtain ⟨S3, hd⟩ := HWK.out.d
      obtain ⟨gu, rfl, hgu⟩ := row_cells hu (by simp [urisV]) (by omega)
      obtain ⟨gt, rfl, hgt⟩ := row_cells ht (by simp [tgtsV]) (by omega)
      obtain ⟨gd, rfl, hgd⟩ := row_cells hd (by simp [digsV]) (by omega)
      obtain ⟨gr, rfl, hgr⟩ := row3_cells H2.out (by omega)
      have e1 : wr.cell? ⟨gu, k, none⟩ = some (.string (D.rs[k]).uri) := HC.out.cell (hgu k _ (by simp [urisV, hlt])) (by simp)
      have e2 : wr.cell? ⟨gt, k, none⟩ = some (.pointer ((D.rs[k]).tp D.obj)) := HC.out.cell (hgt k _ (by simp [tgtsV, hlt])) (by simp)
      have e3 : wr.cell? ⟨gd, k, none⟩ = some (.pointer (some ⟨(D.rs[k]).dv, 0, none⟩)) := HC.out.cell (hgd k _ (by simp [digsV, hlt])) (by simp)
      obtain ⟨r1, r2, r3⟩ := hgr k _ (by simp [hlt] : D.rs[k]? = some D.rs[k])
      have q1 := HC.out.cell r1 (by simp)
      have q2 := HC.out.cell r2 (by simp)
      have q3 := HC.out.cell r3 (by simp)
      have b3' := HC.out.cell (HBC.out 3 _ rfl) (by simp)
      have b4' := HC.out.cell (HBC.out 4 _ rfl) (by simp)
      have b5' := HC.out.cell (HBC.out 5 _ rfl) (by simp)
      clear hu ht hd hgu hgt hgd hgr r1 r2 r3 b1 b2 b3 b9 s0 s1 s2 s3 s4 s5
      generalize (D.rs[k]).uri = uu at *
      generalize (D.rs[k]).tp D.obj = tp at *
      generalize (D.rs[k]).dv = dvv at *
      go_wp2
      have hV4 : (wr.alloc (.cells #[.string uu, .pointer tp, .pointer (some ⟨dvv, 0, none⟩)] 41)).heap[wr.heap.size]? = some (.cells #[.string uu, .pointer tp, .pointer (some ⟨dvv, 0, none⟩)] 41 (0, 0)) := heap_alloc_new _ _
      have hC4 : Chg [] w2 (wr.alloc (.cells #[.string uu, .pointer tp, .pointer (some ⟨dvv, 0, none⟩)] 41)) := HC.out.alloc _
      have hD4 : Chg [] wr (wr.alloc (.cells #[.string uu, .pointer tp, .pointer (some ⟨dvv, 0, none⟩)] 41)) := (Chg.refl _ _).alloc _
      generalize wr.alloc (.cells #[.string uu, .pointer tp, .pointer (some ⟨dvv, 0, none⟩)] 41) = w4 at hV4 hC4 hD4 ⊢
      obtain ⟨v0, v1, v2, -⟩ := Var3.cells hV4
      have e1 := hD4.cell e1 (by simp)
      have e2 := hD4.cell e2 (by simp)
      have e3 := hD4.cell e3 (by simp)
      have b3 := hD4.cell b3' (by simp)
      have b4 := hD4.cell b4' (by simp)
      have b5 := hD4.cell b5' (by simp)
      have HC4 : Hid (Chg [] w2 w4) := hC4
      clear hD4 hC4 hV4 q1 q2 q3
      generalize wr.heap.size = nb at *
      go_quiet (fail)
      go_wp2
      go_roundw
      case rel => exact ⟨k + 1, by omega, by go_num, HC4.out.drewN _⟩
      case measure => simp [intOf]; omega
    · have hki : ¬ (k : Int) < (D.rs.length : Int) := by omega
      have hki' : (D.rs.length : Int) ≤ (k : Int) := by omega
      have s3' := HC.out.cell s3 (by simp)
      have s4' := HC.out.cell s4 (by simp)
      have s5' := HC.out.cell s5 (by simp)
      have b6' := HC.out.cell (HBC.out 6 _ rfl) (by simp)
      have b7' := HC.out.cell (HBC.out 7 _ rfl) (by simp)
      have b8' := HC.out.cell (HBC.out 8 _ rfl) (by simp)
      obtain ⟨S4, hcw⟩ := HW.out.c
      have HK1 : Hid (wr.ownsRow S4 24 1 (.slice ca (kiCerts D.kis).length cc) (kiCerts D.kis).length (ptrs (kiCerts D.kis))) := ownsRow_kept (ownsRow_kept hcw HC2.out (by simp)) HC.out (by simp)
      have HK2 := ownsRow_kept (l := []) H3.out HC.out (by simp)
      have EQ : Hid (∀ n, Calls Ybaf.prog 8 #[.slice ka (kiCerts D.kis).length kc, .slice ca (kiCerts D.kis).length cc] (wr.drewN n) fun e w' => e = .returned (.bool true) ∧ ∃ m, w' = (wr.drewN n).drewN m) := fun n => eqp_same _ _ S4 _ _ (kiCerts D.kis) (ownsRow_kept (l := []) HK2 ((Chg.refl _ _).drewN n) (by simp)) (ownsRow_kept (l := []) HK1.out ((Chg.refl _ _).drewN n) (by simp)) (by omega)
      clear hcw HK2 HK1 s0 s1 s2 s3 s4 s5 b1 b2 b3 b9 H2 H3
      go_wp2
      go_quiet (first | (go_at_call 8; refine Calls.quiet_of (EQ.out _)))
      go_wp2
      go_ret
      exact ⟨rfl, (HC2.out.trans HC.out).drewN _⟩

end Go.Proofs.YbulkcvhiFmt
