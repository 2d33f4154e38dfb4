/-
  Seat b4844aF: readSignature, the refusals behind the first layout.
-/
import Derived.Test.YbulkcvhiFmtSigA
namespace Go.Proofs.YbulkcvhiFmt
open Go.RowKit Go.Extern.Stop Go.Stop Go.Extern
set_option linter.unusedVariables false

abbrev Z9i : Obj := .cells #[.string sCM, .string sSM, .string sRef] 9
/-- expect at a well-formed Signature. -/
theorem expect_sig (F : Interp) (sig si sv ki obj : Nat) (siK kiK : List Nat) (w : World) (hF : F.answers w.tape) (h : ElAt w sig (sigNd NS) [si, sv, ki, obj]) (hA : AllAt w (sigKs si sv ki obj siK kiK)) :
    Calls Ybaf.prog 11 #[.pointer (some ⟨sig, 0, none⟩), .string sSig, .slice (some ⟨w.heap.size + 1, 0, none⟩) 3 3, .string sOb] ((w.alloc Z39).alloc Z9s) fun e w' => ∃ g c cur, e = .returned (.tuple #[.slice (some ⟨g, 0, none⟩) 4 c, .nilIface]) ∧ 4 ≤ c ∧ w'.heap[g]? = some (.cells cur 24 (0, 0)) ∧ w.heap.size + 2 ≤ g ∧
      w'.cell? ⟨g, 0, none⟩ = some (.pointer (some ⟨si, 0, none⟩)) ∧ w'.cell? ⟨g, 1, none⟩ = some (.pointer (some ⟨sv, 0, none⟩)) ∧ w'.cell? ⟨g, 2, none⟩ = some (.pointer (some ⟨ki, 0, none⟩)) ∧ Chg [] ((w.alloc Z39).alloc Z9s) w' := by
  have hC0 : Chg [] w ((w.alloc Z39).alloc Z9s) := ((Chg.refl _ w).alloc _).alloc _
  have EX := expect_ks F sSig sOb [sSI, sSV, sKI] (w.heap.size + 1) 3 sig (sigNd NS) (sigKs si sv ki obj siK kiK) ((w.alloc Z39).alloc Z9s) (by rw [← hC0.tape] at hF; exact hF) (h.keptC hC0) (hA.keptC hC0) (by simp [kidsOf, sigKs]) (cells3 (heap_new2 _ _ _)) neSig (by simp) (by simp) (by simp) joinSig (by decide) (by simp)
  rw [expK_sig] at EX
  refine EX.mono ?_
  rintro e w' ⟨v1, v2, rfl, hX, hC⟩
  obtain ⟨rfl, hO⟩ := hX
  obtain ⟨g, c, cur, rfl, h1, h2, h3, h4, h5, h6⟩ := own_four hO
  exact ⟨g, c, cur, rfl, h1, h2, by simpa using h3, h4, h5, h6, hC⟩

theorem sig_two {w w2 : World} {sb g : Nat} {cur : Array Value} (a b : Value) (hV : w2.heap[sb]? = some Z39) (hC : Chg [] w w2) (hsb : w.heap.size ≤ sb) (hg : w2.heap[g]? = some (.cells cur 24 (0, 0))) :
    SigAt w ((w2.setCell ⟨sb, 0, none⟩ a).setCell ⟨sb, 2, none⟩ b).drew sb a b 0 [] [] (.pointer none) (.pointer none) [(g, cur)] := by
  refine ⟨.slice none 0 0, .slice none 0 0, ?_, World.ownsRow_nil _ _ _ _, World.ownsRow_nil _ _ _ _, ((hC.setCell (.inr hsb) _).setCell (.inr hsb) _).drew, hsb, fun k c hk => ?_⟩
  · show ((w2.setCell ⟨sb, 0, none⟩ a).setCell ⟨sb, 2, none⟩ b).heap[sb]? = _
    exact obj_set (obj_set hV a) b
  · obtain ⟨rfl, rfl⟩ : k = g ∧ c = cur := by simpa using hk
    have hne : sb ≠ k := by
      rintro rfl
      rw [hV] at hg
      cases hg
    exact ⟨obj_set_other (obj_set_other hg hne a) hne b, by simp [Value.ownBlock]⟩
theorem SigAt.keptR {ws w : World} {sb n g : Nat} {si sv m x : Value} {rs : List Value} {cs : List Nat} {X : List (Nat × Array Value)} {cur : Array Value} (h : SigAt ws w sb si sv n rs cs m x X) (hX : (g, cur) ∈ X) {j : Nat} {v : Value} (hj : cur[j]? = some v) : w.cell? ⟨g, j, none⟩ = some v := by
  obtain ⟨_, _, _, _, _, _, _, h6⟩ := h
  simp [World.cell?, (h6 g cur hX).1, hj]
theorem cur_of {w : World} {g j : Nat} {cur : Array Value} {v : Value} (h : w.heap[g]? = some (.cells cur 24 (0, 0))) (hc : w.cell? ⟨g, j, none⟩ = some v) : cur[j]? = some v := by
  simpa [World.cell?, h] using hc

/-- expect at a SignedInfo. -/
theorem expect_info (F : Interp) (ws w : World) (sb si : Nat) (si' sv m x : Value) (n : Nat) (rs : List Value) (cs : List Nat) (X : List (Nat × Array Value)) (ks : List Kid) (hF : F.answers ws.tape) (hW : SigAt ws w sb si' sv n rs cs m x X) (h : ElAt ws si siNd (kidsOf ks)) (hA : AllAt ws ks) (hk : (kidsOf ks).length ≤ 4096) :
    Calls Ybaf.prog 11 #[.pointer (some ⟨si, 0, none⟩), .string sSI, .slice (some ⟨w.heap.size, 0, none⟩) 3 3, .string sRef] (w.alloc Z9i) fun e w' => ∃ v1 v2, e = .returned (.tuple #[v1, v2]) ∧ ExpV (w.alloc Z9i) w' (expK siNd sSI [sCM, sSM, sRef] sRef ks) (kidsOf ks) v1 v2 ∧ Chg [] (w.alloc Z9i) w' := by
  have hC : Chg [] ws (w.alloc Z9i) := hW.chg.alloc _
  exact expect_ks F sSI sRef [sCM, sSM, sRef] w.heap.size 3 si siNd ks (w.alloc Z9i) (by rw [← hC.tape] at hF; exact hF) (h.keptC hC) (hA.keptC hC) hk (cells3 (heap_alloc_new _ _)) neInfo (by simp) (by simp) (by simp) joinInfo (by decide) (by simp)

set_option maxHeartbeats 3200000 in
theorem readSig_bad2 (F : Interp) (sig si sv ki obj : Nat) (ks : List Kid) (kiK : List Nat) (w : World) (hF : F.answers w.tape) (h : ElAt w sig (sigNd NS) [si, sv, ki, obj]) (hA : AllAt w (sigKs si sv ki obj (kidsOf ks) kiK)) (hS : AllAt w ks) (hk : (kidsOf ks).length ≤ 4096) (hx : expK siNd sSI [sCM, sSM, sRef] sRef ks = false) :
    Calls Ybaf.prog 7 #[.pointer (some ⟨sig, 0, none⟩)] w fun e w' => ∃ p, e = .returned (.tuple #[.pointer none, .iface 72 (.pointer (some ⟨p, 0, none⟩))]) ∧ Chg [] w w' := by
  have HF : Hid (F.answers w.tape) := hF
  have HE : Hid (ElAt w sig (sigNd NS) [si, sv, ki, obj]) := h
  have HA : Hid (AllAt w (sigKs si sv ki obj (kidsOf ks) kiK)) := hA
  have HS : Hid (AllAt w ks) := hS
  have HC0 : Hid (Chg [] w ((w.alloc Z39).alloc Z9s)) := ((Chg.refl _ w).alloc _).alloc _
  have HV0 : Hid (((w.alloc Z39).alloc Z9s).heap[w.heap.size]? = some Z39) := ((Chg.refl [] _).alloc _).obj (heap_alloc_new _ _) (by simp)
  clear h hA hF hS
  go_enter Ybaf.func7, Ybaf.ntmps7
  go_wp2_with (go_at_call 11; refine (expect_sig F sig si sv ki obj (kidsOf ks) kiK w HF.out HE.out HA.out).mono ?_; rintro e w2 ⟨g, c, cur, rfl, hc4, hg, hgs, g0, g1, g2, hC2⟩; have HV2 : Hid (w2.heap[w.heap.size]? = some Z39) := hC2.obj HV0.out (by simp); have HC2 : Hid (Chg [] w w2) := HC0.out.trans hC2; clear hC2)
  obtain ⟨⟨s0, s1, s2, s3, s4, s5⟩, f0, f1, f2, f3, f4, f5⟩ := SigAt.cells HV2.out
  go_region
  have hS3 := sig_two (.pointer (some ⟨si, 0, none⟩)) (.pointer (some ⟨sv, 0, none⟩)) HV2.out HC2.out (Nat.le_refl _) hg
  generalize ((w2.setCell ⟨w.heap.size, 0, none⟩ (.pointer (some ⟨si, 0, none⟩))).setCell ⟨w.heap.size, 2, none⟩ (.pointer (some ⟨sv, 0, none⟩))).drew = w3 at hS3 ⊢
  have HS3 : Hid (SigAt w w3 w.heap.size (.pointer (some ⟨si, 0, none⟩)) (.pointer (some ⟨sv, 0, none⟩)) 0 [] [] (.pointer none) (.pointer none) [(g, cur)]) := hS3
  have HC2' : Hid (cur[2]? = some (.pointer (some ⟨ki, 0, none⟩))) := cur_of hg g2
  clear s0 s1 s2 s3 s4 s5 f0 f1 f2 f3 f4 f5 g0 g1 g2 hg HV2
  obtain ⟨vr, vc, q1, _, _, _⟩ := hS3
  obtain ⟨⟨s0, s1, s2, s3, s4, s5⟩, f0, f1, f2, f3, f4, f5⟩ := SigAt.cells q1
  clear q1
  have EX := expect_info F w w3 w.heap.size si _ _ _ _ _ _ _ _ ks HF.out HS3.out (HA.out (si, siNd, kidsOf ks) (by simp [sigKs])) HS.out hk
  rw [hx] at EX
  have HEX : Hid (Calls Ybaf.prog 11 #[.pointer (some ⟨si, 0, none⟩), .string sSI, .slice (some ⟨w3.heap.size, 0, none⟩) 3 3, .string sRef] (w3.alloc Z9i) fun e w' => ∃ p, e = .returned (.tuple #[.slice none 0 0, .iface 72 (.pointer (some ⟨p, 0, none⟩))]) ∧ Chg [] (w3.alloc Z9i) w') := by
    refine EX.mono ?_
    rintro e w' ⟨v1, v2, rfl, hX, hC⟩
    obtain ⟨rfl, p, rfl⟩ : v1 = .slice none 0 0 ∧ ∃ p, v2 = .iface 72 (.pointer (some ⟨p, 0, none⟩)) := hX
    exact ⟨p, rfl, hC⟩
  clear EX
  go_wp2_with (go_at_call 11; refine HEX.out.mono ?_; rintro e w4 ⟨p, rfl, hC4⟩)
  go_ret2
  exact ⟨p, rfl, (HS3.out.chg.alloc _).trans hC4⟩

end Go.Proofs.YbulkcvhiFmt
