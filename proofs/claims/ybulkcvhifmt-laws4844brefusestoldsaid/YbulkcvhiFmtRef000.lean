/-
  Seat b4844aF: readReference, one case.
-/
import Derived.Test.YbulkcvhiFmtRef0
namespace Go.Proofs.YbulkcvhiFmt
open Go.RowKit Go.Extern.Stop Go.Stop Go.Extern
set_option linter.unusedVariables false

set_option maxHeartbeats 3200000 in
theorem ref_plain_out_bad (F : Interp) (uri alg : ByteArray) (sig rb dm dv : Nat) (w : World) (hF : F.answers w.tape) (hR : ElAt w rb (refNd uri) [dm, dv]) (hA : AllAt w (plainKs alg dm dv)) (hpre : Lib.hasPrefix uri.data.toList sHash.data.toList = false) (hq : algB (dmNd alg) [] cSHA = false) :
    Calls Ybaf.prog 13 #[.pointer (some ⟨sig, 0, none⟩), .pointer (some ⟨rb, 0, none⟩)] w fun e w' => ∃ p, e = .returned (.tuple #[.agg #[.string ⟨#[]⟩, .pointer none, .pointer none], .iface 72 (.pointer (some ⟨p, 0, none⟩))]) ∧ Chg [] w w' := by
  have HF : Hid (F.answers w.tape) := hF
  have HR : Hid (ElAt w rb (refNd uri) [dm, dv]) := hR
  have HA : Hid (AllAt w (plainKs alg dm dv)) := hA
  have hmts := isB_dm_ts alg
  clear hF hR hA
  go_enter Ybaf.func13, Ybaf.ntmps13
  go_wp2_with (first
    | (go_at_call 14; refine (elements_el rb (refNd uri) [dm, dv] _ (HR.out.keptC (((Chg.refl _ w).alloc (.cells #[.string ⟨#[]⟩, .pointer none, .pointer none] 41)).alloc (.cells #[.string sDM, .string sDV] 9))) (by simp)).mono ?_; rintro e w2 ⟨v, rfl, hO2, hC2⟩; obtain ⟨g, c, rfl, hgc, hg0, hgr⟩ := own_two hO2; have HC2 : Hid (Chg [] w w2) := (((Chg.refl _ w).alloc _).alloc _).trans hC2; have HV2 : Hid (Var3 w2 w.heap.size (.string ⟨#[]⟩) (.pointer none) (.pointer none)) := ((Var3.new w _ _ _).alloc _).kept hC2; have HW2 : Hid (w2.heap[w.heap.size + 1]? = some (.cells #[.string sDM, .string sDV] 9 (0, 0))) := hC2.obj (heap_new2 _ _ _) (by simp); have hlt2 : w.heap.size + 1 < w2.heap.size := (Array.getElem?_eq_some_iff.1 HW2.out).1; clear hO2 hC2 hgr)
    | (go_at_call 15; refine (is_el sTS dm (dmNd alg) [] _ (HA.out.keptC HC2.out (dm, (dmNd alg), []) (by simp [plainKs]))).mono ?_; rw [hmts]; rintro e w2' ⟨rfl, hw2'⟩; rw [hw2']; clear hw2' w2')
    | (go_at_call 11; refine (expect_ks F sRef ⟨#[]⟩ [sDM, sDV] (w.heap.size + 1) 2 rb (refNd uri) (plainKs alg dm dv) w2 (by have := HF.out; rw [← HC2.out.tape] at this; exact this) (HR.out.keptC HC2.out) (HA.out.keptC HC2.out) (by simp [kidsOf, plainKs]) (cells2 HW2.out) ne2 (by simp) (by simp) hlt2 join2 (by decide) (by simp)).mono ?_; rintro e w3 ⟨v1, v2, rfl, hX, hC3⟩; rw [expK_plain] at hX; obtain ⟨rfl, hO3⟩ := hX; obtain ⟨g3, c3, rfl, hgc3, hp0, hp1⟩ := own_two hO3; have HC3 : Hid (Chg [] w w3) := HC2.out.trans hC3; have HV3 : Hid (Var3 w3 w.heap.size (.string ⟨#[]⟩) (.pointer none) (.pointer none)) := HV2.out.kept hC3; clear hO3 hC3 hg0))
  have HP0 : Hid (w3.cell? ⟨g3, 0, none⟩ = some (.pointer (some ⟨dm, 0, none⟩))) := hp0
  have HP1 : Hid (w3.cell? ⟨g3, 1, none⟩ = some (.pointer (some ⟨dv, 0, none⟩))) := hp1
  have hrr : w.heap.size < w3.heap.size := HV3.out.lt
  clear hp0 hp1
  go_wp2_with (first
    | (go_at_call 20; refine (attr_el sURI rb (refNd uri) [dm, dv] _ (HR.out.keptC (HC3.out.alloc _))).mono ?_; rw [uri_of]; rintro e w4 ⟨rfl, hC4⟩; have HVr : Hid (Var3 w4 w3.heap.size (.string ⟨#[]⟩) (.pointer none) (.pointer none)) := (Var3.new w3 _ _ _).kept hC4; have HV4 : Hid (Var3 w4 w.heap.size (.string ⟨#[]⟩) (.pointer none) (.pointer none)) := (HV3.out.alloc _).kept hC4; have HD4 : Hid (Chg [] w3 w4) := ((Chg.refl _ w3).alloc _).trans hC4; obtain ⟨r0, r1, r2, fr0, fr1, fr2⟩ := HVr.out.cells; clear hC4)
    | (go_at_call 21; refine (cut_no uri _ hpre).mono ?_; rintro e w5 ⟨tp, rfl, hw5⟩; have HD5 : Hid (Chg [] w3 w5) := (by rw [hw5]; exact HD4.out.setCell (.inr (Nat.le_refl _)) _); have HVr5 : Hid (Var3 w5 w3.heap.size (.string uri) (.pointer none) (.pointer none)) := (by rw [hw5]; exact HVr.out.set0 _); have HV5 : Hid (Var3 w5 w.heap.size (.string ⟨#[]⟩) (.pointer none) (.pointer none)) := (by rw [hw5]; exact HV4.out.other (by omega) _); have hq0 := HD5.out.cell HP0.out (by simp); obtain ⟨r0', r1', r2', fr0', fr1', fr2'⟩ := HVr5.out.cells; obtain ⟨s0, s1, s2, fs0, fs1, fs2⟩ := HV5.out.cells; clear hw5 r0 r1 r2 fr0 fr1 fr2))
  go_wp2_with (first
    | (go_at_call 12; refine (algorithm_el F cSHA dm (dmNd alg) [] w5 (by have := HF.out; rw [← HC3.out.tape, ← HD5.out.tape] at this; exact this) ((HA.out.keptC HC3.out).keptC HD5.out (dm, dmNd alg, []) (by simp [plainKs])) (by simp)).mono ?_; rw [hq]; rintro e w9 ⟨ev, rfl, hev, hC9⟩; obtain ⟨p, rfl⟩ := errV_bad hev; have HD9 : Hid (Chg [] w3 w9) := HD5.out.trans hC9; have HV9 : Hid (Var3 w9 w.heap.size (.string ⟨#[]⟩) (.pointer none) (.pointer none)) := HV5.out.kept hC9; obtain ⟨q0, q1, q2, fq0, fq1, fq2⟩ := HV9.out.cells; clear hC9))
  have hW := HV9.out.fin0 (HC3.out.trans HD9.out) (Nat.le_refl _)
  generalize (((w9.setCell ⟨w.heap.size, 0, none⟩ (.string ⟨#[]⟩)).setCell ⟨w.heap.size, 1, none⟩ (.pointer none)).setCell ⟨w.heap.size, 2, none⟩ (.pointer none)) = W at hW ⊢
  obtain ⟨hV, hC⟩ := hW
  obtain ⟨E0, E1, E2, _⟩ := hV.cells
  exact bodyPost_ret (v := .tuple #[.agg #[.string ⟨#[]⟩, .pointer none, .pointer none], .iface 72 (.pointer (some ⟨p, 0, none⟩))]) (by simp [results, Ybaf.results13, go_sem, E0, E1, E2]) rfl ⟨p, rfl, hC⟩

end Go.Proofs.YbulkcvhiFmt
