/-
  Seat b4844aF: readReference, one case.
-/
import Derived.Test.YbulkcvhiFmtRef0
namespace Go.Proofs.YbulkcvhiFmt
open Go.RowKit Go.Extern.Stop Go.Stop Go.Extern
set_option linter.unusedVariables false

set_option maxHeartbeats 3200000 in
theorem ref_plain_hash (F : Interp) (alg : ByteArray) (sig rb dm dv obj n : Nat) (w : World) (hF : F.answers w.tape) (hR : ElAt w rb (refNd sHObj) [dm, dv]) (hA : AllAt w (plainKs alg dm dv)) (hp : w.cell? ⟨sig, 4, none⟩ = some (.pointer none)) (hH : Hits w sObj n sig [obj]) (hq : algB (dmNd alg) [] cSHA = true) :
    Calls Ybaf.prog 13 #[.pointer (some ⟨sig, 0, none⟩), .pointer (some ⟨rb, 0, none⟩)] w fun e w' => e = .returned (.tuple #[.agg #[.string sHObj, (.pointer (some ⟨obj, 0, none⟩)), .pointer (some ⟨dv, 0, none⟩)], .nilIface]) ∧ Chg [] w w' := by
  have HF : Hid (F.answers w.tape) := hF
  have HR : Hid (ElAt w rb (refNd sHObj) [dm, dv]) := hR
  have HA : Hid (AllAt w (plainKs alg dm dv)) := hA
  have hmts := isB_dm_ts alg
  have HP : Hid (w.cell? ⟨sig, 4, none⟩ = some (.pointer none)) := hp
  have HH : Hid (Hits w sObj n sig [obj]) := hH
  clear hF hR hA hp hH
  go_enter Ybaf.func13, Ybaf.ntmps13
  go_wp2_with (first
    | (go_at_call 14; refine (elements_el rb (refNd sHObj) [dm, dv] _ (HR.out.keptC (((Chg.refl _ w).alloc (.cells #[.string ⟨#[]⟩, .pointer none, .pointer none] 41)).alloc (.cells #[.string sDM, .string sDV] 9))) (by simp)).mono ?_; rintro e w2 ⟨v, rfl, hO2, hC2⟩; obtain ⟨g, c, rfl, hgc, hg0, hgr⟩ := own_two hO2; have HC2 : Hid (Chg [] w w2) := (((Chg.refl _ w).alloc _).alloc _).trans hC2; have HV2 : Hid (Var3 w2 w.heap.size (.string ⟨#[]⟩) (.pointer none) (.pointer none)) := ((Var3.new w _ _ _).alloc _).kept hC2; have HW2 : Hid (w2.heap[w.heap.size + 1]? = some (.cells #[.string sDM, .string sDV] 9 (0, 0))) := hC2.obj (heap_new2 _ _ _) (by simp); have hlt2 : w.heap.size + 1 < w2.heap.size := (Array.getElem?_eq_some_iff.1 HW2.out).1; clear hO2 hC2 hgr)
    | (go_at_call 15; refine (is_el sTS dm (dmNd alg) [] _ (HA.out.keptC HC2.out (dm, (dmNd alg), []) (by simp [plainKs]))).mono ?_; rw [hmts]; rintro e w2' ⟨rfl, hw2'⟩; rw [hw2']; clear hw2' w2')
    | (go_at_call 11; refine (expect_ks F sRef ⟨#[]⟩ [sDM, sDV] (w.heap.size + 1) 2 rb (refNd sHObj) (plainKs alg dm dv) w2 (by have := HF.out; rw [← HC2.out.tape] at this; exact this) (HR.out.keptC HC2.out) (HA.out.keptC HC2.out) (by simp [kidsOf, plainKs]) (cells2 HW2.out) ne2 (by simp) (by simp) hlt2 join2 (by decide) (by simp)).mono ?_; rintro e w3 ⟨v1, v2, rfl, hX, hC3⟩; rw [expK_plain] at hX; obtain ⟨rfl, hO3⟩ := hX; obtain ⟨g3, c3, rfl, hgc3, hp0, hp1⟩ := own_two hO3; have HC3 : Hid (Chg [] w w3) := HC2.out.trans hC3; have HV3 : Hid (Var3 w3 w.heap.size (.string ⟨#[]⟩) (.pointer none) (.pointer none)) := HV2.out.kept hC3; clear hO3 hC3 hg0))
  have HP0 : Hid (w3.cell? ⟨g3, 0, none⟩ = some (.pointer (some ⟨dm, 0, none⟩))) := hp0
  have HP1 : Hid (w3.cell? ⟨g3, 1, none⟩ = some (.pointer (some ⟨dv, 0, none⟩))) := hp1
  have hrr : w.heap.size < w3.heap.size := HV3.out.lt
  clear hp0 hp1
  go_wp2_with (first
    | (go_at_call 20; refine (attr_el sURI rb (refNd sHObj) [dm, dv] _ (HR.out.keptC (HC3.out.alloc _))).mono ?_; rw [uri_of]; rintro e w4 ⟨rfl, hC4⟩; have HVr : Hid (Var3 w4 w3.heap.size (.string ⟨#[]⟩) (.pointer none) (.pointer none)) := (Var3.new w3 _ _ _).kept hC4; have HV4 : Hid (Var3 w4 w.heap.size (.string ⟨#[]⟩) (.pointer none) (.pointer none)) := (HV3.out.alloc _).kept hC4; have HD4 : Hid (Chg [] w3 w4) := ((Chg.refl _ w3).alloc _).trans hC4; obtain ⟨r0, r1, r2, fr0, fr1, fr2⟩ := HVr.out.cells; clear hC4)
    | (go_at_call 21; refine (cut_yes _).mono ?_; rintro e w5 ⟨rfl, hw5⟩; have HD5 : Hid (Chg [] w3 w5) := (by rw [hw5]; exact HD4.out.setCell (.inr (Nat.le_refl _)) _); have HVr5 : Hid (Var3 w5 w3.heap.size (.string sHObj) (.pointer none) (.pointer none)) := (by rw [hw5]; exact HVr.out.set0 _); have HV5 : Hid (Var3 w5 w.heap.size (.string ⟨#[]⟩) (.pointer none) (.pointer none)) := (by rw [hw5]; exact HV4.out.other (by omega) _); clear hw5 r0 r1 r2 fr0 fr1 fr2)
    | (go_at_call 22; refine (byID_one sObj n sig obj w5 ((HC3.out.trans HD5.out).cell HP.out (by simp)) (HH.out.keptC (HC3.out.trans HD5.out))).mono ?_; rintro e w5b ⟨rfl, hC5b⟩; have HD5b : Hid (Chg [] w3 w5b) := HD5.out.trans hC5b; have HV5b : Hid (Var3 w5b w.heap.size (.string ⟨#[]⟩) (.pointer none) (.pointer none)) := HV5.out.kept hC5b; have HVr5b : Hid (Var3 w5b w3.heap.size (.string sHObj) (.pointer none) (.pointer none)) := HVr5.out.kept hC5b; obtain ⟨r0, r1, r2, fr0, fr1, fr2⟩ := HVr5b.out.cells; have hq0 := HD5b.out.cell HP0.out (by simp); clear hC5b))
  obtain ⟨w6, hw6⟩ : ∃ w6, w6 = w5b.setCell ⟨w3.heap.size, 1, none⟩ (.pointer (some ⟨obj, 0, none⟩)) := ⟨_, rfl⟩
  have HD6 : Hid (Chg [] w3 w6) := by rw [hw6]; exact HD5b.out.setCell (.inr (Nat.le_refl _)) _
  have HVr6 : Hid (Var3 w6 w3.heap.size (.string sHObj) (.pointer (some ⟨obj, 0, none⟩)) (.pointer none)) := by rw [hw6]; exact HVr5b.out.set1 _
  have HV6 : Hid (Var3 w6 w.heap.size (.string ⟨#[]⟩) (.pointer none) (.pointer none)) := by rw [hw6]; exact HV5b.out.other (by omega) _
  rw [← hw6]
  clear r0 r1 r2 fr0 fr1 fr2 hq0 hw6
  have hq0 := HD6.out.cell HP0.out (by simp)
  obtain ⟨r0, r1, r2, fr0, fr1, fr2⟩ := HVr6.out.cells
  obtain ⟨s0, s1, s2, fs0, fs1, fs2⟩ := HV6.out.cells
  go_wp2_with (first
    | (go_at_call 12; refine (algorithm_el F cSHA dm (dmNd alg) [] w6 (by have := HF.out; rw [← HC3.out.tape, ← HD6.out.tape] at this; exact this) ((HA.out.keptC HC3.out).keptC HD6.out (dm, dmNd alg, []) (by simp [plainKs])) (by simp)).mono ?_; rw [hq]; rintro e w9 ⟨ev, rfl, hev, hC9⟩; obtain rfl : ev = .nilIface := hev; have HD9 : Hid (Chg [] w3 w9) := HD6.out.trans hC9; have HV9 : Hid (Var3 w9 w.heap.size (.string ⟨#[]⟩) (.pointer none) (.pointer none)) := HV6.out.kept hC9; have HVr9 := HVr6.out.kept hC9; obtain ⟨t0, t1, t2, ft0, ft1, ft2⟩ := HVr9.cells; obtain ⟨q0, q1, q2, fq0, fq1, fq2⟩ := HV9.out.cells; have hqz := HD9.out.cell HP1.out (by simp); clear hC9 HVr9))
  have hW := HV9.out.fin (r := w3.heap.size) (i := 2) (u := .pointer (some ⟨dv, 0, none⟩)) (by omega) (.string sHObj) (.pointer (some ⟨obj, 0, none⟩)) (.pointer (some ⟨dv, 0, none⟩)) (HC3.out.trans HD9.out) (Nat.le_refl _) (by omega)
  generalize ((((w9.setCell ⟨w3.heap.size, 2, none⟩ (.pointer (some ⟨dv, 0, none⟩))).setCell ⟨w.heap.size, 0, none⟩ (.string sHObj)).setCell ⟨w.heap.size, 1, none⟩ (.pointer (some ⟨obj, 0, none⟩))).setCell ⟨w.heap.size, 2, none⟩ (.pointer (some ⟨dv, 0, none⟩))) = W at hW ⊢
  obtain ⟨hV, hC⟩ := hW
  obtain ⟨E0, E1, E2, _⟩ := hV.cells
  exact bodyPost_ret (v := .tuple #[.agg #[.string sHObj, (.pointer (some ⟨obj, 0, none⟩)), .pointer (some ⟨dv, 0, none⟩)], .nilIface]) (by simp [results, Ybaf.results13, go_sem, E0, E1, E2]) rfl ⟨rfl, hC⟩

end Go.Proofs.YbulkcvhiFmt
