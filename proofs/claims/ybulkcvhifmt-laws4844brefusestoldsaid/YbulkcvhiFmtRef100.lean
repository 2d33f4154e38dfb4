/-
  Seat b4844aF: readReference, one case.
-/
import Derived.Test.YbulkcvhiFmtRef0
namespace Go.Proofs.YbulkcvhiFmt
open Go.RowKit Go.Extern.Stop Go.Stop Go.Extern
set_option linter.unusedVariables false

set_option maxHeartbeats 3200000 in
theorem ref_trans_out_bad (F : Interp) (uri alg : ByteArray) (sig rb ts tf dm dv : Nat) (w : World) (hF : F.answers w.tape) (hR : ElAt w rb (refNd uri) [ts, dm, dv]) (hA : AllAt w (transKs alg ts tf dm dv)) (hT : ElAt w tf tfNd []) (hpre : Lib.hasPrefix uri.data.toList sHash.data.toList = false) :
    Calls Ybaf.prog 13 #[.pointer (some ⟨sig, 0, none⟩), .pointer (some ⟨rb, 0, none⟩)] w fun e w' => ∃ p, e = .returned (.tuple #[.agg #[.string ⟨#[]⟩, .pointer none, .pointer none], .iface 72 (.pointer (some ⟨p, 0, none⟩))]) ∧ Chg [] w w' := by
  have HF : Hid (F.answers w.tape) := hF
  have HR : Hid (ElAt w rb (refNd uri) [ts, dm, dv]) := hR
  have HA : Hid (AllAt w (transKs alg ts tf dm dv)) := hA
  have hmts := isB_ts_ts
  have HT : Hid (ElAt w tf tfNd []) := hT
  clear hF hR hA hT
  obtain ⟨i9, hi9, hz90, hz91, hz92⟩ := info_parts info9
  go_enter Ybaf.func13, Ybaf.ntmps13
  go_wp2_with (first
    | (go_at_call 14; refine (elements_el rb (refNd uri) [ts, dm, dv] _ (HR.out.keptC (((Chg.refl _ w).alloc (.cells #[.string ⟨#[]⟩, .pointer none, .pointer none] 41)).alloc (.cells #[.string sDM, .string sDV] 9))) (by simp)).mono ?_; rintro e w2 ⟨v, rfl, hO2, hC2⟩; obtain ⟨g, c, rfl, hgc, hg0, hgr⟩ := own_three hO2; have HC2 : Hid (Chg [] w w2) := (((Chg.refl _ w).alloc _).alloc _).trans hC2; have HV2 : Hid (Var3 w2 w.heap.size (.string ⟨#[]⟩) (.pointer none) (.pointer none)) := ((Var3.new w _ _ _).alloc _).kept hC2; have HW2 : Hid (w2.heap[w.heap.size + 1]? = some (.cells #[.string sDM, .string sDV] 9 (0, 0))) := hC2.obj (heap_new2 _ _ _) (by simp); have hlt2 : w.heap.size + 1 < w2.heap.size := (Array.getElem?_eq_some_iff.1 HW2.out).1; clear hO2 hC2 hgr)
    | (go_at_call 15; refine (is_el sTS ts tsNd [tf] _ (HA.out.keptC HC2.out (ts, tsNd, [tf]) (by simp [transKs]))).mono ?_; rw [hmts]; rintro e w2' ⟨rfl, hw2'⟩; rw [hw2']; clear hw2' w2')
    | (at_builtin; refine wpList_append_own _ rfl _ _ 25 rfl w2.heap.size 9 i9 (.string ⟨#[]⟩) 1 16 Ybaf.underlying25 hi9 hz90 hz91 hz92 rfl (by decide) (.slice (some ⟨w2.heap.size, 0, none⟩) 1 1) 1 [.string sTS] rfl (own_ts w2) ⟨w.heap.size + 1, 0, none⟩ 2 2 [.string sDM, .string sDV] rfl rfl ?hn ?h1 (by decide) (by decide) (by simp) ?_))
  case hn => exact news_ts HW2.out
  case h1 => simp [Value.oneCell']
  intro v' w2b hown hgrow hnil
  have hc2b : Chg [] w w2b := ((HC2.out.alloc _).mono (l' := [w2.heap.size]) (by simp)).trans (Chg.ofGrown hgrow (fun k hk => .inl (by simpa [Value.ownBlock] using hk.symm))) |>.mono (fun k hk => .inr (by simp at hk; omega))
  have HC2b : Hid (Chg [] w w2b) := hc2b
  have HV2b : Hid (Var3 w2b w.heap.size (.string ⟨#[]⟩) (.pointer none) (.pointer none)) := (Chg.ofGrown (l := [w2.heap.size]) hgrow (fun k hk => .inl (by simpa [Value.ownBlock] using hk.symm))).obj (HV2.out.alloc _) (by simp; omega)
  obtain ⟨cb, cc, rfl, hcc, hcs⟩ := own_strs3 hown
  have HCS : Hid (∀ j x, [sTS, sDM, sDV][j]? = some x → w2b.cell? ⟨cb, 0 + j, none⟩ = some (.string x)) := hcs
  have hcb : cb < w2b.heap.size := (hown.lt cb rfl).2
  clear hown hgrow hnil hc2b hcs hg0
  go_wp2_with (first
    | (go_at_call 11; refine (expect_ks F sRef ⟨#[]⟩ [sTS, sDM, sDV] cb cc rb (refNd uri) (transKs alg ts tf dm dv) w2b (by have := HF.out; rw [← HC2b.out.tape] at this; exact this) (HR.out.keptC HC2b.out) (HA.out.keptC HC2b.out) (by simp [kidsOf, transKs]) HCS.out ne3 (by simp) (by simp) hcb join3 (by decide) hcc).mono ?_; rintro e w3 ⟨v1, v2, rfl, hX, hC3⟩; rw [expK_trans] at hX; obtain ⟨rfl, hO3⟩ := hX; obtain ⟨g3, c3, rfl, hgc3, hp0, hp1, hp2⟩ := own_three hO3; have HC3 : Hid (Chg [] w w3) := HC2b.out.trans hC3; have HV3 : Hid (Var3 w3 w.heap.size (.string ⟨#[]⟩) (.pointer none) (.pointer none)) := HV2b.out.kept hC3; clear hO3 hC3))
  have HP0 : Hid (w3.cell? ⟨g3, 0, none⟩ = some (.pointer (some ⟨ts, 0, none⟩))) := hp0
  have HP1 : Hid (w3.cell? ⟨g3, 1, none⟩ = some (.pointer (some ⟨dm, 0, none⟩))) := hp1
  have HP2 : Hid (w3.cell? ⟨g3, 2, none⟩ = some (.pointer (some ⟨dv, 0, none⟩))) := hp2
  have hrr : w.heap.size < w3.heap.size := HV3.out.lt
  clear hp0 hp1 hp2
  go_wp2_with (first
    | (go_at_call 20; refine (attr_el sURI rb (refNd uri) [ts, dm, dv] _ (HR.out.keptC (HC3.out.alloc _))).mono ?_; rw [uri_of]; rintro e w4 ⟨rfl, hC4⟩; have HVr : Hid (Var3 w4 w3.heap.size (.string ⟨#[]⟩) (.pointer none) (.pointer none)) := (Var3.new w3 _ _ _).kept hC4; have HV4 : Hid (Var3 w4 w.heap.size (.string ⟨#[]⟩) (.pointer none) (.pointer none)) := (HV3.out.alloc _).kept hC4; have HD4 : Hid (Chg [] w3 w4) := ((Chg.refl _ w3).alloc _).trans hC4; obtain ⟨r0, r1, r2, fr0, fr1, fr2⟩ := HVr.out.cells; clear hC4)
    | (go_at_call 21; refine (cut_no uri _ hpre).mono ?_; rintro e w5 ⟨tp, rfl, hw5⟩; have HD5 : Hid (Chg [] w3 w5) := (by rw [hw5]; exact HD4.out.setCell (.inr (Nat.le_refl _)) _); have HVr5 : Hid (Var3 w5 w3.heap.size (.string uri) (.pointer none) (.pointer none)) := (by rw [hw5]; exact HVr.out.set0 _); have HV5 : Hid (Var3 w5 w.heap.size (.string ⟨#[]⟩) (.pointer none) (.pointer none)) := (by rw [hw5]; exact HV4.out.other (by omega) _); have hq0 := HD5.out.cell HP0.out (by simp); obtain ⟨r0', r1', r2', fr0', fr1', fr2'⟩ := HVr5.out.cells; obtain ⟨s0, s1, s2, fs0, fs1, fs2⟩ := HV5.out.cells; clear hw5 r0 r1 r2 fr0 fr1 fr2))
  go_wp2_with (go_at_call 17; refine (errorf_E6 F uri w5.heap.size _ (by have := HF.out; rw [← HC3.out.tape, ← HD5.out.tape] at this; exact this) (by simp [World.cell?_alloc_at])).mono ?_; rintro e w7 ⟨p, rfl, hC7⟩; have HD7 : Hid (Chg [] w3 w7) := (HD5.out.alloc _).trans hC7; have HV7 : Hid (Var3 w7 w.heap.size (.string ⟨#[]⟩) (.pointer none) (.pointer none)) := (HV5.out.alloc _).kept hC7; obtain ⟨t0, t1, t2, ft0, ft1, ft2⟩ := HV7.out.cells; clear hC7 s0 s1 s2 fs0 fs1 fs2)
  have hW := HV7.out.fin0 (HC3.out.trans HD7.out) (Nat.le_refl _)
  generalize (((w7.setCell ⟨w.heap.size, 0, none⟩ (.string ⟨#[]⟩)).setCell ⟨w.heap.size, 1, none⟩ (.pointer none)).setCell ⟨w.heap.size, 2, none⟩ (.pointer none)) = W at hW ⊢
  obtain ⟨hV, hC⟩ := hW
  obtain ⟨E0, E1, E2, _⟩ := hV.cells
  exact bodyPost_ret (v := .tuple #[.agg #[.string ⟨#[]⟩, .pointer none, .pointer none], .iface 72 (.pointer (some ⟨p, 0, none⟩))]) (by simp [results, Ybaf.results13, go_sem, E0, E1, E2]) rfl ⟨p, rfl, hC⟩

end Go.Proofs.YbulkcvhiFmt
