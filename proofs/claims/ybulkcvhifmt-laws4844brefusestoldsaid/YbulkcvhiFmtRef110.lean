/-
  Seat b4844aF: readReference, one case.
-/
import Derived.Test.YbulkcvhiFmtRef0
namespace Go.Proofs.YbulkcvhiFmt
open Go.RowKit Go.Extern.Stop Go.Stop Go.Extern
set_option linter.unusedVariables false

set_option maxHeartbeats 3200000 in
theorem ref_trans_hash_bad (F : Interp) (alg : ByteArray) (sig rb ts tf dm dv obj n : Nat) (w : World) (hF : F.answers w.tape) (hR : ElAt w rb (refNd sHObj) [ts, dm, dv]) (hA : AllAt w (transKs alg ts tf dm dv)) (hT : ElAt w tf tfNd []) (hp : w.cell? ⟨sig, 4, none⟩ = some (.pointer none)) (hH : Hits w sObj n sig [obj]) (hq : algB (dmNd alg) [] cSHA = false) :
    Calls Ybaf.prog 13 #[.pointer (some ⟨sig, 0, none⟩), .pointer (some ⟨rb, 0, none⟩)] w fun e w' => ∃ p, e = .returned (.tuple #[.agg #[.string ⟨#[]⟩, .pointer none, .pointer none], .iface 72 (.pointer (some ⟨p, 0, none⟩))]) ∧ Chg [] w w' := by
  have HF : Hid (F.answers w.tape) := hF
  have HR : Hid (ElAt w rb (refNd sHObj) [ts, dm, dv]) := hR
  have HA : Hid (AllAt w (transKs alg ts tf dm dv)) := hA
  have hmts := isB_ts_ts
  have HT : Hid (ElAt w tf tfNd []) := hT
  have HP : Hid (w.cell? ⟨sig, 4, none⟩ = some (.pointer none)) := hp
  have HH : Hid (Hits w sObj n sig [obj]) := hH
  clear hF hR hA hT hp hH
  obtain ⟨i9, hi9, hz90, hz91, hz92⟩ := info_parts info9
  go_enter Ybaf.func13, Ybaf.ntmps13
  go_wp2_with (first
    | (go_at_call 14; refine (elements_el rb (refNd sHObj) [ts, dm, dv] _ (HR.out.keptC (((Chg.refl _ w).alloc (.cells #[.string ⟨#[]⟩, .pointer none, .pointer none] 41)).alloc (.cells #[.string sDM, .string sDV] 9))) (by simp)).mono ?_; rintro e w2 ⟨v, rfl, hO2, hC2⟩; obtain ⟨g, c, rfl, hgc, hg0, hgr⟩ := own_three hO2; have HC2 : Hid (Chg [] w w2) := (((Chg.refl _ w).alloc _).alloc _).trans hC2; have HV2 : Hid (Var3 w2 w.heap.size (.string ⟨#[]⟩) (.pointer none) (.pointer none)) := ((Var3.new w _ _ _).alloc _).kept hC2; have HW2 : Hid (w2.heap[w.heap.size + 1]? = some (.cells #[.string sDM, .string sDV] 9 (0, 0))) := hC2.obj (heap_new2 _ _ _) (by simp); have hlt2 : w.heap.size + 1 < w2.heap.size := (Array.getElem?_eq_some_iff.1 HW2.out).1; clear hO2 hC2 hgr)
    | (go_at_call 15; refine (is_el sTS ts tsNd [tf] _ (HA.out.keptC HC2.out (ts, tsNd, [tf]) (by simp [transKs]))).mono ?_; rw [hmts]; rintro e w2' ⟨rfl, hw2'⟩; rw [hw2']; clear hw2' w2')
    | (at_builtin; refine wpList_append_own _ rfl _ _ 25 rfl w2.heap.size 9 i9 (.string ⟨#[]⟩) 1 16 Ybaf.underlying25 hi9 hz90 hz91 hz92 rfl (by decide) (.slice (some ⟨w2.heap.size, 0, none⟩) 1 1) 1 [.string sTS] rfl (own_ts w2) ⟨w.heap.size + 1, 0, none⟩ 2 2 [.string sDM, .string sDV] rfl rfl ?hn ?h1 (by decide) (by decide) (by simp) ?_))
  case hn => exact news_ts HW2.out
  case h1 => simp [Value.oneCell']
  intro v' w2b hown hgrow hnil
  have hc2b : Chg [] w w2b := ((HC2.out.alloc _).mono (l' := [w2.heap.size]) (by simp)).trans (Chg.ofGrown hgrow (fun k hk => .inl (by simpa [Value.ownBlock] using hk.symm))) |>.mono (fun k hk => .inr (by simp at hk; omega))
  have HC2b : Hid (Chg [] w w2b) := hc2b
  have HV2b : Hid (Var3 w2b w.heap.size (.string ⟨#[]⟩) (.pointer none) (.pointer none)) := (Chg.ofGrown (l := [w2.heap.size]) hgrow (fun k hk => .inl (by simpa [Value.ownBlock] using hk.symm))).obj (HV2.out.alloc _) (by simp; omega)
  obtain ⟨cb, cc, rfl, hcc, hcs⟩ := own_strs3 hown
  have HCS : Hid (∀ j x, [sTS, sDM, sDV][j]? = some x → w2b.cell? ⟨cb, 0 + j, none⟩ = some (.string x)) := hcs
  have hcb : cb < w2b.heap.size := (hown.lt cb rfl).2
  clear hown hgrow hnil hc2b hcs hg0
  go_wp2_with (first
    | (go_at_call 11; refine (expect_ks F sRef ⟨#[]⟩ [sTS, sDM, sDV] cb cc rb (refNd sHObj) (transKs alg ts tf dm dv) w2b (by have := HF.out; rw [← HC2b.out.tape] at this; exact this) (HR.out.keptC HC2b.out) (HA.out.keptC HC2b.out) (by simp [kidsOf, transKs]) HCS.out ne3 (by simp) (by simp) hcb join3 (by decide) hcc).mono ?_; rintro e w3 ⟨v1, v2, rfl, hX, hC3⟩; rw [expK_trans] at hX; obtain ⟨rfl, hO3⟩ := hX; obtain ⟨g3, c3, rfl, hgc3, hp0, hp1, hp2⟩ := own_three hO3; have HC3 : Hid (Chg [] w w3) := HC2b.out.trans hC3; have HV3 : Hid (Var3 w3 w.heap.size (.string ⟨#[]⟩) (.pointer none) (.pointer none)) := HV2b.out.kept hC3; clear hO3 hC3))
  have HP0 : Hid (w3.cell? ⟨g3, 0, none⟩ = some (.pointer (some ⟨ts, 0, none⟩))) := hp0
  have HP1 : Hid (w3.cell? ⟨g3, 1, none⟩ = some (.pointer (some ⟨dm, 0, none⟩))) := hp1
  have HP2 : Hid (w3.cell? ⟨g3, 2, none⟩ = some (.pointer (some ⟨dv, 0, none⟩))) := hp2
  have hrr : w.heap.size < w3.heap.size := HV3.out.lt
  clear hp0 hp1 hp2
  go_wp2_with (first
    | (go_at_call 20; refine (attr_el sURI rb (refNd sHObj) [ts, dm, dv] _ (HR.out.keptC (HC3.out.alloc _))).mono ?_; rw [uri_of]; rintro e w4 ⟨rfl, hC4⟩; have HVr : Hid (Var3 w4 w3.heap.size (.string ⟨#[]⟩) (.pointer none) (.pointer none)) := (Var3.new w3 _ _ _).kept hC4; have HV4 : Hid (Var3 w4 w.heap.size (.string ⟨#[]⟩) (.pointer none) (.pointer none)) := (HV3.out.alloc _).kept hC4; have HD4 : Hid (Chg [] w3 w4) := ((Chg.refl _ w3).alloc _).trans hC4; obtain ⟨r0, r1, r2, fr0, fr1, fr2⟩ := HVr.out.cells; clear hC4)
    | (go_at_call 21; refine (cut_yes _).mono ?_; rintro e w5 ⟨rfl, hw5⟩; have HD5 : Hid (Chg [] w3 w5) := (by rw [hw5]; exact HD4.out.setCell (.inr (Nat.le_refl _)) _); have HVr5 : Hid (Var3 w5 w3.heap.size (.string sHObj) (.pointer none) (.pointer none)) := (by rw [hw5]; exact HVr.out.set0 _); have HV5 : Hid (Var3 w5 w.heap.size (.string ⟨#[]⟩) (.pointer none) (.pointer none)) := (by rw [hw5]; exact HV4.out.other (by omega) _); clear hw5 r0 r1 r2 fr0 fr1 fr2)
    | (go_at_call 22; refine (byID_one sObj n sig obj w5 ((HC3.out.trans HD5.out).cell HP.out (by simp)) (HH.out.keptC (HC3.out.trans HD5.out))).mono ?_; rintro e w5b ⟨rfl, hC5b⟩; have HD5b : Hid (Chg [] w3 w5b) := HD5.out.trans hC5b; have HV5b : Hid (Var3 w5b w.heap.size (.string ⟨#[]⟩) (.pointer none) (.pointer none)) := HV5.out.kept hC5b; have HVr5b : Hid (Var3 w5b w3.heap.size (.string sHObj) (.pointer none) (.pointer none)) := HVr5.out.kept hC5b; obtain ⟨r0, r1, r2, fr0, fr1, fr2⟩ := HVr5b.out.cells; have hq0 := HD5b.out.cell HP0.out (by simp); clear hC5b))
  obtain ⟨w6, hw6⟩ : ∃ w6, w6 = w5b.setCell ⟨w3.heap.size, 1, none⟩ (.pointer (some ⟨obj, 0, none⟩)) := ⟨_, rfl⟩
  have HD6 : Hid (Chg [] w3 w6) := by rw [hw6]; exact HD5b.out.setCell (.inr (Nat.le_refl _)) _
  have HVr6 : Hid (Var3 w6 w3.heap.size (.string sHObj) (.pointer (some ⟨obj, 0, none⟩)) (.pointer none)) := by rw [hw6]; exact HVr5b.out.set1 _
  have HV6 : Hid (Var3 w6 w.heap.size (.string ⟨#[]⟩) (.pointer none) (.pointer none)) := by rw [hw6]; exact HV5b.out.other (by omega) _
  rw [← hw6]
  have hsz6 : w5b.heap.size = w6.heap.size := by rw [hw6]; simp
  rw [hsz6]
  clear r0 r1 r2 fr0 fr1 fr2 hq0 hw6
  have hq0 := HD6.out.cell HP0.out (by simp)
  obtain ⟨r0, r1, r2, fr0, fr1, fr2⟩ := HVr6.out.cells
  obtain ⟨s0, s1, s2, fs0, fs1, fs2⟩ := HV6.out.cells
  have hsz7 : w6.heap.size < (w6.alloc (.cells #[.string sTF] 9)).heap.size := by simp
  have EX := expect_ks F sTS ⟨#[]⟩ [sTF] w6.heap.size 1 ts tsNd [(tf, tfNd, [])] (w6.alloc (.cells #[.string sTF] 9)) (by have := HF.out; rw [← HC3.out.tape, ← HD6.out.tape] at this; exact this) ((HA.out.keptC HC3.out).keptC (HD6.out.alloc _) (ts, tsNd, [tf]) (by simp [transKs])) (fun x hx => by obtain rfl := List.mem_singleton.1 hx; exact HT.out.keptC (HC3.out.trans (HD6.out.alloc _))) (by simp [kidsOf]) (cells1 (heap_alloc_new w6 (.cells #[.string sTF] 9))) ne1 (by simp) (by simp) hsz7 join1 (by decide) (by simp)
  rw [expK_ts] at EX
  have EX2 : Calls Ybaf.prog 11 #[.pointer (some ⟨ts, 0, none⟩), .string sTS, .slice (some ⟨w6.heap.size, 0, none⟩) 1 1, .string ⟨#[]⟩] (w6.alloc (.cells #[.string sTF] 9)) fun e w' => ∃ g7 c7, e = .returned (.tuple #[.slice (some ⟨g7, 0, none⟩) 1 c7, .nilIface]) ∧ 1 ≤ c7 ∧ w'.cell? ⟨g7, 0, none⟩ = some (.pointer (some ⟨tf, 0, none⟩)) ∧ Chg [] (w6.alloc (.cells #[.string sTF] 9)) w' := by
    refine EX.mono ?_
    rintro e w' ⟨v1, v2, rfl, ⟨rfl, hO7⟩, hC7⟩
    obtain ⟨g7, c7, rfl, hgc7, hx0⟩ := own_single hO7
    exact ⟨g7, c7, rfl, hgc7, hx0, hC7⟩
  clear EX
  clear r0 r1 r2 fr0 fr1 fr2 s0 s1 s2 fs0 fs1 fs2 hq0
  refine EX2.mono ?_
  rintro e w7 ⟨g7, c7, rfl, hgc7, hx0, hC7⟩
  have HD7 : Hid (Chg [] w3 w7) := (HD6.out.alloc _).trans hC7
  have HV7 : Hid (Var3 w7 w.heap.size (.string ⟨#[]⟩) (.pointer none) (.pointer none)) := (HV6.out.alloc _).kept hC7
  have HVr7 : Hid (Var3 w7 w3.heap.size (.string sHObj) (.pointer (some ⟨obj, 0, none⟩)) (.pointer none)) := (HVr6.out.alloc _).kept hC7
  clear hC7 EX2 hsz7 hsz6 hmts
  have AL1 := algorithm_el F cC14 tf tfNd [] w7 (by have := HF.out; rw [← HC3.out.tape, ← HD7.out.tape] at this; exact this) (HT.out.keptC (HC3.out.trans HD7.out)) (by simp)
  rw [algB_tf] at AL1
  go_wp2_with fail
  refine AL1.mono ?_
  rintro e w8 ⟨ev, rfl, hev, hC8⟩
  obtain rfl : ev = .nilIface := hev
  have HD8 : Hid (Chg [] w3 w8) := HD7.out.trans hC8
  have HV8 : Hid (Var3 w8 w.heap.size (.string ⟨#[]⟩) (.pointer none) (.pointer none)) := HV7.out.kept hC8
  have HVr8 : Hid (Var3 w8 w3.heap.size (.string sHObj) (.pointer (some ⟨obj, 0, none⟩)) (.pointer none)) := HVr7.out.kept hC8
  obtain ⟨r0, r1, r2, fr0, fr1, fr2⟩ := HVr8.out.cells
  obtain ⟨s0, s1, s2, fs0, fs1, fs2⟩ := HV8.out.cells
  have hq1 := HD8.out.cell HP1.out (by simp)
  clear hC8 hx0 AL1
  go_wp2_with (first
    | (go_at_call 12; refine (algorithm_el F cSHA dm (dmNd alg) [] w8 (by have := HF.out; rw [← HC3.out.tape, ← HD8.out.tape] at this; exact this) ((HA.out.keptC HC3.out).keptC HD8.out (dm, dmNd alg, []) (by simp [transKs])) (by simp)).mono ?_; rw [hq]; rintro e w9 ⟨ev, rfl, hev, hC9⟩; obtain ⟨p, rfl⟩ := errV_bad hev; have HD9 : Hid (Chg [] w3 w9) := HD8.out.trans hC9; have HV9 : Hid (Var3 w9 w.heap.size (.string ⟨#[]⟩) (.pointer none) (.pointer none)) := HV8.out.kept hC9; obtain ⟨q0, q1, q2, fq0, fq1, fq2⟩ := HV9.out.cells; clear hC9))
  have hW := HV9.out.fin0 (HC3.out.trans HD9.out) (Nat.le_refl _)
  generalize (((w9.setCell ⟨w.heap.size, 0, none⟩ (.string ⟨#[]⟩)).setCell ⟨w.heap.size, 1, none⟩ (.pointer none)).setCell ⟨w.heap.size, 2, none⟩ (.pointer none)) = W at hW ⊢
  obtain ⟨hV, hC⟩ := hW
  obtain ⟨E0, E1, E2, _⟩ := hV.cells
  exact bodyPost_ret (v := .tuple #[.agg #[.string ⟨#[]⟩, .pointer none, .pointer none], .iface 72 (.pointer (some ⟨p, 0, none⟩))]) (by simp [results, Ybaf.results13, go_sem, E0, E1, E2]) rfl ⟨p, rfl, hC⟩

end Go.Proofs.YbulkcvhiFmt
