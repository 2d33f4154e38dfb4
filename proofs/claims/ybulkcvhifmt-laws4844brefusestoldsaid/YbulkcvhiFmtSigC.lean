/-
  Seat b4844aF: readSignature, the methods.
-/
import Derived.Test.YbulkcvhiFmtSigK
import Derived.Test.YbulkcvhiFmtRef
namespace Go.Proofs.YbulkcvhiFmt
open Go.RowKit Go.Extern.Stop Go.Stop Go.Extern
set_option linter.unusedVariables false

theorem SigAt.row1 {ws w w' : World} {sb n : Nat} {si sv m x : Value} {rs : List Value} {cs : List Nat} {X : List (Nat × Array Value)} {v : Value} {kids : List Nat} (h : SigAt ws w sb si sv n rs cs m x X) (hc : Chg [] w w') (ho : w'.ownsRow w.heap.size 24 1 v kids.length (ptrs kids)) (hpos : 0 < kids.length) :
    ∃ g c cur, v = .slice (some ⟨g, 0, none⟩) kids.length c ∧ kids.length ≤ c ∧ SigAt ws w' sb si sv n rs cs m x ((g, cur) :: X) ∧ (∀ (j k : Nat), kids[j]? = some k → cur[j]? = some (Value.pointer (some ⟨k, 0, none⟩))) ∧ True := by
  obtain ⟨a, c, Y, g, cur, rfl, h1, h2, h3, h4⟩ := h.rowE hc ho
  obtain ⟨rfl, hm⟩ := h4 hpos
  exact ⟨g, c, cur, rfl, h1, h2.drop (fun p hp => by rcases List.mem_cons.1 hp with rfl | hp; exact hm; exact List.mem_append.2 (.inr hp)), h3, trivial⟩

theorem info_ok (F : Interp) (ws w : World) (sb si cm sm : Nat) (a b : ByteArray) (cmK : List Nat) (rs : List RefD) (si' sv m x : Value) (n : Nat) (rv : List Value) (cs : List Nat) (X : List (Nat × Array Value)) (hF : F.answers ws.tape) (hW : SigAt ws w sb si' sv n rv cs m x X) (h : ElAt ws si siNd (kidsOf (infoKs cm sm a b cmK rs))) (hA : AllAt ws (infoKs cm sm a b cmK rs)) (hk : rs.length ≤ 2048) (hne : rs ≠ []) :
    Calls Ybaf.prog 11 #[.pointer (some ⟨si, 0, none⟩), .string sSI, .slice (some ⟨w.heap.size, 0, none⟩) 3 3, .string sRef] (w.alloc Z9i) fun e w' => ∃ g c cur, e = .returned (.tuple #[.slice (some ⟨g, 0, none⟩) (rs.length + 2) c, .nilIface]) ∧ rs.length + 2 ≤ c ∧
      cur[0]? = some (.pointer (some ⟨cm, 0, none⟩)) ∧ cur[1]? = some (.pointer (some ⟨sm, 0, none⟩)) ∧ SigAt ws w' sb si' sv n rv cs m x ((g, cur) :: X) ∧ (∀ (j : Nat) (r : RefD), rs[j]? = some r → cur[j + 2]? = some (Value.pointer (some ⟨r.rb, 0, none⟩))) := by
  have hl : (kidsOf (infoKs cm sm a b cmK rs)).length = rs.length + 2 := by simp [kidsOf, infoKs]
  have EX := expect_info F ws w sb si si' sv m x n rv cs X (infoKs cm sm a b cmK rs) hF hW h hA (by rw [hl]; omega)
  have hx : expK siNd sSI [sCM, sSM, sRef] sRef (infoKs cm sm a b cmK rs) = true := by
    rw [expK_info]
    cases rs with
    | nil => exact (hne rfl).elim
    | cons r rs => rfl
  rw [hx] at EX
  refine EX.mono ?_
  rintro e w' ⟨v1, v2, rfl, hX, hC⟩
  obtain ⟨rfl, hO⟩ := hX
  have hW1 : SigAt ws (w.alloc Z9i) sb si' sv n rv cs m x X := hW.keptC ((Chg.refl _ _).alloc _)
  obtain ⟨v, c, cur, he, h1, h2, h3, h4⟩ := hW1.row1 hC hO (by rw [hl]; omega)
  rw [hl] at he h1
  refine ⟨v, c, cur, by rw [he], h1, h3 0 cm (by simp [kidsOf, infoKs]), h3 1 sm (by simp [kidsOf, infoKs]), h2, fun j r hr => h3 (j + 2) r.rb (by simp [kidsOf, infoKs, hr])⟩

set_option maxHeartbeats 3200000 in
theorem readSig_bad3 (F : Interp) (sig si sv ki obj cm sm : Nat) (a b : ByteArray) (cmK kiK : List Nat) (rs : List RefD) (w : World) (hF : F.answers w.tape) (h : ElAt w sig (sigNd NS) [si, sv, ki, obj]) (hA : AllAt w (sigKs si sv ki obj (kidsOf (infoKs cm sm a b cmK rs)) kiK)) (hS : AllAt w (infoKs cm sm a b cmK rs)) (hk : rs.length ≤ 2048) (hne : rs ≠ []) (hcmK : cmK.length ≤ 4096) (hq1 : algB (cmNd a) cmK cC14 = false) :
    Calls Ybaf.prog 7 #[.pointer (some ⟨sig, 0, none⟩)] w fun e w' => ∃ p, e = .returned (.tuple #[.pointer none, .iface 72 (.pointer (some ⟨p, 0, none⟩))]) ∧ Chg [] w w' := by
  have HF : Hid (F.answers w.tape) := hF
  have HE : Hid (ElAt w sig (sigNd NS) [si, sv, ki, obj]) := h
  have HA : Hid (AllAt w (sigKs si sv ki obj (kidsOf (infoKs cm sm a b cmK rs)) kiK)) := hA
  have HS : Hid (AllAt w (infoKs cm sm a b cmK rs)) := hS
  have HC0 : Hid (Chg [] w ((w.alloc Z39).alloc Z9s)) := ((Chg.refl _ w).alloc _).alloc _
  have HV0 : Hid (((w.alloc Z39).alloc Z9s).heap[w.heap.size]? = some Z39) := ((Chg.refl [] _).alloc _).obj (heap_alloc_new _ _) (by simp)
  clear h hA hF hS
  go_enter Ybaf.func7, Ybaf.ntmps7
  go_wp2_with (go_at_call 11; refine (expect_sig F sig si sv ki obj _ kiK w HF.out HE.out HA.out).mono ?_; rintro e w2 ⟨g, c, cur, rfl, hc4, hg, hgs, g0, g1, g2, hC2⟩; have HV2 : Hid (w2.heap[w.heap.size]? = some Z39) := hC2.obj HV0.out (by simp); have HC2 : Hid (Chg [] w w2) := HC0.out.trans hC2; clear hC2)
  obtain ⟨⟨s0, s1, s2, s3, s4, s5⟩, f0, f1, f2, f3, f4, f5⟩ := SigAt.cells HV2.out
  go_region
  have hS3 := sig_two (.pointer (some ⟨si, 0, none⟩)) (.pointer (some ⟨sv, 0, none⟩)) HV2.out HC2.out (Nat.le_refl _) hg
  generalize ((w2.setCell ⟨w.heap.size, 0, none⟩ (.pointer (some ⟨si, 0, none⟩))).setCell ⟨w.heap.size, 2, none⟩ (.pointer (some ⟨sv, 0, none⟩))).drew = w3 at hS3 ⊢
  have HS3 : Hid (SigAt w w3 w.heap.size (.pointer (some ⟨si, 0, none⟩)) (.pointer (some ⟨sv, 0, none⟩)) 0 [] [] (.pointer none) (.pointer none) [(g, cur)]) := hS3
  have HCK : Hid (cur[2]? = some (.pointer (some ⟨ki, 0, none⟩))) := cur_of hg g2
  clear s0 s1 s2 s3 s4 s5 f0 f1 f2 f3 f4 f5 g0 g1 g2 hg HV2
  obtain ⟨vr, vc, q1, -⟩ := hS3
  obtain ⟨⟨s0, s1, s2, s3, s4, s5⟩, f0, f1, f2, f3, f4, f5⟩ := SigAt.cells q1
  clear q1
  go_wp2_with (go_at_call 11; refine (info_ok F w w3 w.heap.size si cm sm a b cmK rs _ _ _ _ _ _ _ _ HF.out HS3.out (HA.out (si, siNd, kidsOf (infoKs cm sm a b cmK rs)) (.head _)) HS.out hk hne).mono ?_; rintro e w4 ⟨gi, ci, cui, rfl, hci, hi0, hi1, hS4, hCU⟩; have HS4 : Hid (SigAt w w4 w.heap.size (.pointer (some ⟨si, 0, none⟩)) (.pointer (some ⟨sv, 0, none⟩)) 0 [] [] (.pointer none) (.pointer none) [(gi, cui), (g, cur)]) := hS4; have HCU : Hid (∀ (j : Nat) (r : RefD), rs[j]? = some r → cui[j + 2]? = some (.pointer (some ⟨r.rb, 0, none⟩))) := hCU; clear hS4 hCU; have hn2 : (2 : Int) ≤ ((rs.length + 2 : Nat) : Int) := (by omega); have hn2' : 2 ≤ rs.length + 2 := (by omega); have hi00 : w4.cell? ⟨gi, 0, none⟩ = _ := HS4.out.keptR (by simp) hi0; have hlt0 : (0 : Int) < ((rs.length + 2 : Nat) : Int) := (by omega); have hlt1 : (1 : Int) < ((rs.length + 2 : Nat) : Int) := (by omega); have hlt0' : (0 : Int) < ((rs.length : Int) + 2) := (by omega); have hlt1' : (1 : Int) < ((rs.length : Int) + 2) := (by omega))
  have AL1 := algorithm_el F cC14 cm (cmNd a) cmK w4 (by have := HF.out; rw [← HS4.out.chg.tape] at this; exact this) (HS.out.keptC HS4.out.chg (cm, cmNd a, cmK) (by simp [infoKs])) hcmK
  rw [hq1] at AL1
  go_wp2_with fail
  refine AL1.mono ?_
  clear AL1
  rintro e w5 ⟨ev, rfl, hev, hC5⟩
  obtain ⟨p, rfl⟩ := errV_bad hev
  go_wp2
  go_ret2
  exact ⟨p, rfl, HS4.out.chg.trans hC5⟩

set_option maxHeartbeats 3200000 in
theorem readSig_bad4 (F : Interp) (sig si sv ki obj cm sm : Nat) (a b : ByteArray) (cmK kiK : List Nat) (rs : List RefD) (w : World) (hF : F.answers w.tape) (h : ElAt w sig (sigNd NS) [si, sv, ki, obj]) (hA : AllAt w (sigKs si sv ki obj (kidsOf (infoKs cm sm a b cmK rs)) kiK)) (hS : AllAt w (infoKs cm sm a b cmK rs)) (hk : rs.length ≤ 2048) (hne : rs ≠ []) (hcmK : cmK.length ≤ 4096) (hq1 : algB (cmNd a) cmK cC14 = true) (hq2 : algB (smNd b) [] cRSA = false) :
    Calls Ybaf.prog 7 #[.pointer (some ⟨sig, 0, none⟩)] w fun e w' => ∃ p, e = .returned (.tuple #[.pointer none, .iface 72 (.pointer (some ⟨p, 0, none⟩))]) ∧ Chg [] w w' := by
  have HF : Hid (F.answers w.tape) := hF
  have HE : Hid (ElAt w sig (sigNd NS) [si, sv, ki, obj]) := h
  have HA : Hid (AllAt w (sigKs si sv ki obj (kidsOf (infoKs cm sm a b cmK rs)) kiK)) := hA
  have HS : Hid (AllAt w (infoKs cm sm a b cmK rs)) := hS
  have HC0 : Hid (Chg [] w ((w.alloc Z39).alloc Z9s)) := ((Chg.refl _ w).alloc _).alloc _
  have HV0 : Hid (((w.alloc Z39).alloc Z9s).heap[w.heap.size]? = some Z39) := ((Chg.refl [] _).alloc _).obj (heap_alloc_new _ _) (by simp)
  clear h hA hF hS
  go_enter Ybaf.func7, Ybaf.ntmps7
  go_wp2_with (go_at_call 11; refine (expect_sig F sig si sv ki obj _ kiK w HF.out HE.out HA.out).mono ?_; rintro e w2 ⟨g, c, cur, rfl, hc4, hg, hgs, g0, g1, g2, hC2⟩; have HV2 : Hid (w2.heap[w.heap.size]? = some Z39) := hC2.obj HV0.out (by simp); have HC2 : Hid (Chg [] w w2) := HC0.out.trans hC2; clear hC2)
  obtain ⟨⟨s0, s1, s2, s3, s4, s5⟩, f0, f1, f2, f3, f4, f5⟩ := SigAt.cells HV2.out
  go_region
  have hS3 := sig_two (.pointer (some ⟨si, 0, none⟩)) (.pointer (some ⟨sv, 0, none⟩)) HV2.out HC2.out (Nat.le_refl _) hg
  generalize ((w2.setCell ⟨w.heap.size, 0, none⟩ (.pointer (some ⟨si, 0, none⟩))).setCell ⟨w.heap.size, 2, none⟩ (.pointer (some ⟨sv, 0, none⟩))).drew = w3 at hS3 ⊢
  have HS3 : Hid (SigAt w w3 w.heap.size (.pointer (some ⟨si, 0, none⟩)) (.pointer (some ⟨sv, 0, none⟩)) 0 [] [] (.pointer none) (.pointer none) [(g, cur)]) := hS3
  have HCK : Hid (cur[2]? = some (.pointer (some ⟨ki, 0, none⟩))) := cur_of hg g2
  clear s0 s1 s2 s3 s4 s5 f0 f1 f2 f3 f4 f5 g0 g1 g2 hg HV2
  obtain ⟨vr, vc, q1, -⟩ := hS3
  obtain ⟨⟨s0, s1, s2, s3, s4, s5⟩, f0, f1, f2, f3, f4, f5⟩ := SigAt.cells q1
  clear q1
  go_wp2_with (go_at_call 11; refine (info_ok F w w3 w.heap.size si cm sm a b cmK rs _ _ _ _ _ _ _ _ HF.out HS3.out (HA.out (si, siNd, kidsOf (infoKs cm sm a b cmK rs)) (.head _)) HS.out hk hne).mono ?_; rintro e w4 ⟨gi, ci, cui, rfl, hci, hi0, hi1, hS4, hCU⟩; have HS4 : Hid (SigAt w w4 w.heap.size (.pointer (some ⟨si, 0, none⟩)) (.pointer (some ⟨sv, 0, none⟩)) 0 [] [] (.pointer none) (.pointer none) [(gi, cui), (g, cur)]) := hS4; have HCU : Hid (∀ (j : Nat) (r : RefD), rs[j]? = some r → cui[j + 2]? = some (.pointer (some ⟨r.rb, 0, none⟩))) := hCU; clear hS4 hCU; have hn2 : (2 : Int) ≤ ((rs.length + 2 : Nat) : Int) := (by omega); have hn2' : 2 ≤ rs.length + 2 := (by omega); have hi00 : w4.cell? ⟨gi, 0, none⟩ = _ := HS4.out.keptR (by simp) hi0; have hlt0 : (0 : Int) < ((rs.length + 2 : Nat) : Int) := (by omega); have hlt1 : (1 : Int) < ((rs.length + 2 : Nat) : Int) := (by omega); have hlt0' : (0 : Int) < ((rs.length : Int) + 2) := (by omega); have hlt1' : (1 : Int) < ((rs.length : Int) + 2) := (by omega))
  have AL1 := algorithm_el F cC14 cm (cmNd a) cmK w4 (by have := HF.out; rw [← HS4.out.chg.tape] at this; exact this) (HS.out.keptC HS4.out.chg (cm, cmNd a, cmK) (by simp [infoKs])) hcmK
  rw [hq1] at AL1
  go_wp2_with fail
  refine AL1.mono ?_
  clear AL1
  rintro e w5 ⟨ev, rfl, hev, hC5⟩
  obtain rfl : ev = .nilIface := hev
  have HS5 : Hid (SigAt w w5 w.heap.size (.pointer (some ⟨si, 0, none⟩)) (.pointer (some ⟨sv, 0, none⟩)) 0 [] [] (.pointer none) (.pointer none) [(gi, cui), (g, cur)]) := HS4.out.keptC hC5
  have hi11 : w5.cell? ⟨gi, 1, none⟩ = _ := HS5.out.keptR (by simp) hi1
  clear hC5 hi00
  have AL2 := algorithm_el F cRSA sm (smNd b) [] w5 (by have := HF.out; rw [← HS5.out.chg.tape] at this; exact this) (HS.out.keptC HS5.out.chg (sm, smNd b, []) (by simp [infoKs])) (by simp)
  rw [hq2] at AL2
  go_wp2_with fail
  refine AL2.mono ?_
  clear AL2
  rintro e w6 ⟨ev, rfl, hev, hC6⟩
  obtain ⟨p, rfl⟩ := errV_bad hev
  go_wp2
  go_ret2
  exact ⟨p, rfl, HS5.out.chg.trans hC6⟩

end Go.Proofs.YbulkcvhiFmt
