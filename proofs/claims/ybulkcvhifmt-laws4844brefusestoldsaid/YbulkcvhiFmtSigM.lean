/-
  Seat b4844aF: readSignature, the references and the KeyInfo.
-/
import Derived.Test.YbulkcvhiFmtSigK
import Derived.Test.YbulkcvhiFmtSigC
namespace Go.Proofs.YbulkcvhiFmt
open Go.RowKit Go.Extern.Stop Go.Stop Go.Extern
set_option linter.unusedVariables false

theorem cell3_new (w : World) (x y z : Value) (t : TypeId) : ∀ j u, [x, y, z][j]? = some u → (w.alloc (.cells #[x, y, z] t)).cell? ((⟨w.heap.size, 0, none⟩ : Addr).add j) = some u := by
  intro j u hj
  match j, hj with
  | 0, hj => simp at hj; subst hj; simp [Addr.add]
  | 1, hj => simp at hj; subst hj; simp [Addr.add]
  | 2, hj => simp at hj; subst hj; simp [Addr.add]
theorem own_len3 {w : World} {S e n z : Nat} {v : Value} {xs : List Value} (h : w.ownsRow S e z v n xs) : ∃ a c, v = .slice a n c := by
  rcases h.2 with ⟨rfl, hn⟩ | ⟨g, cap, cur, rfl, _⟩
  · exact ⟨none, 0, by rw [hn]⟩
  · exact ⟨_, _, rfl⟩

theorem slice_two (g n c : Nat) (hc : n + 2 ≤ c) (hn : 0 < n) (wx : World) : (Instr.slice 26 (.slice (some ⟨g, 0, none⟩) (n + 2) c) (some (.int .i64 2)) none none).run Ybaf.prog wx = .ok (.slice (some ⟨g, 2, none⟩) n (c - 2)) wx := by
  have hs : (sizeOf (Ybaf.prog.elem 26)).run Ybaf.prog wx = .ok 1 wx := by kernel_rfl
  have hu : Ybaf.prog.underlying 26 = some (.slice (Ybaf.prog.elem 26)) := by kernel_rfl
  rw [run_slice_l wx 26 (some ⟨g, 0, none⟩) (n + 2) c hu .i64 2 (by omega) (by omega), hs]
  simp [Result.andThen, sliced, Addr.add]
  omega

theorem SigAt.rowOne {ws w w' : World} {sb n y : Nat} {si sv m x : Value} {rs : List Value} {cs : List Nat} {X : List (Nat × Array Value)} {v : Value} (h : SigAt ws w sb si sv n rs cs m x X) (hc : Chg [] w w') (ho : w'.ownsRow w.heap.size 24 1 v ([y] : List Nat).length (ptrs [y])) :
    ∃ g c cur, v = .slice (some ⟨g, 0, none⟩) 1 c ∧ SigAt ws w' sb si sv n rs cs m x ((g, cur) :: X) ∧ cur[0]? = some (Value.pointer (some ⟨y, 0, none⟩)) := by
  obtain ⟨g, c, cur, h1, h2, h3, h4, _⟩ := h.row1 hc ho (by simp)
  exact ⟨g, c, cur, h1, h3, h4 0 y rfl⟩
theorem SigAt.rowTwo {ws w w' : World} {sb n y z : Nat} {si sv m x : Value} {rs : List Value} {cs : List Nat} {X : List (Nat × Array Value)} {v : Value} (h : SigAt ws w sb si sv n rs cs m x X) (hc : Chg [] w w') (ho : w'.ownsRow w.heap.size 24 1 v ([y, z] : List Nat).length (ptrs [y, z])) :
    ∃ g c cur, v = .slice (some ⟨g, 0, none⟩) 2 c ∧ SigAt ws w' sb si sv n rs cs m x ((g, cur) :: X) ∧ cur[0]? = some (Value.pointer (some ⟨y, 0, none⟩)) ∧ cur[1]? = some (Value.pointer (some ⟨z, 0, none⟩)) := by
  obtain ⟨g, c, cur, h1, h2, h3, h4, _⟩ := h.row1 hc ho (by simp)
  exact ⟨g, c, cur, h1, h3, h4 0 y rfl, h4 1 z rfl⟩

/-- What readSignature hands back: nil and an error, or the parts. -/
def SigOut (w w' : World) (ok : Bool) (si sv obj : Nat) (rs : List RefD) (kis : List KiD) (v1 v2 : Value) : Prop :=
  match ok with
  | false => v1 = .pointer none ∧ ∃ p, v2 = .iface 72 (.pointer (some ⟨p, 0, none⟩))
  | true => v2 = .nilIface ∧ ∃ sb, v1 = .pointer (some ⟨sb, 0, none⟩) ∧ SigAt w w' sb (.pointer (some ⟨si, 0, none⟩)) (.pointer (some ⟨sv, 0, none⟩)) rs.length (refVs obj rs) (kiCerts kis) (kiMo kis) (kiEx kis) []

set_option maxRecDepth 8000 in
set_option maxHeartbeats 3200000 in
theorem readSig_main (F : Interp) (sig si sv ki obj cm sm : Nat) (a b : ByteArray) (cmK kiK : List Nat) (rs : List RefD) (w : World) (hF : F.answers w.tape) (h : ElAt w sig (sigNd NS) [si, sv, ki, obj]) (hA : AllAt w (sigKs si sv ki obj (kidsOf (infoKs cm sm a b cmK rs)) kiK)) (hS : AllAt w (infoKs cm sm a b cmK rs)) (hk : rs.length ≤ 2048) (hne : rs ≠ []) (hcmK : cmK.length ≤ 4096) (kis : List KiD) (n : Nat) (hq1 : algB (cmNd a) cmK cC14 = true) (hq2 : algB (smNd b) [] cRSA = true) (hkiK : kiK = kis.map KiD.b) (hkl : kis.length ≤ 1024) (hcl : ∀ k, (kiCerts (kis.take k)).length ≤ 2048)
    (hR : ∀ r, r ∈ rs → RefAt w r) (hK : ∀ k, k ∈ kis → KiAt w k) (hp : w.cell? ⟨sig, 4, none⟩ = some (.pointer none)) (hH : Hits w sObj n sig [obj]) :
    Calls Ybaf.prog 7 #[.pointer (some ⟨sig, 0, none⟩)] w fun e w' => ∃ v1 v2, e = .returned (.tuple #[v1, v2]) ∧ SigOut w w' (rs.all RefD.ok && !(kiCerts kis).isEmpty) si sv obj rs kis v1 v2 ∧ Chg [] w w' := by
  have HR : Hid (∀ r, r ∈ rs → RefAt w r) := hR
  have HK : Hid (∀ k, k ∈ kis → KiAt w k) := hK
  have HP : Hid (w.cell? ⟨sig, 4, none⟩ = some (.pointer none)) := hp
  have HH : Hid (Hits w sObj n sig [obj]) := hH
  have HKK : Hid (kiK = kis.map KiD.b) := hkiK
  have HCL : Hid (∀ k, (kiCerts (kis.take k)).length ≤ 2048) := hcl
  clear hR hK hp hH hkiK hcl
  obtain ⟨i24, hi24, hz240, hz241, hz242⟩ := info_parts info24
  obtain ⟨i41, hi41, hz410, hz411, hz412⟩ := info_parts info41
  have HF : Hid (F.answers w.tape) := hF
  have HE : Hid (ElAt w sig (sigNd NS) [si, sv, ki, obj]) := h
  have HA : Hid (AllAt w (sigKs si sv ki obj (kidsOf (infoKs cm sm a b cmK rs)) kiK)) := hA
  have HS : Hid (AllAt w (infoKs cm sm a b cmK rs)) := hS
  have HC0 : Hid (Chg [] w ((w.alloc Z39).alloc Z9s)) := ((Chg.refl _ w).alloc _).alloc _
  have HV0 : Hid (((w.alloc Z39).alloc Z9s).heap[w.heap.size]? = some Z39) := ((Chg.refl [] _).alloc _).obj (heap_alloc_new _ _) (by simp)
  clear h hA hF hS
  go_enter Ybaf.func7, Ybaf.ntmps7
  go_wp2_with (go_at_call 11; refine (expect_sig F sig si sv ki obj _ kiK w HF.out HE.out HA.out).mono ?_; rintro e w2 ⟨g, c, cur, rfl, hc4, hg, hgs, g0, g1, g2, hC2⟩; have HV2 : Hid (w2.heap[w.heap.size]? = some Z39) := hC2.obj HV0.out (by simp); have HC2 : Hid (Chg [] w w2) := HC0.out.trans hC2; clear hC2)
  obtain ⟨⟨s0, s1, s2, s3, s4, s5⟩, f0, f1, f2, f3, f4, f5⟩ := SigAt.cells HV2.out
  go_region
  have hS3 := sig_two (.pointer (some ⟨si, 0, none⟩)) (.pointer (some ⟨sv, 0, none⟩)) HV2.out HC2.out (Nat.le_refl _) hg
  generalize ((w2.setCell ⟨w.heap.size, 0, none⟩ (.pointer (some ⟨si, 0, none⟩))).setCell ⟨w.heap.size, 2, none⟩ (.pointer (some ⟨sv, 0, none⟩))).drew = w3 at hS3 ⊢
  have HS3 : Hid (SigAt w w3 w.heap.size (.pointer (some ⟨si, 0, none⟩)) (.pointer (some ⟨sv, 0, none⟩)) 0 [] [] (.pointer none) (.pointer none) [(g, cur)]) := hS3
  have HCK : Hid (cur[2]? = some (.pointer (some ⟨ki, 0, none⟩))) := cur_of hg g2
  clear s0 s1 s2 s3 s4 s5 f0 f1 f2 f3 f4 f5 g0 g1 g2 hg HV2
  obtain ⟨vr, vc, q1, -⟩ := hS3
  obtain ⟨⟨s0, s1, s2, s3, s4, s5⟩, f0, f1, f2, f3, f4, f5⟩ := SigAt.cells q1
  clear q1
  go_wp2_with (go_at_call 11; refine (info_ok F w w3 w.heap.size si cm sm a b cmK rs _ _ _ _ _ _ _ _ HF.out HS3.out (HA.out (si, siNd, kidsOf (infoKs cm sm a b cmK rs)) (.head _)) HS.out hk hne).mono ?_; rintro e w4 ⟨gi, ci, cui, rfl, hci, hi0, hi1, hS4, hCU⟩; have HS4 : Hid (SigAt w w4 w.heap.size (.pointer (some ⟨si, 0, none⟩)) (.pointer (some ⟨sv, 0, none⟩)) 0 [] [] (.pointer none) (.pointer none) [(gi, cui), (g, cur)]) := hS4; have HCU : Hid (∀ (j : Nat) (r : RefD), rs[j]? = some r → cui[j + 2]? = some (.pointer (some ⟨r.rb, 0, none⟩))) := hCU; clear hS4 hCU; have hn2 : (2 : Int) ≤ ((rs.length + 2 : Nat) : Int) := (by omega); have hn2' : 2 ≤ rs.length + 2 := (by omega); have hi00 : w4.cell? ⟨gi, 0, none⟩ = _ := HS4.out.keptR (by simp) hi0; have hlt0 : (0 : Int) < ((rs.length + 2 : Nat) : Int) := (by omega); have hlt1 : (1 : Int) < ((rs.length + 2 : Nat) : Int) := (by omega); have hlt0' : (0 : Int) < ((rs.length : Int) + 2) := (by omega); have hlt1' : (1 : Int) < ((rs.length : Int) + 2) := (by omega))
  have AL1 := algorithm_el F cC14 cm (cmNd a) cmK w4 (by have := HF.out; rw [← HS4.out.chg.tape] at this; exact this) (HS.out.keptC HS4.out.chg (cm, cmNd a, cmK) (by simp [infoKs])) hcmK
  rw [hq1] at AL1
  go_wp2_with fail
  refine AL1.mono ?_
  clear AL1
  rintro e w5 ⟨ev, rfl, hev, hC5⟩
  obtain rfl : ev = .nilIface := hev
  have HS5 : Hid (SigAt w w5 w.heap.size (.pointer (some ⟨si, 0, none⟩)) (.pointer (some ⟨sv, 0, none⟩)) 0 [] [] (.pointer none) (.pointer none) [(gi, cui), (g, cur)]) := HS4.out.keptC hC5
  have hi11 : w5.cell? ⟨gi, 1, none⟩ = _ := HS5.out.keptR (by simp) hi1
  clear hC5 hi00
  have AL2 := algorithm_el F cRSA sm (smNd b) [] w5 (by have := HF.out; rw [← HS5.out.chg.tape] at this; exact this) (HS.out.keptC HS5.out.chg (sm, smNd b, []) (by simp [infoKs])) (by simp)
  rw [hq2] at AL2
  go_wp2_with fail
  refine AL2.mono ?_
  clear AL2
  rintro e w6 ⟨ev, rfl, hev, hC6⟩
  obtain rfl : ev = .nilIface := hev
  have HS6 : Hid (SigAt w w6 w.heap.size (.pointer (some ⟨si, 0, none⟩)) (.pointer (some ⟨sv, 0, none⟩)) 0 [] [] (.pointer none) (.pointer none) [(gi, cui), (g, cur)]) := HS5.out.keptC hC6
  clear hC6 hi11 s0 s1 s2 s3 s4 s5 f0 f1 f2 f3 f4 f5 hn2 hn2' hlt0 hlt1 hlt0' hlt1'
  have hsl := slice_two gi rs.length ci hci (by cases rs with | nil => exact (hne rfl).elim | cons r rs => simp)
  clear hci
  go_wp2_with fail
  go_loopw [66] (fun i wr => ∃ (k : Nat), k ≤ rs.length ∧ i = .int .i64 k ∧ (SigAt w wr w.heap.size (.pointer (some ⟨si, 0, none⟩)) (.pointer (some ⟨sv, 0, none⟩)) k (refVs obj (rs.take k)) [] (.pointer none) (.pointer none) [(gi, cui), (g, cur)]) ∧ ∀ j r, j < k → rs[j]? = some r → r.ok = true) (fun i _ => rs.length - (intOf i).toNat)
  case atStart => exact ⟨0, Nat.zero_le _, rfl, HS6.out, fun j r hj => by omega⟩
  case round =>
    obtain ⟨k, hkk, rfl, hSk, hall⟩ := hrel
    have HALL : Hid (∀ j r, j < k → rs[j]? = some r → r.ok = true) := hall
    have HSK : Hid (SigAt w wr w.heap.size (.pointer (some ⟨si, 0, none⟩)) (.pointer (some ⟨sv, 0, none⟩)) k (refVs obj (rs.take k)) [] (.pointer none) (.pointer none) [(gi, cui), (g, cur)]) := hSk
    clear hall hSk
    by_cases hlt : k < rs.length
    · have hki : (k : Int) < (rs.length : Int) := by omega
      have hgk : wr.cell? ⟨gi, k + 2, none⟩ = some (.pointer (some ⟨(rs[k]).rb, 0, none⟩)) := HSK.out.keptR (.head _) (HCU.out k rs[k] (by simp [hlt]))
      have hgk' : wr.cell? ⟨gi, 2 + k, none⟩ = some (.pointer (some ⟨(rs[k]).rb, 0, none⟩)) := by rw [Nat.add_comm]; exact hgk
      have HRK : Hid (RefAt wr rs[k]) := (HR.out rs[k] (List.getElem_mem hlt)).keptC HSK.out.chg
      have HPK : Hid (wr.cell? ⟨sig, 4, none⟩ = some (.pointer none)) := HSK.out.chg.cell HP.out (by simp)
      have HHK : Hid (Hits wr sObj n sig [obj]) := HH.out.keptC HSK.out.chg
      have HFK : Hid (F.answers wr.tape) := by have := HF.out; rw [← HSK.out.chg.tape] at this; exact this
      cases hok : (rs[k]).ok
      · have HBAD : Hid ((rs.all RefD.ok && !(kiCerts kis).isEmpty) = false) := by
          have : rs.all RefD.ok = false := List.all_eq_false.2 ⟨rs[k], List.getElem_mem hlt, by rw [hok]; simp⟩
          show _ = _
          rw [this, Bool.false_and]
        go_wp2_with (go_at_call 13; refine (readRef_bad F rs[k] sig obj n wr HFK.out HRK.out HPK.out HHK.out hok).mono ?_; rintro e w7 ⟨p, rfl, hC7⟩)
        go_ret2
        exact ⟨_, _, rfl, by rw [HBAD.out]; exact ⟨rfl, p, rfl⟩, HSK.out.chg.trans (hC7.trans ((Chg.refl _ _).alloc _))⟩
      · have HST : Hid (refVs obj (rs.take k) ++ [.string (rs[k]).uri, .pointer ((rs[k]).tp obj), .pointer (some ⟨(rs[k]).dv, 0, none⟩)] = refVs obj (rs.take (k + 1))) := (refVs_step hlt).symm
        have RR : Hid (Calls Ybaf.prog 13 #[.pointer (some ⟨sig, 0, none⟩), .pointer (some ⟨(rs[k]).rb, 0, none⟩)] wr fun e w' => e = .returned (.tuple #[.agg #[.string (rs[k]).uri, .pointer ((rs[k]).tp obj), .pointer (some ⟨(rs[k]).dv, 0, none⟩)], .nilIface]) ∧ Chg [] wr w') := readRef_ok F rs[k] sig obj n wr HFK.out HRK.out HPK.out HHK.out hok
        have HOK : Hid ((rs[k]).ok = true) := hok
        have HKR : Hid (rs[k]? = some rs[k]) := by simp [Hid, hlt]
        clear hok
        generalize rs[k] = r at *
        generalize r.uri = uu at *
        generalize r.tp obj = tp at *
        generalize r.dv = vd at *
        go_upto_region 19 with (first
          | (go_at_call 13; refine RR.out.mono ?_; rintro e w7 ⟨rfl, hC7⟩; have HS7 : Hid (SigAt w w7 w.heap.size (.pointer (some ⟨si, 0, none⟩)) (.pointer (some ⟨sv, 0, none⟩)) k (refVs obj (rs.take k)) [] (.pointer none) (.pointer none) [(gi, cui), (g, cur)]) := HSK.out.keptC hC7; clear hC7))
        have hS8 := HS7.out.keptC ((Chg.refl _ _).alloc (.cells #[.string uu, .pointer tp, .pointer (some ⟨vd, 0, none⟩)] 41))
        have hV8 : (w7.alloc (.cells #[.string uu, .pointer tp, .pointer (some ⟨vd, 0, none⟩)] 41)).heap[w7.heap.size]? = some (.cells #[.string uu, .pointer tp, .pointer (some ⟨vd, 0, none⟩)] 41 (0, 0)) := heap_alloc_new _ _
        generalize w7.alloc (.cells #[.string uu, .pointer tp, .pointer (some ⟨vd, 0, none⟩)] 41) = w8 at hS8 hV8 ⊢
        obtain ⟨v0, v1, v2, _⟩ := Var3.cells hV8
        obtain ⟨vr, vc, h1, h2, h3, h4, h5, h6⟩ := hS8
        obtain ⟨⟨s0, s1, s2, s3, s4, s5⟩, f0, f1, f2, f3, f4, f5⟩ := SigAt.cells h1
        obtain ⟨ra, rc, rfl⟩ := own_len3 h2
        have H1 : Hid (w8.heap[w.heap.size]? = _) := h1
        have H2 : Hid (w8.ownsRow w.heap.size 41 3 _ k _) := h2
        have H3 : Hid (w8.ownsRow w.heap.size 24 1 vc _ _) := h3
        have H4 : Hid (Chg [] w w8) := h4
        have H6 : Hid (∀ k c, (k, c) ∈ [(gi, cui), (g, cur)] → w8.heap[k]? = some (.cells c 24 (0, 0)) ∧ vc.ownBlock ≠ some k) := h6
        clear h1 h2 h3 h6 hV8 HS7
        have hszw := h4.size
        clear h4
        generalize w7.heap.size = nb at *
        go_wp2_with (at_builtin; refine wpList_append_own_at _ rfl _ _ 37 rfl w.heap.size 41 i41 (.agg #[.string ⟨#[]⟩, .pointer none, .pointer none]) 3 32 Ybaf.underlying37 hi41 hz410 hz411 hz412 rfl (by decide) (.slice ra k rc) k (refVs obj (rs.take k)) rfl (H2.out.alloc _) ⟨w8.heap.size, 0, none⟩ 1 1 [.string uu, .pointer tp, .pointer (some ⟨vd, 0, none⟩)] rfl rfl ?hn ?h1 (by unfold maxLen; omega) (by omega) (by simp; omega) ?_)
        case hn => exact cell3_new _ _ _ _ _
        case h1 => intro u hu; simp at hu; rcases hu with rfl | rfl | rfl <;> rfl
        intro v' w9 hown hgrow hnil hat
        obtain ⟨a', c', rfl⟩ := own_len3 hown
        have hc9 : Chg (Value.ownBlock (.slice ra k rc)).toList w8 w9 := ((Chg.refl _ w8).alloc _).trans (Chg.ofGrown hgrow (fun k hk => .inl (by simp [hk])))
        obtain ⟨hb9, hS9⟩ := SigAt.pushRef H1.out H2.out H3.out H4.out h5 H6.out hown hc9
        rw [HST.out] at hS9
        obtain ⟨⟨t0, t1, t2, t3, t4, t5⟩, ft0, ft1, ft2, ft3, ft4, ft5⟩ := SigAt.cells hb9
        have HS9 : Hid (SigAt w (w9.setCell ⟨w.heap.size, 1, none⟩ (.slice a' (k + 1) c')) w.heap.size (.pointer (some ⟨si, 0, none⟩)) (.pointer (some ⟨sv, 0, none⟩)) (k + 1) (refVs obj (rs.take (k + 1))) [] (.pointer none) (.pointer none) [(gi, cui), (g, cur)]) := hS9
        clear hown hgrow hnil hat hc9 hb9 hS9 s0 s1 s2 s3 s4 s5 f0 f1 f2 f3 f4 f5 v0 v1 v2
        go_wp2
        go_roundw
        case rel => exact ⟨k + 1, by omega, by go_num, HS9.out, fun j r' hj hr' => by by_cases hjk : j = k; (subst hjk; rw [HKR.out] at hr'; cases hr'; exact HOK.out); exact HALL.out j r' (by omega) hr'⟩
        case measure => simp [intOf]; omega
    · obtain rfl : k = rs.length := by omega
      have HAOK : Hid (rs.all RefD.ok = true) := by
        show rs.all RefD.ok = true
        rw [List.all_eq_true]
        intro r hr
        obtain ⟨j, hj, rfl⟩ := List.mem_iff_getElem.1 hr
        exact HALL.out j _ hj (by simp [hj])
      have hSK := HSK.out
      rw [List.take_length] at hSK
      have HSL : Hid (SigAt w wr w.heap.size (.pointer (some ⟨si, 0, none⟩)) (.pointer (some ⟨sv, 0, none⟩)) rs.length (refVs obj rs) [] (.pointer none) (.pointer none) [(gi, cui), (g, cur)]) := hSK
      have hg2 : wr.cell? ⟨g, 2, none⟩ = some (.pointer (some ⟨ki, 0, none⟩)) := HSL.out.keptR (X := [(gi, cui), (g, cur)]) (cur := cur) (by simp) HCK.out
      have hkl2 : kiK.length = kis.length := by rw [HKK.out, List.length_map]
      have HKL2 : Hid (kiK.length = kis.length) := hkl2
      have hkb : kiK.length ≤ 1024 := by omega
      clear hkl2 hkl
      clear hSK HSK HALL hsl hkk hlt hne hcmK
      go_wp2_with (go_at_call 14; refine (elements_el ki kiNd kiK wr (HA.out.keptC HSL.out.chg (ki, kiNd, kiK) (by simp [sigKs])) (by omega)).mono ?_; rintro e w7 ⟨v, rfl, hO7, hC7⟩; obtain ⟨a7, c7, Y, gk, cuk, rfl, hc7, hS7, hcu7, hpos7⟩ := HSL.out.rowE hC7 hO7; have HS7 : Hid (SigAt w w7 w.heap.size (.pointer (some ⟨si, 0, none⟩)) (.pointer (some ⟨sv, 0, none⟩)) rs.length (refVs obj rs) [] (.pointer none) (.pointer none) (Y ++ [(gi, cui), (g, cur)])) := hS7; have HCU7 : Hid (∀ (j k : Nat), kiK[j]? = some k → cuk[j]? = some (Value.pointer (some ⟨k, 0, none⟩))) := hcu7; have HPOS7 : Hid (0 < kiK.length → a7 = some ⟨gk, 0, none⟩ ∧ (gk, cuk) ∈ Y ++ [(gi, cui), (g, cur)]) := hpos7; clear hS7 hcu7 hpos7 hO7 hC7)
      clear hg2
      go_loopw [91] (fun i wr => ∃ (q : Nat), q ≤ kiK.length ∧ i = .int .i64 q ∧ (SigAt w wr w.heap.size (.pointer (some ⟨si, 0, none⟩)) (.pointer (some ⟨sv, 0, none⟩)) rs.length (refVs obj rs) (kiCerts (kis.take q)) (kiMo (kis.take q)) (kiEx (kis.take q)) (Y ++ [(gi, cui), (g, cur)]))) (fun i _ => kiK.length - (intOf i).toNat)
      case atStart => exact ⟨0, Nat.zero_le _, rfl, HS7.out⟩
      case round =>
        obtain ⟨q, hqq, rfl, hSq⟩ := hrel
        have HSQ : Hid (SigAt w wr w.heap.size (.pointer (some ⟨si, 0, none⟩)) (.pointer (some ⟨sv, 0, none⟩)) rs.length (refVs obj rs) (kiCerts (kis.take q)) (kiMo (kis.take q)) (kiEx (kis.take q)) (Y ++ [(gi, cui), (g, cur)])) := hSq
        clear hSq
        by_cases hltk : q < kiK.length
        · have hqi : (q : Int) < (kiK.length : Int) := by omega
          have hlt : q < kis.length := by have := HKL2.out; omega
          obtain ⟨rfl, hm7⟩ := HPOS7.out (by omega)
          have hgq : wr.cell? ⟨gk, q, none⟩ = some (.pointer (some ⟨(kis[q]).b, 0, none⟩)) := HSQ.out.keptR hm7 (HCU7.out q _ (by rw [HKK.out]; simp [hlt]))
          have HKQ : Hid (KiAt wr kis[q]) := (HK.out kis[q] (List.getElem_mem hlt)).keptC HSQ.out.chg
          have HK0 : Hid (KiAt w kis[q]) := HK.out kis[q] (List.getElem_mem hlt)
          have HSC : Hid (kiCerts (kis.take (q + 1)) = kiCerts (kis.take q) ++ (kis[q]).certs) := kiCerts_step hlt
          have HSM : Hid (kiMo (kis.take (q + 1)) = (kis[q]).mo (kiMo (kis.take q))) := kiMo_step hlt
          have HSX : Hid (kiEx (kis.take (q + 1)) = (kis[q]).ex (kiEx (kis.take q))) := kiEx_step hlt
          have HCB : Hid ((kiCerts (kis.take (q + 1))).length ≤ 2048) := HCL.out (q + 1)
          generalize kis[q] = kd at *
          generalize kiCerts (kis.take q) = L0 at *
          generalize kiMo (kis.take q) = m0 at *
          generalize kiEx (kis.take q) = x0 at *
          clear hlt
          cases kd with
          | name b' =>
            have HEB : Hid (ElAt wr b' knNd []) := HKQ.out.root
            have hgq2 : wr.cell? ⟨gk, q, none⟩ = some (.pointer (some ⟨b', 0, none⟩)) := hgq
            clear hgq
            go_wp2_with fail
            refine (is_el sXD b' knNd [] wr HEB.out).mono ?_
            rw [isB_kn_xd]
            rintro e wj ⟨rfl, hwj⟩
            rw [hwj]
            clear hwj wj
            go_wp2_with fail
            refine (is_el sKV b' knNd [] wr HEB.out).mono ?_
            rw [isB_kn_kv]
            rintro e wj ⟨rfl, hwj⟩
            rw [hwj]
            clear hwj wj
            go_wp2
            go_roundw
            case rel => exact ⟨q + 1, by omega, by go_num, by rw [HSC.out, HSM.out, HSX.out]; simpa [KiD.certs, KiD.mo, KiD.ex] using HSQ.out⟩
            case measure => simp [intOf]; omega
          | value b' rsa m x =>
            have HEB : Hid (ElAt wr b' kvNd [rsa]) := HKQ.out.root
            have HER : Hid (ElAt wr rsa rkNd [m, x]) := HKQ.out.sub.1
            have HEM : Hid (ElAt wr m moNd []) := HKQ.out.sub.2.1
            have HEX : Hid (ElAt wr x exNd []) := HKQ.out.sub.2.2
            have hgq2 : wr.cell? ⟨gk, q, none⟩ = some (.pointer (some ⟨b', 0, none⟩)) := hgq
            clear hgq
            go_wp2_with fail
            refine (is_el sXD b' kvNd [rsa] wr HEB.out).mono ?_
            rw [isB_kv_xd]
            rintro e wj ⟨rfl, hwj⟩
            rw [hwj]
            clear hwj wj
            go_wp2_with fail
            refine (is_el sKV b' kvNd [rsa] wr HEB.out).mono ?_
            rw [isB_kv_kv]
            rintro e wj ⟨rfl, hwj⟩
            rw [hwj]
            clear hwj wj
            go_wp2_with (go_at_call 14; refine (elements_el b' kvNd [rsa] wr HEB.out (by simp)).mono ?_; rintro e w8 ⟨v, rfl, hO8, hC8⟩; obtain ⟨g8, c8, cu8, rfl, hS8, hu8⟩ := HSQ.out.rowOne hC8 hO8; have HS8 : Hid (SigAt w w8 w.heap.size (.pointer (some ⟨si, 0, none⟩)) (.pointer (some ⟨sv, 0, none⟩)) rs.length (refVs obj rs) L0 m0 x0 ((g8, cu8) :: (Y ++ [(gi, cui), (g, cur)]))) := hS8; have HC8 : Hid (Chg [] wr w8) := hC8; have h80 := hS8.keptR (.head _) hu8; clear hS8 hO8 hC8)
            refine wp_loop_rounds 2 ?_
            rw [rounds_succ]
            go_wp2_with fail
            refine (is_el sRK rsa rkNd [m, x] w8 (HER.out.keptC HC8.out)).mono ?_
            rw [isB_rk_rk]
            rintro e wj ⟨rfl, hwj⟩
            rw [hwj]
            clear hwj wj
            go_wp2_with (go_at_call 14; refine (elements_el rsa rkNd [m, x] w8 (HER.out.keptC HC8.out) (by simp)).mono ?_; rintro e w9 ⟨v, rfl, hO9, hC9⟩; obtain ⟨g9, c9, cu9, rfl, hS9, hu9, hu9'⟩ := HS8.out.rowTwo hC9 hO9; have HS9 : Hid (SigAt w w9 w.heap.size (.pointer (some ⟨si, 0, none⟩)) (.pointer (some ⟨sv, 0, none⟩)) rs.length (refVs obj rs) L0 m0 x0 ((g9, cu9) :: (g8, cu8) :: (Y ++ [(gi, cui), (g, cur)]))) := hS9; have HC9 : Hid (Chg [] wr w9) := HC8.out.trans hC9; have h90 := hS9.keptR (.head _) hu9; obtain ⟨vr, vc, j1, -⟩ := hS9; obtain ⟨⟨s0, s1, s2, s3, s4, s5⟩, f0, f1, f2, f3, f4, f5⟩ := SigAt.cells j1; clear j1 hO9 hC9)
            refine wp_loop_rounds 3 ?_
            rw [rounds_succ]
            go_wp2_with fail
            refine (is_el sMo m moNd [] w9 (HEM.out.keptC HC9.out)).mono ?_
            rw [isB_mo_mo]
            rintro e wj ⟨rfl, hwj⟩
            rw [hwj]
            clear hwj wj
            go_wp2_with fail
            have hS10 := HS9.out.setMod (.pointer (some ⟨m, 0, none⟩))
            generalize w9.setCell ⟨w.heap.size, 4, none⟩ (.pointer (some ⟨m, 0, none⟩)) = w10 at hS10 ⊢
            have HS10 : Hid (SigAt w w10 w.heap.size (.pointer (some ⟨si, 0, none⟩)) (.pointer (some ⟨sv, 0, none⟩)) rs.length (refVs obj rs) L0 (.pointer (some ⟨m, 0, none⟩)) x0 ((g9, cu9) :: (g8, cu8) :: (Y ++ [(gi, cui), (g, cur)]))) := hS10
            have h101 := hS10.keptR (.head _) hu9'
            obtain ⟨vr2, vc2, j2, -⟩ := hS10
            clear s0 s1 s2 s3 s4 s5 f0 f1 f2 f3 f4 f5 h90
            obtain ⟨⟨s0, s1, s2, s3, s4, s5⟩, f0, f1, f2, f3, f4, f5⟩ := SigAt.cells j2
            clear j2
            have HEX10 : Hid (ElAt w10 x exNd []) := ElAt.keptC (HK0.out.sub.2.2) HS10.out.chg
            rw [rounds_succ]
            go_wp2_with fail
            refine (is_el sMo x exNd [] w10 HEX10.out).mono ?_
            rw [isB_ex_mo]
            rintro e wj ⟨rfl, hwj⟩
            rw [hwj]
            clear hwj wj
            go_wp2_with fail
            refine (is_el sEx x exNd [] w10 HEX10.out).mono ?_
            rw [isB_ex_ex]
            rintro e wj ⟨rfl, hwj⟩
            rw [hwj]
            clear hwj wj
            go_wp2_with fail
            have hS11 := HS10.out.setExp (.pointer (some ⟨x, 0, none⟩))
            generalize w10.setCell ⟨w.heap.size, 5, none⟩ (.pointer (some ⟨x, 0, none⟩)) = w11 at hS11 ⊢
            have HS11 : Hid (SigAt w w11 w.heap.size (.pointer (some ⟨si, 0, none⟩)) (.pointer (some ⟨sv, 0, none⟩)) rs.length (refVs obj rs) L0 (.pointer (some ⟨m, 0, none⟩)) (.pointer (some ⟨x, 0, none⟩)) (Y ++ [(gi, cui), (g, cur)])) := hS11.drop (fun p hp => .tail _ (.tail _ hp))
            clear s0 s1 s2 s3 s4 s5 f0 f1 f2 f3 f4 f5 h101 hS11
            rw [rounds_succ]
            go_wp2_with fail
            rw [rounds_succ]
            go_wp2
            go_roundw
            case rel => exact ⟨q + 1, by omega, by go_num, by rw [HSC.out, HSM.out, HSX.out]; simpa [KiD.certs, KiD.mo, KiD.ex] using HS11.out⟩
            case measure => simp [intOf]; omega
          | data b' ks =>
            have HEB : Hid (ElAt wr b' xdNd (kidsOf ks)) := HKQ.out.root
            have HAK : Hid (AllAt w ks) := HK0.out.sub.1
            have hksl : ks.length ≤ 4096 := HKQ.out.sub.2
            have hgq2 : wr.cell? ⟨gk, q, none⟩ = some (.pointer (some ⟨b', 0, none⟩)) := hgq
            have hkk : (kidsOf ks).length = ks.length := by simp [kidsOf]
            have HKKK : Hid ((kidsOf ks).length = ks.length) := hkk
            have hkb2 : (kidsOf ks).length ≤ 4096 := by omega
            have HLB : Hid ((L0 ++ certsIn ks).length ≤ 2048) := by have := HCB.out; rw [HSC.out] at this; exact this
            clear hgq hkk
            go_wp2_with fail
            refine (is_el sXD b' xdNd (kidsOf ks) wr HEB.out).mono ?_
            rw [isB_xd_xd]
            rintro e wj ⟨rfl, hwj⟩
            rw [hwj]
            clear hwj wj
            go_wp2_with (go_at_call 14; refine (elements_el b' xdNd (kidsOf ks) wr HEB.out hkb2).mono ?_; rintro e w8 ⟨v, rfl, hO8, hC8⟩; obtain ⟨a8, c8, Y8, g8, cu8, rfl, hc8, hS8, hcu8, hpos8⟩ := HSQ.out.rowE hC8 hO8; have HS8 : Hid (SigAt w w8 w.heap.size (.pointer (some ⟨si, 0, none⟩)) (.pointer (some ⟨sv, 0, none⟩)) rs.length (refVs obj rs) L0 m0 x0 (Y8 ++ (Y ++ [(gi, cui), (g, cur)]))) := hS8; have HCU8 : Hid (∀ (j k : Nat), (kidsOf ks)[j]? = some k → cu8[j]? = some (Value.pointer (some ⟨k, 0, none⟩))) := hcu8; have HPOS8 : Hid (0 < (kidsOf ks).length → a8 = some ⟨g8, 0, none⟩ ∧ (g8, cu8) ∈ Y8 ++ (Y ++ [(gi, cui), (g, cur)])) := hpos8; clear hS8 hcu8 hpos8 hO8 hC8)
            go_loopw [101] (fun i wr => ∃ (p : Nat), p ≤ (kidsOf ks).length ∧ i = .int .i64 p ∧ (SigAt w wr w.heap.size (.pointer (some ⟨si, 0, none⟩)) (.pointer (some ⟨sv, 0, none⟩)) rs.length (refVs obj rs) (L0 ++ certsIn (ks.take p)) m0 x0 (Y8 ++ (Y ++ [(gi, cui), (g, cur)])))) (fun i _ => (kidsOf ks).length - (intOf i).toNat)
            case atStart => exact ⟨0, Nat.zero_le _, rfl, by simpa [certsIn] using HS8.out⟩
            case round =>
              obtain ⟨p, hpp, rfl, hSp⟩ := hrel
              have HSP : Hid (SigAt w wr w.heap.size (.pointer (some ⟨si, 0, none⟩)) (.pointer (some ⟨sv, 0, none⟩)) rs.length (refVs obj rs) (L0 ++ certsIn (ks.take p)) m0 x0 (Y8 ++ (Y ++ [(gi, cui), (g, cur)]))) := hSp
              clear hSp
              by_cases hltp : p < (kidsOf ks).length
              · have hpi : (p : Int) < ((kidsOf ks).length : Int) := by omega
                have hp1 : p < ks.length := by have := HKKK.out; omega
                obtain ⟨rfl, hm8⟩ := HPOS8.out (by omega)
                have hgp : wr.cell? ⟨g8, p, none⟩ = some (.pointer (some ⟨(ks[p]).1, 0, none⟩)) := HSP.out.keptR hm8 (HCU8.out p _ (by simp [kidsOf, hp1]))
                have HEP : Hid (ElAt wr (ks[p]).1 (ks[p]).2.1 (ks[p]).2.2) := (HAK.out ks[p] (List.getElem_mem hp1)).keptC HSP.out.chg
                cases hq : isB (ks[p]).2.1 sXC
                · have HST : Hid (certsIn (ks.take (p + 1)) = certsIn (ks.take p)) := certsIn_no hp1 hq
                  generalize ks[p] = kp at *
                  go_wp2_with (go_at_call 15; refine (is_el sXC kp.1 kp.2.1 kp.2.2 wr HEP.out).mono ?_; rw [hq]; rintro e wj ⟨rfl, hwj⟩; rw [hwj]; clear hwj wj)
                  go_roundw
                  case rel => exact ⟨p + 1, by omega, by go_num, by rw [HST.out]; exact HSP.out⟩
                  case measure => simp [intOf]; omega
                · have HST : Hid (L0 ++ certsIn (ks.take (p + 1)) = (L0 ++ certsIn (ks.take p)) ++ [(ks[p]).1]) := by show _ = _; rw [certsIn_yes hp1 hq, List.append_assoc]
                  have hlb : (L0 ++ certsIn (ks.take p)).length ≤ 2048 := by
                    have h := HLB.out
                    have : (certsIn (ks.take p)).length ≤ (certsIn ks).length := by
                      simp only [certsIn, List.length_map]
                      exact ((List.take_sublist p ks).filter _).length_le
                    simp only [List.length_append] at h ⊢
                    omega
                  obtain ⟨L2, hL2⟩ : ∃ L2, L2 = L0 ++ certsIn (ks.take p) := ⟨_, rfl⟩
                  have HST0 : Hid (L2 ++ [(ks[p]).1] = L0 ++ certsIn (ks.take (p + 1))) := by show _ = _; rw [HST.out, hL2]
                  rw [← hL2] at hlb
                  have HSP : Hid (SigAt w wr w.heap.size (.pointer (some ⟨si, 0, none⟩)) (.pointer (some ⟨sv, 0, none⟩)) rs.length (refVs obj rs) L2 m0 x0 (Y8 ++ (Y ++ [(gi, cui), (g, cur)]))) := by rw [hL2]; exact HSP.out
                  clear HST hL2
                  generalize ks[p] = kp at *
                  go_wp2_with (first
                    | (go_at_call 15; refine (is_el sXC kp.1 kp.2.1 kp.2.2 wr HEP.out).mono ?_; rw [hq]; rintro e wj ⟨rfl, hwj⟩; rw [hwj]; clear hwj wj; obtain ⟨vr, vc, h1, h2, h3, h4, h5, h6⟩ := HSP.out; obtain ⟨⟨s0, s1, s2, s3, s4, s5⟩, f0, f1, f2, f3, f4, f5⟩ := SigAt.cells h1; obtain ⟨ra, rc, rfl⟩ := own_len h3; have H1 : Hid (wr.heap[w.heap.size]? = _) := h1; have H2 : Hid (wr.ownsRow w.heap.size 41 3 vr rs.length _) := h2; have H3 : Hid (wr.ownsRow w.heap.size 24 1 (.slice ra L2.length rc) _ _) := h3; have H4 : Hid (Chg [] w wr) := h4; have H6 : Hid (∀ k c, (k, c) ∈ (Y8 ++ (Y ++ [(gi, cui), (g, cur)])) → wr.heap[k]? = some (.cells c 24 (0, 0)) ∧ Value.ownBlock (.slice ra L2.length rc) ≠ some k) := h6; have hszw := h4.size; clear h1 h2 h3 h4 h6)
                    | (at_builtin; refine wpList_append_own_at _ rfl _ _ 26 rfl w.heap.size 24 i24 (.pointer none) 1 8 Ybaf.underlying26 hi24 hz240 hz241 hz242 rfl (by decide) (.slice ra L2.length rc) L2.length (ptrs L2) rfl (H3.out.alloc _) ⟨wr.heap.size, 0, none⟩ 1 1 [.pointer (some ⟨kp.1, 0, none⟩)] rfl rfl ?hn ?h1 (by unfold maxLen; omega) (by omega) (by simp; omega) ?_))
                  case hn => exact cell_one_new _ _ _
                  case h1 => simp [Value.oneCell']
                  intro v' w9 hown hgrow hnil hat
                  obtain ⟨a', c', rfl⟩ := own_len hown
                  have hc9 : Chg (Value.ownBlock (.slice ra L2.length rc)).toList wr w9 := ((Chg.refl _ wr).alloc _).trans (Chg.ofGrown hgrow (fun k hk => .inl (by simp [hk])))
                  obtain ⟨hb9, hS9⟩ := SigAt.pushCert H1.out H2.out H3.out H4.out h5 H6.out hown hc9 (fun k hk => by
                    rcases hat with h | h
                    · exact .inl (h ▸ hk)
                    · right; rw [h] at hk; simp at hk; omega)
                  obtain ⟨⟨t0, t1, t2, t3, t4, t5⟩, ft0, ft1, ft2, ft3, ft4, ft5⟩ := SigAt.cells hb9
                  have HS9 : Hid (SigAt w (w9.setCell ⟨w.heap.size, 3, none⟩ (.slice a' (L2.length + 1) c')) w.heap.size (.pointer (some ⟨si, 0, none⟩)) (.pointer (some ⟨sv, 0, none⟩)) rs.length (refVs obj rs) (L2 ++ [kp.1]) m0 x0 (Y8 ++ (Y ++ [(gi, cui), (g, cur)]))) := hS9
                  clear hown hgrow hnil hat hc9 hb9 hS9 s0 s1 s2 s3 s4 s5 f0 f1 f2 f3 f4 f5
                  go_wp2
                  go_roundw
                  case rel => exact ⟨p + 1, by omega, by go_num, by rw [← HST0.out]; exact HS9.out⟩
                  case measure => simp [intOf]; omega
              · have hpe : p = (kidsOf ks).length := by omega
                have hpi : ¬ (p : Int) < ((kidsOf ks).length : Int) := by omega
                have hpi' : ((kidsOf ks).length : Int) ≤ (p : Int) := by omega
                have HEND : Hid (SigAt w wr w.heap.size (.pointer (some ⟨si, 0, none⟩)) (.pointer (some ⟨sv, 0, none⟩)) rs.length (refVs obj rs) (L0 ++ certsIn ks) m0 x0 (Y ++ [(gi, cui), (g, cur)])) := by
                  have h := HSP.out
                  rw [List.take_of_length_le (by have := HKKK.out; omega)] at h
                  exact h.drop (fun z hz => List.mem_append.2 (.inr hz))
                go_wp2
                go_roundw
                case rel => exact ⟨q + 1, by omega, by go_num, by rw [HSC.out, HSM.out, HSX.out]; exact HEND.out⟩
                case measure => simp [intOf]; omega
        · have hqe : q = kiK.length := by omega
          have hqi : ¬ (q : Int) < (kiK.length : Int) := by omega
          have hqi' : (kiK.length : Int) ≤ (q : Int) := by omega
          have HEND : Hid (SigAt w wr w.heap.size (.pointer (some ⟨si, 0, none⟩)) (.pointer (some ⟨sv, 0, none⟩)) rs.length (refVs obj rs) (kiCerts kis) (kiMo kis) (kiEx kis) []) := by
            have h := HSQ.out
            rw [List.take_of_length_le (by have := HKL2.out; omega)] at h
            exact h.drop (fun z hz => by cases hz)
          have HCLK : Hid ((kiCerts kis).length ≤ 2048) := by have := HCL.out kis.length; rwa [List.take_length] at this
          clear HSQ HSL HS7
          cases hz : (kiCerts kis).isEmpty
          · have HOKK : Hid ((rs.all RefD.ok && !(kiCerts kis).isEmpty) = true) := by show _ = _; rw [HAOK.out, hz]; rfl
            have hne0 : 0 < (kiCerts kis).length := by cases hl : kiCerts kis with | nil => rw [hl] at hz; simp at hz | cons x l => simp
            obtain ⟨vr, vc, h1, -, h3, -⟩ := HEND.out
            obtain ⟨⟨s0, s1, s2, s3, s4, s5⟩, f0, f1, f2, f3, f4, f5⟩ := SigAt.cells h1
            obtain ⟨ra, rc, rfl⟩ := own_len h3
            generalize hM : (kiCerts kis).length = M at *
            have hM0 : ¬ (M : Int) = 0 := by omega
            have hM0' : ((M : Int) == 0) = false := by simp; omega
            have hM1 : M ≠ 0 := by omega
            clear h1 h3 hM hz
            go_wp2
            go_ret2
            exact ⟨_, _, rfl, by rw [HOKK.out]; exact ⟨rfl, w.heap.size, rfl, HEND.out⟩, HEND.out.chg⟩
          · have HOKK : Hid ((rs.all RefD.ok && !(kiCerts kis).isEmpty) = false) := by show _ = _; rw [hz]; simp
            have hne0 : kiCerts kis = [] := by simpa using hz
            obtain ⟨vr, vc, h1, -, h3, -⟩ := HEND.out
            obtain ⟨⟨s0, s1, s2, s3, s4, s5⟩, f0, f1, f2, f3, f4, f5⟩ := SigAt.cells h1
            rw [hne0] at h3
            obtain ⟨ra, rc, rfl⟩ := own_len h3
            clear h1 h3 hne0 hz
            go_wp2_with (go_at_call 16; refine (errors_new _ wr).mono ?_; rintro e wz ⟨rfl, hwz⟩; rw [hwz]; clear hwz wz)
            go_ret2
            exact ⟨_, _, rfl, by rw [HOKK.out]; exact ⟨rfl, _, rfl⟩, HEND.out.chg.alloc _⟩

end Go.Proofs.YbulkcvhiFmt
