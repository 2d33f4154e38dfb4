/-
  Seat b4844aF: the building at mode 7.
-/
import Derived.Test.YbulkcvhiFmtUri
namespace Go.Proofs.YbulkcvhiFmt
open Go.RowKit Go.Extern.Stop Go.Stop Go.Extern
set_option linter.unusedVariables false

set_option maxRecDepth 100000 in
set_option maxHeartbeats 12800000 in
theorem build_m7 (ra ia : Option Addr) (nr rc ni ic : Nat) (w : World) (hr : U8s w ra nr) (hi : U8s w ia ni) (hnr : nr ≤ 1024) (hni : ni ≤ 1024) :
    Calls Ybaf.prog 6 #[.slice ra nr rc, .slice ia ni ic, .int .i64 7] w fun e w' => ∃ v, e = .returned v ∧ Built w' v ∧ Chg [] w w' := by
  obtain ⟨i24, hi24, hz240, hz241, hz242⟩ := info_parts info24
  obtain ⟨i9, hi9, hz90, hz91, hz92⟩ := info_parts info9
  have HR : Hid (U8s w ra nr) := hr
  have HI : Hid (U8s w ia ni) := hi
  have HRO0 : Hid (RowsAt w.heap.size ((w.alloc Z28).alloc Z28) (w.heap.size + 1) (.slice none 0 0) [] P0 P0 P0 P0 P0 (.bool false) [] [] [] []) := RowsAt.new w
  have HG0 : Hid (Grow w.heap.size w ((w.alloc Z28).alloc Z28)) := ((Grow.refl _ _).alloc _).alloc _
  clear hr hi
  go_enter Ybaf.func6, Ybaf.ntmps6
  go_wp2_with fail
  refine (alg_new w.heap.size 0 sCM cC14 (.slice none 0 0) [] ((w.alloc Z28).alloc Z28) (by simp; omega) (World.ownsRow_nil _ _ _ _) (fun x hx => by cases hx) (fun x hx => by cases hx) (by simp [kidsOf])).mono ?_
  rintro e w1 ⟨cm, rfl, hcm, hG1, hE1⟩
  have HG1 : Hid (Gro w.heap.size [] ((w.alloc Z28).alloc Z28) w1) := hG1
  have HE1 : Hid (ElAt w1 cm (cmNd cC14) []) := hE1
  have hs1 : w.heap.size + 2 ≤ w1.heap.size := by have := hG1.size; simp at this; omega
  simp at hcm
  clear hG1 hE1
  go_wp2_with fail
  refine (alg_new w.heap.size 0 sSM cRSA (.slice none 0 0) [] w1 (by omega) (World.ownsRow_nil _ _ _ _) (fun x hx => by cases hx) (fun x hx => by cases hx) (by simp [kidsOf])).mono ?_
  rintro e w2 ⟨sm, rfl, hsm, hG2, hE2⟩
  have HG2 : Hid (Gro w.heap.size [] w1 w2) := hG2
  have HE2 : Hid (ElAt w2 sm (smNd cRSA) []) := hE2
  have hs2 : w.heap.size + 2 ≤ w2.heap.size := by have := hG2.size; omega
  clear hG2 hE2
  have hRO2 := (HRO0.out.keptG (HG1.out.trans HG2.out)).pushI (w1 := w2.alloc (.cells #[(.pointer (some ⟨cm, 0, none⟩)), (.pointer (some ⟨sm, 0, none⟩))] 24)) (v' := .slice (some ⟨w2.heap.size, 0, none⟩) 2 2) (news := ptrs [cm, sm]) (m := 2) rfl (own_b2 _ _ _ _ (by omega)) ((Chg.refl _ _).alloc _) (fun k hk => .inr (by simp [Value.ownBlock] at hk; omega))
  have HRO2 : Hid (RowsAt w.heap.size (w2.alloc (.cells #[(.pointer (some ⟨cm, 0, none⟩)), (.pointer (some ⟨sm, 0, none⟩))] 24)) (w.heap.size + 1) (.slice (some ⟨w2.heap.size, 0, none⟩) 2 2) (ptrs [cm, sm]) P0 P0 P0 P0 P0 (.bool false) [] [] [] []) := hRO2.1
  have EO : Hid (Calls Ybaf.prog 9 #[.string NS, .string sOb, .slice (some ⟨w2.heap.size + 1, 0, none⟩) 1 1, .slice none 0 0] ((w2.alloc (.cells #[(.pointer (some ⟨cm, 0, none⟩)), (.pointer (some ⟨sm, 0, none⟩))] 24)).alloc (.cells #[.string ⟨#[]⟩, .string sId, .string sObj] 46)) fun e w' => ∃ b, e = .returned (.pointer (some ⟨b, 0, none⟩)) ∧ w2.heap.size ≤ b ∧ Gro w.heap.size [] ((w2.alloc (.cells #[(.pointer (some ⟨cm, 0, none⟩)), (.pointer (some ⟨sm, 0, none⟩))] 24)).alloc (.cells #[.string ⟨#[]⟩, .string sId, .string sObj] 46)) w' ∧ ElAt w' b obNd []) :=
    (el_attr w.heap.size 0 NS sOb sId sObj (w2.heap.size + 1) (.slice none 0 0) [] _ (by simp; omega) (heap_new2 _ _ _) (World.ownsRow_nil _ _ _ _) (fun x hx => by cases hx) (fun x hx => by cases hx) (by simp [kidsOf])).mono (fun e w' h => by
      obtain ⟨b, h1, h2, h3, h4⟩ := h
      exact ⟨b, h1, by simp at h2; omega, h3, h4⟩)
  clear hRO2
  go_wp2_with fail
  refine EO.out.mono ?_
  rintro e w3 ⟨obj, rfl, hob, hG3, hE3⟩
  have HRO3 : Hid (RowsAt w.heap.size w3 (w.heap.size + 1) (.slice (some ⟨w2.heap.size, 0, none⟩) 2 2) (ptrs [cm, sm]) P0 P0 P0 P0 P0 (.bool false) [] [] [] []) := (HRO2.out.keptG ((Gro.refl _ _ _).alloc _)).keptG hG3
  have HG23 : Hid (Grow w.heap.size w2 w3) := (((Grow.refl _ _).alloc _).alloc _).trans (Grow.ofGro hG3)
  have HOB : Hid (ElAt w3 obj obNd []) := hE3
  have HSM : Hid (ElAt w3 sm (smNd cRSA) []) := HG23.out.el HE2.out
  have HCM : Hid (ElAt w3 cm (cmNd cC14) []) := ((Grow.ofGro HG2.out).trans HG23.out).el HE1.out
  have HGW3 : Hid (Grow w.heap.size w w3) := HG0.out.trans ((Grow.ofGro (HG1.out.trans HG2.out)).trans HG23.out)
  have hs3 : w.heap.size + 2 ≤ w3.heap.size := by have := HG23.out.size; omega
  have hobl : w.heap.size ≤ obj := by omega
  have hcml : w.heap.size ≤ cm := by omega
  have hsml : w.heap.size ≤ sm := by omega
  have HL1 : Hid (Loop1 w.heap.size w3 w3 (w.heap.size + 1) (.slice (some ⟨w2.heap.size, 0, none⟩) 2 2) cm sm obj [] (fun _ => true)) := ⟨HRO3.out, Grow.refl _ _, (fun r hr => by cases hr), (fun j r hj => by simp at hj)⟩
  clear hG3 hE3 EO HRO2 HRO3
  go_wp2_with fail
  go_loopw [14, 61] (fun vi i wr => ∃ (rs : List RefD), rs.length ≤ nr ∧ i = .int .i64 rs.length ∧ Loop1 w.heap.size w3 wr (w.heap.size + 1) vi cm sm obj rs (fun _ => true)) (fun _ i _ => nr - (intOf i).toNat)
  case atStart => exact ⟨[], Nat.zero_le _, rfl, HL1.out⟩
  case round =>
    obtain ⟨rs, hrl, rfl, hL⟩ := hrel
    have hli : (ptrs (cm :: sm :: rs.map (·.rb))).length = rs.length + 2 := by simp [ptrs]
    have hI := hL.rows.lowI
    rw [hli] at hI
    obtain ⟨va, vcap, rfl⟩ := own_len hI
    have HLI : Hid ((ptrs (cm :: sm :: rs.map (·.rb))).length = rs.length + 2) := hli
    have HLUU : Hid ((urisV rs).length = rs.length) := by simp [Hid, urisV]
    have HLUT : Hid ((tgtsV obj rs).length = rs.length) := by simp [Hid, tgtsV]
    have HLUD : Hid ((digsV rs).length = rs.length) := by simp [Hid, digsV]
    clear hI hli
    have HL : Hid (Loop1 w.heap.size w3 wr (w.heap.size + 1) (.slice va (rs.length + 2) vcap) cm sm obj rs (fun _ => true)) := hL
    have hsr : w.heap.size + 2 ≤ wr.heap.size := by have := hL.grow.size; omega
    clear hL
    by_cases hlt : rs.length < nr
    · have hki : (rs.length : Int) < (nr : Int) := by omega
      obtain ⟨bb, oo, rfl, x, hx, hx0, hx1⟩ := HR.out.at (S := 0) (HGW3.out.trans HL.out.grow) hlt
      obtain ⟨qq, ue, o1, o2, o3, o4, o5, o6⟩ := uri_ops rs.length (by omega)
      go_upto_region 22 with fail
      have HU : Hid (Lib.hasPrefix (⟨#[100]⟩ ++ ue : ByteArray).data.toList sHash.data.toList = false) := pre_d ue
      generalize (⟨#[100]⟩ ++ ue : ByteArray) = U at *
      have hk0 : 0 ≤ x % 3 := by omega
      have hk3 : x % 3 < 3 := by omega
      generalize x % 3 = kk at *
      clear o1 o2 o3 o4 o5 o6 hx hx0 hx1
      have hkk : kk = 0 ∨ kk = 1 ∨ kk = 2 := by omega
      clear hk0 hk3
      rcases hkk with rfl | rfl | rfl
      · go_wp2_with fail
        refine (el_leaf w.heap.size NS sDV wr (by omega)).mono ?_
        rintro e w4 ⟨dv, rfl, hdv, hG4, hE4⟩
        have HG4 : Hid (Gro w.heap.size [] wr w4) := hG4
        have HDV4 : Hid (ElAt w4 dv dvNd []) := hE4
        have hs4 : wr.heap.size ≤ w4.heap.size := hG4.size
        clear hG4 hE4
        go_wp2_with fail
        refine (alg_new w.heap.size 0 sDM cSHA (.slice none 0 0) [] w4 (by omega) (World.ownsRow_nil _ _ _ _) (fun x hx => by cases hx) (fun x hx => by cases hx) (by simp [kidsOf])).mono ?_
        rintro e w8 ⟨dm, rfl, hdm, hG8, hE8⟩
        have HG8 : Hid (Gro w.heap.size [] w4 w8) := hG8
        have HDM8 : Hid (ElAt w8 dm (dmNd cSHA) []) := hE8
        have hs8 : wr.heap.size ≤ w8.heap.size := by have := hG8.size; omega
        clear hG8 hE8
        go_wp2_with (at_builtin; refine wpList_append_own_at _ rfl _ _ 26 rfl w.heap.size 24 i24 (.pointer none) 1 8 Ybaf.underlying26 hi24 hz240 hz241 hz242 rfl (by decide) (.slice none 0 0) 0 [] rfl (World.ownsRow_nil _ _ _ _) ⟨w8.heap.size, 0, none⟩ 2 2 [(.pointer (some ⟨dm, 0, none⟩)), (.pointer (some ⟨dv, 0, none⟩))] rfl rfl ?hn ?h1 (by decide) (by decide) (by simp; omega) ?_)
        case hn => exact cell2_new _ _ _ _
        case h1 => simp [Value.oneCell']
        intro v9 w9 hown hgrow hnil hat
        obtain ⟨a9, c9, rfl⟩ := own_len hown
        have hc9 : Chg [] w8 w9 := ((Chg.refl _ w8).alloc _).trans (Chg.ofGrown hgrow (by simp [Value.ownBlock]))
        have HP9 : Hid (w9.ownsRow w.heap.size 24 1 (.slice a9 2 c9) 2 (ptrs (kidsOf (plainKs cSHA dm dv)))) := hown
        have HG9 : Hid (Gro w.heap.size [] wr w9) := HG4.out.trans (HG8.out.trans (Gro.ofChg hc9 (by simp)))
        have HDV9 : Hid (ElAt w9 dv dvNd []) := (HDV4.out.keptG HG8.out (Soft.nil _)).keptC hc9
        have HDM9 : Hid (ElAt w9 dm (dmNd cSHA) []) := HDM8.out.keptC hc9
        have hs9 : wr.heap.size ≤ w9.heap.size := HG9.out.size
        clear hown hgrow hnil hat hc9
        have hC : Chg [] w9 (w9.alloc (.cells #[.string ⟨#[]⟩, .string sURI, .string U] 46)) := (Chg.refl _ _).alloc _
        have ER : Hid (Calls Ybaf.prog 9 #[.string NS, .string sRef, .slice (some ⟨w9.heap.size, 0, none⟩) 1 1, .slice a9 2 c9] (w9.alloc (.cells #[.string ⟨#[]⟩, .string sURI, .string U] 46)) fun e w' => ∃ b, e = .returned (.pointer (some ⟨b, 0, none⟩)) ∧ w9.heap.size ≤ b ∧ Gro w.heap.size [] w9 w' ∧ ElAt w' b (refNd U) (kidsOf (plainKs cSHA dm dv))) := (el_attr w.heap.size w.heap.size NS sRef sURI U w9.heap.size (.slice a9 2 c9) (plainKs cSHA dm dv) _ (by simp; omega) (heap_alloc_new _ _) (ownsRow_kept HP9.out hC (by simp)) (plain_all (HDM9.out.keptC hC) (HDV9.out.keptC hC)) (fun x hx => by simp only [plainKs, List.mem_cons, List.not_mem_nil, or_false] at hx; rcases hx with rfl | rfl <;> (simp only; omega)) (by simp [kidsOf, plainKs])).mono (fun e w' h => by
            obtain ⟨b, h1, h2, h3, h4⟩ := h
            exact ⟨b, h1, by simp at h2; omega, (Gro.ofChg hC (by simp)).trans h3, h4⟩)
        clear hC
        go_wp2_with fail
        refine ER.out.mono ?_
        rintro e w10 ⟨rb, rfl, hrb, hG10, hE10⟩
        have HRO10 : Hid (RowsAt w.heap.size w10 (w.heap.size + 1) (.slice va (rs.length + 2) vcap) (ptrs (cm :: sm :: rs.map (·.rb))) P0 P0 P0 P0 P0 (.bool false) (urisV rs) (tgtsV obj rs) (digsV rs) []) := HL.out.rows.keptG (HG9.out.trans hG10)
        have HREF10 : Hid (RefAt w10 ⟨false, false, U, cSHA, rb, 0, 0, dm, dv⟩) := ⟨hE10, HDM9.out.keptG hG10 (Soft.nil _), HDV9.out.keptG hG10 (Soft.nil _), (fun h => by cases h), fun _ => HU.out⟩
        have HGR10 : Hid (Grow w.heap.size wr w10) := Grow.ofGro (HG9.out.trans hG10)
        have hs10 : wr.heap.size ≤ w10.heap.size := HGR10.out.size
        clear hG10 hE10 ER
        have HOI : Hid (w10.ownsRow w.heap.size 24 1 (.slice va (rs.length + 2) vcap) (rs.length + 2) (ptrs (cm :: sm :: rs.map (·.rb)))) := by have := HRO10.out.lowI; rw [HLI.out] at this; exact this
        go_wp2_with (at_builtin; refine wpList_append_own_at _ rfl _ _ 26 rfl w.heap.size 24 i24 (.pointer none) 1 8 Ybaf.underlying26 hi24 hz240 hz241 hz242 rfl (by decide) (.slice va (rs.length + 2) vcap) (rs.length + 2) (ptrs (cm :: sm :: rs.map (·.rb))) rfl (HOI.out.alloc _) ⟨w10.heap.size, 0, none⟩ 1 1 [(.pointer (some ⟨rb, 0, none⟩))] rfl rfl ?hn ?h1 (by unfold maxLen; omega) (by omega) (by simp; omega) ?_)
        case hn => exact cell_one_new _ _ _
        case h1 => simp [Value.oneCell']
        intro v11 w11 hown hgrow hnil hat
        obtain ⟨a11, c11, rfl⟩ := own_len hown
        have hc11 : Chg (Value.ownBlock (.slice va (rs.length + 2) vcap)).toList w10 w11 := ((Chg.refl _ w10).alloc _).trans (Chg.ofGrown hgrow (fun k hk => .inl (by simp [hk])))
        have hRO11 := HRO10.out.pushI (w1 := w11) (v' := .slice a11 (rs.length + 2 + 1) c11) (news := [(.pointer (some ⟨rb, 0, none⟩))]) (m := 1) rfl (by rw [HLI.out]; exact hown) hc11 (fun k hk => by
          rcases hat with h | h
          · exact .inl (h ▸ hk)
          · right; rw [h] at hk; simp at hk; omega)
        have HRO11 : Hid (RowsAt w.heap.size w11 (w.heap.size + 1) (.slice a11 (rs.length + 2 + 1) c11) (ptrs (cm :: sm :: rs.map (·.rb)) ++ [(.pointer (some ⟨rb, 0, none⟩))]) P0 P0 P0 P0 P0 (.bool false) (urisV rs) (tgtsV obj rs) (digsV rs) []) := hRO11.1
        have HGR11 : Hid (Grow w.heap.size wr w11) := HGR10.out.trans hRO11.2
        have HX11 : Hid (Grow w.heap.size w10 w11) := hRO11.2
        have hs11 : wr.heap.size ≤ w11.heap.size := HGR11.out.size
        clear hown hgrow hnil hat hc11 hRO11
        obtain ⟨u11a, u11c, hcu, hou, hclu⟩ := HRO11.out.openU
        rw [HLUU.out] at hcu hou
        have HOU : Hid (w11.ownsRow w.heap.size 9 1 (.slice u11a rs.length u11c) rs.length (urisV rs)) := hou
        go_wp2_with (at_builtin; refine wpList_append_own_at _ rfl _ _ 25 rfl w.heap.size 9 i9 (.string ⟨#[]⟩) 1 16 Ybaf.underlying25 hi9 hz90 hz91 hz92 rfl (by decide) (.slice u11a rs.length u11c) rs.length (urisV rs) rfl (HOU.out.alloc _) ⟨w11.heap.size, 0, none⟩ 1 1 [(.string U)] rfl rfl ?hn ?h1 (by unfold maxLen; omega) (by omega) (by simp; omega) ?_)
        case hn => exact cell_one_new _ _ _
        case h1 => simp [Value.oneCell']
        intro v12 w12 hown hgrow hnil hat
        obtain ⟨a12, c12, rfl⟩ := own_len hown
        have hcc : Chg (Value.ownBlock (.slice u11a rs.length u11c)).toList w11 w12 := ((Chg.refl _ w11).alloc _).trans (Chg.ofGrown hgrow (fun k hk => .inl (by simp [hk])))
        have eo : Value.ownBlock (.slice u11a (urisV rs).length u11c) = Value.ownBlock (.slice u11a rs.length u11c) := by cases u11a <;> rfl
        obtain ⟨hk1, hk2, hk3, hk4⟩ := hclu w12 (.slice a12 (rs.length + 1) c12) [(.string U)] 1 rfl (by rw [HLUU.out]; exact hown) (by rw [eo]; exact hcc) (fun k hk => by
          rw [eo]
          rcases hat with h | h
          · exact .inl (h ▸ hk)
          · right; rw [h] at hk; simp at hk; omega)
        rw [HLUU.out] at hk1
        clear hclu hcu hou hown hgrow hnil hat hcc eo
        go_upto_region 35 with fail
        generalize w12.setCell ⟨(w.heap.size + 1), 3, none⟩ (.slice a12 (rs.length + 1) c12) = z12 at hk3 hk4 ⊢
        have HRO12 : Hid (RowsAt w.heap.size z12 (w.heap.size + 1) (.slice a11 (rs.length + 2 + 1) c11) (ptrs (cm :: sm :: rs.map (·.rb)) ++ [(.pointer (some ⟨rb, 0, none⟩))]) P0 P0 P0 P0 P0 (.bool false) ((urisV rs) ++ [(.string U)]) (tgtsV obj rs) (digsV rs) []) := hk3
        have HGR12 : Hid (Grow w.heap.size wr z12) := HGR11.out.trans hk4
        have HX12 : Hid (Grow w.heap.size w10 z12) := HX11.out.trans hk4
        have hs12 : wr.heap.size ≤ z12.heap.size := HGR12.out.size
        clear hk1 hk2 hk3 hk4
        obtain ⟨u12a, u12c, hcu, hou, hclu⟩ := HRO12.out.openT
        rw [HLUT.out] at hcu hou
        have HOU : Hid (z12.ownsRow w.heap.size 24 1 (.slice u12a rs.length u12c) rs.length (tgtsV obj rs)) := hou
        go_wp2_with (at_builtin; refine wpList_append_own_at _ rfl _ _ 26 rfl w.heap.size 24 i24 (.pointer none) 1 8 Ybaf.underlying26 hi24 hz240 hz241 hz242 rfl (by decide) (.slice u12a rs.length u12c) rs.length (tgtsV obj rs) rfl (HOU.out.alloc _) ⟨z12.heap.size, 0, none⟩ 1 1 [(.pointer none)] rfl rfl ?hn ?h1 (by unfold maxLen; omega) (by omega) (by simp; omega) ?_)
        case hn => exact cell_one_new _ _ _
        case h1 => simp [Value.oneCell']
        intro v13 w13 hown hgrow hnil hat
        obtain ⟨a13, c13, rfl⟩ := own_len hown
        have hcc : Chg (Value.ownBlock (.slice u12a rs.length u12c)).toList z12 w13 := ((Chg.refl _ z12).alloc _).trans (Chg.ofGrown hgrow (fun k hk => .inl (by simp [hk])))
        have eo : Value.ownBlock (.slice u12a (tgtsV obj rs).length u12c) = Value.ownBlock (.slice u12a rs.length u12c) := by cases u12a <;> rfl
        obtain ⟨hk1, hk2, hk3, hk4⟩ := hclu w13 (.slice a13 (rs.length + 1) c13) [(.pointer none)] 1 rfl (by rw [HLUT.out]; exact hown) (by rw [eo]; exact hcc) (fun k hk => by
          rw [eo]
          rcases hat with h | h
          · exact .inl (h ▸ hk)
          · right; rw [h] at hk; simp at hk; omega)
        rw [HLUT.out] at hk1
        clear hclu hcu hou hown hgrow hnil hat hcc eo
        go_upto_region 36 with fail
        generalize w13.setCell ⟨(w.heap.size + 1), 4, none⟩ (.slice a13 (rs.length + 1) c13) = z13 at hk3 hk4 ⊢
        have HRO13 : Hid (RowsAt w.heap.size z13 (w.heap.size + 1) (.slice a11 (rs.length + 2 + 1) c11) (ptrs (cm :: sm :: rs.map (·.rb)) ++ [(.pointer (some ⟨rb, 0, none⟩))]) P0 P0 P0 P0 P0 (.bool false) ((urisV rs) ++ [(.string U)]) ((tgtsV obj rs) ++ [(.pointer none)]) (digsV rs) []) := hk3
        have HGR13 : Hid (Grow w.heap.size wr z13) := HGR12.out.trans hk4
        have HX13 : Hid (Grow w.heap.size w10 z13) := HX12.out.trans hk4
        have hs13 : wr.heap.size ≤ z13.heap.size := HGR13.out.size
        clear hk1 hk2 hk3 hk4
        obtain ⟨u13a, u13c, hcu, hou, hclu⟩ := HRO13.out.openD
        rw [HLUD.out] at hcu hou
        have HOU : Hid (z13.ownsRow w.heap.size 24 1 (.slice u13a rs.length u13c) rs.length (digsV rs)) := hou
        go_wp2_with (at_builtin; refine wpList_append_own_at _ rfl _ _ 26 rfl w.heap.size 24 i24 (.pointer none) 1 8 Ybaf.underlying26 hi24 hz240 hz241 hz242 rfl (by decide) (.slice u13a rs.length u13c) rs.length (digsV rs) rfl (HOU.out.alloc _) ⟨z13.heap.size, 0, none⟩ 1 1 [(.pointer (some ⟨dv, 0, none⟩))] rfl rfl ?hn ?h1 (by unfold maxLen; omega) (by omega) (by simp; omega) ?_)
        case hn => exact cell_one_new _ _ _
        case h1 => simp [Value.oneCell']
        intro v14 w14 hown hgrow hnil hat
        obtain ⟨a14, c14, rfl⟩ := own_len hown
        have hcc : Chg (Value.ownBlock (.slice u13a rs.length u13c)).toList z13 w14 := ((Chg.refl _ z13).alloc _).trans (Chg.ofGrown hgrow (fun k hk => .inl (by simp [hk])))
        have eo : Value.ownBlock (.slice u13a (digsV rs).length u13c) = Value.ownBlock (.slice u13a rs.length u13c) := by cases u13a <;> rfl
        obtain ⟨hk1, hk2, hk3, hk4⟩ := hclu w14 (.slice a14 (rs.length + 1) c14) [(.pointer (some ⟨dv, 0, none⟩))] 1 rfl (by rw [HLUD.out]; exact hown) (by rw [eo]; exact hcc) (fun k hk => by
          rw [eo]
          rcases hat with h | h
          · exact .inl (h ▸ hk)
          · right; rw [h] at hk; simp at hk; omega)
        rw [HLUD.out] at hk1
        clear hclu hcu hou hown hgrow hnil hat hcc eo
        go_upto_region 37 with fail
        generalize w14.setCell ⟨(w.heap.size + 1), 5, none⟩ (.slice a14 (rs.length + 1) c14) = z14 at hk3 hk4 ⊢
        have HRO14 : Hid (RowsAt w.heap.size z14 (w.heap.size + 1) (.slice a11 (rs.length + 2 + 1) c11) (ptrs (cm :: sm :: rs.map (·.rb)) ++ [(.pointer (some ⟨rb, 0, none⟩))]) P0 P0 P0 P0 P0 (.bool false) ((urisV rs) ++ [(.string U)]) ((tgtsV obj rs) ++ [(.pointer none)]) ((digsV rs) ++ [(.pointer (some ⟨dv, 0, none⟩))]) []) := hk3
        have HGR14 : Hid (Grow w.heap.size wr z14) := HGR13.out.trans hk4
        have HX14 : Hid (Grow w.heap.size w10 z14) := HX13.out.trans hk4
        have hs14 : wr.heap.size ≤ z14.heap.size := HGR14.out.size
        clear hk1 hk2 hk3 hk4
        have HNEW : Hid (Loop1 w.heap.size w3 z14 (w.heap.size + 1) (.slice a11 (rs.length + 2 + 1) c11) cm sm obj (rs ++ [⟨false, false, U, cSHA, rb, 0, 0, dm, dv⟩]) (fun _ => true)) := HL.out.step HGR14.out (HX14.out.ref HREF10.out) (by show w.heap.size ≤ rb; omega) (ref_ok00 _ _ _ _ _ _) HRO14.out
        go_wp2
        go_roundw
        case rel => exact ⟨rs ++ [⟨false, false, U, cSHA, rb, 0, 0, dm, dv⟩], by simp; omega, by simp, HNEW.out⟩
        case measure => simp [intOf]; omega
      · go_wp2_with fail
        refine (el_leaf w.heap.size NS sDV wr (by omega)).mono ?_
        rintro e w4 ⟨dv, rfl, hdv, hG4, hE4⟩
        have HG4 : Hid (Gro w.heap.size [] wr w4) := hG4
        have HDV4 : Hid (ElAt w4 dv dvNd []) := hE4
        have hs4 : wr.heap.size ≤ w4.heap.size := hG4.size
        clear hG4 hE4
        go_wp2_with fail
        refine (alg_new w.heap.size 0 sTF cC14 (.slice none 0 0) [] w4 (by omega) (World.ownsRow_nil _ _ _ _) (fun x hx => by cases hx) (fun x hx => by cases hx) (by simp [kidsOf])).mono ?_
        rintro e w5 ⟨tf, rfl, htf, hG5, hE5⟩
        have HG5 : Hid (Gro w.heap.size [] w4 w5) := hG5
        have HTF5 : Hid (ElAt w5 tf tfNd []) := hE5
        have hs5 : wr.heap.size ≤ w5.heap.size := by have := hG5.size; omega
        clear hG5 hE5
        go_wp2_with fail
        refine (el_ks w.heap.size w.heap.size NS sTS (.slice (some ⟨w5.heap.size, 0, none⟩) 1 1) [(tf, tfNd, [])] (w5.alloc (.cells #[(.pointer (some ⟨tf, 0, none⟩))] 24)) (by simp; omega) (own_b1 _ _ _ (by omega)) (fun x hx => by obtain rfl : x = (tf, tfNd, []) := (by simpa using hx); exact HTF5.out.keptG ((Gro.refl w.heap.size [] _).alloc _) (Soft.nil _)) (fun x hx => by obtain rfl : x = (tf, tfNd, []) := (by simpa using hx); show w.heap.size ≤ tf; omega) (by simp [kidsOf])).mono ?_
        rintro e w6 ⟨ts, rfl, hts, hG6, hE6, -⟩
        have HG6 : Hid (Gro w.heap.size [] w5 w6) := ((Gro.refl _ _ _).alloc _).trans hG6
        have HTS6 : Hid (ElAt w6 ts tsNd [tf]) := hE6
        have hs6 : wr.heap.size ≤ w6.heap.size := by have := HG6.out.size; omega
        clear hG6 hE6
        simp at hts
        go_wp2_with (at_builtin; refine wpList_append_own_at _ rfl _ _ 26 rfl w.heap.size 24 i24 (.pointer none) 1 8 Ybaf.underlying26 hi24 hz240 hz241 hz242 rfl (by decide) (.slice none 0 0) 0 [] rfl (World.ownsRow_nil _ _ _ _) ⟨w6.heap.size, 0, none⟩ 1 1 [(.pointer (some ⟨ts, 0, none⟩))] rfl rfl ?hn ?h1 (by decide) (by decide) (by simp; omega) ?_)
        case hn => exact cell_one_new _ _ _
        case h1 => simp [Value.oneCell']
        intro v7 w7 hown hgrow hnil hat
        obtain ⟨a7, c7, rfl⟩ := own_len hown
        have hc7 : Chg [] w6 w7 := ((Chg.refl _ w6).alloc _).trans (Chg.ofGrown hgrow (by simp [Value.ownBlock]))
        have HP7 : Hid (w7.ownsRow w.heap.size 24 1 (.slice a7 1 c7) 1 [(.pointer (some ⟨ts, 0, none⟩))]) := hown
        have HFR7 : Hid (∀ k, Value.ownBlock (.slice a7 1 c7) = some k → w6.heap.size ≤ k) := fun k hk => by
          rcases hat with h | h
          · rw [show Value.ownBlock (.slice a7 (0 + 1) c7) = Value.ownBlock (.slice a7 1 c7) from rfl, hk] at h; simp [Value.ownBlock] at h
          · rw [show Value.ownBlock (.slice a7 (0 + 1) c7) = Value.ownBlock (.slice a7 1 c7) from rfl, hk] at h; simp at h; omega
        have HG7 : Hid (Gro w.heap.size [] w6 w7) := Gro.ofChg hc7 (by simp)
        have hs7 : wr.heap.size ≤ w7.heap.size := by have := HG7.out.size; omega
        clear hown hgrow hnil hat hc7
        go_wp2_with fail
        refine (alg_new w.heap.size 0 sDM cSHA (.slice none 0 0) [] w7 (by omega) (World.ownsRow_nil _ _ _ _) (fun x hx => by cases hx) (fun x hx => by cases hx) (by simp [kidsOf])).mono ?_
        rintro e w8 ⟨dm, rfl, hdm, hG8, hE8⟩
        have HG8 : Hid (Gro w.heap.size [] w7 w8) := hG8
        have HDM8 : Hid (ElAt w8 dm (dmNd cSHA) []) := hE8
        have hs8 : wr.heap.size ≤ w8.heap.size := by have := hG8.size; omega
        clear hG8 hE8
        have hP8 := HG8.out.row HP7.out (by decide) (by simp)
        have HP8 : Hid (w8.ownsRow w.heap.size 24 1 (.slice a7 1 c7) 1 [(.pointer (some ⟨ts, 0, none⟩))]) := hP8
        clear hP8
        go_wp2_with (at_builtin; refine wpList_append_own_at _ rfl _ _ 26 rfl w.heap.size 24 i24 (.pointer none) 1 8 Ybaf.underlying26 hi24 hz240 hz241 hz242 rfl (by decide) (.slice a7 1 c7) 1 [(.pointer (some ⟨ts, 0, none⟩))] rfl (HP8.out.alloc _) ⟨w8.heap.size, 0, none⟩ 2 2 [(.pointer (some ⟨dm, 0, none⟩)), (.pointer (some ⟨dv, 0, none⟩))] rfl rfl ?hn ?h1 (by decide) (by decide) (by simp; omega) ?_)
        case hn => exact cell2_new _ _ _ _
        case h1 => simp [Value.oneCell']
        intro v9 w9 hown hgrow hnil hat
        obtain ⟨a9, c9, rfl⟩ := own_len hown
        have hc9 : Chg (Value.ownBlock (.slice a7 1 c7)).toList w8 w9 := ((Chg.refl _ w8).alloc _).trans (Chg.ofGrown hgrow (fun k hk => .inl (by simp [hk])))
        have HP9 : Hid (w9.ownsRow w.heap.size 24 1 (.slice a9 3 c9) 3 (ptrs (kidsOf (transKs cSHA ts tf dm dv)))) := hown
        have HW89 : Hid (Grow w.heap.size w8 w9) := chg_grow HP8.out hc9 (by decide) (by decide) (by decide)
        have HG9 : Hid (Gro w.heap.size [] wr w9) := (((HG4.out.trans HG5.out).trans (HG6.out.trans (HG7.out.trans HG8.out))).mono (l' := (Value.ownBlock (.slice a7 1 c7)).toList) (by simp)).trans (Gro.ofChg hc9 (fun k hk => by have := HFR7.out k (by simpa using hk); omega)) |>.mono (fun k hk => .inr (by have := HFR7.out k (by simpa using hk); omega))
        have HDV9 : Hid (ElAt w9 dv dvNd []) := HW89.out.el (HDV4.out.keptG (HG5.out.trans (HG6.out.trans (HG7.out.trans HG8.out))) (Soft.nil _))
        have HTF9 : Hid (ElAt w9 tf tfNd []) := HW89.out.el (HTF5.out.keptG (HG6.out.trans (HG7.out.trans HG8.out)) (Soft.nil _))
        have HTS9 : Hid (ElAt w9 ts tsNd [tf]) := HW89.out.el (HTS6.out.keptG (HG7.out.trans HG8.out) (Soft.nil _))
        have HDM9 : Hid (ElAt w9 dm (dmNd cSHA) []) := HW89.out.el HDM8.out
        have hs9 : wr.heap.size ≤ w9.heap.size := HG9.out.size
        clear hown hgrow hnil hat hc9
        have hC : Chg [] w9 (w9.alloc (.cells #[.string ⟨#[]⟩, .string sURI, .string sHObj] 46)) := (Chg.refl _ _).alloc _
        have ER : Hid (Calls Ybaf.prog 9 #[.string NS, .string sRef, .slice (some ⟨w9.heap.size, 0, none⟩) 1 1, .slice a9 3 c9] (w9.alloc (.cells #[.string ⟨#[]⟩, .string sURI, .string sHObj] 46)) fun e w' => ∃ b, e = .returned (.pointer (some ⟨b, 0, none⟩)) ∧ w9.heap.size ≤ b ∧ Gro w.heap.size [] w9 w' ∧ ElAt w' b (refNd sHObj) (kidsOf (transKs cSHA ts tf dm dv))) := (el_attr w.heap.size w.heap.size NS sRef sURI sHObj w9.heap.size (.slice a9 3 c9) (transKs cSHA ts tf dm dv) _ (by simp; omega) (heap_alloc_new _ _) (ownsRow_kept HP9.out hC (by simp)) (trans_all (HDM9.out.keptC hC) (HDV9.out.keptC hC) (HTS9.out.keptC hC)) (fun x hx => by simp only [transKs, List.mem_cons, List.not_mem_nil, or_false] at hx; rcases hx with rfl | rfl | rfl <;> (simp only; omega)) (by simp [kidsOf, transKs])).mono (fun e w' h => by
            obtain ⟨b, h1, h2, h3, h4⟩ := h
            exact ⟨b, h1, by simp at h2; omega, (Gro.ofChg hC (by simp)).trans h3, h4⟩)
        clear hC
        go_wp2_with fail
        refine ER.out.mono ?_
        rintro e w10 ⟨rb, rfl, hrb, hG10, hE10⟩
        have HRO10 : Hid (RowsAt w.heap.size w10 (w.heap.size + 1) (.slice va (rs.length + 2) vcap) (ptrs (cm :: sm :: rs.map (·.rb))) P0 P0 P0 P0 P0 (.bool false) (urisV rs) (tgtsV obj rs) (digsV rs) []) := HL.out.rows.keptG (HG9.out.trans hG10)
        have HREF10 : Hid (RefAt w10 ⟨true, true, U, cSHA, rb, ts, tf, dm, dv⟩) := ⟨hE10, HDM9.out.keptG hG10 (Soft.nil _), HDV9.out.keptG hG10 (Soft.nil _), fun _ => ⟨HTS9.out.keptG hG10 (Soft.nil _), HTF9.out.keptG hG10 (Soft.nil _)⟩, fun h => by cases h⟩
        have HGR10 : Hid (Grow w.heap.size wr w10) := Grow.ofGro (HG9.out.trans hG10)
        have hs10 : wr.heap.size ≤ w10.heap.size := HGR10.out.size
        clear hG10 hE10 ER
        have HOI : Hid (w10.ownsRow w.heap.size 24 1 (.slice va (rs.length + 2) vcap) (rs.length + 2) (ptrs (cm :: sm :: rs.map (·.rb)))) := by have := HRO10.out.lowI; rw [HLI.out] at this; exact this
        go_wp2_with (at_builtin; refine wpList_append_own_at _ rfl _ _ 26 rfl w.heap.size 24 i24 (.pointer none) 1 8 Ybaf.underlying26 hi24 hz240 hz241 hz242 rfl (by decide) (.slice va (rs.length + 2) vcap) (rs.length + 2) (ptrs (cm :: sm :: rs.map (·.rb))) rfl (HOI.out.alloc _) ⟨w10.heap.size, 0, none⟩ 1 1 [(.pointer (some ⟨rb, 0, none⟩))] rfl rfl ?hn ?h1 (by unfold maxLen; omega) (by omega) (by simp; omega) ?_)
        case hn => exact cell_one_new _ _ _
        case h1 => simp [Value.oneCell']
        intro v11 w11 hown hgrow hnil hat
        obtain ⟨a11, c11, rfl⟩ := own_len hown
        have hc11 : Chg (Value.ownBlock (.slice va (rs.length + 2) vcap)).toList w10 w11 := ((Chg.refl _ w10).alloc _).trans (Chg.ofGrown hgrow (fun k hk => .inl (by simp [hk])))
        have hRO11 := HRO10.out.pushI (w1 := w11) (v' := .slice a11 (rs.length + 2 + 1) c11) (news := [(.pointer (some ⟨rb, 0, none⟩))]) (m := 1) rfl (by rw [HLI.out]; exact hown) hc11 (fun k hk => by
          rcases hat with h | h
          · exact .inl (h ▸ hk)
          · right; rw [h] at hk; simp at hk; omega)
        have HRO11 : Hid (RowsAt w.heap.size w11 (w.heap.size + 1) (.slice a11 (rs.length + 2 + 1) c11) (ptrs (cm :: sm :: rs.map (·.rb)) ++ [(.pointer (some ⟨rb, 0, none⟩))]) P0 P0 P0 P0 P0 (.bool false) (urisV rs) (tgtsV obj rs) (digsV rs) []) := hRO11.1
        have HGR11 : Hid (Grow w.heap.size wr w11) := HGR10.out.trans hRO11.2
        have HX11 : Hid (Grow w.heap.size w10 w11) := hRO11.2
        have hs11 : wr.heap.size ≤ w11.heap.size := HGR11.out.size
        clear hown hgrow hnil hat hc11 hRO11
        obtain ⟨u11a, u11c, hcu, hou, hclu⟩ := HRO11.out.openU
        rw [HLUU.out] at hcu hou
        have HOU : Hid (w11.ownsRow w.heap.size 9 1 (.slice u11a rs.length u11c) rs.length (urisV rs)) := hou
        go_wp2_with (at_builtin; refine wpList_append_own_at _ rfl _ _ 25 rfl w.heap.size 9 i9 (.string ⟨#[]⟩) 1 16 Ybaf.underlying25 hi9 hz90 hz91 hz92 rfl (by decide) (.slice u11a rs.length u11c) rs.length (urisV rs) rfl (HOU.out.alloc _) ⟨w11.heap.size, 0, none⟩ 1 1 [(.string sHObj)] rfl rfl ?hn ?h1 (by unfold maxLen; omega) (by omega) (by simp; omega) ?_)
        case hn => exact cell_one_new _ _ _
        case h1 => simp [Value.oneCell']
        intro v12 w12 hown hgrow hnil hat
        obtain ⟨a12, c12, rfl⟩ := own_len hown
        have hcc : Chg (Value.ownBlock (.slice u11a rs.length u11c)).toList w11 w12 := ((Chg.refl _ w11).alloc _).trans (Chg.ofGrown hgrow (fun k hk => .inl (by simp [hk])))
        have eo : Value.ownBlock (.slice u11a (urisV rs).length u11c) = Value.ownBlock (.slice u11a rs.length u11c) := by cases u11a <;> rfl
        obtain ⟨hk1, hk2, hk3, hk4⟩ := hclu w12 (.slice a12 (rs.length + 1) c12) [(.string sHObj)] 1 rfl (by rw [HLUU.out]; exact hown) (by rw [eo]; exact hcc) (fun k hk => by
          rw [eo]
          rcases hat with h | h
          · exact .inl (h ▸ hk)
          · right; rw [h] at hk; simp at hk; omega)
        rw [HLUU.out] at hk1
        clear hclu hcu hou hown hgrow hnil hat hcc eo
        go_upto_region 35 with fail
        generalize w12.setCell ⟨(w.heap.size + 1), 3, none⟩ (.slice a12 (rs.length + 1) c12) = z12 at hk3 hk4 ⊢
        have HRO12 : Hid (RowsAt w.heap.size z12 (w.heap.size + 1) (.slice a11 (rs.length + 2 + 1) c11) (ptrs (cm :: sm :: rs.map (·.rb)) ++ [(.pointer (some ⟨rb, 0, none⟩))]) P0 P0 P0 P0 P0 (.bool false) ((urisV rs) ++ [(.string sHObj)]) (tgtsV obj rs) (digsV rs) []) := hk3
        have HGR12 : Hid (Grow w.heap.size wr z12) := HGR11.out.trans hk4
        have HX12 : Hid (Grow w.heap.size w10 z12) := HX11.out.trans hk4
        have hs12 : wr.heap.size ≤ z12.heap.size := HGR12.out.size
        clear hk1 hk2 hk3 hk4
        obtain ⟨u12a, u12c, hcu, hou, hclu⟩ := HRO12.out.openT
        rw [HLUT.out] at hcu hou
        have HOU : Hid (z12.ownsRow w.heap.size 24 1 (.slice u12a rs.length u12c) rs.length (tgtsV obj rs)) := hou
        go_wp2_with (at_builtin; refine wpList_append_own_at _ rfl _ _ 26 rfl w.heap.size 24 i24 (.pointer none) 1 8 Ybaf.underlying26 hi24 hz240 hz241 hz242 rfl (by decide) (.slice u12a rs.length u12c) rs.length (tgtsV obj rs) rfl (HOU.out.alloc _) ⟨z12.heap.size, 0, none⟩ 1 1 [(.pointer (some ⟨obj, 0, none⟩))] rfl rfl ?hn ?h1 (by unfold maxLen; omega) (by omega) (by simp; omega) ?_)
        case hn => exact cell_one_new _ _ _
        case h1 => simp [Value.oneCell']
        intro v13 w13 hown hgrow hnil hat
        obtain ⟨a13, c13, rfl⟩ := own_len hown
        have hcc : Chg (Value.ownBlock (.slice u12a rs.length u12c)).toList z12 w13 := ((Chg.refl _ z12).alloc _).trans (Chg.ofGrown hgrow (fun k hk => .inl (by simp [hk])))
        have eo : Value.ownBlock (.slice u12a (tgtsV obj rs).length u12c) = Value.ownBlock (.slice u12a rs.length u12c) := by cases u12a <;> rfl
        obtain ⟨hk1, hk2, hk3, hk4⟩ := hclu w13 (.slice a13 (rs.length + 1) c13) [(.pointer (some ⟨obj, 0, none⟩))] 1 rfl (by rw [HLUT.out]; exact hown) (by rw [eo]; exact hcc) (fun k hk => by
          rw [eo]
          rcases hat with h | h
          · exact .inl (h ▸ hk)
          · right; rw [h] at hk; simp at hk; omega)
        rw [HLUT.out] at hk1
        clear hclu hcu hou hown hgrow hnil hat hcc eo
        go_upto_region 36 with fail
        generalize w13.setCell ⟨(w.heap.size + 1), 4, none⟩ (.slice a13 (rs.length + 1) c13) = z13 at hk3 hk4 ⊢
        have HRO13 : Hid (RowsAt w.heap.size z13 (w.heap.size + 1) (.slice a11 (rs.length + 2 + 1) c11) (ptrs (cm :: sm :: rs.map (·.rb)) ++ [(.pointer (some ⟨rb, 0, none⟩))]) P0 P0 P0 P0 P0 (.bool false) ((urisV rs) ++ [(.string sHObj)]) ((tgtsV obj rs) ++ [(.pointer (some ⟨obj, 0, none⟩))]) (digsV rs) []) := hk3
        have HGR13 : Hid (Grow w.heap.size wr z13) := HGR12.out.trans hk4
        have HX13 : Hid (Grow w.heap.size w10 z13) := HX12.out.trans hk4
        have hs13 : wr.heap.size ≤ z13.heap.size := HGR13.out.size
        clear hk1 hk2 hk3 hk4
        obtain ⟨u13a, u13c, hcu, hou, hclu⟩ := HRO13.out.openD
        rw [HLUD.out] at hcu hou
        have HOU : Hid (z13.ownsRow w.heap.size 24 1 (.slice u13a rs.length u13c) rs.length (digsV rs)) := hou
        go_wp2_with (at_builtin; refine wpList_append_own_at _ rfl _ _ 26 rfl w.heap.size 24 i24 (.pointer none) 1 8 Ybaf.underlying26 hi24 hz240 hz241 hz242 rfl (by decide) (.slice u13a rs.length u13c) rs.length (digsV rs) rfl (HOU.out.alloc _) ⟨z13.heap.size, 0, none⟩ 1 1 [(.pointer (some ⟨dv, 0, none⟩))] rfl rfl ?hn ?h1 (by unfold maxLen; omega) (by omega) (by simp; omega) ?_)
        case hn => exact cell_one_new _ _ _
        case h1 => simp [Value.oneCell']
        intro v14 w14 hown hgrow hnil hat
        obtain ⟨a14, c14, rfl⟩ := own_len hown
        have hcc : Chg (Value.ownBlock (.slice u13a rs.length u13c)).toList z13 w14 := ((Chg.refl _ z13).alloc _).trans (Chg.ofGrown hgrow (fun k hk => .inl (by simp [hk])))
        have eo : Value.ownBlock (.slice u13a (digsV rs).length u13c) = Value.ownBlock (.slice u13a rs.length u13c) := by cases u13a <;> rfl
        obtain ⟨hk1, hk2, hk3, hk4⟩ := hclu w14 (.slice a14 (rs.length + 1) c14) [(.pointer (some ⟨dv, 0, none⟩))] 1 rfl (by rw [HLUD.out]; exact hown) (by rw [eo]; exact hcc) (fun k hk => by
          rw [eo]
          rcases hat with h | h
          · exact .inl (h ▸ hk)
          · right; rw [h] at hk; simp at hk; omega)
        rw [HLUD.out] at hk1
        clear hclu hcu hou hown hgrow hnil hat hcc eo
        go_upto_region 37 with fail
        generalize w14.setCell ⟨(w.heap.size + 1), 5, none⟩ (.slice a14 (rs.length + 1) c14) = z14 at hk3 hk4 ⊢
        have HRO14 : Hid (RowsAt w.heap.size z14 (w.heap.size + 1) (.slice a11 (rs.length + 2 + 1) c11) (ptrs (cm :: sm :: rs.map (·.rb)) ++ [(.pointer (some ⟨rb, 0, none⟩))]) P0 P0 P0 P0 P0 (.bool false) ((urisV rs) ++ [(.string sHObj)]) ((tgtsV obj rs) ++ [(.pointer (some ⟨obj, 0, none⟩))]) ((digsV rs) ++ [(.pointer (some ⟨dv, 0, none⟩))]) []) := hk3
        have HGR14 : Hid (Grow w.heap.size wr z14) := HGR13.out.trans hk4
        have HX14 : Hid (Grow w.heap.size w10 z14) := HX13.out.trans hk4
        have hs14 : wr.heap.size ≤ z14.heap.size := HGR14.out.size
        clear hk1 hk2 hk3 hk4
        have HNEW : Hid (Loop1 w.heap.size w3 z14 (w.heap.size + 1) (.slice a11 (rs.length + 2 + 1) c11) cm sm obj (rs ++ [⟨true, true, U, cSHA, rb, ts, tf, dm, dv⟩]) (fun _ => true)) := HL.out.step HGR14.out (HX14.out.ref HREF10.out) (by show w.heap.size ≤ rb; omega) (ref_ok11 _ _ _ _ _ _) HRO14.out
        go_wp2
        go_roundw
        case rel => exact ⟨rs ++ [⟨true, true, U, cSHA, rb, ts, tf, dm, dv⟩], by simp; omega, by simp, HNEW.out⟩
        case measure => simp [intOf]; omega
      · go_wp2_with fail
        refine (el_leaf w.heap.size NS sDV wr (by omega)).mono ?_
        rintro e w4 ⟨dv, rfl, hdv, hG4, hE4⟩
        have HG4 : Hid (Gro w.heap.size [] wr w4) := hG4
        have HDV4 : Hid (ElAt w4 dv dvNd []) := hE4
        have hs4 : wr.heap.size ≤ w4.heap.size := hG4.size
        clear hG4 hE4
        go_wp2_with fail
        refine (alg_new w.heap.size 0 sDM cSHA (.slice none 0 0) [] w4 (by omega) (World.ownsRow_nil _ _ _ _) (fun x hx => by cases hx) (fun x hx => by cases hx) (by simp [kidsOf])).mono ?_
        rintro e w8 ⟨dm, rfl, hdm, hG8, hE8⟩
        have HG8 : Hid (Gro w.heap.size [] w4 w8) := hG8
        have HDM8 : Hid (ElAt w8 dm (dmNd cSHA) []) := hE8
        have hs8 : wr.heap.size ≤ w8.heap.size := by have := hG8.size; omega
        clear hG8 hE8
        go_wp2_with (at_builtin; refine wpList_append_own_at _ rfl _ _ 26 rfl w.heap.size 24 i24 (.pointer none) 1 8 Ybaf.underlying26 hi24 hz240 hz241 hz242 rfl (by decide) (.slice none 0 0) 0 [] rfl (World.ownsRow_nil _ _ _ _) ⟨w8.heap.size, 0, none⟩ 2 2 [(.pointer (some ⟨dm, 0, none⟩)), (.pointer (some ⟨dv, 0, none⟩))] rfl rfl ?hn ?h1 (by decide) (by decide) (by simp; omega) ?_)
        case hn => exact cell2_new _ _ _ _
        case h1 => simp [Value.oneCell']
        intro v9 w9 hown hgrow hnil hat
        obtain ⟨a9, c9, rfl⟩ := own_len hown
        have hc9 : Chg [] w8 w9 := ((Chg.refl _ w8).alloc _).trans (Chg.ofGrown hgrow (by simp [Value.ownBlock]))
        have HP9 : Hid (w9.ownsRow w.heap.size 24 1 (.slice a9 2 c9) 2 (ptrs (kidsOf (plainKs cSHA dm dv)))) := hown
        have HG9 : Hid (Gro w.heap.size [] wr w9) := HG4.out.trans (HG8.out.trans (Gro.ofChg hc9 (by simp)))
        have HDV9 : Hid (ElAt w9 dv dvNd []) := (HDV4.out.keptG HG8.out (Soft.nil _)).keptC hc9
        have HDM9 : Hid (ElAt w9 dm (dmNd cSHA) []) := HDM8.out.keptC hc9
        have hs9 : wr.heap.size ≤ w9.heap.size := HG9.out.size
        clear hown hgrow hnil hat hc9
        have hC : Chg [] w9 (w9.alloc (.cells #[.string ⟨#[]⟩, .string sURI, .string sHObj] 46)) := (Chg.refl _ _).alloc _
        have ER : Hid (Calls Ybaf.prog 9 #[.string NS, .string sRef, .slice (some ⟨w9.heap.size, 0, none⟩) 1 1, .slice a9 2 c9] (w9.alloc (.cells #[.string ⟨#[]⟩, .string sURI, .string sHObj] 46)) fun e w' => ∃ b, e = .returned (.pointer (some ⟨b, 0, none⟩)) ∧ w9.heap.size ≤ b ∧ Gro w.heap.size [] w9 w' ∧ ElAt w' b (refNd sHObj) (kidsOf (plainKs cSHA dm dv))) := (el_attr w.heap.size w.heap.size NS sRef sURI sHObj w9.heap.size (.slice a9 2 c9) (plainKs cSHA dm dv) _ (by simp; omega) (heap_alloc_new _ _) (ownsRow_kept HP9.out hC (by simp)) (plain_all (HDM9.out.keptC hC) (HDV9.out.keptC hC)) (fun x hx => by simp only [plainKs, List.mem_cons, List.not_mem_nil, or_false] at hx; rcases hx with rfl | rfl <;> (simp only; omega)) (by simp [kidsOf, plainKs])).mono (fun e w' h => by
            obtain ⟨b, h1, h2, h3, h4⟩ := h
            exact ⟨b, h1, by simp at h2; omega, (Gro.ofChg hC (by simp)).trans h3, h4⟩)
        clear hC
        go_wp2_with fail
        refine ER.out.mono ?_
        rintro e w10 ⟨rb, rfl, hrb, hG10, hE10⟩
        have HRO10 : Hid (RowsAt w.heap.size w10 (w.heap.size + 1) (.slice va (rs.length + 2) vcap) (ptrs (cm :: sm :: rs.map (·.rb))) P0 P0 P0 P0 P0 (.bool false) (urisV rs) (tgtsV obj rs) (digsV rs) []) := HL.out.rows.keptG (HG9.out.trans hG10)
        have HREF10 : Hid (RefAt w10 ⟨false, true, U, cSHA, rb, 0, 0, dm, dv⟩) := ⟨hE10, HDM9.out.keptG hG10 (Soft.nil _), HDV9.out.keptG hG10 (Soft.nil _), (fun h => by cases h), fun h => by cases h⟩
        have HGR10 : Hid (Grow w.heap.size wr w10) := Grow.ofGro (HG9.out.trans hG10)
        have hs10 : wr.heap.size ≤ w10.heap.size := HGR10.out.size
        clear hG10 hE10 ER
        have HOI : Hid (w10.ownsRow w.heap.size 24 1 (.slice va (rs.length + 2) vcap) (rs.length + 2) (ptrs (cm :: sm :: rs.map (·.rb)))) := by have := HRO10.out.lowI; rw [HLI.out] at this; exact this
        go_wp2_with (at_builtin; refine wpList_append_own_at _ rfl _ _ 26 rfl w.heap.size 24 i24 (.pointer none) 1 8 Ybaf.underlying26 hi24 hz240 hz241 hz242 rfl (by decide) (.slice va (rs.length + 2) vcap) (rs.length + 2) (ptrs (cm :: sm :: rs.map (·.rb))) rfl (HOI.out.alloc _) ⟨w10.heap.size, 0, none⟩ 1 1 [(.pointer (some ⟨rb, 0, none⟩))] rfl rfl ?hn ?h1 (by unfold maxLen; omega) (by omega) (by simp; omega) ?_)
        case hn => exact cell_one_new _ _ _
        case h1 => simp [Value.oneCell']
        intro v11 w11 hown hgrow hnil hat
        obtain ⟨a11, c11, rfl⟩ := own_len hown
        have hc11 : Chg (Value.ownBlock (.slice va (rs.length + 2) vcap)).toList w10 w11 := ((Chg.refl _ w10).alloc _).trans (Chg.ofGrown hgrow (fun k hk => .inl (by simp [hk])))
        have hRO11 := HRO10.out.pushI (w1 := w11) (v' := .slice a11 (rs.length + 2 + 1) c11) (news := [(.pointer (some ⟨rb, 0, none⟩))]) (m := 1) rfl (by rw [HLI.out]; exact hown) hc11 (fun k hk => by
          rcases hat with h | h
          · exact .inl (h ▸ hk)
          · right; rw [h] at hk; simp at hk; omega)
        have HRO11 : Hid (RowsAt w.heap.size w11 (w.heap.size + 1) (.slice a11 (rs.length + 2 + 1) c11) (ptrs (cm :: sm :: rs.map (·.rb)) ++ [(.pointer (some ⟨rb, 0, none⟩))]) P0 P0 P0 P0 P0 (.bool false) (urisV rs) (tgtsV obj rs) (digsV rs) []) := hRO11.1
        have HGR11 : Hid (Grow w.heap.size wr w11) := HGR10.out.trans hRO11.2
        have HX11 : Hid (Grow w.heap.size w10 w11) := hRO11.2
        have hs11 : wr.heap.size ≤ w11.heap.size := HGR11.out.size
        clear hown hgrow hnil hat hc11 hRO11
        obtain ⟨u11a, u11c, hcu, hou, hclu⟩ := HRO11.out.openU
        rw [HLUU.out] at hcu hou
        have HOU : Hid (w11.ownsRow w.heap.size 9 1 (.slice u11a rs.length u11c) rs.length (urisV rs)) := hou
        go_wp2_with (at_builtin; refine wpList_append_own_at _ rfl _ _ 25 rfl w.heap.size 9 i9 (.string ⟨#[]⟩) 1 16 Ybaf.underlying25 hi9 hz90 hz91 hz92 rfl (by decide) (.slice u11a rs.length u11c) rs.length (urisV rs) rfl (HOU.out.alloc _) ⟨w11.heap.size, 0, none⟩ 1 1 [(.string sHObj)] rfl rfl ?hn ?h1 (by unfold maxLen; omega) (by omega) (by simp; omega) ?_)
        case hn => exact cell_one_new _ _ _
        case h1 => simp [Value.oneCell']
        intro v12 w12 hown hgrow hnil hat
        obtain ⟨a12, c12, rfl⟩ := own_len hown
        have hcc : Chg (Value.ownBlock (.slice u11a rs.length u11c)).toList w11 w12 := ((Chg.refl _ w11).alloc _).trans (Chg.ofGrown hgrow (fun k hk => .inl (by simp [hk])))
        have eo : Value.ownBlock (.slice u11a (urisV rs).length u11c) = Value.ownBlock (.slice u11a rs.length u11c) := by cases u11a <;> rfl
        obtain ⟨hk1, hk2, hk3, hk4⟩ := hclu w12 (.slice a12 (rs.length + 1) c12) [(.string sHObj)] 1 rfl (by rw [HLUU.out]; exact hown) (by rw [eo]; exact hcc) (fun k hk => by
          rw [eo]
          rcases hat with h | h
          · exact .inl (h ▸ hk)
          · right; rw [h] at hk; simp at hk; omega)
        rw [HLUU.out] at hk1
        clear hclu hcu hou hown hgrow hnil hat hcc eo
        go_upto_region 35 with fail
        generalize w12.setCell ⟨(w.heap.size + 1), 3, none⟩ (.slice a12 (rs.length + 1) c12) = z12 at hk3 hk4 ⊢
        have HRO12 : Hid (RowsAt w.heap.size z12 (w.heap.size + 1) (.slice a11 (rs.length + 2 + 1) c11) (ptrs (cm :: sm :: rs.map (·.rb)) ++ [(.pointer (some ⟨rb, 0, none⟩))]) P0 P0 P0 P0 P0 (.bool false) ((urisV rs) ++ [(.string sHObj)]) (tgtsV obj rs) (digsV rs) []) := hk3
        have HGR12 : Hid (Grow w.heap.size wr z12) := HGR11.out.trans hk4
        have HX12 : Hid (Grow w.heap.size w10 z12) := HX11.out.trans hk4
        have hs12 : wr.heap.size ≤ z12.heap.size := HGR12.out.size
        clear hk1 hk2 hk3 hk4
        obtain ⟨u12a, u12c, hcu, hou, hclu⟩ := HRO12.out.openT
        rw [HLUT.out] at hcu hou
        have HOU : Hid (z12.ownsRow w.heap.size 24 1 (.slice u12a rs.length u12c) rs.length (tgtsV obj rs)) := hou
        go_wp2_with (at_builtin; refine wpList_append_own_at _ rfl _ _ 26 rfl w.heap.size 24 i24 (.pointer none) 1 8 Ybaf.underlying26 hi24 hz240 hz241 hz242 rfl (by decide) (.slice u12a rs.length u12c) rs.length (tgtsV obj rs) rfl (HOU.out.alloc _) ⟨z12.heap.size, 0, none⟩ 1 1 [(.pointer (some ⟨obj, 0, none⟩))] rfl rfl ?hn ?h1 (by unfold maxLen; omega) (by omega) (by simp; omega) ?_)
        case hn => exact cell_one_new _ _ _
        case h1 => simp [Value.oneCell']
        intro v13 w13 hown hgrow hnil hat
        obtain ⟨a13, c13, rfl⟩ := own_len hown
        have hcc : Chg (Value.ownBlock (.slice u12a rs.length u12c)).toList z12 w13 := ((Chg.refl _ z12).alloc _).trans (Chg.ofGrown hgrow (fun k hk => .inl (by simp [hk])))
        have eo : Value.ownBlock (.slice u12a (tgtsV obj rs).length u12c) = Value.ownBlock (.slice u12a rs.length u12c) := by cases u12a <;> rfl
        obtain ⟨hk1, hk2, hk3, hk4⟩ := hclu w13 (.slice a13 (rs.length + 1) c13) [(.pointer (some ⟨obj, 0, none⟩))] 1 rfl (by rw [HLUT.out]; exact hown) (by rw [eo]; exact hcc) (fun k hk => by
          rw [eo]
          rcases hat with h | h
          · exact .inl (h ▸ hk)
          · right; rw [h] at hk; simp at hk; omega)
        rw [HLUT.out] at hk1
        clear hclu hcu hou hown hgrow hnil hat hcc eo
        go_upto_region 36 with fail
        generalize w13.setCell ⟨(w.heap.size + 1), 4, none⟩ (.slice a13 (rs.length + 1) c13) = z13 at hk3 hk4 ⊢
        have HRO13 : Hid (RowsAt w.heap.size z13 (w.heap.size + 1) (.slice a11 (rs.length + 2 + 1) c11) (ptrs (cm :: sm :: rs.map (·.rb)) ++ [(.pointer (some ⟨rb, 0, none⟩))]) P0 P0 P0 P0 P0 (.bool false) ((urisV rs) ++ [(.string sHObj)]) ((tgtsV obj rs) ++ [(.pointer (some ⟨obj, 0, none⟩))]) (digsV rs) []) := hk3
        have HGR13 : Hid (Grow w.heap.size wr z13) := HGR12.out.trans hk4
        have HX13 : Hid (Grow w.heap.size w10 z13) := HX12.out.trans hk4
        have hs13 : wr.heap.size ≤ z13.heap.size := HGR13.out.size
        clear hk1 hk2 hk3 hk4
        obtain ⟨u13a, u13c, hcu, hou, hclu⟩ := HRO13.out.openD
        rw [HLUD.out] at hcu hou
        have HOU : Hid (z13.ownsRow w.heap.size 24 1 (.slice u13a rs.length u13c) rs.length (digsV rs)) := hou
        go_wp2_with (at_builtin; refine wpList_append_own_at _ rfl _ _ 26 rfl w.heap.size 24 i24 (.pointer none) 1 8 Ybaf.underlying26 hi24 hz240 hz241 hz242 rfl (by decide) (.slice u13a rs.length u13c) rs.length (digsV rs) rfl (HOU.out.alloc _) ⟨z13.heap.size, 0, none⟩ 1 1 [(.pointer (some ⟨dv, 0, none⟩))] rfl rfl ?hn ?h1 (by unfold maxLen; omega) (by omega) (by simp; omega) ?_)
        case hn => exact cell_one_new _ _ _
        case h1 => simp [Value.oneCell']
        intro v14 w14 hown hgrow hnil hat
        obtain ⟨a14, c14, rfl⟩ := own_len hown
        have hcc : Chg (Value.ownBlock (.slice u13a rs.length u13c)).toList z13 w14 := ((Chg.refl _ z13).alloc _).trans (Chg.ofGrown hgrow (fun k hk => .inl (by simp [hk])))
        have eo : Value.ownBlock (.slice u13a (digsV rs).length u13c) = Value.ownBlock (.slice u13a rs.length u13c) := by cases u13a <;> rfl
        obtain ⟨hk1, hk2, hk3, hk4⟩ := hclu w14 (.slice a14 (rs.length + 1) c14) [(.pointer (some ⟨dv, 0, none⟩))] 1 rfl (by rw [HLUD.out]; exact hown) (by rw [eo]; exact hcc) (fun k hk => by
          rw [eo]
          rcases hat with h | h
          · exact .inl (h ▸ hk)
          · right; rw [h] at hk; simp at hk; omega)
        rw [HLUD.out] at hk1
        clear hclu hcu hou hown hgrow hnil hat hcc eo
        go_upto_region 37 with fail
        generalize w14.setCell ⟨(w.heap.size + 1), 5, none⟩ (.slice a14 (rs.length + 1) c14) = z14 at hk3 hk4 ⊢
        have HRO14 : Hid (RowsAt w.heap.size z14 (w.heap.size + 1) (.slice a11 (rs.length + 2 + 1) c11) (ptrs (cm :: sm :: rs.map (·.rb)) ++ [(.pointer (some ⟨rb, 0, none⟩))]) P0 P0 P0 P0 P0 (.bool false) ((urisV rs) ++ [(.string sHObj)]) ((tgtsV obj rs) ++ [(.pointer (some ⟨obj, 0, none⟩))]) ((digsV rs) ++ [(.pointer (some ⟨dv, 0, none⟩))]) []) := hk3
        have HGR14 : Hid (Grow w.heap.size wr z14) := HGR13.out.trans hk4
        have HX14 : Hid (Grow w.heap.size w10 z14) := HX13.out.trans hk4
        have hs14 : wr.heap.size ≤ z14.heap.size := HGR14.out.size
        clear hk1 hk2 hk3 hk4
        have HNEW : Hid (Loop1 w.heap.size w3 z14 (w.heap.size + 1) (.slice a11 (rs.length + 2 + 1) c11) cm sm obj (rs ++ [⟨false, true, U, cSHA, rb, 0, 0, dm, dv⟩]) (fun _ => true)) := HL.out.step HGR14.out (HX14.out.ref HREF10.out) (by show w.heap.size ≤ rb; omega) (ref_ok01 _ _ _ _ _ _) HRO14.out
        go_wp2
        go_roundw
        case rel => exact ⟨rs ++ [⟨false, true, U, cSHA, rb, 0, 0, dm, dv⟩], by simp; omega, by simp, HNEW.out⟩
        case measure => simp [intOf]; omega
    · have hki : ¬ (rs.length : Int) < (nr : Int) := by omega
      have hki' : (nr : Int) ≤ (rs.length : Int) := by omega
      have hnl : rs.length = nr := by omega
      have HNL : Hid (rs.length = nr) := hnl
      clear hnl
      have HROr : Hid (RowsAt w.heap.size wr (w.heap.size + 1) (.slice va (rs.length + 2) vcap) (ptrs (cm :: sm :: rs.map (·.rb))) P0 P0 P0 P0 P0 (.bool false) (urisV rs) (tgtsV obj rs) (digsV rs) []) := HL.out.rows
      have HOKS : Hid (∀ (j : Nat) (r : RefD), rs[j]? = some r → r.ok = (fun _ => true) j) := HL.out.ok
      have HGW3r : Hid (Grow w.heap.size w3 wr) := HL.out.grow
      have HRFr : Hid (∀ r, r ∈ rs → RefAt wr r ∧ w.heap.size ≤ r.rb) := HL.out.refs
      go_wp2_with fail
      refine (alg_new w.heap.size 0 sTF cC14 (.slice none 0 0) [] wr (by omega) (World.ownsRow_nil _ _ _ _) (fun x hx => by cases hx) (fun x hx => by cases hx) (by simp [kidsOf])).mono ?_
      rintro e w5 ⟨tf, rfl, htf, hG5, hE5⟩
      have HG5 : Hid (Gro w.heap.size [] wr w5) := hG5
      have HTF5 : Hid (ElAt w5 tf tfNd []) := hE5
      have hs5 : wr.heap.size ≤ w5.heap.size := hG5.size
      clear hG5 hE5
      go_wp2_with fail
      refine (el_ks w.heap.size w.heap.size NS sTS (.slice (some ⟨w5.heap.size, 0, none⟩) 1 1) [(tf, tfNd, [])] (w5.alloc (.cells #[(.pointer (some ⟨tf, 0, none⟩))] 24)) (by simp; omega) (own_b1 _ _ _ (by omega)) (one_all (HTF5.out.keptG ((Gro.refl w.heap.size [] _).alloc _) (Soft.nil _))) (one_low (by show w.heap.size ≤ tf; omega)) (by simp [kidsOf])).mono ?_
      rintro e w6 ⟨ts, rfl, hts, hG6, hE6, -⟩
      have HG6 : Hid (Gro w.heap.size [] w5 w6) := ((Gro.refl _ _ _).alloc _).trans hG6
      have HTS6 : Hid (ElAt w6 ts tsNd [tf]) := hE6
      have hs6 : wr.heap.size ≤ w6.heap.size := by have := HG6.out.size; omega
      clear hG6 hE6
      simp at hts
      go_wp2_with fail
      refine (alg_new w.heap.size 0 sDM cSHA (.slice none 0 0) [] w6 (by omega) (World.ownsRow_nil _ _ _ _) (fun x hx => by cases hx) (fun x hx => by cases hx) (by simp [kidsOf])).mono ?_
      rintro e w7 ⟨dm, rfl, hdm, hG7, hE7⟩
      have HG7 : Hid (Gro w.heap.size [] w6 w7) := hG7
      have HDM7 : Hid (ElAt w7 dm (dmNd cSHA) []) := hE7
      have hs7 : wr.heap.size ≤ w7.heap.size := by have := hG7.size; omega
      clear hG7 hE7
      go_wp2_with fail
      refine (el_leaf w.heap.size NS sDV w7 (by omega)).mono ?_
      rintro e w8 ⟨dv, rfl, hdv, hG8, hE8⟩
      have HG8 : Hid (Gro w.heap.size [] w7 w8) := hG8
      have HDV8 : Hid (ElAt w8 dv dvNd []) := hE8
      have hs8 : wr.heap.size ≤ w8.heap.size := by have := hG8.size; omega
      clear hG8 hE8
      have hC : Chg [] w8 ((w8.alloc (.cells #[(.pointer (some ⟨ts, 0, none⟩)), (.pointer (some ⟨dm, 0, none⟩)), (.pointer (some ⟨dv, 0, none⟩))] 24)).alloc (.cells #[.string ⟨#[]⟩, .string sURI, .string ⟨#[120]⟩] 46)) := ((Chg.refl _ _).alloc _).alloc _
      have ER : Hid (Calls Ybaf.prog 9 #[.string NS, .string sRef, .slice (some ⟨w8.heap.size + 1, 0, none⟩) 1 1, .slice (some ⟨w8.heap.size, 0, none⟩) 3 3] ((w8.alloc (.cells #[(.pointer (some ⟨ts, 0, none⟩)), (.pointer (some ⟨dm, 0, none⟩)), (.pointer (some ⟨dv, 0, none⟩))] 24)).alloc (.cells #[.string ⟨#[]⟩, .string sURI, .string ⟨#[120]⟩] 46)) fun e w' => ∃ b, e = .returned (.pointer (some ⟨b, 0, none⟩)) ∧ w8.heap.size ≤ b ∧ Gro w.heap.size [] w8 w' ∧ ElAt w' b (refNd ⟨#[120]⟩) (kidsOf (transKs cSHA ts tf dm dv))) := (el_attr w.heap.size w.heap.size NS sRef sURI ⟨#[120]⟩ (w8.heap.size + 1) (.slice (some ⟨w8.heap.size, 0, none⟩) 3 3) (transKs cSHA ts tf dm dv) _ (by simp; omega) (heap_new2 _ _ _) (ownsRow_kept (l := []) (own_b3 _ w8 _ _ _ (by omega)) ((Chg.refl _ _).alloc _) (by simp)) (trans_all ((HDM7.out.keptG HG8.out (Soft.nil _)).keptC hC) (HDV8.out.keptC hC) ((HTS6.out.keptG (HG7.out.trans HG8.out) (Soft.nil _)).keptC hC)) (fun x hx => by simp only [transKs, List.mem_cons, List.not_mem_nil, or_false] at hx; rcases hx with rfl | rfl | rfl <;> (simp only; omega)) (by simp [kidsOf, transKs])).mono (fun e w' h => by
          obtain ⟨b, h1, h2, h3, h4⟩ := h
          exact ⟨b, h1, by simp at h2; omega, (Gro.ofChg hC (by simp)).trans h3, h4⟩)
      clear hC
      go_wp2_with fail
      refine ER.out.mono ?_
      rintro e w10 ⟨rb7, rfl, hrb, hG10, hE10⟩
      have HGr10 : Hid (Gro w.heap.size [] wr w10) := (HG5.out.trans HG6.out).trans (HG7.out.trans (HG8.out.trans hG10))
      have HREF10 : Hid (RefAt w10 ⟨true, false, ⟨#[120]⟩, cSHA, rb7, ts, tf, dm, dv⟩) := ⟨hE10, HDM7.out.keptG (HG8.out.trans hG10) (Soft.nil _), HDV8.out.keptG hG10 (Soft.nil _), fun _ => ⟨HTS6.out.keptG (HG7.out.trans (HG8.out.trans hG10)) (Soft.nil _), HTF5.out.keptG (HG6.out.trans (HG7.out.trans (HG8.out.trans hG10))) (Soft.nil _)⟩, fun _ => rfl⟩
      have hs10 : wr.heap.size ≤ w10.heap.size := HGr10.out.size
      clear hG10 hE10 ER
      have HRO10 : Hid (RowsAt w.heap.size w10 (w.heap.size + 1) (.slice va (rs.length + 2) vcap) (ptrs (cm :: sm :: rs.map (·.rb))) P0 P0 P0 P0 P0 (.bool false) (urisV rs) (tgtsV obj rs) (digsV rs) []) := HROr.out.keptG HGr10.out
      have HOI : Hid (w10.ownsRow w.heap.size 24 1 (.slice va (rs.length + 2) vcap) (rs.length + 2) (ptrs (cm :: sm :: rs.map (·.rb)))) := by have := HRO10.out.lowI; rw [HLI.out] at this; exact this
      go_wp2_with (at_builtin; refine wpList_append_own_at _ rfl _ _ 26 rfl w.heap.size 24 i24 (.pointer none) 1 8 Ybaf.underlying26 hi24 hz240 hz241 hz242 rfl (by decide) (.slice va (rs.length + 2) vcap) (rs.length + 2) (ptrs (cm :: sm :: rs.map (·.rb))) rfl (HOI.out.alloc _) ⟨w10.heap.size, 0, none⟩ 1 1 [(.pointer (some ⟨rb7, 0, none⟩))] rfl rfl ?hn ?h1 (by unfold maxLen; omega) (by omega) (by simp; omega) ?_)
      case hn => exact cell_one_new _ _ _
      case h1 => simp [Value.oneCell']
      intro v11 w11 hown hgrow hnil hat
      obtain ⟨a11, c11, rfl⟩ := own_len hown
      have hc11 : Chg (Value.ownBlock (.slice va (rs.length + 2) vcap)).toList w10 w11 := ((Chg.refl _ w10).alloc _).trans (Chg.ofGrown hgrow (fun k hk => .inl (by simp [hk])))
      have hRO11 := HRO10.out.pushI (w1 := w11) (v' := .slice a11 (rs.length + 2 + 1) c11) (news := [(.pointer (some ⟨rb7, 0, none⟩))]) (m := 1) rfl (by rw [HLI.out]; exact hown) hc11 (fun k hk => by
        rcases hat with h | h
        · exact .inl (h ▸ hk)
        · right; rw [h] at hk; simp at hk; omega)
      have HRO11 : Hid (RowsAt w.heap.size w11 (w.heap.size + 1) (.slice a11 (rs.length + 2 + 1) c11) (ptrs (cm :: sm :: rs.map (·.rb)) ++ [(.pointer (some ⟨rb7, 0, none⟩))]) P0 P0 P0 P0 P0 (.bool false) (urisV rs) (tgtsV obj rs) (digsV rs) []) := hRO11.1
      have HGX : Hid (Grow w.heap.size wr w11) := (Grow.ofGro HGr10.out).trans hRO11.2
      have HX11 : Hid (Grow w.heap.size w10 w11) := hRO11.2
      clear hown hgrow hnil hat hc11 hRO11
      have HRF : Hid (∀ r, r ∈ (rs ++ [⟨true, false, ⟨#[120]⟩, cSHA, rb7, ts, tf, dm, dv⟩]) → RefAt w11 r ∧ w.heap.size ≤ r.rb) := fun r hr => by
        rcases List.mem_append.1 hr with h | h
        · exact ⟨HGX.out.ref (HRFr.out r h).1, (HRFr.out r h).2⟩
        · obtain rfl := List.mem_singleton.1 h
          exact ⟨HX11.out.ref HREF10.out, by show w.heap.size ≤ rb7; omega⟩
      have HOWI : Hid (w11.ownsRow w.heap.size 24 1 (.slice a11 (rs.length + 2 + 1) c11) (kidsOf (infoKs cm sm cC14 cRSA [] (rs ++ [⟨true, false, ⟨#[120]⟩, cSHA, rb7, ts, tf, dm, dv⟩]))).length (ptrs (kidsOf (infoKs cm sm cC14 cRSA [] (rs ++ [⟨true, false, ⟨#[120]⟩, cSHA, rb7, ts, tf, dm, dv⟩]))))) := own_info7 rfl HRO11.out.lowI
      have HG3W : Hid (Grow w.heap.size w3 w11) := HGW3r.out.trans HGX.out
      have hsW : w.heap.size + 2 ≤ w11.heap.size := by have := HG3W.out.size; omega
      have HAI : Hid (AllAt w11 (infoKs cm sm cC14 cRSA [] (rs ++ [⟨true, false, ⟨#[120]⟩, cSHA, rb7, ts, tf, dm, dv⟩]))) := info_all (HG3W.out.el HCM.out) (HG3W.out.el HSM.out) (fun r hr => (HRF.out r hr).1)
      go_wp2_with fail
      refine (el_ks w.heap.size w.heap.size NS sSI (.slice a11 (rs.length + 2 + 1) c11) (infoKs cm sm cC14 cRSA [] (rs ++ [⟨true, false, ⟨#[120]⟩, cSHA, rb7, ts, tf, dm, dv⟩])) w11 (by omega) HOWI.out HAI.out (info_low hcml hsml (fun r hr => (HRF.out r hr).2)) (by rw [kids_info]; simp; omega)).mono ?_
      rintro e w20 ⟨si, rfl, hsi, hG20, hE20, -⟩
      have HG20 : Hid (Gro w.heap.size [] w11 w20) := hG20
      have HSI20 : Hid (ElAt w20 si siNd (kidsOf (infoKs cm sm cC14 cRSA [] (rs ++ [⟨true, false, ⟨#[120]⟩, cSHA, rb7, ts, tf, dm, dv⟩])))) := hE20
      have HRO20 : Hid (RowsAt w.heap.size w20 (w.heap.size + 1) (.slice a11 (rs.length + 2 + 1) c11) (ptrs (cm :: sm :: rs.map (·.rb)) ++ [(.pointer (some ⟨rb7, 0, none⟩))]) P0 P0 P0 P0 P0 (.bool false) (urisV rs) (tgtsV obj rs) (digsV rs) []) := HRO11.out.keptG hG20
      clear hG20 hE20
      obtain ⟨⟨ou, hcu⟩, hfu, hk3, hk4⟩ := HRO20.out.set1 (.pointer (some ⟨si, 0, none⟩))
      go_upto_region 42 with fail
      generalize w20.setCell ⟨(w.heap.size + 1), 1, none⟩ (.pointer (some ⟨si, 0, none⟩)) = z20 at hk3 hk4 ⊢
      have HROz20 : Hid (RowsAt w.heap.size z20 (w.heap.size + 1) (.slice a11 (rs.length + 2 + 1) c11) (ptrs (cm :: sm :: rs.map (·.rb)) ++ [(.pointer (some ⟨rb7, 0, none⟩))]) P0 (.pointer (some ⟨si, 0, none⟩)) P0 P0 P0 (.bool false) (urisV rs) (tgtsV obj rs) (digsV rs) []) := hk3
      have HGz20 : Hid (Grow w.heap.size w20 z20) := hk4
      have hsz20 : w.heap.size + 2 ≤ z20.heap.size := by have := HGz20.out.size; have := HG20.out.size; omega
      clear hcu hfu hk3 hk4
      go_wp2_with fail
      refine (el_leaf w.heap.size NS sSV z20 (by omega)).mono ?_
      rintro e w21 ⟨sv, rfl, hsv, hG21, hE21⟩
      have HG21 : Hid (Gro w.heap.size [] z20 w21) := hG21
      have HSV21 : Hid (ElAt w21 sv svNd []) := hE21
      have HRO21 : Hid (RowsAt w.heap.size w21 (w.heap.size + 1) (.slice a11 (rs.length + 2 + 1) c11) (ptrs (cm :: sm :: rs.map (·.rb)) ++ [(.pointer (some ⟨rb7, 0, none⟩))]) P0 (.pointer (some ⟨si, 0, none⟩)) P0 P0 P0 (.bool false) (urisV rs) (tgtsV obj rs) (digsV rs) []) := HROz20.out.keptG hG21
      clear hG21 hE21
      obtain ⟨⟨ou, hcu⟩, hfu, hk3, hk4⟩ := HRO21.out.set2 (.pointer (some ⟨sv, 0, none⟩))
      go_upto_region 43 with fail
      generalize w21.setCell ⟨(w.heap.size + 1), 2, none⟩ (.pointer (some ⟨sv, 0, none⟩)) = z21 at hk3 hk4 ⊢
      have HROz21 : Hid (RowsAt w.heap.size z21 (w.heap.size + 1) (.slice a11 (rs.length + 2 + 1) c11) (ptrs (cm :: sm :: rs.map (·.rb)) ++ [(.pointer (some ⟨rb7, 0, none⟩))]) P0 (.pointer (some ⟨si, 0, none⟩)) (.pointer (some ⟨sv, 0, none⟩)) P0 P0 (.bool false) (urisV rs) (tgtsV obj rs) (digsV rs) []) := hk3
      have HGz21 : Hid (Grow w.heap.size w21 z21) := hk4
      clear hcu hfu hk3 hk4
      have HGA : Hid (Grow w.heap.size w11 z21) := (Grow.ofGro HG20.out).trans (HGz20.out.trans ((Grow.ofGro HG21.out).trans HGz21.out))
      have HG3z : Hid (Grow w.heap.size w3 z21) := HG3W.out.trans HGA.out
      have HSIz : Hid (ElAt z21 si siNd (kidsOf (infoKs cm sm cC14 cRSA [] (rs ++ [⟨true, false, ⟨#[120]⟩, cSHA, rb7, ts, tf, dm, dv⟩])))) := (HGz20.out.trans ((Grow.ofGro HG21.out).trans HGz21.out)).el HSI20.out
      have HSVz : Hid (ElAt z21 sv svNd []) := HGz21.out.el HSV21.out
      have HAIz : Hid (AllAt z21 (infoKs cm sm cC14 cRSA [] (rs ++ [⟨true, false, ⟨#[120]⟩, cSHA, rb7, ts, tf, dm, dv⟩]))) := HGA.out.all HAI.out
      have HRFz : Hid (∀ r, r ∈ (rs ++ [⟨true, false, ⟨#[120]⟩, cSHA, rb7, ts, tf, dm, dv⟩]) → RefAt z21 r) := fun r hr => HGA.out.ref (HRF.out r hr).1
      have HOBz : Hid (ElAt z21 obj obNd []) := HG3z.out.el HOB.out
      have hsz : w.heap.size + 2 ≤ z21.heap.size := by have := HG3z.out.size; omega
      have hsil : w.heap.size ≤ si := by omega
      have hsvl : w.heap.size ≤ sv := by omega
      have HL2 : Hid (Loop2 w.heap.size z21 z21 (w.heap.size + 1) (.slice none 0 0) (.pointer (some ⟨si, 0, none⟩)) (.pointer (some ⟨sv, 0, none⟩)) (urisV rs) (tgtsV obj rs) (digsV rs) []) := ⟨HROz21.out.newI, Grow.refl _ _, fun k hk => by cases hk⟩
      clear HL HROr HRO20 HROz20 HRO21 HROz21 HL1
      go_wp2_with fail
      go_loopw [25, 159] (fun vi i wr => ∃ (kis : List KiD), kis.length ≤ ni ∧ i = .int .i64 kis.length ∧ Loop2 w.heap.size z21 wr (w.heap.size + 1) vi (.pointer (some ⟨si, 0, none⟩)) (.pointer (some ⟨sv, 0, none⟩)) (urisV rs) (tgtsV obj rs) (digsV rs) kis) (fun _ i _ => ni - (intOf i).toNat)
      case atStart => exact ⟨[], Nat.zero_le _, rfl, HL2.out⟩
      case round =>
        obtain ⟨kis, hkl, rfl, hL⟩ := hrel
        have hli : (ptrs (kis.map KiD.b)).length = kis.length := by simp [ptrs]
        have hI := hL.rows.lowI
        rw [hli] at hI
        obtain ⟨va, vcap, rfl⟩ := own_len hI
        have HLI : Hid ((ptrs (kis.map KiD.b)).length = kis.length) := hli
        clear hI hli
        have HL : Hid (Loop2 w.heap.size z21 wr (w.heap.size + 1) (.slice va kis.length vcap) (.pointer (some ⟨si, 0, none⟩)) (.pointer (some ⟨sv, 0, none⟩)) (urisV rs) (tgtsV obj rs) (digsV rs) kis) := hL
        have HCB : Hid ((kiCerts kis).length ≤ 2 * kis.length) := kiCerts_le (fun k hk => (hL.kis k hk).2.2)
        have hsr : w.heap.size + 2 ≤ wr.heap.size := by have := hL.grow.size; omega
        clear hL
        by_cases hlt : kis.length < ni
        · have hqi : (kis.length : Int) < (ni : Int) := by omega
          obtain ⟨bb, oo, rfl, x, hx, hx0, hx1⟩ := HI.out.at (S := 0) (HGW3.out.trans (HG3z.out.trans HL.out.grow)) hlt
          go_upto_region 50 with fail
          have hk0 : 0 ≤ x % 5 := by omega
          have hk3 : x % 5 < 5 := by omega
          generalize x % 5 = kk at *
          clear hx hx0 hx1
          have hkk : kk = 0 ∨ kk = 1 ∨ kk = 2 ∨ kk = 3 ∨ kk = 4 := by omega
          clear hk0 hk3
          rcases hkk with rfl | rfl | rfl | rfl | rfl
          · go_wp2_with fail
            refine (el_leaf w.heap.size NS sXC wr (by omega)).mono ?_
            rintro e wa ⟨cc, rfl, hcc, hG, hE⟩
            have HG_wa : Hid (Gro w.heap.size [] wr wa) := hG
            have HE_cc : Hid (ElAt wa cc (xcNd NS) []) := hE
            have hs_wa : wr.heap.size ≤ wa.heap.size := by have := hG.size; omega
            clear hG hE
            go_wp2_with fail
            refine (el_leaf w.heap.size NS sXS wa (by omega)).mono ?_
            rintro e wb2 ⟨ss, rfl, hss, hG, hE⟩
            have HG_wb2 : Hid (Gro w.heap.size [] wa wb2) := hG
            have HE_ss : Hid (ElAt wb2 ss xsNd []) := hE
            have hs_wb2 : wr.heap.size ≤ wb2.heap.size := by have := hG.size; omega
            clear hG hE
            go_wp2_with fail
            refine (el_ks w.heap.size w.heap.size NS sXD (.slice (some ⟨wb2.heap.size, 0, none⟩) 2 2) [(ss, xsNd, []), (cc, xcNd NS, [])] (wb2.alloc (.cells #[(.pointer (some ⟨ss, 0, none⟩)), (.pointer (some ⟨cc, 0, none⟩))] 24)) (by simp; omega) (own_b2 _ _ _ _ (by omega)) (pair_all (HE_ss.out.keptG ((Gro.refl w.heap.size [] _).alloc _) (Soft.nil _)) (HE_cc.out.keptG (HG_wb2.out.trans ((Gro.refl w.heap.size [] _).alloc _)) (Soft.nil _))) (pair_low (by show w.heap.size ≤ ss; omega) (by show w.heap.size ≤ cc; omega)) (by simp [kidsOf])).mono ?_
            rintro e wd ⟨dd, rfl, hdd, hG, hE, -⟩
            have HG_wd : Hid (Gro w.heap.size [] wb2 wd) := ((Gro.refl _ _ _).alloc _).trans hG
            have HE_dd : Hid (ElAt wd dd xdNd (kidsOf [(ss, xsNd, []), (cc, xcNd NS, [])])) := hE
            have hs_wd : wr.heap.size ≤ wd.heap.size := by have := HG_wd.out.size; omega
            clear hG hE
            simp at hdd
            have HGd : Hid (Gro w.heap.size [] wr wd) := HG_wa.out.trans (HG_wb2.out.trans HG_wd.out)
            have HKI : Hid (KiAt wd (.data dd [(ss, xsNd, []), (cc, xcNd NS, [])]) ∧ KiD.plain (.data dd [(ss, xsNd, []), (cc, xcNd NS, [])])) := ⟨⟨HE_dd.out, pair_all (HE_ss.out.keptG HG_wd.out (Soft.nil _)) (HE_cc.out.keptG (HG_wb2.out.trans HG_wd.out) (Soft.nil _)), by simp⟩, fun x hx => by simp only [List.mem_cons, List.not_mem_nil, or_false] at hx; rcases hx with rfl | rfl <;> exact ⟨rfl, rfl⟩⟩
            have HROd : Hid (RowsAt w.heap.size wd (w.heap.size + 1) (.slice va kis.length vcap) (ptrs (kis.map KiD.b)) P0 (.pointer (some ⟨si, 0, none⟩)) (.pointer (some ⟨sv, 0, none⟩)) (kiMo kis) (kiEx kis) (.bool false) (urisV rs) (tgtsV obj rs) (digsV rs) (ptrs (kiCerts kis))) := HL.out.rows.keptG HGd.out
            have HOI : Hid (wd.ownsRow w.heap.size 24 1 (.slice va kis.length vcap) kis.length (ptrs (kis.map KiD.b))) := by have := HROd.out.lowI; rw [HLI.out] at this; exact this
            go_wp2_with (at_builtin; refine wpList_append_own_at _ rfl _ _ 26 rfl w.heap.size 24 i24 (.pointer none) 1 8 Ybaf.underlying26 hi24 hz240 hz241 hz242 rfl (by decide) (.slice va kis.length vcap) kis.length (ptrs (kis.map KiD.b)) rfl (HOI.out.alloc _) ⟨wd.heap.size, 0, none⟩ 1 1 [(.pointer (some ⟨dd, 0, none⟩))] rfl rfl ?hn ?h1 (by unfold maxLen; omega) (by omega) (by simp; omega) ?_)
            case hn => exact cell_one_new _ _ _
            case h1 => simp [Value.oneCell']
            intro v11 w11 hown hgrow hnil hat
            obtain ⟨a11, c11, rfl⟩ := own_len hown
            have hc11 : Chg (Value.ownBlock (.slice va kis.length vcap)).toList wd w11 := ((Chg.refl _ wd).alloc _).trans (Chg.ofGrown hgrow (fun k hk => .inl (by simp [hk])))
            have hRO11 := HROd.out.pushI (w1 := w11) (v' := .slice a11 (kis.length + 1) c11) (news := [(.pointer (some ⟨dd, 0, none⟩))]) (m := 1) rfl (by rw [HLI.out]; exact hown) hc11 (fun k hk => by
              rcases hat with h | h
              · exact .inl (h ▸ hk)
              · right; rw [h] at hk; simp at hk; omega)
            have HRO11 : Hid (RowsAt w.heap.size w11 (w.heap.size + 1) (.slice a11 (kis.length + 1) c11) (ptrs (kis.map KiD.b) ++ [(.pointer (some ⟨dd, 0, none⟩))]) P0 (.pointer (some ⟨si, 0, none⟩)) (.pointer (some ⟨sv, 0, none⟩)) (kiMo kis) (kiEx kis) (.bool false) (urisV rs) (tgtsV obj rs) (digsV rs) (ptrs (kiCerts kis))) := hRO11.1
            have HX11 : Hid (Grow w.heap.size wd w11) := hRO11.2
            have hs11 : wr.heap.size ≤ w11.heap.size := by have := HGd.out.size; have := hRO11.2.size; omega
            clear hown hgrow hnil hat hc11 hRO11
            obtain ⟨ua, uc, hcu, hou, hclu⟩ := HRO11.out.openC
            have hlc : (ptrs (kiCerts kis)).length = (kiCerts kis).length := by simp [ptrs]
            rw [hlc] at hcu hou
            have HLC : Hid ((ptrs (kiCerts kis)).length = (kiCerts kis).length) := hlc
            have HOU : Hid (w11.ownsRow w.heap.size 24 1 (.slice ua (kiCerts kis).length uc) (kiCerts kis).length (ptrs (kiCerts kis))) := hou
            have hcb := HCB.out
            clear hlc
            go_wp2_with (at_builtin; refine wpList_append_own_at _ rfl _ _ 26 rfl w.heap.size 24 i24 (.pointer none) 1 8 Ybaf.underlying26 hi24 hz240 hz241 hz242 rfl (by decide) (.slice ua (kiCerts kis).length uc) (kiCerts kis).length (ptrs (kiCerts kis)) rfl (HOU.out.alloc _) ⟨w11.heap.size, 0, none⟩ 1 1 [(.pointer (some ⟨cc, 0, none⟩))] rfl rfl ?hn ?h1 (by unfold maxLen; omega) (by omega) (by simp; omega) ?_)
            case hn => exact cell_one_new _ _ _
            case h1 => simp [Value.oneCell']
            intro v12 w12 hown hgrow hnil hat
            obtain ⟨a12, c12, rfl⟩ := own_len hown
            have hcc : Chg (Value.ownBlock (.slice ua (kiCerts kis).length uc)).toList w11 w12 := ((Chg.refl _ w11).alloc _).trans (Chg.ofGrown hgrow (fun k hk => .inl (by simp [hk])))
            have eo : Value.ownBlock (.slice ua (ptrs (kiCerts kis)).length uc) = Value.ownBlock (.slice ua (kiCerts kis).length uc) := by cases ua <;> rfl
            obtain ⟨hk1, hk2, hk3, hk4⟩ := hclu w12 (.slice a12 ((kiCerts kis).length + 1) c12) [(.pointer (some ⟨cc, 0, none⟩))] 1 rfl (by rw [HLC.out]; exact hown) (by rw [eo]; exact hcc) (fun k hk => by
              rw [eo]
              rcases hat with h | h
              · exact .inl (h ▸ hk)
              · right; rw [h] at hk; simp at hk; omega)
            rw [HLC.out] at hk1
            clear hclu hcu hou hown hgrow hnil hat hcc eo hcb
            go_upto_region 68 with fail
            generalize w12.setCell ⟨(w.heap.size + 1), 6, none⟩ (.slice a12 ((kiCerts kis).length + 1) c12) = z12 at hk3 hk4 ⊢
            have HRO12 : Hid (RowsAt w.heap.size z12 (w.heap.size + 1) (.slice a11 (kis.length + 1) c11) (ptrs (kis.map KiD.b) ++ [(.pointer (some ⟨dd, 0, none⟩))]) P0 (.pointer (some ⟨si, 0, none⟩)) (.pointer (some ⟨sv, 0, none⟩)) (kiMo kis) (kiEx kis) (.bool false) (urisV rs) (tgtsV obj rs) (digsV rs) (ptrs (kiCerts kis) ++ [(.pointer (some ⟨cc, 0, none⟩))])) := hk3
            have HX12 : Hid (Grow w.heap.size wd z12) := HX11.out.trans hk4
            clear hk1 hk2 hk3 hk4
            have HCE : Hid (KiD.certs (.data dd [(ss, xsNd, []), (cc, xcNd NS, [])]) = [cc]) := certs0 ss cc
            have HNEW : Hid (Loop2 w.heap.size z21 z12 (w.heap.size + 1) (.slice a11 (kis.length + 1) c11) (.pointer (some ⟨si, 0, none⟩)) (.pointer (some ⟨sv, 0, none⟩)) (urisV rs) (tgtsV obj rs) (digsV rs) (kis ++ [.data dd [(ss, xsNd, []), (cc, xcNd NS, [])]])) := HL.out.step ((Grow.ofGro HGd.out).trans HX12.out) ⟨HX12.out.ki HKI.out.1, HKI.out.2⟩ (by show w.heap.size ≤ dd; omega) (by rw [HCE.out]; simp) (by rw [HCE.out]; exact HRO12.out)
            go_wp2
            go_roundw
            case rel => exact ⟨kis ++ [.data dd [(ss, xsNd, []), (cc, xcNd NS, [])]], by simp; omega, by simp, HNEW.out⟩
            case measure => simp [intOf]; omega
          · go_wp2_with fail
            refine (el_leaf w.heap.size NS sXC wr (by omega)).mono ?_
            rintro e wa ⟨cc, rfl, hcc, hG, hE⟩
            have HG_wa : Hid (Gro w.heap.size [] wr wa) := hG
            have HE_cc : Hid (ElAt wa cc (xcNd NS) []) := hE
            have hs_wa : wr.heap.size ≤ wa.heap.size := by have := hG.size; omega
            clear hG hE
            go_wp2_with fail
            refine (el_leaf w.heap.size NS sXC wa (by omega)).mono ?_
            rintro e wb2 ⟨ss, rfl, hss, hG, hE⟩
            have HG_wb2 : Hid (Gro w.heap.size [] wa wb2) := hG
            have HE_ss : Hid (ElAt wb2 ss (xcNd NS) []) := hE
            have hs_wb2 : wr.heap.size ≤ wb2.heap.size := by have := hG.size; omega
            clear hG hE
            go_wp2_with fail
            refine (el_ks w.heap.size w.heap.size NS sXD (.slice (some ⟨wb2.heap.size, 0, none⟩) 2 2) [(cc, xcNd NS, []), (ss, xcNd NS, [])] (wb2.alloc (.cells #[(.pointer (some ⟨cc, 0, none⟩)), (.pointer (some ⟨ss, 0, none⟩))] 24)) (by simp; omega) (own_b2 _ _ _ _ (by omega)) (pair_all (HE_cc.out.keptG (HG_wb2.out.trans ((Gro.refl w.heap.size [] _).alloc _)) (Soft.nil _)) (HE_ss.out.keptG ((Gro.refl w.heap.size [] _).alloc _) (Soft.nil _))) (pair_low (by show w.heap.size ≤ cc; omega) (by show w.heap.size ≤ ss; omega)) (by simp [kidsOf])).mono ?_
            rintro e wd ⟨dd, rfl, hdd, hG, hE, -⟩
            have HG_wd : Hid (Gro w.heap.size [] wb2 wd) := ((Gro.refl _ _ _).alloc _).trans hG
            have HE_dd : Hid (ElAt wd dd xdNd (kidsOf [(cc, xcNd NS, []), (ss, xcNd NS, [])])) := hE
            have hs_wd : wr.heap.size ≤ wd.heap.size := by have := HG_wd.out.size; omega
            clear hG hE
            simp at hdd
            have HGd : Hid (Gro w.heap.size [] wr wd) := HG_wa.out.trans (HG_wb2.out.trans HG_wd.out)
            have HKI : Hid (KiAt wd (.data dd [(cc, xcNd NS, []), (ss, xcNd NS, [])]) ∧ KiD.plain (.data dd [(cc, xcNd NS, []), (ss, xcNd NS, [])])) := ⟨⟨HE_dd.out, pair_all (HE_cc.out.keptG (HG_wb2.out.trans HG_wd.out) (Soft.nil _)) (HE_ss.out.keptG HG_wd.out (Soft.nil _)), by simp⟩, fun x hx => by simp only [List.mem_cons, List.not_mem_nil, or_false] at hx; rcases hx with rfl | rfl <;> exact ⟨rfl, rfl⟩⟩
            have HROd : Hid (RowsAt w.heap.size wd (w.heap.size + 1) (.slice va kis.length vcap) (ptrs (kis.map KiD.b)) P0 (.pointer (some ⟨si, 0, none⟩)) (.pointer (some ⟨sv, 0, none⟩)) (kiMo kis) (kiEx kis) (.bool false) (urisV rs) (tgtsV obj rs) (digsV rs) (ptrs (kiCerts kis))) := HL.out.rows.keptG HGd.out
            have HOI : Hid (wd.ownsRow w.heap.size 24 1 (.slice va kis.length vcap) kis.length (ptrs (kis.map KiD.b))) := by have := HROd.out.lowI; rw [HLI.out] at this; exact this
            go_wp2_with (at_builtin; refine wpList_append_own_at _ rfl _ _ 26 rfl w.heap.size 24 i24 (.pointer none) 1 8 Ybaf.underlying26 hi24 hz240 hz241 hz242 rfl (by decide) (.slice va kis.length vcap) kis.length (ptrs (kis.map KiD.b)) rfl (HOI.out.alloc _) ⟨wd.heap.size, 0, none⟩ 1 1 [(.pointer (some ⟨dd, 0, none⟩))] rfl rfl ?hn ?h1 (by unfold maxLen; omega) (by omega) (by simp; omega) ?_)
            case hn => exact cell_one_new _ _ _
            case h1 => simp [Value.oneCell']
            intro v11 w11 hown hgrow hnil hat
            obtain ⟨a11, c11, rfl⟩ := own_len hown
            have hc11 : Chg (Value.ownBlock (.slice va kis.length vcap)).toList wd w11 := ((Chg.refl _ wd).alloc _).trans (Chg.ofGrown hgrow (fun k hk => .inl (by simp [hk])))
            have hRO11 := HROd.out.pushI (w1 := w11) (v' := .slice a11 (kis.length + 1) c11) (news := [(.pointer (some ⟨dd, 0, none⟩))]) (m := 1) rfl (by rw [HLI.out]; exact hown) hc11 (fun k hk => by
              rcases hat with h | h
              · exact .inl (h ▸ hk)
              · right; rw [h] at hk; simp at hk; omega)
            have HRO11 : Hid (RowsAt w.heap.size w11 (w.heap.size + 1) (.slice a11 (kis.length + 1) c11) (ptrs (kis.map KiD.b) ++ [(.pointer (some ⟨dd, 0, none⟩))]) P0 (.pointer (some ⟨si, 0, none⟩)) (.pointer (some ⟨sv, 0, none⟩)) (kiMo kis) (kiEx kis) (.bool false) (urisV rs) (tgtsV obj rs) (digsV rs) (ptrs (kiCerts kis))) := hRO11.1
            have HX11 : Hid (Grow w.heap.size wd w11) := hRO11.2
            have hs11 : wr.heap.size ≤ w11.heap.size := by have := HGd.out.size; have := hRO11.2.size; omega
            clear hown hgrow hnil hat hc11 hRO11
            obtain ⟨ua, uc, hcu, hou, hclu⟩ := HRO11.out.openC
            have hlc : (ptrs (kiCerts kis)).length = (kiCerts kis).length := by simp [ptrs]
            rw [hlc] at hcu hou
            have HLC : Hid ((ptrs (kiCerts kis)).length = (kiCerts kis).length) := hlc
            have HOU : Hid (w11.ownsRow w.heap.size 24 1 (.slice ua (kiCerts kis).length uc) (kiCerts kis).length (ptrs (kiCerts kis))) := hou
            have hcb := HCB.out
            clear hlc
            go_wp2_with (at_builtin; refine wpList_append_own_at _ rfl _ _ 26 rfl w.heap.size 24 i24 (.pointer none) 1 8 Ybaf.underlying26 hi24 hz240 hz241 hz242 rfl (by decide) (.slice ua (kiCerts kis).length uc) (kiCerts kis).length (ptrs (kiCerts kis)) rfl (HOU.out.alloc _) ⟨w11.heap.size, 0, none⟩ 2 2 [(.pointer (some ⟨cc, 0, none⟩)), (.pointer (some ⟨ss, 0, none⟩))] rfl rfl ?hn ?h1 (by unfold maxLen; omega) (by omega) (by simp; omega) ?_)
            case hn => exact cell2_new _ _ _ _
            case h1 => simp [Value.oneCell']
            intro v12 w12 hown hgrow hnil hat
            obtain ⟨a12, c12, rfl⟩ := own_len hown
            have hcc : Chg (Value.ownBlock (.slice ua (kiCerts kis).length uc)).toList w11 w12 := ((Chg.refl _ w11).alloc _).trans (Chg.ofGrown hgrow (fun k hk => .inl (by simp [hk])))
            have eo : Value.ownBlock (.slice ua (ptrs (kiCerts kis)).length uc) = Value.ownBlock (.slice ua (kiCerts kis).length uc) := by cases ua <;> rfl
            obtain ⟨hk1, hk2, hk3, hk4⟩ := hclu w12 (.slice a12 ((kiCerts kis).length + 2) c12) [(.pointer (some ⟨cc, 0, none⟩)), (.pointer (some ⟨ss, 0, none⟩))] 2 rfl (by rw [HLC.out]; exact hown) (by rw [eo]; exact hcc) (fun k hk => by
              rw [eo]
              rcases hat with h | h
              · exact .inl (h ▸ hk)
              · right; rw [h] at hk; simp at hk; omega)
            rw [HLC.out] at hk1
            clear hclu hcu hou hown hgrow hnil hat hcc eo hcb
            go_upto_region 68 with fail
            generalize w12.setCell ⟨(w.heap.size + 1), 6, none⟩ (.slice a12 ((kiCerts kis).length + 2) c12) = z12 at hk3 hk4 ⊢
            have HRO12 : Hid (RowsAt w.heap.size z12 (w.heap.size + 1) (.slice a11 (kis.length + 1) c11) (ptrs (kis.map KiD.b) ++ [(.pointer (some ⟨dd, 0, none⟩))]) P0 (.pointer (some ⟨si, 0, none⟩)) (.pointer (some ⟨sv, 0, none⟩)) (kiMo kis) (kiEx kis) (.bool false) (urisV rs) (tgtsV obj rs) (digsV rs) (ptrs (kiCerts kis) ++ [(.pointer (some ⟨cc, 0, none⟩)), (.pointer (some ⟨ss, 0, none⟩))])) := hk3
            have HX12 : Hid (Grow w.heap.size wd z12) := HX11.out.trans hk4
            clear hk1 hk2 hk3 hk4
            have HCE : Hid (KiD.certs (.data dd [(cc, xcNd NS, []), (ss, xcNd NS, [])]) = [cc, ss]) := certs1 cc ss
            have HNEW : Hid (Loop2 w.heap.size z21 z12 (w.heap.size + 1) (.slice a11 (kis.length + 1) c11) (.pointer (some ⟨si, 0, none⟩)) (.pointer (some ⟨sv, 0, none⟩)) (urisV rs) (tgtsV obj rs) (digsV rs) (kis ++ [.data dd [(cc, xcNd NS, []), (ss, xcNd NS, [])]])) := HL.out.step ((Grow.ofGro HGd.out).trans HX12.out) ⟨HX12.out.ki HKI.out.1, HKI.out.2⟩ (by show w.heap.size ≤ dd; omega) (by rw [HCE.out]; simp) (by rw [HCE.out]; exact HRO12.out)
            go_wp2
            go_roundw
            case rel => exact ⟨kis ++ [.data dd [(cc, xcNd NS, []), (ss, xcNd NS, [])]], by simp; omega, by simp, HNEW.out⟩
            case measure => simp [intOf]; omega
          · go_wp2_with fail
            refine (el_leaf w.heap.size NS sMo wr (by omega)).mono ?_
            rintro e wa ⟨mm, rfl, hmm, hG, hE⟩
            have HG_wa : Hid (Gro w.heap.size [] wr wa) := hG
            have HE_mm : Hid (ElAt wa mm moNd []) := hE
            have hs_wa : wr.heap.size ≤ wa.heap.size := by have := hG.size; omega
            clear hG hE
            go_wp2_with fail
            refine (el_leaf w.heap.size NS sEx wa (by omega)).mono ?_
            rintro e wb2 ⟨xx, rfl, hxx, hG, hE⟩
            have HG_wb2 : Hid (Gro w.heap.size [] wa wb2) := hG
            have HE_xx : Hid (ElAt wb2 xx exNd []) := hE
            have hs_wb2 : wr.heap.size ≤ wb2.heap.size := by have := hG.size; omega
            clear hG hE
            go_wp2_with fail
            refine (el_ks w.heap.size w.heap.size NS sRK (.slice (some ⟨wb2.heap.size, 0, none⟩) 2 2) [(mm, moNd, []), (xx, exNd, [])] (wb2.alloc (.cells #[(.pointer (some ⟨mm, 0, none⟩)), (.pointer (some ⟨xx, 0, none⟩))] 24)) (by simp; omega) (own_b2 _ _ _ _ (by omega)) (pair_all (HE_mm.out.keptG (HG_wb2.out.trans ((Gro.refl w.heap.size [] _).alloc _)) (Soft.nil _)) (HE_xx.out.keptG ((Gro.refl w.heap.size [] _).alloc _) (Soft.nil _))) (pair_low (by show w.heap.size ≤ mm; omega) (by show w.heap.size ≤ xx; omega)) (by simp [kidsOf])).mono ?_
            rintro e wc2 ⟨rr, rfl, hrr, hG, hE, -⟩
            have HG_wc2 : Hid (Gro w.heap.size [] wb2 wc2) := ((Gro.refl _ _ _).alloc _).trans hG
            have HE_rr : Hid (ElAt wc2 rr rkNd (kidsOf [(mm, moNd, []), (xx, exNd, [])])) := hE
            have hs_wc2 : wr.heap.size ≤ wc2.heap.size := by have := HG_wc2.out.size; omega
            clear hG hE
            simp at hrr
            go_wp2_with fail
            refine (el_ks w.heap.size w.heap.size NS sKV (.slice (some ⟨wc2.heap.size, 0, none⟩) 1 1) [(rr, rkNd, [mm, xx])] (wc2.alloc (.cells #[(.pointer (some ⟨rr, 0, none⟩))] 24)) (by simp; omega) (own_b1 _ _ _ (by omega)) (one_all (HE_rr.out.keptG ((Gro.refl w.heap.size [] _).alloc _) (Soft.nil _))) (one_low (by show w.heap.size ≤ rr; omega)) (by simp [kidsOf])).mono ?_
            rintro e wd ⟨dd, rfl, hdd, hG, hE, -⟩
            have HG_wd : Hid (Gro w.heap.size [] wc2 wd) := ((Gro.refl _ _ _).alloc _).trans hG
            have HE_dd : Hid (ElAt wd dd kvNd (kidsOf [(rr, rkNd, [mm, xx])])) := hE
            have hs_wd : wr.heap.size ≤ wd.heap.size := by have := HG_wd.out.size; omega
            clear hG hE
            simp at hdd
            have HGd : Hid (Gro w.heap.size [] wr wd) := HG_wa.out.trans (HG_wb2.out.trans (HG_wc2.out.trans HG_wd.out))
            have HKI : Hid (KiAt wd (.value dd rr mm xx) ∧ KiD.plain (.value dd rr mm xx)) := ⟨⟨HE_dd.out, HE_rr.out.keptG HG_wd.out (Soft.nil _), HE_mm.out.keptG (HG_wb2.out.trans (HG_wc2.out.trans HG_wd.out)) (Soft.nil _), HE_xx.out.keptG (HG_wc2.out.trans HG_wd.out) (Soft.nil _)⟩, trivial⟩
            have HROd : Hid (RowsAt w.heap.size wd (w.heap.size + 1) (.slice va kis.length vcap) (ptrs (kis.map KiD.b)) P0 (.pointer (some ⟨si, 0, none⟩)) (.pointer (some ⟨sv, 0, none⟩)) (kiMo kis) (kiEx kis) (.bool false) (urisV rs) (tgtsV obj rs) (digsV rs) (ptrs (kiCerts kis))) := HL.out.rows.keptG HGd.out
            have HOI : Hid (wd.ownsRow w.heap.size 24 1 (.slice va kis.length vcap) kis.length (ptrs (kis.map KiD.b))) := by have := HROd.out.lowI; rw [HLI.out] at this; exact this
            go_wp2_with (at_builtin; refine wpList_append_own_at _ rfl _ _ 26 rfl w.heap.size 24 i24 (.pointer none) 1 8 Ybaf.underlying26 hi24 hz240 hz241 hz242 rfl (by decide) (.slice va kis.length vcap) kis.length (ptrs (kis.map KiD.b)) rfl (HOI.out.alloc _) ⟨wd.heap.size, 0, none⟩ 1 1 [(.pointer (some ⟨dd, 0, none⟩))] rfl rfl ?hn ?h1 (by unfold maxLen; omega) (by omega) (by simp; omega) ?_)
            case hn => exact cell_one_new _ _ _
            case h1 => simp [Value.oneCell']
            intro v11 w11 hown hgrow hnil hat
            obtain ⟨a11, c11, rfl⟩ := own_len hown
            have hc11 : Chg (Value.ownBlock (.slice va kis.length vcap)).toList wd w11 := ((Chg.refl _ wd).alloc _).trans (Chg.ofGrown hgrow (fun k hk => .inl (by simp [hk])))
            have hRO11 := HROd.out.pushI (w1 := w11) (v' := .slice a11 (kis.length + 1) c11) (news := [(.pointer (some ⟨dd, 0, none⟩))]) (m := 1) rfl (by rw [HLI.out]; exact hown) hc11 (fun k hk => by
              rcases hat with h | h
              · exact .inl (h ▸ hk)
              · right; rw [h] at hk; simp at hk; omega)
            have HRO11 : Hid (RowsAt w.heap.size w11 (w.heap.size + 1) (.slice a11 (kis.length + 1) c11) (ptrs (kis.map KiD.b) ++ [(.pointer (some ⟨dd, 0, none⟩))]) P0 (.pointer (some ⟨si, 0, none⟩)) (.pointer (some ⟨sv, 0, none⟩)) (kiMo kis) (kiEx kis) (.bool false) (urisV rs) (tgtsV obj rs) (digsV rs) (ptrs (kiCerts kis))) := hRO11.1
            have HX11 : Hid (Grow w.heap.size wd w11) := hRO11.2
            have hs11 : wr.heap.size ≤ w11.heap.size := by have := HGd.out.size; have := hRO11.2.size; omega
            clear hown hgrow hnil hat hc11 hRO11
            obtain ⟨⟨ou, hcu⟩, hfu, hk3, hk4⟩ := HRO11.out.set7 (.pointer (some ⟨mm, 0, none⟩))
            go_upto_region 65 with fail
            generalize w11.setCell ⟨(w.heap.size + 1), 7, none⟩ (.pointer (some ⟨mm, 0, none⟩)) = z12 at hk3 hk4 ⊢
            have HRO12 : Hid (RowsAt w.heap.size z12 (w.heap.size + 1) (.slice a11 (kis.length + 1) c11) (ptrs (kis.map KiD.b) ++ [(.pointer (some ⟨dd, 0, none⟩))]) P0 (.pointer (some ⟨si, 0, none⟩)) (.pointer (some ⟨sv, 0, none⟩)) (.pointer (some ⟨mm, 0, none⟩)) (kiEx kis) (.bool false) (urisV rs) (tgtsV obj rs) (digsV rs) (ptrs (kiCerts kis))) := hk3
            have HX12 : Hid (Grow w.heap.size wd z12) := HX11.out.trans hk4
            clear hcu hfu hk3 hk4
            obtain ⟨⟨ou2, hcu⟩, hfu, hk3, hk4⟩ := HRO12.out.set8 (.pointer (some ⟨xx, 0, none⟩))
            go_upto_region 68 with fail
            generalize z12.setCell ⟨(w.heap.size + 1), 8, none⟩ (.pointer (some ⟨xx, 0, none⟩)) = z13 at hk3 hk4 ⊢
            have HRO13 : Hid (RowsAt w.heap.size z13 (w.heap.size + 1) (.slice a11 (kis.length + 1) c11) (ptrs (kis.map KiD.b) ++ [(.pointer (some ⟨dd, 0, none⟩))]) P0 (.pointer (some ⟨si, 0, none⟩)) (.pointer (some ⟨sv, 0, none⟩)) (.pointer (some ⟨mm, 0, none⟩)) (.pointer (some ⟨xx, 0, none⟩)) (.bool false) (urisV rs) (tgtsV obj rs) (digsV rs) (ptrs (kiCerts kis))) := hk3
            have HX13 : Hid (Grow w.heap.size wd z13) := HX12.out.trans hk4
            clear hcu hfu hk3 hk4
            have HCE : Hid (KiD.certs (.value dd rr mm xx) = []) := rfl
            have HNEW : Hid (Loop2 w.heap.size z21 z13 (w.heap.size + 1) (.slice a11 (kis.length + 1) c11) (.pointer (some ⟨si, 0, none⟩)) (.pointer (some ⟨sv, 0, none⟩)) (urisV rs) (tgtsV obj rs) (digsV rs) (kis ++ [.value dd rr mm xx])) := HL.out.step ((Grow.ofGro HGd.out).trans HX13.out) ⟨HX13.out.ki HKI.out.1, HKI.out.2⟩ (by show w.heap.size ≤ dd; omega) (by rw [HCE.out]; simp) (by rw [HCE.out]; rw [show ptrs (kiCerts kis) ++ ptrs [] = ptrs (kiCerts kis) from List.append_nil _]; exact HRO13.out)
            go_wp2
            go_roundw
            case rel => exact ⟨kis ++ [.value dd rr mm xx], by simp; omega, by simp, HNEW.out⟩
            case measure => simp [intOf]; omega
          · go_wp2_with fail
            refine (el_leaf w.heap.size NS sKN wr (by omega)).mono ?_
            rintro e wd ⟨dd, rfl, hdd, hG, hE⟩
            have HG_wd : Hid (Gro w.heap.size [] wr wd) := hG
            have HE_dd : Hid (ElAt wd dd knNd []) := hE
            have hs_wd : wr.heap.size ≤ wd.heap.size := by have := hG.size; omega
            clear hG hE
            have HGd : Hid (Gro w.heap.size [] wr wd) := HG_wd.out
            have HKI : Hid (KiAt wd (.name dd) ∧ KiD.plain (.name dd)) := ⟨⟨HE_dd.out, trivial⟩, trivial⟩
            have HROd : Hid (RowsAt w.heap.size wd (w.heap.size + 1) (.slice va kis.length vcap) (ptrs (kis.map KiD.b)) P0 (.pointer (some ⟨si, 0, none⟩)) (.pointer (some ⟨sv, 0, none⟩)) (kiMo kis) (kiEx kis) (.bool false) (urisV rs) (tgtsV obj rs) (digsV rs) (ptrs (kiCerts kis))) := HL.out.rows.keptG HGd.out
            have HOI : Hid (wd.ownsRow w.heap.size 24 1 (.slice va kis.length vcap) kis.length (ptrs (kis.map KiD.b))) := by have := HROd.out.lowI; rw [HLI.out] at this; exact this
            go_wp2_with (at_builtin; refine wpList_append_own_at _ rfl _ _ 26 rfl w.heap.size 24 i24 (.pointer none) 1 8 Ybaf.underlying26 hi24 hz240 hz241 hz242 rfl (by decide) (.slice va kis.length vcap) kis.length (ptrs (kis.map KiD.b)) rfl (HOI.out.alloc _) ⟨wd.heap.size, 0, none⟩ 1 1 [(.pointer (some ⟨dd, 0, none⟩))] rfl rfl ?hn ?h1 (by unfold maxLen; omega) (by omega) (by simp; omega) ?_)
            case hn => exact cell_one_new _ _ _
            case h1 => simp [Value.oneCell']
            intro v11 w11 hown hgrow hnil hat
            obtain ⟨a11, c11, rfl⟩ := own_len hown
            have hc11 : Chg (Value.ownBlock (.slice va kis.length vcap)).toList wd w11 := ((Chg.refl _ wd).alloc _).trans (Chg.ofGrown hgrow (fun k hk => .inl (by simp [hk])))
            have hRO11 := HROd.out.pushI (w1 := w11) (v' := .slice a11 (kis.length + 1) c11) (news := [(.pointer (some ⟨dd, 0, none⟩))]) (m := 1) rfl (by rw [HLI.out]; exact hown) hc11 (fun k hk => by
              rcases hat with h | h
              · exact .inl (h ▸ hk)
              · right; rw [h] at hk; simp at hk; omega)
            have HRO11 : Hid (RowsAt w.heap.size w11 (w.heap.size + 1) (.slice a11 (kis.length + 1) c11) (ptrs (kis.map KiD.b) ++ [(.pointer (some ⟨dd, 0, none⟩))]) P0 (.pointer (some ⟨si, 0, none⟩)) (.pointer (some ⟨sv, 0, none⟩)) (kiMo kis) (kiEx kis) (.bool false) (urisV rs) (tgtsV obj rs) (digsV rs) (ptrs (kiCerts kis))) := hRO11.1
            have HX11 : Hid (Grow w.heap.size wd w11) := hRO11.2
            have hs11 : wr.heap.size ≤ w11.heap.size := by have := HGd.out.size; have := hRO11.2.size; omega
            clear hown hgrow hnil hat hc11 hRO11
            have HCE : Hid (KiD.certs (.name dd) = []) := rfl
            have HNEW : Hid (Loop2 w.heap.size z21 w11 (w.heap.size + 1) (.slice a11 (kis.length + 1) c11) (.pointer (some ⟨si, 0, none⟩)) (.pointer (some ⟨sv, 0, none⟩)) (urisV rs) (tgtsV obj rs) (digsV rs) (kis ++ [.name dd])) := HL.out.step ((Grow.ofGro HGd.out).trans HX11.out) ⟨HX11.out.ki HKI.out.1, HKI.out.2⟩ (by show w.heap.size ≤ dd; omega) (by rw [HCE.out]; simp) (by rw [HCE.out]; rw [show ptrs (kiCerts kis) ++ ptrs [] = ptrs (kiCerts kis) from List.append_nil _]; exact HRO11.out)
            go_wp2
            go_roundw
            case rel => exact ⟨kis ++ [.name dd], by simp; omega, by simp, HNEW.out⟩
            case measure => simp [intOf]; omega
          · go_wp2_with fail
            refine (el_leaf w.heap.size cOther sXC wr (by omega)).mono ?_
            rintro e wa ⟨cc, rfl, hcc, hG, hE⟩
            have HG_wa : Hid (Gro w.heap.size [] wr wa) := hG
            have HE_cc : Hid (ElAt wa cc (xcNd cOther) []) := hE
            have hs_wa : wr.heap.size ≤ wa.heap.size := by have := hG.size; omega
            clear hG hE
            go_wp2_with fail
            refine (el_ks w.heap.size w.heap.size NS sXD (.slice (some ⟨wa.heap.size, 0, none⟩) 1 1) [(cc, xcNd cOther, [])] (wa.alloc (.cells #[(.pointer (some ⟨cc, 0, none⟩))] 24)) (by simp; omega) (own_b1 _ _ _ (by omega)) (one_all (HE_cc.out.keptG ((Gro.refl w.heap.size [] _).alloc _) (Soft.nil _))) (one_low (by show w.heap.size ≤ cc; omega)) (by simp [kidsOf])).mono ?_
            rintro e wd ⟨dd, rfl, hdd, hG, hE, -⟩
            have HG_wd : Hid (Gro w.heap.size [] wa wd) := ((Gro.refl _ _ _).alloc _).trans hG
            have HE_dd : Hid (ElAt wd dd xdNd (kidsOf [(cc, xcNd cOther, [])])) := hE
            have hs_wd : wr.heap.size ≤ wd.heap.size := by have := HG_wd.out.size; omega
            clear hG hE
            simp at hdd
            have HGd : Hid (Gro w.heap.size [] wr wd) := HG_wa.out.trans HG_wd.out
            have HKI : Hid (KiAt wd (.data dd [(cc, xcNd cOther, [])]) ∧ KiD.plain (.data dd [(cc, xcNd cOther, [])])) := ⟨⟨HE_dd.out, one_all (HE_cc.out.keptG HG_wd.out (Soft.nil _)), by simp⟩, fun x hx => by obtain rfl := List.mem_singleton.1 hx; exact ⟨rfl, rfl⟩⟩
            have HROd : Hid (RowsAt w.heap.size wd (w.heap.size + 1) (.slice va kis.length vcap) (ptrs (kis.map KiD.b)) P0 (.pointer (some ⟨si, 0, none⟩)) (.pointer (some ⟨sv, 0, none⟩)) (kiMo kis) (kiEx kis) (.bool false) (urisV rs) (tgtsV obj rs) (digsV rs) (ptrs (kiCerts kis))) := HL.out.rows.keptG HGd.out
            have HOI : Hid (wd.ownsRow w.heap.size 24 1 (.slice va kis.length vcap) kis.length (ptrs (kis.map KiD.b))) := by have := HROd.out.lowI; rw [HLI.out] at this; exact this
            go_wp2_with (at_builtin; refine wpList_append_own_at _ rfl _ _ 26 rfl w.heap.size 24 i24 (.pointer none) 1 8 Ybaf.underlying26 hi24 hz240 hz241 hz242 rfl (by decide) (.slice va kis.length vcap) kis.length (ptrs (kis.map KiD.b)) rfl (HOI.out.alloc _) ⟨wd.heap.size, 0, none⟩ 1 1 [(.pointer (some ⟨dd, 0, none⟩))] rfl rfl ?hn ?h1 (by unfold maxLen; omega) (by omega) (by simp; omega) ?_)
            case hn => exact cell_one_new _ _ _
            case h1 => simp [Value.oneCell']
            intro v11 w11 hown hgrow hnil hat
            obtain ⟨a11, c11, rfl⟩ := own_len hown
            have hc11 : Chg (Value.ownBlock (.slice va kis.length vcap)).toList wd w11 := ((Chg.refl _ wd).alloc _).trans (Chg.ofGrown hgrow (fun k hk => .inl (by simp [hk])))
            have hRO11 := HROd.out.pushI (w1 := w11) (v' := .slice a11 (kis.length + 1) c11) (news := [(.pointer (some ⟨dd, 0, none⟩))]) (m := 1) rfl (by rw [HLI.out]; exact hown) hc11 (fun k hk => by
              rcases hat with h | h
              · exact .inl (h ▸ hk)
              · right; rw [h] at hk; simp at hk; omega)
            have HRO11 : Hid (RowsAt w.heap.size w11 (w.heap.size + 1) (.slice a11 (kis.length + 1) c11) (ptrs (kis.map KiD.b) ++ [(.pointer (some ⟨dd, 0, none⟩))]) P0 (.pointer (some ⟨si, 0, none⟩)) (.pointer (some ⟨sv, 0, none⟩)) (kiMo kis) (kiEx kis) (.bool false) (urisV rs) (tgtsV obj rs) (digsV rs) (ptrs (kiCerts kis))) := hRO11.1
            have HX11 : Hid (Grow w.heap.size wd w11) := hRO11.2
            have hs11 : wr.heap.size ≤ w11.heap.size := by have := HGd.out.size; have := hRO11.2.size; omega
            clear hown hgrow hnil hat hc11 hRO11
            have HCE : Hid (KiD.certs (.data dd [(cc, xcNd cOther, [])]) = []) := certs4 cc
            have HNEW : Hid (Loop2 w.heap.size z21 w11 (w.heap.size + 1) (.slice a11 (kis.length + 1) c11) (.pointer (some ⟨si, 0, none⟩)) (.pointer (some ⟨sv, 0, none⟩)) (urisV rs) (tgtsV obj rs) (digsV rs) (kis ++ [.data dd [(cc, xcNd cOther, [])]])) := HL.out.step ((Grow.ofGro HGd.out).trans HX11.out) ⟨HX11.out.ki HKI.out.1, HKI.out.2⟩ (by show w.heap.size ≤ dd; omega) (by rw [HCE.out]; simp) (by rw [HCE.out]; rw [show ptrs (kiCerts kis) ++ ptrs [] = ptrs (kiCerts kis) from List.append_nil _]; exact HRO11.out)
            go_wp2
            go_roundw
            case rel => exact ⟨kis ++ [.data dd [(cc, xcNd cOther, [])]], by simp; omega, by simp, HNEW.out⟩
            case measure => simp [intOf]; omega
        · have hqi : ¬ (kis.length : Int) < (ni : Int) := by omega
          have hqi' : (ni : Int) ≤ (kis.length : Int) := by omega
          have HGzr : Hid (Grow w.heap.size z21 wr) := HL.out.grow
          have HKS : Hid (∀ k, k ∈ kis → (KiAt wr k ∧ k.plain) ∧ w.heap.size ≤ k.b ∧ k.certs.length ≤ 2) := HL.out.kis
          have HROy : Hid (RowsAt w.heap.size wr (w.heap.size + 1) (.slice va kis.length vcap) (ptrs (kis.map KiD.b)) P0 (.pointer (some ⟨si, 0, none⟩)) (.pointer (some ⟨sv, 0, none⟩)) (kiMo kis) (kiEx kis) (.bool false) (urisV rs) (tgtsV obj rs) (digsV rs) (ptrs (kiCerts kis))) := HL.out.rows
          go_wp2_with fail
          refine (el_ks w.heap.size w.heap.size NS sKI (.slice va kis.length vcap) (kiKs kis) wr (by omega) (own_ki HROy.out.lowI) (ki_all (fun k hk => (HKS.out k hk).1.1)) (ki_low (fun k hk => (HKS.out k hk).2.1)) (by rw [kids_ki]; simp; omega)).mono ?_
          rintro e w30 ⟨ki, rfl, hkib, hG30, hE30, -⟩
          rw [kids_ki] at hE30
          have HG30 : Hid (Gro w.heap.size [] wr w30) := hG30
          have HKI30 : Hid (ElAt w30 ki kiNd (kis.map KiD.b)) := hE30
          have HRO30 : Hid (RowsAt w.heap.size w30 (w.heap.size + 1) (.slice va kis.length vcap) (ptrs (kis.map KiD.b)) P0 (.pointer (some ⟨si, 0, none⟩)) (.pointer (some ⟨sv, 0, none⟩)) (kiMo kis) (kiEx kis) (.bool false) (urisV rs) (tgtsV obj rs) (digsV rs) (ptrs (kiCerts kis))) := HROy.out.keptG hG30
          have HGz30 : Hid (Grow w.heap.size z21 w30) := HGzr.out.trans (Grow.ofGro hG30)
          have hs30 : w.heap.size + 2 ≤ w30.heap.size := by have := hG30.size; omega
          clear hG30 hE30
          obtain ⟨vu0, vt0, vd0, vc0, hV0⟩ := HRO30.out
          obtain ⟨-, y1, y2, -⟩ := cells10 hV0.blk
          clear hV0
          have hC32 : Chg [] w30 (w30.alloc (.cells #[(.pointer (some ⟨si, 0, none⟩)), (.pointer (some ⟨sv, 0, none⟩)), (.pointer (some ⟨ki, 0, none⟩)), (.pointer (some ⟨obj, 0, none⟩))] 24)) := (Chg.refl _ _).alloc _
          have HALLK : Hid (AllAt (w30.alloc (.cells #[(.pointer (some ⟨si, 0, none⟩)), (.pointer (some ⟨sv, 0, none⟩)), (.pointer (some ⟨ki, 0, none⟩)), (.pointer (some ⟨obj, 0, none⟩))] 24)) (sigKs si sv ki obj (kidsOf (infoKs cm sm cC14 cRSA [] (rs ++ [⟨true, false, ⟨#[120]⟩, cSHA, rb7, ts, tf, dm, dv⟩]))) (kis.map KiD.b))) := by
            intro x hx
            simp only [sigKs, List.mem_cons, List.not_mem_nil, or_false] at hx
            rcases hx with rfl | rfl | rfl | rfl
            · exact (HGz30.out.el HSIz.out).keptC hC32
            · exact (HGz30.out.el HSVz.out).keptC hC32
            · exact HKI30.out.keptC hC32
            · exact (HGz30.out.el HOBz.out).keptC hC32
          have hlowk : ∀ x, x ∈ ((sigKs si sv ki obj (kidsOf (infoKs cm sm cC14 cRSA [] (rs ++ [⟨true, false, ⟨#[120]⟩, cSHA, rb7, ts, tf, dm, dv⟩]))) (kis.map KiD.b)) : List Kid) → w.heap.size ≤ x.1 := by
            intro x hx
            simp only [sigKs, List.mem_cons, List.not_mem_nil, or_false] at hx
            rcases hx with rfl | rfl | rfl | rfl <;> (simp only; omega)
          have HLOWK : Hid (∀ x, x ∈ ((sigKs si sv ki obj (kidsOf (infoKs cm sm cC14 cRSA [] (rs ++ [⟨true, false, ⟨#[120]⟩, cSHA, rb7, ts, tf, dm, dv⟩]))) (kis.map KiD.b)) : List Kid) → w.heap.size ≤ x.1) := hlowk
          clear hlowk
          go_wp2_with fail
          refine (el_ks w.heap.size w.heap.size NS sSig (.slice (some ⟨w30.heap.size, 0, none⟩) 4 4) (sigKs si sv ki obj (kidsOf (infoKs cm sm cC14 cRSA [] (rs ++ [⟨true, false, ⟨#[120]⟩, cSHA, rb7, ts, tf, dm, dv⟩]))) (kis.map KiD.b)) (w30.alloc (.cells #[(.pointer (some ⟨si, 0, none⟩)), (.pointer (some ⟨sv, 0, none⟩)), (.pointer (some ⟨ki, 0, none⟩)), (.pointer (some ⟨obj, 0, none⟩))] 24)) (by simp; omega) (own_b4 _ _ _ _ _ _ (by omega)) HALLK.out HLOWK.out (by simp [kidsOf, sigKs])).mono ?_
          rintro e w32 ⟨sig, rfl, hsg, hG32, hE32, hroot⟩
          have HG32 : Hid (Gro w.heap.size [] w30 w32) := (Gro.ofChg hC32 (by simp)).trans hG32
          have HSG32 : Hid (ElAt w32 sig (sigNd NS) (kidsOf (sigKs si sv ki obj (kidsOf (infoKs cm sm cC14 cRSA [] (rs ++ [⟨true, false, ⟨#[120]⟩, cSHA, rb7, ts, tf, dm, dv⟩]))) (kis.map KiD.b)))) := hE32
          have HRT32 : Hid (w32.cell? ⟨sig, 4, none⟩ = some (.pointer none)) := hroot
          have HRO32 : Hid (RowsAt w.heap.size w32 (w.heap.size + 1) (.slice va kis.length vcap) (ptrs (kis.map KiD.b)) P0 (.pointer (some ⟨si, 0, none⟩)) (.pointer (some ⟨sv, 0, none⟩)) (kiMo kis) (kiEx kis) (.bool false) (urisV rs) (tgtsV obj rs) (digsV rs) (ptrs (kiCerts kis))) := HRO30.out.keptG HG32.out
          have hs32 : w.heap.size + 2 ≤ w32.heap.size := by have := HG32.out.size; omega
          have hsgl : w.heap.size + 2 ≤ sig := by have := hC32.size; omega
          clear hG32 hE32 hroot hC32
          obtain ⟨⟨ou, hcu⟩, hfu, hk3, hk4⟩ := HRO32.out.set0 (.pointer (some ⟨sig, 0, none⟩))
          have hC33 : Chg [(w.heap.size + 1)] w32 (w32.setCell ⟨(w.heap.size + 1), 0, none⟩ (.pointer (some ⟨sig, 0, none⟩))) := (Chg.refl _ _).setCell (by simp) _
          go_upto_region 77 with fail
          generalize w32.setCell ⟨(w.heap.size + 1), 0, none⟩ (.pointer (some ⟨sig, 0, none⟩)) = z33 at hk3 hk4 hC33 ⊢
          have HRO33 : Hid (RowsAt w.heap.size z33 (w.heap.size + 1) (.slice va kis.length vcap) (ptrs (kis.map KiD.b)) (.pointer (some ⟨sig, 0, none⟩)) (.pointer (some ⟨si, 0, none⟩)) (.pointer (some ⟨sv, 0, none⟩)) (kiMo kis) (kiEx kis) (.bool false) (urisV rs) (tgtsV obj rs) (digsV rs) (ptrs (kiCerts kis))) := hk3
          have HG33 : Hid (Grow w.heap.size w32 z33) := hk4
          have HRT33 : Hid (z33.cell? ⟨sig, 4, none⟩ = some (.pointer none)) := hC33.cell HRT32.out (by simp; omega)
          clear hcu hfu hk3 hk4 hC33
          obtain ⟨vu1, vt1, vd1, vc1, hV1⟩ := HRO33.out
          have hc1 := hV1.c
          have hlc : (ptrs (kiCerts kis)).length = (kiCerts kis).length := by simp [ptrs]
          rw [hlc] at hc1
          obtain ⟨ca1, cc1, rfl⟩ := own_len hc1
          obtain ⟨-, -, -, -, -, -, y6, -, -, y9⟩ := cells10 hV1.blk
          have y9f : z33.frozen? ⟨(w.heap.size + 1), 9, none⟩ = false := by simp [World.frozen?, hV1.blk]
          clear hV1 hc1 hlc
          have HTR : Hid (∀ W, Grow w.heap.size z33 W → W.cell? ⟨sig, 4, none⟩ = some (.pointer none) → SigTree W ⟨sig, si, sv, ki, obj, cm, sm, cC14, cRSA, [], true, true, (rs ++ [⟨true, false, ⟨#[120]⟩, cSHA, rb7, ts, tf, dm, dv⟩]), kis⟩) := by
            intro W hW hrt
            have hA : Grow w.heap.size w30 W := (Grow.ofGro HG32.out).trans (HG33.out.trans hW)
            have hB : Grow w.heap.size z21 W := HGz30.out.trans hA
            have hNL := HNL.out
            exact tree_of ((HG33.out.trans hW).el HSG32.out) (hB.el HSIz.out) (hB.el HSVz.out) (hA.el HKI30.out) (hB.el HOBz.out) (hB.all HAIz.out) (fun r hr => hB.ref (HRFz.out r hr)) (fun k hk => ⟨⟨((Grow.ofGro HG30.out).trans hA).ki (HKS.out k hk).1.1, (HKS.out k hk).1.2⟩, (HKS.out k hk).2.2⟩) (fun k hk => by cases hk) hrt (by simp only [List.length_append, List.length_singleton]; omega) (by simp only; omega) (by simp)
          have HOKD : Hid (SigD.ok ⟨sig, si, sv, ki, obj, cm, sm, cC14, cRSA, [], true, true, (rs ++ [⟨true, false, ⟨#[120]⟩, cSHA, rb7, ts, tf, dm, dv⟩]), kis⟩ = false) := by show SigD.ok ⟨sig, si, sv, ki, obj, cm, sm, cC14, cRSA, [], true, true, (rs ++ [⟨true, false, ⟨#[120]⟩, cSHA, rb7, ts, tf, dm, dv⟩]), kis⟩ = false; simp [SigD.ok, ref_ok10]
          go_upto_region 78 with fail
          obtain ⟨-, -, hk3, hk4⟩ := HRO33.out.set9 (.bool true)
          have hC34 : Chg [(w.heap.size + 1)] z33 (z33.setCell ⟨(w.heap.size + 1), 9, none⟩ (.bool true)) := (Chg.refl _ _).setCell (by simp) _
          generalize z33.setCell ⟨(w.heap.size + 1), 9, none⟩ (.bool true) = z34 at hk3 hk4 hC34 ⊢
          have HG34 : Hid (Grow w.heap.size z33 z34) := hk4
          have HRT34 : Hid (z34.cell? ⟨sig, 4, none⟩ = some (.pointer none)) := hC34.cell HRT33.out (by simp; omega)
          clear hk4 hC34 y6 y9 y9f
          obtain ⟨vu, vt, vd, vc, hV⟩ := hk3
          obtain ⟨ua, uc, rfl⟩ := own_len hV.u
          obtain ⟨ta, tc, rfl⟩ := own_len hV.t
          obtain ⟨da, dc, rfl⟩ := own_len hV.d
          obtain ⟨ca, cc, rfl⟩ := own_len hV.c
          obtain ⟨mp, hmp⟩ := kiMo_ptr kis
          obtain ⟨xp, hxp⟩ := kiEx_ptr kis
          have hblk := hV.blk
          rw [hmp, hxp] at hblk
          generalize hnU : (urisV rs).length = nU at hblk
          generalize hnT : (tgtsV obj rs).length = nT at hblk
          generalize hnD : (digsV rs).length = nD at hblk
          generalize hnC : (ptrs (kiCerts kis)).length = nC at hblk
          obtain ⟨y0, y1, y2, y3, y4, y5, y6, y7, y8, y9⟩ := cells10 hblk
          obtain ⟨rc0, hres, hrc⟩ := hV.res
          obtain ⟨hrf, hfin⟩ := fin10 hres hrc
          obtain ⟨⟨r0, hr0⟩, hf0⟩ := hrf 0 (by decide)
          obtain ⟨⟨r1, hr1⟩, hf1⟩ := hrf 1 (by decide)
          obtain ⟨⟨r2, hr2⟩, hf2⟩ := hrf 2 (by decide)
          obtain ⟨⟨r3, hr3⟩, hf3⟩ := hrf 3 (by decide)
          obtain ⟨⟨r4, hr4⟩, hf4⟩ := hrf 4 (by decide)
          obtain ⟨⟨r5, hr5⟩, hf5⟩ := hrf 5 (by decide)
          obtain ⟨⟨r6, hr6⟩, hf6⟩ := hrf 6 (by decide)
          obtain ⟨⟨r7, hr7⟩, hf7⟩ := hrf 7 (by decide)
          obtain ⟨⟨r8, hr8⟩, hf8⟩ := hrf 8 (by decide)
          obtain ⟨⟨r9, hr9⟩, hf9⟩ := hrf 9 (by decide)
          have HV : Hid (RowsV w.heap.size z34 (w.heap.size + 1) (.slice va kis.length vcap) (ptrs (kis.map KiD.b)) (.pointer (some ⟨sig, 0, none⟩)) (.pointer (some ⟨si, 0, none⟩)) (.pointer (some ⟨sv, 0, none⟩)) (.slice ua (urisV rs).length uc) (.slice ta (tgtsV obj rs).length tc) (.slice da (digsV rs).length dc) (.slice ca (ptrs (kiCerts kis)).length cc) (kiMo kis) (kiEx kis) (.bool true) (urisV rs) (tgtsV obj rs) (digsV rs) (ptrs (kiCerts kis))) := hV
          obtain ⟨W, hW, hWb, hWC⟩ := hfin (.pointer (some ⟨sig, 0, none⟩)) (.pointer (some ⟨si, 0, none⟩)) (.pointer (some ⟨sv, 0, none⟩)) (.slice ua nU uc) (.slice ta nT tc) (.slice da nD dc) (.slice ca nC cc) (.pointer mp) (.pointer xp) (.bool true)
          have HWC : Hid (Chg [w.heap.size] z34 W) := hWC
          have HWB : Hid (W.heap[w.heap.size]? = some (.cells #[(.pointer (some ⟨sig, 0, none⟩)), (.pointer (some ⟨si, 0, none⟩)), (.pointer (some ⟨sv, 0, none⟩)), (.slice ua nU uc), (.slice ta nT tc), (.slice da nD dc), (.slice ca nC cc), (.pointer mp), (.pointer xp), (.bool true)] 28 (0, 0))) := hWb
          have HRES : Hid (z34.heap[w.heap.size]? = some (.cells rc0 28 (0, 0))) := hres
          have HWE : Hid (W = _) := hW
          clear hV hfin hrf hres hblk hWC hWb hW
          have HNU : Hid ((urisV rs).length = nU) := hnU
          have HNT : Hid ((tgtsV obj rs).length = nT) := hnT
          have HND : Hid ((digsV rs).length = nD) := hnD
          have HNC : Hid ((ptrs (kiCerts kis)).length = nC) := hnC
          have HMP : Hid (kiMo kis = .pointer mp) := hmp
          have HXP : Hid (kiEx kis = .pointer xp) := hxp
          clear hmp hxp hnU hnT hnD hnC
          go_wp2
          rw [← HWE.out]
          obtain ⟨e0, e1, e2, e3, e4, e5, e6, e7, e8, e9⟩ := cells10 HWB.out
          have HGW : Grow w.heap.size z34 W := chg28_grow HRES.out (Nat.le_refl _) HWC.out
          have HT : SigTree W ⟨sig, si, sv, ki, obj, cm, sm, cC14, cRSA, [], true, true, (rs ++ [⟨true, false, ⟨#[120]⟩, cSHA, rb7, ts, tf, dm, dv⟩]), kis⟩ := HTR.out W (HG34.out.trans HGW) (HWC.out.cell HRT34.out (by simp; omega))
          refine bodyPost_ret (v := .agg #[(.pointer (some ⟨sig, 0, none⟩)), (.pointer (some ⟨si, 0, none⟩)), (.pointer (some ⟨sv, 0, none⟩)), (.slice ua nU uc), (.slice ta nT tc), (.slice da nD dc), (.slice ca nC cc), (.pointer mp), (.pointer xp), (.bool true)]) (by simp [results, Ybaf.results6, go_sem, e0, e1, e2, e3, e4, e5, e6, e7, e8, e9]) rfl ⟨_, rfl, ⟨⟨sig, si, sv, ki, obj, cm, sm, cC14, cRSA, [], true, true, (rs ++ [⟨true, false, ⟨#[120]⟩, cSHA, rb7, ts, tf, dm, dv⟩]), kis⟩, HT, ?_⟩, ?_⟩
          · refine .inr ⟨HOKD.out, ua, ta, da, ca, mp, xp, nU, uc, nT, tc, nD, dc, nC, cc, rfl⟩
          · exact (HGW3.out.trans (HG3z.out.trans (HGz30.out.trans ((Grow.ofGro HG32.out).trans (HG33.out.trans (HG34.out.trans HGW)))))).chg (Nat.le_refl _)

end Go.Proofs.YbulkcvhiFmt
