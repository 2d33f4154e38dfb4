/-
  Seat b4844aF: an element is built.
-/
import Derived.Test.YbulkcvhiFmtGro
import Derived.Test.YbulkcvhiFmtCheck
namespace Go.Proofs.YbulkcvhiFmt
open Go.RowKit Go.Extern.Stop Go.Stop Go.Extern
set_option linter.unusedVariables false

theorem ins56 (w : World) (sp : ByteArray) : (Instr.mapUpdate 56 (.map (some w.heap.size)) (.string ⟨#[]⟩) (.string sp)).run Ybaf.prog (w.alloc (.map #[] 0)) = .ok () (w.alloc (scopeObj sp)) := by
  have h := run_mapUpdate_first (P := Ybaf.prog) (w := w.alloc (.map #[] 0)) 56 9 9 w.heap.size 0 ⟨#[]⟩ (.string sp) Ybaf.underlying56 (by kernel_rfl) (heap_alloc_new _ _)
  rw [h]
  have e : ({ w.alloc (.map #[] 0) with heap := (w.alloc (.map #[] 0)).heap.setIfInBounds w.heap.size (scopeObj sp) } : World) = w.alloc (scopeObj sp) := by
    have hp : (w.heap.push (.map #[] 0)).setIfInBounds w.heap.size (scopeObj sp) = w.heap.push (scopeObj sp) := by
      apply Array.ext
      · simp
      · intro i h1 h2
        by_cases hi : i = w.heap.size
        · subst hi; simp
        · have hlt : i < w.heap.size := by simp at h2; omega
          rw [Array.getElem_setIfInBounds_ne (by simpa using h1) (Ne.symm hi)]
          simp [Array.getElem_push, hlt]
    show ({ w with heap := (w.heap.push (.map #[] 0)).setIfInBounds w.heap.size (scopeObj sp) } : World) = { w with heap := w.heap.push (scopeObj sp) }
    rw [hp]
  exact congrArg (Result.ok ()) e

theorem nodes_snoc (l : List Nat) (k : Nat) : nodes (l ++ [k]) = nodes l ++ [.iface 24 (.pointer (some ⟨k, 0, none⟩))] := by simp [nodes]

/-- The element in the making. -/
structure Mak (S : Nat) (w wr : World) (nm sp : ByteArray) (av : Value) (vc : Value) (l : List Nat) : Prop where
  gro : Gro S [] w wr
  blk : wr.heap[w.heap.size + 1]? = some (.cells #[.string ⟨#[]⟩, .string nm, av, vc, .pointer none, .map (some w.heap.size)] 59 (0, 0))
  row : wr.ownsRow w.heap.size 69 1 vc l.length (nodes l)
  scope : wr.heap[w.heap.size]? = some (scopeObj sp)

theorem Mak.cells {wr : World} {b : Nat} {v0 v1 v2 v3 v4 v5 : Value} (h : wr.heap[b]? = some (.cells #[v0, v1, v2, v3, v4, v5] 59 (0, 0))) :
    wr.cell? ⟨b, 3, none⟩ = some v3 ∧ wr.frozen? ⟨b, 3, none⟩ = false := by
  constructor <;> simp [World.cell?, World.frozen?, h]

theorem Mak.set4 {S kb : Nat} {w wr : World} {nm sp : ByteArray} {av vc : Value} {l : List Nat} (h : Mak S w wr nm sp av vc l) (hlow : S ≤ kb) (hlt : kb < w.heap.size) {c : Array Value} (hc : wr.heap[kb]? = some (.cells c 59 (0, 0))) (v : Value) : Mak S w (wr.setCell ⟨kb, 4, none⟩ v) nm sp av vc l := by
  have hg := Gro.set4 (S := S) wr hc hlow v
  exact ⟨h.gro.trans hg, obj_set_other h.blk (by omega) v, hg.row h.row (by decide) (by simp), obj_set_other h.scope (by omega) v⟩
theorem Mak.push {S kb : Nat} {w wr w2 : World} {nm sp : ByteArray} {av vc v' : Value} {l : List Nat} (h : Mak S w wr nm sp av vc l) (hS : S ≤ w.heap.size)
    (hown : w2.ownsRow w.heap.size 69 1 v' (l.length + 1) (nodes l ++ [.iface 24 (.pointer (some ⟨kb, 0, none⟩))])) (hc : Chg vc.ownBlock.toList wr w2) :
    w2.heap[w.heap.size + 1]? = some (.cells #[.string ⟨#[]⟩, .string nm, av, vc, .pointer none, .map (some w.heap.size)] 59 (0, 0)) ∧ Mak S w (w2.setCell ⟨w.heap.size + 1, 3, none⟩ v') nm sp av v' (l ++ [kb]) := by
  have j1 : w2.heap[w.heap.size + 1]? = some (.cells #[.string ⟨#[]⟩, .string nm, av, vc, .pointer none, .map (some w.heap.size)] 59 (0, 0)) := hc.obj h.blk (own_ne_type h.row h.blk (by decide))
  have hsc : w.heap.size ∉ vc.ownBlock.toList := by
    intro hm
    have hm' : vc.ownBlock = some w.heap.size := by simpa using hm
    rcases h.row.2 with ⟨rfl, _⟩ | ⟨g, cap, cur, rfl, _, hg, _⟩
    · simp [Value.ownBlock] at hm'
    · obtain rfl : g = w.heap.size := by simpa [Value.ownBlock] using hm'
      rw [h.scope] at hg
      cases hg
  have hs : Chg [w.heap.size + 1] w2 (w2.setCell ⟨w.heap.size + 1, 3, none⟩ v') := (Chg.refl _ _).setCell (by simp) _
  have g1 : Gro S [] w w2 := ((h.gro.mono (l' := vc.ownBlock.toList) (by simp)).trans (Gro.ofChg hc (fun k hk => by have := (h.row.lt k (by simpa using hk)).1; omega))).mono (fun k hk => .inr (h.row.lt k (by simpa using hk)).1)
  have g2 : Gro S [] w (w2.setCell ⟨w.heap.size + 1, 3, none⟩ v') := ((g1.mono (l' := [w.heap.size + 1]) (by simp)).trans (Gro.ofChg hs (by simp; omega))).mono (fun k hk => .inr (by simp at hk; omega))
  refine ⟨j1, g2, obj_set j1 v', ?_, obj_set_other (hc.obj h.scope hsc) (by omega) v'⟩
  have := ownsRow_kept hown hs (fun k hk hm => own_ne_type hown j1 (by decide) (by simpa using (by simpa using hm : k = w.heap.size + 1) ▸ hk))
  rw [nodes_snoc]
  simpa using this

theorem el4 {w : World} {b : Nat} {d : Nd} {kids : List Nat} (h : ElAt w b d kids) : ∃ v, w.cell? ⟨b, 4, none⟩ = some v ∧ w.frozen? ⟨b, 4, none⟩ = false := by
  obtain ⟨c, h1, h2⟩ := h.ty
  exact ⟨c[4], by simp [World.cell?, h1, h2], by simp [World.frozen?, h1]⟩

set_option maxHeartbeats 3200000 in
theorem el_new (S S' : Nat) (sp nm : ByteArray) (attr : Option (ByteArray × ByteArray)) (av vk : Value) (kids : List Nat) (nds : Nat → Nd) (kk : Nat → List Nat) (w : World) (hS : S ≤ w.heap.size) (ha : AttrsAt w av attr) (hv : w.ownsRow S' 24 1 vk kids.length (ptrs kids)) (hk : KidsAt w kids nds kk) (hlow : ∀ k, k ∈ kids → S ≤ k) (hl : kids.length ≤ 4096) :
    Calls Ybaf.prog 9 #[.string sp, .string nm, av, vk] w fun e w' => ∃ b, e = .returned (.pointer (some ⟨b, 0, none⟩)) ∧ w.heap.size ≤ b ∧ Gro S [] w w' ∧ ElAt w' b ⟨nm, attr, sp⟩ kids ∧ w'.cell? ⟨b, 4, none⟩ = some (.pointer none) := by
  obtain ⟨i69, hi0, hz0, hz1, hz2⟩ := info_parts info69
  have hpl : (ptrs kids).length = kids.length := by simp [ptrs]
  rw [← hpl] at hv
  obtain ⟨a, c, rfl, hcells⟩ := own_shape hv
  rw [hpl]
  have hm := mk56 w
  have hins := ins56 w sp
  have HV : Hid (w.ownsRow S' 24 1 (.slice a (ptrs kids).length c) (ptrs kids).length (ptrs kids)) := hv
  have HK : Hid (KidsAt w kids nds kk) := hk
  have HLOW : Hid (∀ k, k ∈ kids → S ≤ k) := hlow
  have HA : Hid (AttrsAt w av attr) := ha
  have hav : ∃ aa an ac, av = .slice aa an ac := by
    cases attr with
    | none => exact ⟨_, _, _, ha⟩
    | some x => obtain ⟨ab, h, _⟩ := ha; exact ⟨_, _, _, h⟩
  obtain ⟨aa, an, ac, rfl⟩ := hav
  clear hv hcells hk hlow ha
  go_enter Ybaf.func9, Ybaf.ntmps9
  go_wp2
  have hM0 : Mak S w ((w.alloc (scopeObj sp)).alloc (.cells #[.string ⟨#[]⟩, .string nm, .slice aa an ac, .slice none 0 0, .pointer none, .map (some w.heap.size)] 59)) nm sp (.slice aa an ac) (.slice none 0 0) [] :=
    ⟨((Gro.refl _ _ _).alloc _).alloc _, heap_new2 _ _ _, World.ownsRow_nil _ _ _ _, ((Chg.refl [] _).alloc _).obj (heap_alloc_new _ _) (by simp)⟩
  have hs0 : w.heap.size + 1 < ((w.alloc (scopeObj sp)).alloc (.cells #[.string ⟨#[]⟩, .string nm, .slice aa an ac, .slice none 0 0, .pointer none, .map (some w.heap.size)] 59)).heap.size := by simp
  generalize (w.alloc (scopeObj sp)).alloc (.cells #[.string ⟨#[]⟩, .string nm, .slice aa an ac, .slice none 0 0, .pointer none, .map (some w.heap.size)] 59) = w1 at hM0 hs0 ⊢
  have HM0 : Hid (Mak S w w1 nm sp (.slice aa an ac) (.slice none 0 0) []) := hM0
  clear hM0 hm hins
  go_loopw [21] (fun i wr => ∃ (k : Nat), k ≤ kids.length ∧ i = .int .i64 k ∧ ∃ vc, Mak S w wr nm sp (.slice aa an ac) vc (kids.take k)) (fun i _ => kids.length - (intOf i).toNat)
  case atStart => exact ⟨0, Nat.zero_le _, rfl, _, HM0.out⟩
  case round =>
    obtain ⟨k, hkk, rfl, vc, hM⟩ := hrel
    have HM : Hid (Mak S w wr nm sp (.slice aa an ac) vc (kids.take k)) := hM
    clear hM
    by_cases hlt : k < kids.length
    · have hki : (k : Int) < (kids.length : Int) := by omega
      obtain ⟨g, rfl, hg⟩ := row_cells (HM.out.gro.row HV.out (by decide) (by simp)) rfl (by omega)
      have hgk : wr.cell? ⟨g, k, none⟩ = some (.pointer (some ⟨kids[k], 0, none⟩)) := hg k _ (by simp [ptrs, hlt])
      have HKE : Hid (ElAt wr kids[k] (nds k) (kk k)) := (HK.out k _ (by simp [hlt])).keptG HM.out.gro (Soft.nil _)
      have hklow : S ≤ kids[k] := HLOW.out _ (List.getElem_mem hlt)
      have hkw : kids[k] < w.heap.size := World.block_lt_of_cell? w _ (HK.out k _ (by simp [hlt])).c0
      obtain ⟨ov, h4, h4f⟩ := el4 HKE.out
      obtain ⟨b3, b3f⟩ := Mak.cells HM.out.blk
      obtain ⟨va, vcc, rfl⟩ := own_len HM.out.row
      have HTK : Hid (kids.take (k + 1) = kids.take k ++ [kids[k]]) := take_step hlt
      have hl0 : (kids.take k).length = k := by simp; omega
      clear hg
      generalize kids[k] = kb at *
      rw [hl0] at b3
      go_upto_region 6 with fail
      have hM2 := HM.out.set4 hklow hkw HKE.out.ty.choose_spec.1 (.pointer (some ⟨w.heap.size + 1, 0, none⟩))
      generalize wr.setCell ⟨kb, 4, none⟩ (.pointer (some ⟨w.heap.size + 1, 0, none⟩)) = wr2 at hM2 ⊢
      have HM2 : Hid (Mak S w wr2 nm sp (.slice aa an ac) (.slice va (kids.take k).length vcc) (kids.take k)) := hM2
      have HROW : Hid (wr2.ownsRow w.heap.size 69 1 (.slice va k vcc) k (nodes (kids.take k))) := by have := hM2.row; rw [hl0] at this; exact this
      have hszw := hM2.gro.size
      clear b3 b3f h4 h4f hgk
      obtain ⟨b3, b3f⟩ := Mak.cells hM2.blk
      rw [hl0] at b3
      have HL0 : Hid ((kids.take k).length = k) := hl0
      clear hM2 hl0
      go_wp2_with (at_builtin; refine wpList_append_own_at _ rfl _ _ 57 rfl w.heap.size 69 i69 .nilIface 1 16 Ybaf.underlying57 hi0 hz0 hz1 hz2 rfl (by decide) (.slice va k vcc) k (nodes (kids.take k)) rfl (HROW.out.alloc _) ⟨wr2.heap.size, 0, none⟩ 1 1 [.iface 24 (.pointer (some ⟨kb, 0, none⟩))] rfl rfl ?hn ?h1 (by unfold maxLen; omega) (by omega) (by simp; omega) ?_)
      case hn => exact cell_one_new _ _ _
      case h1 => simp [Value.oneCell']
      intro v' w9 hown hgrow hnil hat
      obtain ⟨a', c', rfl⟩ := own_len hown
      have hc9 : Chg (Value.ownBlock (.slice va (kids.take k).length vcc)).toList wr2 w9 := by
        have : Value.ownBlock (.slice va (kids.take k).length vcc) = Value.ownBlock (.slice va k vcc) := by cases va <;> rfl
        rw [this]
        exact ((Chg.refl _ wr2).alloc _).trans (Chg.ofGrown hgrow (fun k hk => .inl (by simp [hk])))
      obtain ⟨hb9, hM9⟩ := HM2.out.push (kb := kb) hS (by rw [HL0.out]; exact hown) hc9
      rw [← HTK.out] at hM9
      have HM9 : Hid (Mak S w (w9.setCell ⟨w.heap.size + 1, 3, none⟩ (.slice a' (k + 1) c')) nm sp (.slice aa an ac) (.slice a' (k + 1) c') (kids.take (k + 1))) := hM9
      obtain ⟨t3, t3f⟩ := Mak.cells hb9
      clear hown hgrow hnil hat hc9 hb9 hM9 b3 b3f
      go_wp2
      go_roundw
      case rel => exact ⟨k + 1, by omega, by go_num, _, HM9.out⟩
      case measure => simp [intOf]; omega
    · have hke : k = kids.length := by omega
      have hki : ¬ (k : Int) < (kids.length : Int) := by omega
      have hki' : (kids.length : Int) ≤ (k : Int) := by omega
      have HEND : Hid (Mak S w wr nm sp (.slice aa an ac) vc kids) := by
        have h := HM.out
        rw [List.take_of_length_le (by omega)] at h
        exact h
      clear hke
      go_wp2
      go_ret
      refine ⟨w.heap.size + 1, rfl, by omega, HEND.out.gro, ?_, by simp [World.cell?, HEND.out.blk]⟩
      refine ⟨⟨_, HEND.out.blk, rfl⟩, by simp [World.cell?, HEND.out.blk], by simp [World.cell?, HEND.out.blk], ⟨.slice aa an ac, by simp [World.cell?, HEND.out.blk], ?_⟩, ⟨vc, by simp [World.cell?, HEND.out.blk], own_lower HEND.out.row (Nat.zero_le _)⟩, ⟨w.heap.size, by simp [World.cell?, HEND.out.blk], HEND.out.scope⟩⟩
      cases hat : attr with
      | none => have := HA.out; rw [hat] at this; exact this
      | some ax =>
        have := HA.out
        rw [hat] at this
        obtain ⟨ab, e, hab⟩ := this
        exact ⟨ab, e, HEND.out.gro.objT hab (by simp) (by decide)⟩

/-- An element without kids. -/
theorem el_leaf (S : Nat) (sp nm : ByteArray) (w : World) (hS : S ≤ w.heap.size) :
    Calls Ybaf.prog 9 #[.string sp, .string nm, .slice none 0 0, .slice none 0 0] w fun e w' => ∃ b, e = .returned (.pointer (some ⟨b, 0, none⟩)) ∧ w.heap.size ≤ b ∧ Gro S [] w w' ∧ ElAt w' b ⟨nm, none, sp⟩ [] :=
  (el_new S 0 sp nm none _ _ [] (fun _ => ⟨nm, none, sp⟩) (fun _ => []) w hS rfl (World.ownsRow_nil _ _ _ _) (fun i k hi => by simp at hi) (by simp) (by simp)).mono (fun e w' h => by
    obtain ⟨b, h1, h2, h3, h4, _⟩ := h
    exact ⟨b, h1, h2, h3, h4⟩)

theorem KidsAt.ofAll {w : World} {ks : List Kid} (h : AllAt w ks) : KidsAt w (kidsOf ks) (ndOf ks) (fun i => ((ks[i]?).map (·.2.2)).getD []) := h.kidsAt

/-- An element over listed kids. -/
theorem el_ks (S S' : Nat) (sp nm : ByteArray) (vk : Value) (ks : List Kid) (w : World) (hS : S ≤ w.heap.size) (hv : w.ownsRow S' 24 1 vk (kidsOf ks).length (ptrs (kidsOf ks))) (hk : AllAt w ks) (hlow : ∀ x, x ∈ ks → S ≤ x.1) (hl : (kidsOf ks).length ≤ 4096) :
    Calls Ybaf.prog 9 #[.string sp, .string nm, .slice none 0 0, vk] w fun e w' => ∃ b, e = .returned (.pointer (some ⟨b, 0, none⟩)) ∧ w.heap.size ≤ b ∧ Gro S [] w w' ∧ ElAt w' b ⟨nm, none, sp⟩ (kidsOf ks) ∧ w'.cell? ⟨b, 4, none⟩ = some (.pointer none) :=
  el_new S S' sp nm none _ vk (kidsOf ks) (ndOf ks) _ w hS rfl hv hk.kidsAt (fun k hk' => by obtain ⟨x, hx, rfl⟩ := List.mem_map.1 hk'; exact hlow x hx) hl
theorem el_attr (S S' : Nat) (sp nm n x : ByteArray) (ab : Nat) (vk : Value) (ks : List Kid) (w : World) (hS : S ≤ w.heap.size) (ha : w.heap[ab]? = some (.cells #[.string ⟨#[]⟩, .string n, .string x] 46 (0, 0))) (hv : w.ownsRow S' 24 1 vk (kidsOf ks).length (ptrs (kidsOf ks))) (hk : AllAt w ks) (hlow : ∀ x, x ∈ ks → S ≤ x.1) (hl : (kidsOf ks).length ≤ 4096) :
    Calls Ybaf.prog 9 #[.string sp, .string nm, .slice (some ⟨ab, 0, none⟩) 1 1, vk] w fun e w' => ∃ b, e = .returned (.pointer (some ⟨b, 0, none⟩)) ∧ w.heap.size ≤ b ∧ Gro S [] w w' ∧ ElAt w' b ⟨nm, some (n, x), sp⟩ (kidsOf ks) :=
  (el_new S S' sp nm (some (n, x)) _ vk (kidsOf ks) (ndOf ks) _ w hS ⟨ab, rfl, ha⟩ hv hk.kidsAt (fun k hk' => by obtain ⟨x, hx, rfl⟩ := List.mem_map.1 hk'; exact hlow x hx) hl).mono (fun e w' h => by
    obtain ⟨b, h1, h2, h3, h4, _⟩ := h
    exact ⟨b, h1, h2, h3, h4⟩)

/-- An element that names an algorithm. -/
theorem alg_new (S S' : Nat) (nm uri : ByteArray) (vk : Value) (ks : List Kid) (w : World) (hS : S ≤ w.heap.size) (hv : w.ownsRow S' 24 1 vk (kidsOf ks).length (ptrs (kidsOf ks))) (hk : AllAt w ks) (hlow : ∀ x, x ∈ ks → S ≤ x.1) (hl : (kidsOf ks).length ≤ 4096) :
    Calls Ybaf.prog 10 #[.string nm, .string uri, vk] w fun e w' => ∃ b, e = .returned (.pointer (some ⟨b, 0, none⟩)) ∧ w.heap.size ≤ b ∧ Gro S [] w w' ∧ ElAt w' b ⟨nm, some (ALG, uri), NS⟩ (kidsOf ks) := by
  have hC : Chg [] w (w.alloc (.cells #[.string ⟨#[]⟩, .string ALG, .string uri] 46)) := (Chg.refl _ _).alloc _
  have EL : Hid (Calls Ybaf.prog 9 #[.string NS, .string nm, .slice (some ⟨w.heap.size, 0, none⟩) 1 1, vk] (w.alloc (.cells #[.string ⟨#[]⟩, .string ALG, .string uri] 46)) fun e w' => ∃ b, e = .returned (.pointer (some ⟨b, 0, none⟩)) ∧ w.heap.size ≤ b ∧ Gro S [] w w' ∧ ElAt w' b ⟨nm, some (ALG, uri), NS⟩ (kidsOf ks)) :=
    (el_attr S S' NS nm ALG uri w.heap.size vk ks _ (by simp; omega) (heap_alloc_new _ _) (ownsRow_kept hv hC (by simp)) (hk.keptC hC) hlow hl).mono (fun e w' h => by
      obtain ⟨b, h1, h2, h3, h4⟩ := h
      exact ⟨b, h1, by have := hC.size; omega, (Gro.ofChg hC (by simp)).trans h3, h4⟩)
  obtain ⟨a, c, rfl⟩ := own_len hv
  clear hv hk hlow hC
  go_enter Ybaf.func10, Ybaf.ntmps10
  go_wp2_with (go_at_call 9; refine EL.out.mono ?_; rintro e w2 ⟨b, rfl, h2, h3, h4⟩)
  go_ret
  exact ⟨b, rfl, h2, h3, h4⟩

end Go.Proofs.YbulkcvhiFmt
