/-
  Seat b4844aF: Elements, Attr, the frame of trees.
-/
import Derived.Test.YbulkcvhiFmtBase
namespace Go.Proofs.YbulkcvhiFmt
open Go.RowKit Go.Extern.Stop Go.Stop Go.Extern
set_option linter.unusedVariables false

theorem info24 : (Ybaf.prog.info? 24).map (fun i => (i.zero, i.size, i.bytes)) = some (some (.pointer none), 1, 8) := by kernel_rfl
theorem info69 : (Ybaf.prog.info? 69).map (fun i => (i.zero, i.size, i.bytes)) = some (some .nilIface, 1, 16) := by kernel_rfl
theorem info9 : (Ybaf.prog.info? 9).map (fun i => (i.zero, i.size, i.bytes)) = some (some (.string ⟨#[]⟩), 1, 16) := by kernel_rfl

theorem one_at {x : Value} {i : Nat} {u : Value} (h : [x][i]? = some u) : i = 0 ∧ u = x := by
  cases i with
  | zero => simp at h; exact ⟨rfl, h.symm⟩
  | succ n => simp at h

/-- A slice that owns a row: its shape and its cells. -/
theorem own_shape {w : World} {S e : Nat} {v : Value} {xs : List Value} (h : w.ownsRow S e 1 v xs.length xs) :
    ∃ a c, v = .slice a xs.length c ∧ (0 < xs.length → ∃ g, a = some ⟨g, 0, none⟩ ∧ ∀ j u, xs[j]? = some u → w.cell? ⟨g, j, none⟩ = some u) := by
  have hc := fun g hg => h.cells (g := g) hg
  rcases h.2 with ⟨rfl, hn⟩ | ⟨g, cap, cur, rfl, _⟩
  · exact ⟨none, 0, by rw [hn], fun h0 => by omega⟩
  · refine ⟨some ⟨g, 0, none⟩, cap, rfl, fun _ => ⟨g, rfl, fun j u hj => ?_⟩⟩
    have := hc g rfl j u hj
    rwa [Go.WideShapes.add_plain, Nat.zero_add] at this

theorem assert24 (w : World) (x : Value) : (Instr.typeAssert (.iface 24 x) 69 24 true).run Ybaf.prog w = .ok (.tuple #[x, .bool true]) w := by kernel_rfl

set_option maxHeartbeats 1600000 in
theorem elements_el (b : Nat) (d : Nd) (kids : List Nat) (w : World) (h : ElAt w b d kids) (hk : kids.length ≤ 4096) :
    Calls Ybaf.prog 14 #[.pointer (some ⟨b, 0, none⟩)] w fun e w' => ∃ v, e = .returned v ∧ w'.ownsRow w.heap.size 24 1 v kids.length (ptrs kids) ∧ Chg [] w w' := by
  obtain ⟨i0, hi0, hz0, hz1, hz2⟩ := info_parts info24
  obtain ⟨v3, h3, hr⟩ := h.c3
  have hnl : (nodes kids).length = kids.length := by simp [nodes]
  rw [← hnl] at hr
  obtain ⟨a, c, rfl, hcells⟩ := own_shape hr
  have HCE : Hid (0 < (nodes kids).length → ∃ g, a = some ⟨g, 0, none⟩ ∧ ∀ j u, (nodes kids)[j]? = some u → w.cell? ⟨g, j, none⟩ = some u) := hcells
  clear hcells hr
  rw [hnl] at h3
  have ha := assert24
  go_enter Ybaf.func14, Ybaf.ntmps14
  go_wp2
  go_loopw [3, 13] (fun t i wr => ∃ (k : Nat), k ≤ kids.length ∧ i = .int .i64 k ∧ wr.ownsRow w.heap.size 24 1 t k (ptrs (kids.take k)) ∧ Chg [] w wr) (fun _ i _ => kids.length - (intOf i).toNat)
  case atStart => exact ⟨0, Nat.zero_le _, rfl, World.ownsRow_nil _ _ _ _, Chg.refl _ _⟩
  case round =>
    obtain ⟨k, hk', rfl, hO, hC⟩ := hrel
    by_cases hlt : k < kids.length
    · obtain ⟨g, rfl, hg⟩ := HCE.out (by rw [hnl]; omega)
      have hki : (k : Int) < (kids.length : Int) := by omega
      have hx : (nodes kids)[k]? = some (.iface 24 (.pointer (some ⟨kids[k], 0, none⟩))) := by simp [nodes, hlt]
      have hcell : wr.cell? ⟨g, k, none⟩ = some (.iface 24 (.pointer (some ⟨kids[k], 0, none⟩))) := hC.cell (hg k _ hx) (by simp)
      have HO : Hid (wr.ownsRow w.heap.size 24 1 u3 k (ptrs (kids.take k))) := hO
      have HC : Hid (Chg [] w wr) := hC
      have hT : ptrs (kids.take k) ++ [.pointer (some ⟨kids[k], 0, none⟩)] = ptrs (kids.take (k + 1)) := by
        rw [List.take_succ_eq_append_getElem hlt]; simp only [ptrs, List.map_append, List.map_cons, List.map_nil]
      have HT : Hid (ptrs (kids.take k) ++ [.pointer (some ⟨kids[k], 0, none⟩)] = ptrs (kids.take (k + 1))) := hT
      have hsz := hC.size
      generalize kids[k] = kb at *
      clear hg hx hO hC hT
      go_wp2_with (first
        | (at_builtin; refine wpList_append_own _ rfl _ _ 26 rfl w.heap.size 24 i0 (.pointer none) 1 8 Ybaf.underlying26 hi0 hz0 hz1 hz2 rfl (by decide) u3 k (ptrs (kids.take k)) rfl (HO.out.alloc _) ⟨wr.heap.size, 0, none⟩ 1 1 [.pointer (some ⟨kb, 0, none⟩)] rfl rfl ?hn ?h1 (by unfold maxLen; omega) (by omega) (by simp; omega) ?_))
      case hn =>
        intro i u hi'
        obtain ⟨rfl, rfl⟩ := one_at hi'
        simp [Addr.add, World.cell?_alloc_at]
      case h1 => simp [Value.oneCell']
      intro v' w1 hown hgrow hnil
      have hc1 : Chg [] w w1 := (((HC.out.alloc _).mono (l' := u3.ownBlock.toList) (by simp)).trans (Chg.ofGrown hgrow (fun k hk => .inl (by simp [hk])))).mono (fun k hk => .inr ((HO.out.lt k (by simpa using hk)).1))
      rw [HT.out] at hown
      have HO1 : Hid (w1.ownsRow w.heap.size 24 1 v' (k + 1) (ptrs (kids.take (k + 1)))) := hown
      have HC1 : Hid (Chg [] w w1) := hc1
      clear hown hgrow hnil hc1
      go_wp2
      go_roundw
      case rel => exact ⟨k + 1, by omega, by go_num, HO1.out, HC1.out⟩
      case measure => simp [intOf]; omega
    · obtain rfl : k = kids.length := by omega
      have HO : Hid (wr.ownsRow w.heap.size 24 1 u3 kids.length (ptrs (kids.take kids.length))) := hO
      have HC : Hid (Chg [] w wr) := hC
      clear hO hC
      go_wp2
      go_ret
      exact ⟨_, rfl, by have := HO.out; rwa [List.take_length] at this, HC.out⟩

def attrOf (d : Nd) (n : ByteArray) : Option ByteArray :=
  match d.attr with
  | some (a, x) => if a.toList == n.toList then some x else none
  | none => none

set_option maxHeartbeats 1600000 in
theorem attr_el (n : ByteArray) (b : Nat) (d : Nd) (kids : List Nat) (w : World) (h : ElAt w b d kids) :
    Calls Ybaf.prog 20 #[.pointer (some ⟨b, 0, none⟩), .string n] w fun e w' => e = .returned (.tuple #[.string ((attrOf d n).getD ⟨#[]⟩), .bool (attrOf d n).isSome]) ∧ Chg [] w w' := by
  obtain ⟨v2, h2, hA⟩ := h.c2
  cases hd : d.attr with
  | none =>
    rw [hd] at hA
    obtain rfl : v2 = .slice none 0 0 := hA
    have hr : attrOf d n = none := by simp [attrOf, hd]
    rw [hr]
    go_enter Ybaf.func20, Ybaf.ntmps20
    go_wp2
    refine wp_loop_rounds 1 ?_
    rw [rounds_succ]
    go_wp2
    go_ret2
    exact ⟨rfl, Chg.refl _ _⟩
  | some ax =>
    obtain ⟨ax1, ax2⟩ := ax
    rw [hd] at hA
    obtain ⟨ab, rfl, hab⟩ := hA
    have a0 : w.cell? ⟨ab, 0, none⟩ = some (.string ⟨#[]⟩) := by simp [World.cell?, hab]
    have a1 : w.cell? ⟨ab, 1, none⟩ = some (.string ax1) := by simp [World.cell?, hab]
    have a2 : w.cell? ⟨ab, 2, none⟩ = some (.string ax2) := by simp [World.cell?, hab]
    clear hab
    cases hq : (ax1.toList == n.toList)
    · have hr : attrOf d n = none := by simp [attrOf, hd, hq]
      rw [hr]
      go_enter Ybaf.func20, Ybaf.ntmps20
      go_wp2
      refine wp_loop_rounds 2 ?_
      rw [rounds_succ]
      go_wp2
      rw [rounds_succ]
      go_wp2
      go_ret2
      exact ⟨rfl, (Chg.refl _ _).alloc _⟩
    · have hr : attrOf d n = some ax2 := by simp [attrOf, hd, hq]
      rw [hr]
      go_enter Ybaf.func20, Ybaf.ntmps20
      go_wp2
      refine wp_loop_rounds 1 ?_
      rw [rounds_succ]
      go_wp2
      go_ret2
      exact ⟨rfl, (Chg.refl _ _).alloc _⟩

end Go.Proofs.YbulkcvhiFmt
