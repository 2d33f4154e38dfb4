/-
  Seat b4844aF: algorithm.
-/
import Derived.Test.YbulkcvhiFmtErr
namespace Go.Proofs.YbulkcvhiFmt
open Go.RowKit Go.Extern.Stop Go.Stop Go.Extern
set_option linter.unusedVariables false

theorem ElAt.keptC {w w' : World} {b : Nat} {d : Nd} {kids : List Nat} (h : ElAt w b d kids) (hc : Chg [] w w') : ElAt w' b d kids := by
  have hb : ∀ (k : Nat) (o : Obj), w.heap[k]? = some o → w'.heap[k]? = some o := fun k o ho => (hc.block k (Array.getElem?_eq_some_iff.1 ho).1 (by simp)).trans ho
  obtain ⟨c, h1, h2⟩ := h.ty
  obtain ⟨v2, k2, a2⟩ := h.c2
  obtain ⟨v3, k3, a3⟩ := h.c3
  obtain ⟨mb, k5, a5⟩ := h.c5
  refine ⟨⟨c, hb _ _ h1, h2⟩, hc.cell h.c0 (by simp), hc.cell h.c1 (by simp), ⟨v2, hc.cell k2 (by simp), ?_⟩, ⟨v3, hc.cell k3 (by simp), ownsRow_kept a3 hc (by simp)⟩, ⟨mb, hc.cell k5 (by simp), hb _ _ a5⟩⟩
  cases hd : d.attr with
  | none => rw [hd] at a2; exact a2
  | some ax =>
    rw [hd] at a2
    obtain ⟨ab, h, hab⟩ := a2
    exact ⟨ab, h, hb _ _ hab⟩

theorem own_len {w : World} {S e n : Nat} {v : Value} {xs : List Value} (h : w.ownsRow S e 1 v n xs) : ∃ a c, v = .slice a n c := by
  rcases h.2 with ⟨rfl, hn⟩ | ⟨g, cap, cur, rfl, _⟩
  · exact ⟨none, 0, by rw [hn]⟩
  · exact ⟨_, _, rfl⟩

def ALG : ByteArray := ⟨#[65, 108, 103, 111, 114, 105, 116, 104, 109]⟩
def algB (d : Nd) (kids : List Nat) (uri : ByteArray) : Bool := (((attrOf d ALG).getD ⟨#[]⟩).toList == uri.toList) && kids.isEmpty

/-- What an error is: nil, or one of errors.New's make. -/
def ErrV (ok : Bool) (v : Value) : Prop := if ok then v = .nilIface else ∃ p, v = .iface 72 (.pointer (some ⟨p, 0, none⟩))

set_option maxHeartbeats 1600000 in
theorem algorithm_el (F : Interp) (uri : ByteArray) (b : Nat) (d : Nd) (kids : List Nat) (w : World) (hF : F.answers w.tape) (h : ElAt w b d kids) (hk : kids.length ≤ 4096) :
    Calls Ybaf.prog 12 #[.pointer (some ⟨b, 0, none⟩), .string uri] w fun e w' => ∃ v, e = .returned v ∧ ErrV (algB d kids uri) v ∧ Chg [] w w' := by
  have HE : Hid (ElAt w b d kids) := h
  have HF : Hid (F.answers w.tape) := hF
  clear h hF
  cases hq : ((((attrOf d ALG).getD ⟨#[]⟩).toList == uri.toList))
  · go_enter Ybaf.func12, Ybaf.ntmps12
    go_wp2_with (first
      | (go_at_call 20; refine (attr_el ALG b d kids w HE.out).mono ?_; rintro e w1 ⟨rfl, hC1⟩; have h1 := (HE.out.keptC hC1).c1; have HC1 : Hid (Chg [] w w1) := hC1; clear hC1)
      | (go_at_call 17; refine (errorf_E1 F d.name ((attrOf d ALG).getD ⟨#[]⟩) uri w1.heap.size _ (by have := HF.out; rw [← HC1.out.tape] at this; exact this) (by simp [World.cell?_alloc_at]) (by simp [World.cell?_alloc_at]) (by simp [World.cell?_alloc_at])).mono ?_; rintro e w2 ⟨p, rfl, hC2⟩))
    go_ret
    exact ⟨_, rfl, by simp [ErrV, algB, hq], (HC1.out.alloc _).trans hC2⟩
  by_cases hkn : kids.length = 0
  · have HK : Hid (kids = []) := List.eq_nil_of_length_eq_zero hkn
    have HKN : Hid (kids.length = 0) := hkn
    clear hkn
    go_enter Ybaf.func12, Ybaf.ntmps12
    go_wp2_with (first
      | (go_at_call 20; refine (attr_el ALG b d kids w HE.out).mono ?_; rintro e w1 ⟨rfl, hC1⟩; have HC1 : Hid (Chg [] w w1) := hC1; clear hC1)
      | (go_at_call 14; refine (elements_el b d kids w1 (HE.out.keptC HC1.out) hk).mono ?_; rintro e w2 ⟨v, rfl, hO2, hC2⟩; rw [HKN.out] at hO2; obtain ⟨a, c, rfl⟩ := own_len hO2; have HC2 : Hid (Chg [] w1 w2) := hC2; clear hO2 hC2))
    go_ret
    exact ⟨_, rfl, by simp [ErrV, algB, hq, HK.out], HC1.out.trans HC2.out⟩
  · have hpos : (0 : Int) < (kids.length : Int) := by omega
    have HK : Hid (kids ≠ []) := fun e => hkn (by rw [e]; rfl)
    go_enter Ybaf.func12, Ybaf.ntmps12
    go_wp2_with (first
      | (go_at_call 20; refine (attr_el ALG b d kids w HE.out).mono ?_; rintro e w1 ⟨rfl, hC1⟩; have HC1 : Hid (Chg [] w w1) := hC1; clear hC1)
      | (go_at_call 14; refine (elements_el b d kids w1 (HE.out.keptC HC1.out) hk).mono ?_; rintro e w2 ⟨v, rfl, hO2, hC2⟩; obtain ⟨a, c, rfl⟩ := own_len hO2; have h1' := ((HE.out.keptC HC1.out).keptC hC2).c1; have HC2 : Hid (Chg [] w1 w2) := hC2; clear hO2 hC2)
      | (go_at_call 17; refine (errorf_E2 F d.name uri w2.heap.size _ (by have := HF.out; rw [← HC1.out.tape, ← HC2.out.tape] at this; exact this) (by simp [World.cell?_alloc_at]) (by simp [World.cell?_alloc_at])).mono ?_; rintro e w3 ⟨p, rfl, hC3⟩))
    go_ret
    exact ⟨_, rfl, by simp [ErrV, algB, hq, HK.out], (HC1.out.trans HC2.out).trans (((Chg.refl _ _).alloc _).trans hC3)⟩

end Go.Proofs.YbulkcvhiFmt
