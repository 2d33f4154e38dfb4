/-
  Seat b4844aF: readSignature, the early refusals.
-/
import Derived.Test.YbulkcvhiFmtSigN
import Derived.Deep.DeepCutAuto
namespace Go.Proofs.YbulkcvhiFmt
open Go.RowKit Go.Extern.Stop Go.Stop Go.Extern
set_option linter.unusedVariables false

abbrev Z39 : Obj := .cells #[.pointer none, .slice none 0 0, .pointer none, .slice none 0 0, .pointer none, .pointer none] 39
abbrev Z9s : Obj := .cells #[.string sSI, .string sSV, .string sKI] 9

set_option maxHeartbeats 3200000 in
theorem readSig_bad1 (F : Interp) (sig : Nat) (d : Nd) (ks : List Kid) (w : World) (hF : F.answers w.tape) (h : ElAt w sig d (kidsOf ks)) (hA : AllAt w ks) (hk : (kidsOf ks).length ≤ 4096) (hx : expK d sSig [sSI, sSV, sKI] sOb ks = false) :
    Calls Ybaf.prog 7 #[.pointer (some ⟨sig, 0, none⟩)] w fun e w' => ∃ p, e = .returned (.tuple #[.pointer none, .iface 72 (.pointer (some ⟨p, 0, none⟩))]) ∧ Chg [] w w' := by
  have HF : Hid (F.answers w.tape) := hF
  have HE : Hid (ElAt w sig d (kidsOf ks)) := h
  have HA : Hid (AllAt w ks) := hA
  have hC0 : Chg [] w ((w.alloc Z39).alloc Z9s) := ((Chg.refl _ w).alloc _).alloc _
  have EX := expect_ks F sSig sOb [sSI, sSV, sKI] (w.heap.size + 1) 3 sig d ks ((w.alloc Z39).alloc Z9s) (by have := HF.out; rw [← hC0.tape] at this; exact this) (HE.out.keptC hC0) (HA.out.keptC hC0) hk (cells3 (heap_new2 _ _ _)) neSig (by simp) (by simp) (by simp) joinSig (by decide) (by simp)
  rw [hx] at EX
  have EX2 : Hid (Calls Ybaf.prog 11 #[.pointer (some ⟨sig, 0, none⟩), .string sSig, .slice (some ⟨w.heap.size + 1, 0, none⟩) 3 3, .string sOb] ((w.alloc Z39).alloc Z9s) fun e w' => ∃ p, e = .returned (.tuple #[.slice none 0 0, .iface 72 (.pointer (some ⟨p, 0, none⟩))]) ∧ Chg [] ((w.alloc Z39).alloc Z9s) w') := by
    refine EX.mono ?_
    rintro e w' ⟨v1, v2, rfl, hX, hC⟩
    obtain ⟨rfl, p, rfl⟩ : v1 = .slice none 0 0 ∧ ∃ p, v2 = .iface 72 (.pointer (some ⟨p, 0, none⟩)) := hX
    exact ⟨p, rfl, hC⟩
  clear EX h hA hF
  go_enter Ybaf.func7, Ybaf.ntmps7
  go_wp2_with (go_at_call 11; refine EX2.out.mono ?_; rintro e w2 ⟨p, rfl, hC2⟩)
  go_ret2
  exact ⟨p, rfl, hC0.trans hC2⟩

end Go.Proofs.YbulkcvhiFmt
