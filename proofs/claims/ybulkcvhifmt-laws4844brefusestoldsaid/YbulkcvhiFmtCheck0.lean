/-
  Seat b4844aF: the check, where the Signature is refused.
-/
import Derived.Test.YbulkcvhiFmtTree
namespace Go.Proofs.YbulkcvhiFmt
open Go.RowKit Go.Extern.Stop Go.Stop Go.Extern
set_option linter.unusedVariables false


set_option maxHeartbeats 1600000 in
theorem check_bad (F : Interp) (D : SigD) (w : World) (ua ta da ca : Option Addr) (un uc tn tc dn dc cn cc : Nat) (mp xp : Option Addr) (hF : F.answers w.tape) (h : SigTree w D) (hok : D.ok = false) :
    Calls Ybaf.prog 5 #[.agg #[.pointer (some ⟨D.sig, 0, none⟩), .pointer (some ⟨D.si, 0, none⟩), .pointer (some ⟨D.sv, 0, none⟩), .slice ua un uc, .slice ta tn tc, .slice da dn dc, .slice ca cn cc, .pointer mp, .pointer xp, .bool true]] w fun e w' => e = .returned (.bool true) ∧ Chg [] w w' := by
  have HC0 : Hid (∀ o, Chg [] w (w.alloc o)) := fun o => (Chg.refl _ _).alloc o
  have RS : Hid (∀ o, Calls Ybaf.prog 7 #[.pointer (some ⟨D.sig, 0, none⟩)] (w.alloc o) fun e w' => ∃ p, e = .returned (.tuple #[.pointer none, .iface 72 (.pointer (some ⟨p, 0, none⟩))]) ∧ Chg [] (w.alloc o) w') := by
    intro o
    refine (readSig_all F D (w.alloc o) (by have := hF; rw [← (HC0.out o).tape] at this; exact this) (h.keptC (HC0.out o))).mono ?_
    rintro e w' ⟨v1, v2, rfl, hO, hC⟩
    rw [hok] at hO
    obtain ⟨rfl, p, rfl⟩ := hO
    exact ⟨p, rfl, hC⟩
  clear h hF
  generalize D.sig = sg at *
  generalize D.si = si at *
  generalize D.sv = sv at *
  go_enter Ybaf.func5, Ybaf.ntmps5
  go_wp2_with (go_at_call 7; refine (RS.out _).mono ?_; rintro e w2 ⟨p, rfl, hC2⟩; have hb := hC2.obj (heap_alloc_new w _) (by simp); have h9 : w2.cell? ⟨w.heap.size, 9, none⟩ = some (.bool true) := (by simp [World.cell?, hb]); have HC2 : Hid (Chg [] w w2) := (HC0.out _).trans hC2; clear hb hC2)
  go_ret
  exact ⟨rfl, HC2.out⟩

end Go.Proofs.YbulkcvhiFmt
