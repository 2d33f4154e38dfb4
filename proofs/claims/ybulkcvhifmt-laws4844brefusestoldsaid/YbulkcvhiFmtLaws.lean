/-
  Seat b4844aF: the two laws' walks.
-/
import Derived.Test.YbulkcvhiFmtB0
import Derived.Test.YbulkcvhiFmtCheck
namespace Go.Proofs.YbulkcvhiFmt
open Go.RowKit Go.Extern.Stop Go.Stop Go.Extern
set_option linter.unusedVariables false

theorem check_built (F : Interp) (w : World) (v : Value) (hF : F.answers w.tape) (h : Built w v) : Calls Ybaf.prog 5 #[v] w fun e w' => e = .returned (.bool true) ∧ Chg [] w w' := by
  obtain ⟨D, hT, h⟩ := h
  rcases h with ⟨hok, vu, vt, vd, vc, hW, rfl⟩ | ⟨hok, ua, ta, da, ca, mp, xp, un, uc, tn, tc, dn, dc, cn, cc, rfl⟩
  · exact check_ok F D w vu vt vd vc hF hT hW hok
  · exact check_bad F D w ua ta da ca un uc tn tc dn dc cn cc mp xp hF hT hok

set_option maxHeartbeats 1600000 in
theorem reads_small (F : Interp) (ra ia : Option Addr) (nr rc ni ic : Nat) (w : World) (hF : F.answers w.tape) (hr : U8s w ra nr) (hi : U8s w ia ni) (hnr : nr ≤ 1024) (hni : ni ≤ 1024) :
    Calls Ybaf.prog 3 #[.slice ra nr rc, .slice ia ni ic] w fun e w' => e = .returned (.bool true) ∧ Chg [] w w' := by
  have B : Hid (Calls Ybaf.prog 6 #[.slice ra nr rc, .slice ia ni ic, .int .i64 0] w fun e w' => ∃ v, e = .returned v ∧ Built w' v ∧ Chg [] w w') := build_m0 ra ia nr rc ni ic w hr hi hnr hni
  have HF : Hid (F.answers w.tape) := hF
  have h1 : ¬ (1024 : Int) < (nr : Int) := by omega
  have h1' : (nr : Int) ≤ 1024 := by omega
  have h2 : ¬ (1024 : Int) < (ni : Int) := by omega
  have h2' : (ni : Int) ≤ 1024 := by omega
  clear hF hr hi
  go_enter Ybaf.func3, Ybaf.ntmps3
  go_wp2_with fail
  refine B.out.mono ?_
  rintro e w1 ⟨v, rfl, hB, hC⟩
  have CB : Hid (Calls Ybaf.prog 5 #[v] w1 fun e w' => e = .returned (.bool true) ∧ Chg [] w1 w') := check_built F w1 v (by have := HF.out; rw [← hC.tape] at this; exact this) hB
  have HC : Hid (Chg [] w w1) := hC
  clear hB hC B
  go_wp2_with fail
  refine CB.out.mono ?_
  rintro e w2 ⟨rfl, hC2⟩
  go_wp2
  go_ret
  exact ⟨rfl, HC.out.trans hC2⟩

set_option maxHeartbeats 1600000 in
theorem reads_big1 (ra ia : Option Addr) (nr rc ni ic : Nat) (w : World) (hnr : 1024 < nr) (hm : nr ≤ 9223372036854775807) :
    Calls Ybaf.prog 3 #[.slice ra nr rc, .slice ia ni ic] w fun e w' => e = .returned (.bool true) ∧ Chg [] w w' := by
  have h1 : (1024 : Int) < (nr : Int) := by omega
  go_enter Ybaf.func3, Ybaf.ntmps3
  go_wp2
  go_ret
  exact ⟨rfl, Chg.refl _ _⟩

set_option maxHeartbeats 1600000 in
theorem reads_big2 (ra ia : Option Addr) (nr rc ni ic : Nat) (w : World) (hnr : nr ≤ 1024) (hni : 1024 < ni) (hm : ni ≤ 9223372036854775807) :
    Calls Ybaf.prog 3 #[.slice ra nr rc, .slice ia ni ic] w fun e w' => e = .returned (.bool true) ∧ Chg [] w w' := by
  have h1 : ¬ (1024 : Int) < (nr : Int) := by omega
  have h1' : (nr : Int) ≤ 1024 := by omega
  have h2 : (1024 : Int) < (ni : Int) := by omega
  go_enter Ybaf.func3, Ybaf.ntmps3
  go_wp2
  go_ret
  exact ⟨rfl, Chg.refl _ _⟩

end Go.Proofs.YbulkcvhiFmt
