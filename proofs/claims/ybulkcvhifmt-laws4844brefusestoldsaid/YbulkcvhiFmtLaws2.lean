/-
  Seat b4844aF: the second law's walk.
-/
import Derived.Test.YbulkcvhiFmtLaws
import Derived.Test.YbulkcvhiFmtB1
import Derived.Test.YbulkcvhiFmtB2
import Derived.Test.YbulkcvhiFmtB3
import Derived.Test.YbulkcvhiFmtB4
import Derived.Test.YbulkcvhiFmtB5
import Derived.Test.YbulkcvhiFmtB6
import Derived.Test.YbulkcvhiFmtB7
namespace Go.Proofs.YbulkcvhiFmt
open Go.RowKit Go.Extern.Stop Go.Stop Go.Extern
set_option linter.unusedVariables false

theorem build_any (m : Int) (h0 : 0 ≤ m) (h8 : m < 8) (ra ia : Option Addr) (nr rc ni ic : Nat) (w : World) (hr : U8s w ra nr) (hi : U8s w ia ni) (hnr : nr ≤ 1024) (hni : ni ≤ 1024) :
    Calls Ybaf.prog 6 #[.slice ra nr rc, .slice ia ni ic, .int .i64 m] w fun e w' => ∃ v, e = .returned v ∧ Built w' v ∧ Chg [] w w' := by
  have : m = 0 ∨ m = 1 ∨ m = 2 ∨ m = 3 ∨ m = 4 ∨ m = 5 ∨ m = 6 ∨ m = 7 := by omega
  rcases this with rfl | rfl | rfl | rfl | rfl | rfl | rfl | rfl
  · exact build_m0 ra ia nr rc ni ic w hr hi hnr hni
  · exact build_m1 ra ia nr rc ni ic w hr hi hnr hni
  · exact build_m2 ra ia nr rc ni ic w hr hi hnr hni
  · exact build_m3 ra ia nr rc ni ic w hr hi hnr hni
  · exact build_m4 ra ia nr rc ni ic w hr hi hnr hni
  · exact build_m5 ra ia nr rc ni ic w hr hi hnr hni
  · exact build_m6 ra ia nr rc ni ic w hr hi hnr hni
  · exact build_m7 ra ia nr rc ni ic w hr hi hnr hni

set_option maxHeartbeats 1600000 in
theorem refuses_small (F : Interp) (ra ia : Option Addr) (nr rc ni ic : Nat) (md : Int) (w : World) (hF : F.answers w.tape) (hm0 : 0 ≤ md) (hm1 : md ≤ 255) (hr : U8s w ra nr) (hi : U8s w ia ni) (hnr : nr ≤ 1024) (hni : ni ≤ 1024) :
    Calls Ybaf.prog 4 #[.slice ra nr rc, .slice ia ni ic, .int .u8 md] w fun e w' => e = .returned (.bool true) ∧ Chg [] w w' := by
  have B : Hid (Calls Ybaf.prog 6 #[.slice ra nr rc, .slice ia ni ic, .int .i64 (md % 8)] w fun e w' => ∃ v, e = .returned v ∧ Built w' v ∧ Chg [] w w') := build_any (md % 8) (by omega) (by omega) ra ia nr rc ni ic w hr hi hnr hni
  have HF : Hid (F.answers w.tape) := hF
  have h1 : ¬ (1024 : Int) < (nr : Int) := by omega
  have h1' : (nr : Int) ≤ 1024 := by omega
  have h2 : ¬ (1024 : Int) < (ni : Int) := by omega
  have h2' : (ni : Int) ≤ 1024 := by omega
  clear hF hr hi
  go_enter Ybaf.func4, Ybaf.ntmps4
  go_wp2_with fail
  refine B.out.mono ?_
  rintro e w1 ⟨v, rfl, hB, hC⟩
  have CB : Hid (Calls Ybaf.prog 5 #[v] w1 fun e w' => e = .returned (.bool true) ∧ Chg [] w1 w') := check_built F w1 v (by have := HF.out; rw [← hC.tape] at this; exact this) hB
  have HC : Hid (Chg [] w w1) := hC
  clear hB hC B
  go_wp2_with fail
  refine CB.out.mono ?_
  rintro e w2 ⟨rfl, hC2⟩
  go_wp2
  go_ret
  exact ⟨rfl, HC.out.trans hC2⟩

set_option maxHeartbeats 1600000 in
theorem refuses_big1 (ra ia : Option Addr) (nr rc ni ic : Nat) (md : Int) (w : World) (hnr : 1024 < nr) (hm : nr ≤ 9223372036854775807) :
    Calls Ybaf.prog 4 #[.slice ra nr rc, .slice ia ni ic, .int .u8 md] w fun e w' => e = .returned (.bool true) ∧ Chg [] w w' := by
  have h1 : (1024 : Int) < (nr : Int) := by omega
  go_enter Ybaf.func4, Ybaf.ntmps4
  go_wp2
  go_ret
  exact ⟨rfl, Chg.refl _ _⟩

set_option maxHeartbeats 1600000 in
theorem refuses_big2 (ra ia : Option Addr) (nr rc ni ic : Nat) (md : Int) (w : World) (hnr : nr ≤ 1024) (hni : 1024 < ni) (hm : ni ≤ 9223372036854775807) :
    Calls Ybaf.prog 4 #[.slice ra nr rc, .slice ia ni ic, .int .u8 md] w fun e w' => e = .returned (.bool true) ∧ Chg [] w w' := by
  have h1 : ¬ (1024 : Int) < (nr : Int) := by omega
  have h1' : (nr : Int) ≤ 1024 := by omega
  have h2 : (1024 : Int) < (ni : Int) := by omega
  go_enter Ybaf.func4, Ybaf.ntmps4
  go_wp2
  go_ret
  exact ⟨rfl, Chg.refl _ _⟩

end Go.Proofs.YbulkcvhiFmt
