/-
  Walks shared by the two laws of seat b4842a: the bound test 'zzs4842bin' and '(*sampleCount).check'.
-/
import Derived.Test.YbulkcvggProg
import Derived.WalkKit
import Derived.WalkLawsBesides
import Derived.Deep.QuietTactic
import Derived.BigQuiet
namespace Go.Proofs.Ybulkcvgg
open Go.RowKit

/-- The bound test, as a plain Bool. -/
def inB (x : Int) : Bool := decide (-1099511627776 ≤ x) && decide (x ≤ 1099511627776)

theorem inB_true {x : Int} (h : inB x = true) : -1099511627776 ≤ x ∧ x ≤ 1099511627776 := by
  simpa [inB] using h

set_option maxHeartbeats 400000 in
theorem bin_any (x : Int) (w : World) :
    Calls Yba.prog 9 #[.int .i64 x] w fun e w' => e = .returned (.bool (inB x)) ∧ w' = w := by
  by_cases h1 : -1099511627776 ≤ x
  · by_cases h2 : x ≤ 1099511627776
    · go_enter Yba.func9, Yba.ntmps9
      go_wp2
      go_ret
      exact ⟨by simp [inB, h1, h2], rfl⟩
    · go_enter Yba.func9, Yba.ntmps9
      go_wp2
      go_ret
      exact ⟨by simp [inB, h1, h2], rfl⟩
  · go_enter Yba.func9, Yba.ntmps9
    go_wp2
    go_ret
    exact ⟨by simp [inB]; omega, rfl⟩

/-- 'err.(*SampleLimitError)' of the one type of error that 'check' makes. -/
theorem as52 (v : Value) (w : World) : (Instr.typeAssert (.iface 52 v) 50 52 true).run Yba.prog w = .ok (.tuple #[v, .bool true]) w := by kernel_rfl

set_option maxHeartbeats 400000 in
theorem check_no (b : Nat) (h l n : Int) (w : World) (c0 : w.cell? ⟨b, 0, none⟩ = some (.int .i64 h)) (c1 : w.cell? ⟨b, 1, none⟩ = some (.int .i64 l))
    (h0 : -1099511627776 ≤ h) (h1 : h ≤ 1099511627776) (l0 : -1099511627776 ≤ l) (l1 : l ≤ 1099511627776) (hn : n ≤ l - h) :
    Calls Yba.prog 10 #[.pointer (some ⟨b, 0, none⟩), .int .i64 n] w fun e w' => e = .returned .nilIface ∧ ∃ nq, w' = w.drewN nq := by
  go_enter Yba.func10, Yba.ntmps10
  go_wp2
  go_quiet (fail)
  go_wp2
  go_ret
  exact ⟨rfl, _, rfl⟩

set_option maxHeartbeats 400000 in
theorem check_yes (b : Nat) (h l n : Int) (w : World) (c0 : w.cell? ⟨b, 0, none⟩ = some (.int .i64 h)) (c1 : w.cell? ⟨b, 1, none⟩ = some (.int .i64 l))
    (h0 : -1099511627776 ≤ h) (h1 : h ≤ 1099511627776) (l0 : -1099511627776 ≤ l) (l1 : l ≤ 1099511627776) (hn : l - h < n) :
    Calls Yba.prog 10 #[.pointer (some ⟨b, 0, none⟩), .int .i64 n] w fun e w' => e = .returned (.iface 52 (.pointer (some ⟨w.heap.size, 0, none⟩))) ∧ ∃ nq, w' = (w.alloc (.cells #[.int .i64 l] 55)).drewN nq := by
  go_enter Yba.func10, Yba.ntmps10
  go_wp2
  go_quiet (fail)
  go_wp2
  go_ret
  exact ⟨rfl, _, rfl⟩

end Go.Proofs.Ybulkcvgg
