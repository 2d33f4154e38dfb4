/-
  Seat b4843aF: fmt's stop at this program, and the contracts of 'refuse' and of 'registered[int]'.
-/
import Derived.Test.YbulkcvguFmtProg
import Derived.WalkKit
import Derived.WalkLawsBesides
import Derived.Outline
import Derived.WalkSpells
import Derived.Deep.DeepFit
import Derived.Maps.OwnSet
import Derived.Stop.CallBack
import Derived.Stop.IfaceNil
namespace Go.Proofs.YbulkcvguFmt
open Go.RowKit Go.Extern.Stop Go.Stop Go.Extern Go.Maps Go.WideMaps

theorem call6 (args : Array Value) (w : World) : (callFunc 6 args).run Ybaf.prog w = (FmtCalls.sprintf #[9, 36] #[9] args).run Ybaf.prog w :=
  run_callFunc_next Ybaf.func6 (by kernel_rfl) (by kernel_rfl) (by kernel_rfl) args w
theorem guardOk (name : String) (w : World) : (FmtStop.guard name).run Ybaf.prog w = .ok () w := by kernel_rfl
theorem nextTurns : Extern.next FmtCalls.turnsRow = some (FmtCalls.begun #[] #[]) := by kernel_rfl
def fmtText : ByteArray := ⟨#[110, 111, 32, 119, 111, 114, 107, 101, 114, 32, 37, 113, 32, 105, 115, 32, 114, 101, 103, 105, 115, 116, 101, 114, 101, 100]⟩
theorem fmt1 : FmtStop.printed? ⟨#[110, 111, 32, 119, 111, 114, 107, 101, 114, 32, 37, 113, 32, 105, 115, 32, 114, 101, 103, 105, 115, 116, 101, 114, 101, 100]⟩ 1 = some [(0, 113, false)] := by kernel_rfl
theorem fmt1r (w : World) : (FmtDoors.printed ⟨#[110, 111, 32, 119, 111, 114, 107, 101, 114, 32, 37, 113, 32, 105, 115, 32, 114, 101, 103, 105, 115, 116, 101, 114, 101, 100]⟩ 1).run Ybaf.prog w = .ok [(0, 113, false)] w := by kernel_rfl
def shape9 : List UInt8 := [12, 6, 0, 0, 0, 0, 0, 0, 0, 115, 116, 114, 105, 110, 103]
theorem op9 (name : String) (x : ByteArray) (w : World) : (FmtStop.operand name false 113 false (.iface 9 (.string x))).run Ybaf.prog w = .ok (shape9, FmtStop.pack x.data.toList) w := by kernel_rfl
theorem act9 (name : String) (x : ByteArray) (w : World) : (FmtCalls.act name false 113 false (.iface 9 (.string x))).run Ybaf.prog w = .ok (.closed false) w := by kernel_rfl
attribute [local go_sem] act9 call6 guardOk fmt1 fmt1r op9

set_option maxHeartbeats 400000 in
theorem refuse_any (F : Interp) (s : ByteArray) (b : Nat) (w : World) (hF : F.answers w.tape) (hc : w.cell? ⟨b, 0, none⟩ = some (.iface 9 (.string s))) :
    Calls Ybaf.prog 5 #[.int .i64 404, .string ⟨#[110, 111, 32, 119, 111, 114, 107, 101, 114, 32, 37, 113, 32, 105, 115, 32, 114, 101, 103, 105, 115, 116, 101, 114, 101, 100]⟩, .slice (some ⟨b, 0, none⟩) 1 1] w fun e w' =>
      ∃ t, e = .returned (.pointer (some ⟨w.heap.size, 0, none⟩)) ∧ w' = (w.alloc (.cells #[.int .i64 404, .string t] 32)).drew := by
  have hF' := answers_open hF
  go_enter Ybaf.func5, Ybaf.ntmps5
  go_wp2
  apply rows_value nextTurns
  case hr =>
    go_simp
    exact ⟨rfl, rfl⟩
  case h =>
    go_wp2
    go_ret
    exact ⟨_, rfl, rfl⟩

theorem law9 : Keyed Ybaf.prog 9 := string_keyed Ybaf.underlying9
theorem zero3 (w : World) : (zeroValue 3).run Ybaf.prog w = .ok (.int .i64 0) w := by kernel_rfl

/-- A hit: the element, and nil. -/
theorem registered_hit (q : ByteArray) (hq : q.size ≤ maxLen) (b n : Nat) (D : DataW Unit) (w : World)
    (hown : w.ownsMap Ybaf.prog 9 (plainElem Ybaf.prog 3) b n D) (hhas : Maps.has D (.string q.data.toList) = true) :
    Calls Ybaf.prog 4 #[.map (some b), .string q] w fun e w' => ∃ c : Int, e = .returned (.tuple #[.int .i64 c, .nilIface]) ∧
      D.atKey (.string q.data.toList) (.lit (.int .i64 0)) = .lit (.int .i64 c) ∧ w' = w := by
  have hkey : keyOf Ybaf.prog 9 (.string q) = some (.string q.data.toList) := keyOf_string_mk Ybaf.underlying9 hq
  go_enter Ybaf.func4, Ybaf.ntmps4
  go_wp2_with (at_lookup; refine wpList_lookup_own_ok_int _ rfl _ _ 24 rfl 9 3 .i64 law9 Ybaf.underlying24 Ybaf.underlying3 (zero3 _) b n _ rfl hown _ _ rfl hkey ?_; intro c hat hwc)
  go_ret2
  exact ⟨c, rfl, hat, rfl⟩

/-- A miss: zero, and a refusal whose status is 404. -/
theorem registered_miss (F : Interp) (q : ByteArray) (hq : q.size ≤ maxLen) (b n : Nat) (D : DataW Unit) (w : World) (hF : F.answers w.tape)
    (hown : w.ownsMap Ybaf.prog 9 (plainElem Ybaf.prog 3) b n D) (hhas : Maps.has D (.string q.data.toList) = false) :
    Calls Ybaf.prog 4 #[.map (some b), .string q] w fun e w' => ∃ t, e = .returned (.tuple #[.int .i64 0, .iface 29 (.pointer (some ⟨w.heap.size + 1, 0, none⟩))]) ∧
      w' = ((w.alloc (.cells #[.iface 9 (.string q)] 20)).alloc (.cells #[.int .i64 404, .string t] 32)).drew := by
  have hkey : keyOf Ybaf.prog 9 (.string q) = some (.string q.data.toList) := keyOf_string_mk Ybaf.underlying9 hq
  have h0 := atKey_of_not_has hhas (.lit (.int .i64 0))
  go_enter Ybaf.func4, Ybaf.ntmps4
  go_wp2_with (first
    | (at_lookup; refine wpList_lookup_own_ok_int _ rfl _ _ 24 rfl 9 3 .i64 law9 Ybaf.underlying24 Ybaf.underlying3 (zero3 _) b n _ rfl hown _ _ rfl hkey ?_; intro c hat hwc; obtain rfl : c = 0 := (by rw [h0] at hat; simpa using hat.symm))
    | (go_at_call 5; refine (refuse_any F q _ _ (by exact hF) (by simp)).mono ?_; rintro e w' ⟨t, rfl, rfl⟩))
  go_ret2
  exact ⟨t, rfl, rfl⟩

end Go.Proofs.YbulkcvguFmt
