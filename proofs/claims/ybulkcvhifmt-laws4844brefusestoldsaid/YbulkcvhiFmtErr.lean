/-
  Seat b4844aF: fmt.Errorf at this program's formats (a stop; its text is whatever the told function gives).
-/
import Derived.Test.YbulkcvhiFmtElems
namespace Go.Proofs.YbulkcvhiFmt
open Go.RowKit Go.Extern.Stop Go.Stop Go.Extern
set_option linter.unusedVariables false

theorem call24 (args : Array Value) (w : World) : (callFunc 24 args).run Ybaf.prog w = ((FmtStop.errorf #[9, 75] #[34] args).run Ybaf.prog w).andThen fun v w' => .ok (.value v) w' :=
  run_callFunc_extern Ybaf.func24 (by kernel_rfl) (by kernel_rfl) (by kernel_rfl) (by kernel_rfl) args w
theorem guardOk (name : String) (w : World) : (FmtStop.guard name).run Ybaf.prog w = .ok () w := by kernel_rfl
def shape9 : List UInt8 := [12, 6, 0, 0, 0, 0, 0, 0, 0, 115, 116, 114, 105, 110, 103]
theorem op9_115 (name : String) (x : ByteArray) (w : World) : (FmtStop.operand name true 115 false (.iface 9 (.string x))).run Ybaf.prog w = .ok (shape9, FmtStop.pack x.data.toList) w := by kernel_rfl
theorem op9_113 (name : String) (x : ByteArray) (w : World) : (FmtStop.operand name true 113 false (.iface 9 (.string x))).run Ybaf.prog w = .ok (shape9, FmtStop.pack x.data.toList) w := by kernel_rfl
theorem op9_115f (name : String) (x : ByteArray) (w : World) : (FmtStop.operand name false 115 false (.iface 9 (.string x))).run Ybaf.prog w = .ok (shape9, FmtStop.pack x.data.toList) w := by kernel_rfl
theorem op9_113f (name : String) (x : ByteArray) (w : World) : (FmtStop.operand name false 113 false (.iface 9 (.string x))).run Ybaf.prog w = .ok (shape9, FmtStop.pack x.data.toList) w := by kernel_rfl
theorem ptr72 (w : World) : (FmtStop.ptrTo "errors.errorString").run Ybaf.prog w = .ok 72 w := by kernel_rfl
theorem elem72 (w : World) : (elemOf 72).run Ybaf.prog w = .ok 74 w := by kernel_rfl
theorem isError72 (w : World) : (FmtDoors.textMethod 72 "Error").run Ybaf.prog w = .ok true w := by kernel_rfl
theorem fE1 : FmtStop.printed? ⟨#[116, 104, 101, 32, 37, 115, 32, 37, 113, 32, 105, 115, 32, 110, 111, 116, 32, 116, 97, 107, 101, 110, 58, 32, 111, 110, 108, 121, 32, 37, 115, 32, 105, 115]⟩ 3 = some [(0, 115, false), (1, 113, false), (2, 115, false)] := by kernel_rfl
theorem fE1r (w : World) : (FmtDoors.printed ⟨#[116, 104, 101, 32, 37, 115, 32, 37, 113, 32, 105, 115, 32, 110, 111, 116, 32, 116, 97, 107, 101, 110, 58, 32, 111, 110, 108, 121, 32, 37, 115, 32, 105, 115]⟩ 3).run Ybaf.prog w = .ok [(0, 115, false), (1, 113, false), (2, 115, false)] w := by kernel_rfl
theorem fE2 : FmtStop.printed? ⟨#[116, 104, 101, 32, 37, 115, 32, 37, 115, 32, 116, 97, 107, 101, 115, 32, 110, 111, 32, 112, 97, 114, 97, 109, 101, 116, 101, 114]⟩ 2 = some [(0, 115, false), (1, 115, false)] := by kernel_rfl
theorem fE2r (w : World) : (FmtDoors.printed ⟨#[116, 104, 101, 32, 37, 115, 32, 37, 115, 32, 116, 97, 107, 101, 115, 32, 110, 111, 32, 112, 97, 114, 97, 109, 101, 116, 101, 114]⟩ 2).run Ybaf.prog w = .ok [(0, 115, false), (1, 115, false)] w := by kernel_rfl
theorem fE3 : FmtStop.printed? ⟨#[97, 32, 37, 115, 32, 101, 108, 101, 109, 101, 110, 116, 32, 111, 102, 32, 116, 104, 101, 32, 110, 97, 109, 101, 115, 112, 97, 99, 101, 32, 37, 115, 32, 105, 115, 32, 119, 97, 110, 116, 101, 100, 44, 32, 110, 111, 116, 32, 37, 115]⟩ 3 = some [(0, 115, false), (1, 115, false), (2, 115, false)] := by kernel_rfl
theorem fE3r (w : World) : (FmtDoors.printed ⟨#[97, 32, 37, 115, 32, 101, 108, 101, 109, 101, 110, 116, 32, 111, 102, 32, 116, 104, 101, 32, 110, 97, 109, 101, 115, 112, 97, 99, 101, 32, 37, 115, 32, 105, 115, 32, 119, 97, 110, 116, 101, 100, 44, 32, 110, 111, 116, 32, 37, 115]⟩ 3).run Ybaf.prog w = .ok [(0, 115, false), (1, 115, false), (2, 115, false)] w := by kernel_rfl
theorem fE4 : FmtStop.printed? ⟨#[37, 115, 32, 104, 111, 108, 100, 115, 32, 37, 115, 44, 32, 110, 111, 116, 32, 37, 115]⟩ 3 = some [(0, 115, false), (1, 115, false), (2, 115, false)] := by kernel_rfl
theorem fE4r (w : World) : (FmtDoors.printed ⟨#[37, 115, 32, 104, 111, 108, 100, 115, 32, 37, 115, 44, 32, 110, 111, 116, 32, 37, 115]⟩ 3).run Ybaf.prog w = .ok [(0, 115, false), (1, 115, false), (2, 115, false)] w := by kernel_rfl
theorem fE5 : FmtStop.printed? ⟨#[37, 115, 32, 104, 111, 108, 100, 115, 32, 110, 111, 32, 37, 115]⟩ 2 = some [(0, 115, false), (1, 115, false)] := by kernel_rfl
theorem fE5r (w : World) : (FmtDoors.printed ⟨#[37, 115, 32, 104, 111, 108, 100, 115, 32, 110, 111, 32, 37, 115]⟩ 2).run Ybaf.prog w = .ok [(0, 115, false), (1, 115, false)] w := by kernel_rfl
theorem fE6 : FmtStop.printed? ⟨#[116, 104, 101, 32, 82, 101, 102, 101, 114, 101, 110, 99, 101, 32, 85, 82, 73, 32, 37, 113, 32, 110, 97, 109, 101, 115, 32, 100, 97, 116, 97, 32, 111, 117, 116, 115, 105, 100, 101, 32, 116, 104, 101, 32, 100, 111, 99, 117, 109, 101, 110, 116, 44, 32, 119, 104, 105, 99, 104, 32, 110, 111, 32, 84, 114, 97, 110, 115, 102, 111, 114, 109, 32, 99, 104, 97, 110, 103, 101, 115]⟩ 1 = some [(0, 113, false)] := by kernel_rfl
theorem fE6r (w : World) : (FmtDoors.printed ⟨#[116, 104, 101, 32, 82, 101, 102, 101, 114, 101, 110, 99, 101, 32, 85, 82, 73, 32, 37, 113, 32, 110, 97, 109, 101, 115, 32, 100, 97, 116, 97, 32, 111, 117, 116, 115, 105, 100, 101, 32, 116, 104, 101, 32, 100, 111, 99, 117, 109, 101, 110, 116, 44, 32, 119, 104, 105, 99, 104, 32, 110, 111, 32, 84, 114, 97, 110, 115, 102, 111, 114, 109, 32, 99, 104, 97, 110, 103, 101, 115]⟩ 1).run Ybaf.prog w = .ok [(0, 113, false)] w := by kernel_rfl
attribute [local go_sem] call24 guardOk op9_115 op9_113 op9_115f op9_113f ptr72 elem72 isError72 fE1 fE1r fE2 fE2r fE3 fE3r fE4 fE4r fE5 fE5r fE6 fE6r

set_option maxHeartbeats 800000 in
theorem errorf_E1 (F : Interp) (x0 x1 x2 : ByteArray) (blk : Nat) (w : World) (hF : F.answers w.tape) (h0 : w.cell? ⟨blk, 0, none⟩ = some (.iface 9 (.string x0))) (h1 : w.cell? ⟨blk, 1, none⟩ = some (.iface 9 (.string x1))) (h2 : w.cell? ⟨blk, 2, none⟩ = some (.iface 9 (.string x2))) :
    Calls Ybaf.prog 17 #[.string ⟨#[116, 104, 101, 32, 37, 115, 32, 37, 113, 32, 105, 115, 32, 110, 111, 116, 32, 116, 97, 107, 101, 110, 58, 32, 111, 110, 108, 121, 32, 37, 115, 32, 105, 115]⟩, .slice (some ⟨blk, 0, none⟩) 3 3] w fun e w' => ∃ p, e = .returned (.iface 72 (.pointer (some ⟨p, 0, none⟩))) ∧ Chg [] w w' := by
  have hF' := answers_open hF
  go_enter Ybaf.func17, Ybaf.ntmps17
  go_wp2
  go_ret
  exact ⟨_, rfl, ((Chg.refl _ _).alloc _).drew⟩

set_option maxHeartbeats 800000 in
theorem errorf_E2 (F : Interp) (x0 x1 : ByteArray) (blk : Nat) (w : World) (hF : F.answers w.tape) (h0 : w.cell? ⟨blk, 0, none⟩ = some (.iface 9 (.string x0))) (h1 : w.cell? ⟨blk, 1, none⟩ = some (.iface 9 (.string x1))) :
    Calls Ybaf.prog 17 #[.string ⟨#[116, 104, 101, 32, 37, 115, 32, 37, 115, 32, 116, 97, 107, 101, 115, 32, 110, 111, 32, 112, 97, 114, 97, 109, 101, 116, 101, 114]⟩, .slice (some ⟨blk, 0, none⟩) 2 2] w fun e w' => ∃ p, e = .returned (.iface 72 (.pointer (some ⟨p, 0, none⟩))) ∧ Chg [] w w' := by
  have hF' := answers_open hF
  go_enter Ybaf.func17, Ybaf.ntmps17
  go_wp2
  go_ret
  exact ⟨_, rfl, ((Chg.refl _ _).alloc _).drew⟩

set_option maxHeartbeats 800000 in
theorem errorf_E3 (F : Interp) (x0 x1 x2 : ByteArray) (blk : Nat) (w : World) (hF : F.answers w.tape) (h0 : w.cell? ⟨blk, 0, none⟩ = some (.iface 9 (.string x0))) (h1 : w.cell? ⟨blk, 1, none⟩ = some (.iface 9 (.string x1))) (h2 : w.cell? ⟨blk, 2, none⟩ = some (.iface 9 (.string x2))) :
    Calls Ybaf.prog 17 #[.string ⟨#[97, 32, 37, 115, 32, 101, 108, 101, 109, 101, 110, 116, 32, 111, 102, 32, 116, 104, 101, 32, 110, 97, 109, 101, 115, 112, 97, 99, 101, 32, 37, 115, 32, 105, 115, 32, 119, 97, 110, 116, 101, 100, 44, 32, 110, 111, 116, 32, 37, 115]⟩, .slice (some ⟨blk, 0, none⟩) 3 3] w fun e w' => ∃ p, e = .returned (.iface 72 (.pointer (some ⟨p, 0, none⟩))) ∧ Chg [] w w' := by
  have hF' := answers_open hF
  go_enter Ybaf.func17, Ybaf.ntmps17
  go_wp2
  go_ret
  exact ⟨_, rfl, ((Chg.refl _ _).alloc _).drew⟩

set_option maxHeartbeats 800000 in
theorem errorf_E4 (F : Interp) (x0 x1 x2 : ByteArray) (blk : Nat) (w : World) (hF : F.answers w.tape) (h0 : w.cell? ⟨blk, 0, none⟩ = some (.iface 9 (.string x0))) (h1 : w.cell? ⟨blk, 1, none⟩ = some (.iface 9 (.string x1))) (h2 : w.cell? ⟨blk, 2, none⟩ = some (.iface 9 (.string x2))) :
    Calls Ybaf.prog 17 #[.string ⟨#[37, 115, 32, 104, 111, 108, 100, 115, 32, 37, 115, 44, 32, 110, 111, 116, 32, 37, 115]⟩, .slice (some ⟨blk, 0, none⟩) 3 3] w fun e w' => ∃ p, e = .returned (.iface 72 (.pointer (some ⟨p, 0, none⟩))) ∧ Chg [] w w' := by
  have hF' := answers_open hF
  go_enter Ybaf.func17, Ybaf.ntmps17
  go_wp2
  go_ret
  exact ⟨_, rfl, ((Chg.refl _ _).alloc _).drew⟩

set_option maxHeartbeats 800000 in
theorem errorf_E5 (F : Interp) (x0 x1 : ByteArray) (blk : Nat) (w : World) (hF : F.answers w.tape) (h0 : w.cell? ⟨blk, 0, none⟩ = some (.iface 9 (.string x0))) (h1 : w.cell? ⟨blk, 1, none⟩ = some (.iface 9 (.string x1))) :
    Calls Ybaf.prog 17 #[.string ⟨#[37, 115, 32, 104, 111, 108, 100, 115, 32, 110, 111, 32, 37, 115]⟩, .slice (some ⟨blk, 0, none⟩) 2 2] w fun e w' => ∃ p, e = .returned (.iface 72 (.pointer (some ⟨p, 0, none⟩))) ∧ Chg [] w w' := by
  have hF' := answers_open hF
  go_enter Ybaf.func17, Ybaf.ntmps17
  go_wp2
  go_ret
  exact ⟨_, rfl, ((Chg.refl _ _).alloc _).drew⟩

set_option maxHeartbeats 800000 in
theorem errorf_E6 (F : Interp) (x0 : ByteArray) (blk : Nat) (w : World) (hF : F.answers w.tape) (h0 : w.cell? ⟨blk, 0, none⟩ = some (.iface 9 (.string x0))) :
    Calls Ybaf.prog 17 #[.string ⟨#[116, 104, 101, 32, 82, 101, 102, 101, 114, 101, 110, 99, 101, 32, 85, 82, 73, 32, 37, 113, 32, 110, 97, 109, 101, 115, 32, 100, 97, 116, 97, 32, 111, 117, 116, 115, 105, 100, 101, 32, 116, 104, 101, 32, 100, 111, 99, 117, 109, 101, 110, 116, 44, 32, 119, 104, 105, 99, 104, 32, 110, 111, 32, 84, 114, 97, 110, 115, 102, 111, 114, 109, 32, 99, 104, 97, 110, 103, 101, 115]⟩, .slice (some ⟨blk, 0, none⟩) 1 1] w fun e w' => ∃ p, e = .returned (.iface 72 (.pointer (some ⟨p, 0, none⟩))) ∧ Chg [] w w' := by
  have hF' := answers_open hF
  go_enter Ybaf.func17, Ybaf.ntmps17
  go_wp2
  go_ret
  exact ⟨_, rfl, ((Chg.refl _ _).alloc _).drew⟩

end Go.Proofs.YbulkcvhiFmt
