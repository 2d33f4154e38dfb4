/-
  Seat b4844aF: expect, the first refusal.
-/
import Derived.Test.YbulkcvhiFmtAlg
import Derived.Test.YbulkcvhiFmtShelf
namespace Go.Proofs.YbulkcvhiFmt
open Go.RowKit Go.Extern.Stop Go.Stop Go.Extern
set_option linter.unusedVariables false

def wantOf (cs : List ByteArray) (rep : ByteArray) (i : Nat) : ByteArray := (cs[i]?).getD rep
def okAt (cs : List ByteArray) (rep : ByteArray) (nds : Nat → Nd) (i : Nat) : Bool := !((wantOf cs rep i).toList == []) && isB (nds i) (wantOf cs rep i)
def expB (d : Nd) (nm : ByteArray) (cs : List ByteArray) (rep : ByteArray) (nds : Nat → Nd) (n : Nat) : Bool :=
  isB d nm && ((List.range n).all (okAt cs rep nds) && decide (cs.length ≤ n))

/-- What expect hands back. -/
def ExpV (w w' : World) (ok : Bool) (kids : List Nat) (v1 v2 : Value) : Prop :=
  if ok then v2 = .nilIface ∧ w'.ownsRow w.heap.size 24 1 v1 kids.length (ptrs kids) else v1 = .slice none 0 0 ∧ ∃ p, v2 = .iface 72 (.pointer (some ⟨p, 0, none⟩))

theorem ExpV.bad {w w' : World} {kids : List Nat} {p : Nat} {b : Bool} (hb : b = false) : ExpV w w' b kids (.slice none 0 0) (.iface 72 (.pointer (some ⟨p, 0, none⟩))) := by
  subst hb; exact ⟨rfl, p, rfl⟩

set_option maxHeartbeats 3200000 in
theorem expect_name (F : Interp) (nm rep : ByteArray) (cs : List ByteArray) (cv : Value) (b : Nat) (d : Nd) (kids : List Nat) (w : World) (hF : F.answers w.tape) (h : ElAt w b d kids) (hn : isB d nm = false) :
    Calls Ybaf.prog 11 #[.pointer (some ⟨b, 0, none⟩), .string nm, cv, .string rep] w fun e w' => ∃ v1 v2, e = .returned (.tuple #[v1, v2]) ∧ ExpV w w' false kids v1 v2 ∧ Chg [] w w' := by
  have HE : Hid (ElAt w b d kids) := h
  have HF : Hid (F.answers w.tape) := hF
  have h0 := h.c0
  have h1 := h.c1
  clear h hF
  go_enter Ybaf.func11, Ybaf.ntmps11
  go_wp2_with (go_at_call 15; refine (is_el nm b d kids w HE.out).mono ?_; rw [hn]; rintro e w1 ⟨rfl, rfl⟩)
  go_region_with (first
    | (go_at_call 18; refine (qualified_any d.name _).mono ?_; rintro e w2 ⟨rfl, rfl⟩)
    | (go_at_call 17; refine (errorf_E3 F nm NS d.name _ _ (by exact HF.out) (by simp [World.cell?_alloc_at]) (by simp [World.cell?_alloc_at, NS]) (by simp [World.cell?_alloc_at])).mono ?_; rintro e w3 ⟨p, rfl, hC3⟩))
  all_goals
    go_wp2
    go_ret2
    exact ⟨.slice none 0 0, .iface 72 (.pointer (some ⟨p, 0, none⟩)), rfl, ExpV.bad rfl, by first | exact ((Chg.refl _ _).alloc _).drew.trans hC3 | exact ((Chg.refl _ _).alloc _).trans hC3⟩

end Go.Proofs.YbulkcvhiFmt
