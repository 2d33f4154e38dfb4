/-
  No cell of these rows narrows 'for every input' (looked for: loops, veiled, ifaces, maps, wideKeys, modest, calm, conditions, laid).
  DERIVED. THE GIVEN ROWS OF THIS SEAT. 2 by the template 'for every input the law returns true; each argument reads behind the call as it read before'; 0 by the template 'total and deterministic' (their statements: YbulkcvguTotals.lean).
  GIVEN WITH THE SEED: the statements are not yours to turn. If you find one false, say at which input.
  Laid BY PROGRAM, IN A SANDBOX (cutbox-rows.mjs): the forced cells as the released guide's own fill.sh prints them over the translation bdb1f3f5fa170859… (all of the seat's roots in one cut). By AI agents, Wed Nov 11 2026. No macro, syntax, notation, axiom, sorry.
-/
import Derived.Test.YbulkcvguChecked
import GoSem.Claim
import GoSem.ClaimJoined
import GoSem.ClaimMapViews
import Derived.JoinedTies
import Derived.KernelRfl
namespace Go.Proofs.Ybulkcvgu
/- THE CELL 'sum', in the pinned program and in every row, IS THE sha256 OF THE DUMP (.gsa) THAT YbulkcvguProg.lean LOADS. Nothing in Lean hashes anything: it is a label: what it is worth is what the hold of that sum in a sandbox is worth. -/
noncomputable def Yba.pinned : Pinned := { name := "ybulkcvgu", sum := "bdb1f3f5fa170859ad5874e0ba1f349c7c02f266d40b631addcb4da8abed3297", checked := Yba.checked }
namespace Rows
def none {H : Type} : Left H := { results := [], args := [] }

/-- 'replay.LawS4843CInsert': WHATEVER THE INPUT: true; the input reads as it did. -/
def lawS4843CInsertSpec : ChangeSpec := { name := "lawS4843CInsert", fn := fun _ => fun
  | [d1, d2, d3, d4, d5] => { results := [.lit (.bool true)], args := [d1, d2, d3, d4, d5] }
  | _ => none }
def lawS4843CInsertRow : OpenClaim := { program := "ybulkcvgu", sum := "bdb1f3f5fa170859ad5874e0ba1f349c7c02f266d40b631addcb4da8abed3297", func := "example.com/evenhand/evenhand/replay.LawS4843CInsert", spec := "lawS4843CInsert", inPlace := ["slices.overlaps[int]"], recurses := true, apart := false }
def LawS4843CInsertSaid : Prop := lawS4843CInsertRow.holds Yba.pinned (OpenSpec.ofChange lawS4843CInsertSpec)

/-- ITS FALSE NEIGHBOUR: 'it returns false'. Refute it at one input. -/
def lawS4843CInsertWrong : ChangeSpec := { name := "lawS4843CInsert", fn := fun _ => fun
  | [d1, d2, d3, d4, d5] => { results := [.lit (.bool false)], args := [d1, d2, d3, d4, d5] }
  | _ => none }
def LawS4843CInsertWrongFalsely : Prop := lawS4843CInsertRow.holds Yba.pinned (OpenSpec.ofChange lawS4843CInsertWrong)

/-- 'replay.LawS4843CSequence': WHATEVER THE INPUT: true; the input reads as it did. -/
def lawS4843CSequenceSpec : ChangeSpec := { name := "lawS4843CSequence", fn := fun _ => fun
  | [d1, d2] => { results := [.lit (.bool true)], args := [d1, d2] }
  | _ => none }
def lawS4843CSequenceRow : OpenClaim := { program := "ybulkcvgu", sum := "bdb1f3f5fa170859ad5874e0ba1f349c7c02f266d40b631addcb4da8abed3297", func := "example.com/evenhand/evenhand/replay.LawS4843CSequence", spec := "lawS4843CSequence", inPlace := ["slices.overlaps[int]"], recurses := true, apart := false }
def LawS4843CSequenceSaid : Prop := lawS4843CSequenceRow.holds Yba.pinned (OpenSpec.ofChange lawS4843CSequenceSpec)

/-- ITS FALSE NEIGHBOUR: 'it returns false'. Refute it at one input. -/
def lawS4843CSequenceWrong : ChangeSpec := { name := "lawS4843CSequence", fn := fun _ => fun
  | [d1, d2] => { results := [.lit (.bool false)], args := [d1, d2] }
  | _ => none }
def LawS4843CSequenceWrongFalsely : Prop := lawS4843CSequenceRow.holds Yba.pinned (OpenSpec.ofChange lawS4843CSequenceWrong)

end Rows
end Go.Proofs.Ybulkcvgu
