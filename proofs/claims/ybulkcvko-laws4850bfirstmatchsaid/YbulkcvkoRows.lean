/-
  No cell of these rows narrows 'for every input' (looked for: loops, veiled, ifaces, maps, wideKeys, modest, calm, conditions, laid).
  DERIVED. THE GIVEN ROWS OF THIS SEAT. 1 by the template 'for every input the law returns true; each argument reads behind the call as it read before'; 0 by the template 'total and deterministic' (their statements: YbulkcvkoTotals.lean).
  GIVEN WITH THE SEED: the statements are not yours to turn. If you find one false, say at which input.
  Laid BY PROGRAM, IN A SANDBOX (cutbox-rows.mjs): the forced cells as the released guide's own fill.sh prints them over the translation e1a66d087a31e4e2… (all of the seat's roots in one cut). By AI agents, Wed Nov 11 2026. No macro, syntax, notation, axiom, sorry.
-/
import Derived.Test.YbulkcvkoChecked
import GoSem.Claim
import GoSem.ClaimJoined
import GoSem.ClaimMapViews
import Derived.JoinedTies
import Derived.KernelRfl
namespace Go.Proofs.Ybulkcvko
/- THE CELL 'sum', in the pinned program and in every row, IS THE sha256 OF THE DUMP (.gsa) THAT YbulkcvkoProg.lean LOADS. Nothing in Lean hashes anything: it is a label: what it is worth is what the hold of that sum in a sandbox is worth. -/
noncomputable def Yba.pinned : Pinned := { name := "ybulkcvko", sum := "e1a66d087a31e4e25016629c4291755656efb831fb6b9eda7bd3e2ca8c8977f9", checked := Yba.checked }
namespace Rows
def none {H : Type} : Left H := { results := [], args := [] }

/-- 'proxy.LawS4850BFirstMatch': WHATEVER THE INPUT: true; the input reads as it did. -/
def lawS4850BFirstMatchSpec : ChangeSpec := { name := "lawS4850BFirstMatch", fn := fun _ => fun
  | [d1, d2, d3] => { results := [.lit (.bool true)], args := [d1, d2, d3] }
  | _ => none }
def lawS4850BFirstMatchRow : OpenClaim := { program := "ybulkcvko", sum := "e1a66d087a31e4e25016629c4291755656efb831fb6b9eda7bd3e2ca8c8977f9", func := "example.com/hobble/hobble/internal/proxy.LawS4850BFirstMatch", spec := "lawS4850BFirstMatch", unfollowed := true, recurses := true, apart := false }
def LawS4850BFirstMatchSaid : Prop := lawS4850BFirstMatchRow.holds Yba.pinned (OpenSpec.ofChange lawS4850BFirstMatchSpec)

/-- ITS FALSE NEIGHBOUR: 'it returns false'. Refute it at one input. -/
def lawS4850BFirstMatchWrong : ChangeSpec := { name := "lawS4850BFirstMatch", fn := fun _ => fun
  | [d1, d2, d3] => { results := [.lit (.bool false)], args := [d1, d2, d3] }
  | _ => none }
def LawS4850BFirstMatchWrongFalsely : Prop := lawS4850BFirstMatchRow.holds Yba.pinned (OpenSpec.ofChange lawS4850BFirstMatchWrong)

end Rows
end Go.Proofs.Ybulkcvko
