/-
  No cell of these rows narrows 'for every input' (looked for: loops, veiled, ifaces, maps, wideKeys, modest, calm, conditions, laid).
  DERIVED. THE GIVEN ROWS OF THIS SEAT. 1 by the template 'for every input the law returns true; each argument reads behind the call as it read before'; 0 by the template 'total and deterministic' (their statements: YbulkcvguFmtTotals.lean).
  GIVEN WITH THE SEED: the statements are not yours to turn. If you find one false, say at which input.
  Laid BY PROGRAM, IN A SANDBOX (cutbox-rows.mjs): the forced cells as the released guide's own fill.sh prints them over the translation e1338d5e43bba02e… (all of the seat's roots in one cut). By AI agents, Wed Nov 11 2026. No macro, syntax, notation, axiom, sorry.
-/
import Derived.Test.YbulkcvguFmtChecked
import GoSem.Claim
import GoSem.ClaimJoined
import GoSem.ClaimMapViews
import Derived.JoinedTies
import Derived.KernelRfl
namespace Go.Proofs.YbulkcvguFmt
/- THE CELL 'sum', in the pinned program and in every row, IS THE sha256 OF THE DUMP (.gsa) THAT YbulkcvguFmtProg.lean LOADS. Nothing in Lean hashes anything: it is a label: what it is worth is what the hold of that sum in a sandbox is worth. -/
noncomputable def Ybaf.pinned : Pinned := { name := "ybulkcvgufmt", sum := "e1338d5e43bba02ecfdcff1101da929c4ce10c4df9fa0c661133e69fbc346ab4", checked := Ybaf.checked }
namespace Rows
def none {H : Type} : Left H := { results := [], args := [] }

/-- 'service.LawS4843ALookup': WHATEVER THE INPUT: true; the input reads as it did. -/
def lawS4843ALookupSpec : ChangeSpec := { name := "lawS4843ALookup", fn := fun _ => fun
  | [d1, d2, d3, d4, d5] => { results := [.lit (.bool true)], args := [d1, d2, d3, d4, d5] }
  | _ => none }
def lawS4843ALookupRow : OpenClaim := { program := "ybulkcvgufmt", sum := "e1338d5e43bba02ecfdcff1101da929c4ce10c4df9fa0c661133e69fbc346ab4", func := "example.com/evenhand/evenhand/service.LawS4843ALookup", spec := "lawS4843ALookup", stops := ["fmt.Sprintf, its operands' methods called"], inPlace := ["fmt.Sprintf"], unfollowed := true, recurses := true, apart := false }
/-- NO THEOREM (fmt's text is open here; it may be false): for the released tool's asking of the row's closed facts alone. THE STATEMENT IS 'LawS4843ALookupToldSaid' (YbulkcvguFmtCards.lean). -/
def LawS4843ALookupFormAsk : Prop := lawS4843ALookupRow.holds Ybaf.pinned (OpenSpec.ofChange lawS4843ALookupSpec)

/-- ITS FALSE NEIGHBOUR: 'it returns false'. Refute it at one input. -/
def lawS4843ALookupWrong : ChangeSpec := { name := "lawS4843ALookup", fn := fun _ => fun
  | [d1, d2, d3, d4, d5] => { results := [.lit (.bool false)], args := [d1, d2, d3, d4, d5] }
  | _ => none }
def LawS4843ALookupWrongFormAsk : Prop := lawS4843ALookupRow.holds Ybaf.pinned (OpenSpec.ofChange lawS4843ALookupWrong)

end Rows
end Go.Proofs.YbulkcvguFmt
