/-
  No cell of these rows narrows 'for every input' (looked for: loops, veiled, ifaces, maps, wideKeys, modest, calm, conditions, laid).
  DERIVED. THE GIVEN ROWS OF THIS SEAT. 2 by the template 'for every input the law returns true; each argument reads behind the call as it read before'; 0 by the template 'total and deterministic' (their statements: YbulkcvhiFmtTotals.lean).
  GIVEN WITH THE SEED: the statements are not yours to turn. If you find one false, say at which input.
  Laid BY PROGRAM, IN A SANDBOX (cutbox-rows.mjs): the forced cells as the released guide's own fill.sh prints them over the translation 0f58fd648e50c4fe… (all of the seat's roots in one cut). By AI agents, Wed Nov 11 2026. No macro, syntax, notation, axiom, sorry.
-/
import Derived.Test.YbulkcvhiFmtChecked
import GoSem.Claim
import GoSem.ClaimJoined
import GoSem.ClaimMapViews
import Derived.JoinedTies
import Derived.KernelRfl
namespace Go.Proofs.YbulkcvhiFmt
/- THE CELL 'sum', in the pinned program and in every row, IS THE sha256 OF THE DUMP (.gsa) THAT YbulkcvhiFmtProg.lean LOADS. Nothing in Lean hashes anything: it is a label: what it is worth is what the hold of that sum in a sandbox is worth. -/
noncomputable def Ybaf.pinned : Pinned := { name := "ybulkcvhifmt", sum := "0f58fd648e50c4fefdb87b4a3f3179dcdc23d07066e9ea933479c931f5573f7e", checked := Ybaf.checked }
namespace Rows
def none {H : Type} : Left H := { results := [], args := [] }

/-- 'xmldsig.LawS4844BReads': WHATEVER THE INPUT: true; the input reads as it did. -/
def lawS4844BReadsSpec : ChangeSpec := { name := "lawS4844BReads", fn := fun _ => fun
  | [d1, d2] => { results := [.lit (.bool true)], args := [d1, d2] }
  | _ => none }
def lawS4844BReadsRow : OpenClaim := { program := "ybulkcvhifmt", sum := "0f58fd648e50c4fefdb87b4a3f3179dcdc23d07066e9ea933479c931f5573f7e", func := "example.com/numberline/numberline/internal/xmldsig.LawS4844BReads", spec := "lawS4844BReads", stops := ["fmt.errorf"], inPlace := ["fmt.errorf", "internal/abi.NoEscape", "internal/bytealg.MakeNoZero"], unfollowed := true, recurses := true, plainKeys := false, apart := false }
/-- NO THEOREM (fmt's text is open here; it may be false): for the released tool's asking of the row's closed facts alone. THE STATEMENT IS 'LawS4844BReadsToldSaid' (YbulkcvhiFmtCards.lean). -/
def LawS4844BReadsFormAsk : Prop := lawS4844BReadsRow.holds Ybaf.pinned (OpenSpec.ofChange lawS4844BReadsSpec)

/-- ITS FALSE NEIGHBOUR: 'it returns false'. Refute it at one input. -/
def lawS4844BReadsWrong : ChangeSpec := { name := "lawS4844BReads", fn := fun _ => fun
  | [d1, d2] => { results := [.lit (.bool false)], args := [d1, d2] }
  | _ => none }
def LawS4844BReadsWrongFormAsk : Prop := lawS4844BReadsRow.holds Ybaf.pinned (OpenSpec.ofChange lawS4844BReadsWrong)

/-- 'xmldsig.LawS4844BRefuses': WHATEVER THE INPUT: true; the input reads as it did. -/
def lawS4844BRefusesSpec : ChangeSpec := { name := "lawS4844BRefuses", fn := fun _ => fun
  | [d1, d2, d3] => { results := [.lit (.bool true)], args := [d1, d2, d3] }
  | _ => none }
def lawS4844BRefusesRow : OpenClaim := { program := "ybulkcvhifmt", sum := "0f58fd648e50c4fefdb87b4a3f3179dcdc23d07066e9ea933479c931f5573f7e", func := "example.com/numberline/numberline/internal/xmldsig.LawS4844BRefuses", spec := "lawS4844BRefuses", stops := ["fmt.errorf"], inPlace := ["fmt.errorf", "internal/abi.NoEscape", "internal/bytealg.MakeNoZero"], unfollowed := true, recurses := true, plainKeys := false, apart := false }
/-- NO THEOREM (fmt's text is open here; it may be false): for the released tool's asking of the row's closed facts alone. THE STATEMENT IS 'LawS4844BRefusesToldSaid' (YbulkcvhiFmtCards.lean). -/
def LawS4844BRefusesFormAsk : Prop := lawS4844BRefusesRow.holds Ybaf.pinned (OpenSpec.ofChange lawS4844BRefusesSpec)

/-- ITS FALSE NEIGHBOUR: 'it returns false'. Refute it at one input. -/
def lawS4844BRefusesWrong : ChangeSpec := { name := "lawS4844BRefuses", fn := fun _ => fun
  | [d1, d2, d3] => { results := [.lit (.bool false)], args := [d1, d2, d3] }
  | _ => none }
def LawS4844BRefusesWrongFormAsk : Prop := lawS4844BRefusesRow.holds Ybaf.pinned (OpenSpec.ofChange lawS4844BRefusesWrong)

end Rows
end Go.Proofs.YbulkcvhiFmt
