/-
  No cell of these rows narrows 'for every input' (looked for: loops, veiled, ifaces, maps, wideKeys, modest, calm, conditions, laid).
  DERIVED. THE GIVEN ROWS OF THIS SEAT. 3 by the template 'for every input the law returns true; each argument reads behind the call as it read before'; 0 by the template 'total and deterministic' (their statements: YbulkcvggTotals.lean).
  GIVEN WITH THE SEED: the statements are not yours to turn. If you find one false, say at which input.
  Laid BY PROGRAM, IN A SANDBOX (cutbox-rows.mjs): the forced cells as the released guide's own fill.sh prints them over the translation 0ab6c9b335aafc2a… (all of the seat's roots in one cut). By AI agents, Wed Nov 11 2026. No macro, syntax, notation, axiom, sorry.
-/
import Derived.Test.YbulkcvggChecked
import GoSem.Claim
import GoSem.ClaimJoined
import GoSem.ClaimMapViews
import Derived.JoinedTies
import Derived.KernelRfl
namespace Go.Proofs.Ybulkcvgg
/- THE CELL 'sum', in the pinned program and in every row, IS THE sha256 OF THE DUMP (.gsa) THAT YbulkcvggProg.lean LOADS. Nothing in Lean hashes anything: it is a label: what it is worth is what the hold of that sum in a sandbox is worth. -/
noncomputable def Yba.pinned : Pinned := { name := "ybulkcvgg", sum := "0ab6c9b335aafc2a2a30c829f25c30fe7a364a661d4969332943e9d5fa8cf109", checked := Yba.checked }
namespace Rows
def none {H : Type} : Left H := { results := [], args := [] }

/-- 'vectral.LawS4842AExact': WHATEVER THE INPUT: true; the input reads as it did. -/
def lawS4842AExactSpec : ChangeSpec := { name := "lawS4842AExact", fn := fun _ => fun
  | [d1, d2, d3, d4] => { results := [.lit (.bool true)], args := [d1, d2, d3, d4] }
  | _ => none }
def lawS4842AExactRow : OpenClaim := { program := "ybulkcvgg", sum := "0ab6c9b335aafc2a2a30c829f25c30fe7a364a661d4969332943e9d5fa8cf109", func := "example.com/vectral/vectral.LawS4842AExact", spec := "lawS4842AExact", unfollowed := true, recurses := true, apart := false }
def LawS4842AExactSaid : Prop := lawS4842AExactRow.holds Yba.pinned (OpenSpec.ofChange lawS4842AExactSpec)

/-- ITS FALSE NEIGHBOUR: 'it returns false'. Refute it at one input. -/
def lawS4842AExactWrong : ChangeSpec := { name := "lawS4842AExact", fn := fun _ => fun
  | [d1, d2, d3, d4] => { results := [.lit (.bool false)], args := [d1, d2, d3, d4] }
  | _ => none }
def LawS4842AExactWrongFalsely : Prop := lawS4842AExactRow.holds Yba.pinned (OpenSpec.ofChange lawS4842AExactWrong)

/-- 'vectral.LawS4842BCheck': WHATEVER THE INPUT: true; the input reads as it did. -/
def lawS4842BCheckSpec : ChangeSpec := { name := "lawS4842BCheck", fn := fun _ => fun
  | [d1, d2, d3] => { results := [.lit (.bool true)], args := [d1, d2, d3] }
  | _ => none }
def lawS4842BCheckRow : OpenClaim := { program := "ybulkcvgg", sum := "0ab6c9b335aafc2a2a30c829f25c30fe7a364a661d4969332943e9d5fa8cf109", func := "example.com/vectral/vectral.LawS4842BCheck", spec := "lawS4842BCheck", apart := false }
def LawS4842BCheckSaid : Prop := lawS4842BCheckRow.holds Yba.pinned (OpenSpec.ofChange lawS4842BCheckSpec)

/-- ITS FALSE NEIGHBOUR: 'it returns false'. Refute it at one input. -/
def lawS4842BCheckWrong : ChangeSpec := { name := "lawS4842BCheck", fn := fun _ => fun
  | [d1, d2, d3] => { results := [.lit (.bool false)], args := [d1, d2, d3] }
  | _ => none }
def LawS4842BCheckWrongFalsely : Prop := lawS4842BCheckRow.holds Yba.pinned (OpenSpec.ofChange lawS4842BCheckWrong)

/-- 'vectral.LawS4842BDone': WHATEVER THE INPUT: true; the input reads as it did. -/
def lawS4842BDoneSpec : ChangeSpec := { name := "lawS4842BDone", fn := fun _ => fun
  | [d1, d2, d3, d4] => { results := [.lit (.bool true)], args := [d1, d2, d3, d4] }
  | _ => none }
def lawS4842BDoneRow : OpenClaim := { program := "ybulkcvgg", sum := "0ab6c9b335aafc2a2a30c829f25c30fe7a364a661d4969332943e9d5fa8cf109", func := "example.com/vectral/vectral.LawS4842BDone", spec := "lawS4842BDone", apart := false }
def LawS4842BDoneSaid : Prop := lawS4842BDoneRow.holds Yba.pinned (OpenSpec.ofChange lawS4842BDoneSpec)

/-- ITS FALSE NEIGHBOUR: 'it returns false'. Refute it at one input. -/
def lawS4842BDoneWrong : ChangeSpec := { name := "lawS4842BDone", fn := fun _ => fun
  | [d1, d2, d3, d4] => { results := [.lit (.bool false)], args := [d1, d2, d3, d4] }
  | _ => none }
def LawS4842BDoneWrongFalsely : Prop := lawS4842BDoneRow.holds Yba.pinned (OpenSpec.ofChange lawS4842BDoneWrong)

end Rows
end Go.Proofs.Ybulkcvgg
