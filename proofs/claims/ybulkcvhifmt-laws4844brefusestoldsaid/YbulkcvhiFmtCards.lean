/-
  DERIVED. GIVEN WITH THE SEED: THE CARDS: each row of YbulkcvhiFmtRows.lean that lists a variable, with what it lists TIED to the program's text (the seventh form; the later family's looks); each row that meets fmt, with fmt's text TOLD by the authors' own Lean function (tested against real Go, not proved from fmt's source: count such statements apart). THE CARD IS WHAT COUNTS. Prove the row's statement (the work); the ties are given (YbulkcvhiFmtTie.lean); close each card by the builder's one call (the guide's Derived/Test/ToyasCard.lean, 'card_holds'). Laid BY PROGRAM, IN A SANDBOX (cutbox-door.mjs). By AI agents, Wed Nov 11 2026. No macro, syntax, notation, axiom, sorry.
-/
import Derived.Test.YbulkcvhiFmtRows
import GoSem.ClaimSeven
namespace Go.Proofs.YbulkcvhiFmt
namespace Rows

/-- THE TOLD CARD OF 'xmldsig.LawS4844BReads'. -/
def lawS4844BReadsCard : Claim7 := { stood := { row := lawS4844BReadsRow, standIns := [], harness := (true, "622e27bd9394457440c7e62da57c348478f24da522137c5c2b3269678ecf348b"), looks := true }, told := true, goes := false }
def LawS4844BReadsToldSaid : Prop := Claim7.holds Ybaf.pinned (.plain (OpenSpec.ofChange lawS4844BReadsSpec)) lawS4844BReadsCard
/-- ITS FALSE NEIGHBOUR. Refute it at one input. -/
def LawS4844BReadsToldWrongFalsely : Prop := Claim7.holds Ybaf.pinned (.plain (OpenSpec.ofChange lawS4844BReadsWrong)) lawS4844BReadsCard

/-- THE TOLD CARD OF 'xmldsig.LawS4844BRefuses'. -/
def lawS4844BRefusesCard : Claim7 := { stood := { row := lawS4844BRefusesRow, standIns := [], harness := (true, "622e27bd9394457440c7e62da57c348478f24da522137c5c2b3269678ecf348b"), looks := true }, told := true, goes := false }
def LawS4844BRefusesToldSaid : Prop := Claim7.holds Ybaf.pinned (.plain (OpenSpec.ofChange lawS4844BRefusesSpec)) lawS4844BRefusesCard
/-- ITS FALSE NEIGHBOUR. Refute it at one input. -/
def LawS4844BRefusesToldWrongFalsely : Prop := Claim7.holds Ybaf.pinned (.plain (OpenSpec.ofChange lawS4844BRefusesWrong)) lawS4844BRefusesCard
end Rows
end Go.Proofs.YbulkcvhiFmt
