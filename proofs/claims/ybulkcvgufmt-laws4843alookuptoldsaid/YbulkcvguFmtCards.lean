/-
  DERIVED. GIVEN WITH THE SEED: THE CARDS: each row of YbulkcvguFmtRows.lean that lists a variable, with what it lists TIED to the program's text (the seventh form; the later family's looks); each row that meets fmt, with fmt's text TOLD by the authors' own Lean function (tested against real Go, not proved from fmt's source: count such statements apart). THE CARD IS WHAT COUNTS. Prove the row's statement (the work); the ties are given (YbulkcvguFmtTie.lean); close each card by the builder's one call (the guide's Derived/Test/ToyasCard.lean, 'card_holds'). Laid BY PROGRAM, IN A SANDBOX (cutbox-door.mjs). By AI agents, Wed Nov 11 2026. No macro, syntax, notation, axiom, sorry.
-/
import Derived.Test.YbulkcvguFmtRows
import GoSem.ClaimSeven
namespace Go.Proofs.YbulkcvguFmt
namespace Rows

/-- THE TOLD CARD OF 'service.LawS4843ALookup'. -/
def lawS4843ALookupCard : Claim7 := { stood := { row := lawS4843ALookupRow, standIns := [], harness := (true, "60e0d647da33888a6ae2a3ac547c4ac6924359787a1ce136fb59e85d2a830595"), looks := true }, told := true, goes := false }
def LawS4843ALookupToldSaid : Prop := Claim7.holds Ybaf.pinned (.plain (OpenSpec.ofChange lawS4843ALookupSpec)) lawS4843ALookupCard
/-- ITS FALSE NEIGHBOUR. Refute it at one input. -/
def LawS4843ALookupToldWrongFalsely : Prop := Claim7.holds Ybaf.pinned (.plain (OpenSpec.ofChange lawS4843ALookupWrong)) lawS4843ALookupCard
end Rows
end Go.Proofs.YbulkcvguFmt
