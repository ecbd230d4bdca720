/-
  DERIVED. GIVEN WITH THE SEED: THE CARDS: each row of YbulkiqmFmtRows.lean that lists a variable, with what it lists TIED to the program's text (the seventh form; the later family's looks); each row that meets fmt, with fmt's text TOLD by the authors' own Lean function (tested against real Go, not proved from fmt's source: count such statements apart). THE CARD IS WHAT COUNTS. Prove the row's statement (the work); the ties are given (YbulkiqmFmtTie.lean); close each card by the builder's one call (the guide's Derived/Test/ToyasCard.lean, 'card_holds'). Laid BY PROGRAM, IN A SANDBOX (cutbox-door.mjs). By AI agents, Wed Nov 11 2026. No macro, syntax, notation, axiom, sorry.
-/
import Derived.Test.YbulkiqmFmtRows
import GoSem.ClaimSeven
namespace Go.Proofs.YbulkiqmFmt
namespace Rows

/-- THE TOLD CARD OF 'capture.LawS0467ASetsLength'. -/
def lawS0467ASetsLengthCard : Claim7 := { stood := { row := lawS0467ASetsLengthRow, standIns := [], harness := (true, "198fe737db2a0c6cabd74f9d406913d9f1056858dcbca7b543014a8c330124cd"), looks := false }, told := true, goes := false }
def LawS0467ASetsLengthToldSaid : Prop := Claim7.holds Ybaf.pinned (.plain (OpenSpec.ofChange lawS0467ASetsLengthSpec)) lawS0467ASetsLengthCard
/-- ITS FALSE NEIGHBOUR. Refute it at one input. -/
def LawS0467ASetsLengthToldWrongFalsely : Prop := Claim7.holds Ybaf.pinned (.plain (OpenSpec.ofChange lawS0467ASetsLengthWrong)) lawS0467ASetsLengthCard
end Rows
end Go.Proofs.YbulkiqmFmt
