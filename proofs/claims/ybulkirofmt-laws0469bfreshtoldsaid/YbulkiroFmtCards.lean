/-
  DERIVED. GIVEN WITH THE SEED: THE CARDS: each row of YbulkiroFmtRows.lean that lists a variable, with what it lists TIED to the program's text (the seventh form; the later family's looks); each row that meets fmt, with fmt's text TOLD by the authors' own Lean function (tested against real Go, not proved from fmt's source: count such statements apart). THE CARD IS WHAT COUNTS. Prove the row's statement (the work); the ties are given (YbulkiroFmtTie.lean); close each card by the builder's one call (the guide's Derived/Test/ToyasCard.lean, 'card_holds'). Laid BY PROGRAM, IN A SANDBOX (cutbox-door.mjs). By AI agents, Wed Nov 11 2026. No macro, syntax, notation, axiom, sorry.
-/
import Derived.Test.YbulkiroFmtRows
import GoSem.ClaimSeven
namespace Go.Proofs.YbulkiroFmt
namespace Rows

/-- THE TOLD CARD OF 'causeline.LawS0469BAccept'. -/
def lawS0469BAcceptCard : Claim7 := { stood := { row := lawS0469BAcceptRow, standIns := [], harness := (true, "d24f16458b77800693f326060a541ac980a6064e4583c855166afe61dbb0a1d3"), looks := false }, told := true, goes := false }
def LawS0469BAcceptToldSaid : Prop := Claim7.holds Ybaf.pinned (.plain (OpenSpec.ofChange lawS0469BAcceptSpec)) lawS0469BAcceptCard
/-- ITS FALSE NEIGHBOUR. Refute it at one input. -/
def LawS0469BAcceptToldWrongFalsely : Prop := Claim7.holds Ybaf.pinned (.plain (OpenSpec.ofChange lawS0469BAcceptWrong)) lawS0469BAcceptCard

/-- THE TOLD CARD OF 'causeline.LawS0469BFresh'. -/
def lawS0469BFreshCard : Claim7 := { stood := { row := lawS0469BFreshRow, standIns := [], harness := (true, "d24f16458b77800693f326060a541ac980a6064e4583c855166afe61dbb0a1d3"), looks := false }, told := true, goes := false }
def LawS0469BFreshToldSaid : Prop := Claim7.holds Ybaf.pinned (.plain (OpenSpec.ofChange lawS0469BFreshSpec)) lawS0469BFreshCard
/-- ITS FALSE NEIGHBOUR. Refute it at one input. -/
def LawS0469BFreshToldWrongFalsely : Prop := Claim7.holds Ybaf.pinned (.plain (OpenSpec.ofChange lawS0469BFreshWrong)) lawS0469BFreshCard

/-- THE TOLD CARD OF 'causeline.LawS0469CAgrees'. -/
def lawS0469CAgreesCard : Claim7 := { stood := { row := lawS0469CAgreesRow, standIns := [], harness := (true, "d24f16458b77800693f326060a541ac980a6064e4583c855166afe61dbb0a1d3"), looks := false }, told := true, goes := false }
def LawS0469CAgreesToldSaid : Prop := Claim7.holds Ybaf.pinned (.plain (OpenSpec.ofChange lawS0469CAgreesSpec)) lawS0469CAgreesCard
/-- ITS FALSE NEIGHBOUR. Refute it at one input. -/
def LawS0469CAgreesToldWrongFalsely : Prop := Claim7.holds Ybaf.pinned (.plain (OpenSpec.ofChange lawS0469CAgreesWrong)) lawS0469CAgreesCard
end Rows
end Go.Proofs.YbulkiroFmt
