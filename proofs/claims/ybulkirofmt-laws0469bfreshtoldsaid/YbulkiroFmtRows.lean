/-
  No cell of these rows narrows 'for every input' (looked for: loops, veiled, ifaces, maps, wideKeys, modest, calm, conditions, laid).
  DERIVED. THE GIVEN ROWS OF THIS SEAT. 3 by the template 'for every input the law returns true; each argument reads behind the call as it read before'; 0 by the template 'total and deterministic' (their statements: YbulkiroFmtTotals.lean).
  GIVEN WITH THE SEED: the statements are not yours to turn. If you find one false, say at which input.
  Laid BY PROGRAM, IN A SANDBOX (cutbox-rows.mjs): the forced cells as the released guide's own fill.sh prints them over the translation 9146ef21ec77d2a9… (all of the seat's roots in one cut). By AI agents, Wed Nov 11 2026. No macro, syntax, notation, axiom, sorry.
-/
import Derived.Test.YbulkiroFmtChecked
import GoSem.Claim
import GoSem.ClaimJoined
import GoSem.ClaimMapViews
import Derived.JoinedTies
import Derived.KernelRfl
namespace Go.Proofs.YbulkiroFmt
/- THE CELL 'sum', in the pinned program and in every row, IS THE sha256 OF THE DUMP (.gsa) THAT YbulkiroFmtProg.lean LOADS. Nothing in Lean hashes anything: it is a label: what it is worth is what the hold of that sum in a sandbox is worth. -/
noncomputable def Ybaf.pinned : Pinned := { name := "ybulkirofmt", sum := "9146ef21ec77d2a9b244540c756e0aa2b6570fe9296b9b79236c8e05cd55a083", checked := Ybaf.checked }
namespace Rows
def none {H : Type} : Left H := { results := [], args := [] }

/-- 'causeline.LawS0469BAccept': WHATEVER THE INPUT: true; the input reads as it did. -/
def lawS0469BAcceptSpec : ChangeSpec := { name := "lawS0469BAccept", fn := fun _ => fun
  | [d] => { results := [.lit (.bool true)], args := [d] }
  | _ => none }
def lawS0469BAcceptRow : OpenClaim := { program := "ybulkirofmt", sum := "9146ef21ec77d2a9b244540c756e0aa2b6570fe9296b9b79236c8e05cd55a083", func := "example.com/causeline/causeline.LawS0469BAccept", spec := "lawS0469BAccept", stops := ["fmt.errorf"], inPlace := ["fmt.errorf"], apart := false }
/-- NO THEOREM (fmt's text is open here; it may be false): for the released tool's asking of the row's closed facts alone. THE STATEMENT IS 'LawS0469BAcceptToldSaid' (YbulkiroFmtCards.lean). -/
def LawS0469BAcceptFormAsk : Prop := lawS0469BAcceptRow.holds Ybaf.pinned (OpenSpec.ofChange lawS0469BAcceptSpec)

/-- ITS FALSE NEIGHBOUR: 'it returns false'. Refute it at one input. -/
def lawS0469BAcceptWrong : ChangeSpec := { name := "lawS0469BAccept", fn := fun _ => fun
  | [d] => { results := [.lit (.bool false)], args := [d] }
  | _ => none }
def LawS0469BAcceptWrongFormAsk : Prop := lawS0469BAcceptRow.holds Ybaf.pinned (OpenSpec.ofChange lawS0469BAcceptWrong)

/-- 'causeline.LawS0469BFresh': WHATEVER THE INPUT: true; the input reads as it did. -/
def lawS0469BFreshSpec : ChangeSpec := { name := "lawS0469BFresh", fn := fun _ => fun
  | [d] => { results := [.lit (.bool true)], args := [d] }
  | _ => none }
def lawS0469BFreshRow : OpenClaim := { program := "ybulkirofmt", sum := "9146ef21ec77d2a9b244540c756e0aa2b6570fe9296b9b79236c8e05cd55a083", func := "example.com/causeline/causeline.LawS0469BFresh", spec := "lawS0469BFresh", stops := ["fmt.errorf"], inPlace := ["fmt.errorf"], apart := false }
/-- NO THEOREM (fmt's text is open here; it may be false): for the released tool's asking of the row's closed facts alone. THE STATEMENT IS 'LawS0469BFreshToldSaid' (YbulkiroFmtCards.lean). -/
def LawS0469BFreshFormAsk : Prop := lawS0469BFreshRow.holds Ybaf.pinned (OpenSpec.ofChange lawS0469BFreshSpec)

/-- ITS FALSE NEIGHBOUR: 'it returns false'. Refute it at one input. -/
def lawS0469BFreshWrong : ChangeSpec := { name := "lawS0469BFresh", fn := fun _ => fun
  | [d] => { results := [.lit (.bool false)], args := [d] }
  | _ => none }
def LawS0469BFreshWrongFormAsk : Prop := lawS0469BFreshRow.holds Ybaf.pinned (OpenSpec.ofChange lawS0469BFreshWrong)

/-- 'causeline.LawS0469CAgrees': WHATEVER THE INPUT: true; the input reads as it did. -/
def lawS0469CAgreesSpec : ChangeSpec := { name := "lawS0469CAgrees", fn := fun _ => fun
  | [d1, d2, d3, d4] => { results := [.lit (.bool true)], args := [d1, d2, d3, d4] }
  | _ => none }
def lawS0469CAgreesRow : OpenClaim := { program := "ybulkirofmt", sum := "9146ef21ec77d2a9b244540c756e0aa2b6570fe9296b9b79236c8e05cd55a083", func := "example.com/causeline/causeline.LawS0469CAgrees", spec := "lawS0469CAgrees", stops := ["fmt.errorf"], inPlace := ["fmt.errorf"], unfollowed := true, recurses := true, apart := false }
/-- NO THEOREM (fmt's text is open here; it may be false): for the released tool's asking of the row's closed facts alone. THE STATEMENT IS 'LawS0469CAgreesToldSaid' (YbulkiroFmtCards.lean). -/
def LawS0469CAgreesFormAsk : Prop := lawS0469CAgreesRow.holds Ybaf.pinned (OpenSpec.ofChange lawS0469CAgreesSpec)

/-- ITS FALSE NEIGHBOUR: 'it returns false'. Refute it at one input. -/
def lawS0469CAgreesWrong : ChangeSpec := { name := "lawS0469CAgrees", fn := fun _ => fun
  | [d1, d2, d3, d4] => { results := [.lit (.bool false)], args := [d1, d2, d3, d4] }
  | _ => none }
def LawS0469CAgreesWrongFormAsk : Prop := lawS0469CAgreesRow.holds Ybaf.pinned (OpenSpec.ofChange lawS0469CAgreesWrong)

end Rows
end Go.Proofs.YbulkiroFmt
