/-
  No cell of these rows narrows 'for every input' (looked for: loops, veiled, ifaces, maps, wideKeys, modest, calm, conditions, laid).
  DERIVED. THE GIVEN ROWS OF THIS SEAT. 1 by the template 'for every input the law returns true; each argument reads behind the call as it read before'; 0 by the template 'total and deterministic' (their statements: YbulkiqmFmtTotals.lean).
  GIVEN WITH THE SEED: the statements are not yours to turn. If you find one false, say at which input.
  Laid BY PROGRAM, IN A SANDBOX (cutbox-rows.mjs): the forced cells as the released guide's own fill.sh prints them over the translation bba0833c8589f3bf… (all of the seat's roots in one cut). By AI agents, Wed Nov 11 2026. No macro, syntax, notation, axiom, sorry.
-/
import Derived.Test.YbulkiqmFmtChecked
import GoSem.Claim
import GoSem.ClaimJoined
import GoSem.ClaimMapViews
import Derived.JoinedTies
import Derived.KernelRfl
namespace Go.Proofs.YbulkiqmFmt
/- THE CELL 'sum', in the pinned program and in every row, IS THE sha256 OF THE DUMP (.gsa) THAT YbulkiqmFmtProg.lean LOADS. Nothing in Lean hashes anything: it is a label: what it is worth is what the hold of that sum in a sandbox is worth. -/
noncomputable def Ybaf.pinned : Pinned := { name := "ybulkiqmfmt", sum := "bba0833c8589f3bff51ab920d20f76f3c6f02dd6444ee2a5a4825f382bcd2322", checked := Ybaf.checked }
namespace Rows
def none {H : Type} : Left H := { results := [], args := [] }

/-- 'capture.LawS0467ASetsLength': WHATEVER THE INPUT: true; the input reads as it did. -/
def lawS0467ASetsLengthSpec : ChangeSpec := { name := "lawS0467ASetsLength", fn := fun _ => fun
  | [d1, d2, d3] => { results := [.lit (.bool true)], args := [d1, d2, d3] }
  | _ => none }
def lawS0467ASetsLengthRow : OpenClaim := { program := "ybulkiqmfmt", sum := "bba0833c8589f3bff51ab920d20f76f3c6f02dd6444ee2a5a4825f382bcd2322", func := "example.com/primacy/primacy/internal/capture.LawS0467ASetsLength", spec := "lawS0467ASetsLength", stops := ["fmt.Sprintf"], inPlace := ["fmt.Sprintf"], apart := false }
/-- NO THEOREM (fmt's text is open here; it may be false): for the released tool's asking of the row's closed facts alone. THE STATEMENT IS 'LawS0467ASetsLengthToldSaid' (YbulkiqmFmtCards.lean). -/
def LawS0467ASetsLengthFormAsk : Prop := lawS0467ASetsLengthRow.holds Ybaf.pinned (OpenSpec.ofChange lawS0467ASetsLengthSpec)

/-- ITS FALSE NEIGHBOUR: 'it returns false'. Refute it at one input. -/
def lawS0467ASetsLengthWrong : ChangeSpec := { name := "lawS0467ASetsLength", fn := fun _ => fun
  | [d1, d2, d3] => { results := [.lit (.bool false)], args := [d1, d2, d3] }
  | _ => none }
def LawS0467ASetsLengthWrongFormAsk : Prop := lawS0467ASetsLengthRow.holds Ybaf.pinned (OpenSpec.ofChange lawS0467ASetsLengthWrong)

end Rows
end Go.Proofs.YbulkiqmFmt
