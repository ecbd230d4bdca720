/-
  No cell of these rows narrows 'for every input' (looked for: loops, veiled, ifaces, maps, wideKeys, modest, calm, conditions, laid).
  DERIVED. THE GIVEN ROWS OF THIS SEAT. 3 by the template 'for every input the law returns true; each argument reads behind the call as it read before'; 0 by the template 'total and deterministic' (their statements: YbulkiqmTotals.lean).
  GIVEN WITH THE SEED: the statements are not yours to turn. If you find one false, say at which input.
  Laid BY PROGRAM, IN A SANDBOX (cutbox-rows.mjs): the forced cells as the released guide's own fill.sh prints them over the translation 0728a9649994ae16… (all of the seat's roots in one cut). By AI agents, Wed Nov 11 2026. No macro, syntax, notation, axiom, sorry.
-/
import Derived.Test.YbulkiqmChecked
import GoSem.Claim
import GoSem.ClaimJoined
import GoSem.ClaimMapViews
import Derived.JoinedTies
import Derived.KernelRfl
namespace Go.Proofs.Ybulkiqm
/- THE CELL 'sum', in the pinned program and in every row, IS THE sha256 OF THE DUMP (.gsa) THAT YbulkiqmProg.lean LOADS. Nothing in Lean hashes anything: it is a label: what it is worth is what the hold of that sum in a sandbox is worth. -/
noncomputable def Yba.pinned : Pinned := { name := "ybulkiqm", sum := "0728a9649994ae16d03dc024bd862ca381651f3163a6945617243d09c98c544f", checked := Yba.checked }
namespace Rows
def none {H : Type} : Left H := { results := [], args := [] }

/-- 'primacy.LawS0467BHolder': WHATEVER THE INPUT: true; the input reads as it did. -/
def lawS0467BHolderSpec : ChangeSpec := { name := "lawS0467BHolder", fn := fun _ => fun
  | [d1, d2, d3, d4, d5] => { results := [.lit (.bool true)], args := [d1, d2, d3, d4, d5] }
  | _ => none }
def lawS0467BHolderRow : OpenClaim := { program := "ybulkiqm", sum := "0728a9649994ae16d03dc024bd862ca381651f3163a6945617243d09c98c544f", func := "example.com/primacy/primacy.LawS0467BHolder", spec := "lawS0467BHolder", plainKeys := false, apart := false }
def LawS0467BHolderSaid : Prop := lawS0467BHolderRow.holds Yba.pinned (OpenSpec.ofChange lawS0467BHolderSpec)

/-- ITS FALSE NEIGHBOUR: 'it returns false'. Refute it at one input. -/
def lawS0467BHolderWrong : ChangeSpec := { name := "lawS0467BHolder", fn := fun _ => fun
  | [d1, d2, d3, d4, d5] => { results := [.lit (.bool false)], args := [d1, d2, d3, d4, d5] }
  | _ => none }
def LawS0467BHolderWrongFalsely : Prop := lawS0467BHolderRow.holds Yba.pinned (OpenSpec.ofChange lawS0467BHolderWrong)

/-- 'sim.LawS0467CFirstMatch': WHATEVER THE INPUT: true; the input reads as it did. -/
def lawS0467CFirstMatchSpec : ChangeSpec := { name := "lawS0467CFirstMatch", fn := fun _ => fun
  | [d1, d2, d3] => { results := [.lit (.bool true)], args := [d1, d2, d3] }
  | _ => none }
def lawS0467CFirstMatchRow : OpenClaim := { program := "ybulkiqm", sum := "0728a9649994ae16d03dc024bd862ca381651f3163a6945617243d09c98c544f", func := "example.com/primacy/primacy/internal/sim.LawS0467CFirstMatch", spec := "lawS0467CFirstMatch", unfollowed := true, recurses := true, plainKeys := false, apart := false }
def LawS0467CFirstMatchSaid : Prop := lawS0467CFirstMatchRow.holds Yba.pinned (OpenSpec.ofChange lawS0467CFirstMatchSpec)

/-- ITS FALSE NEIGHBOUR: 'it returns false'. Refute it at one input. -/
def lawS0467CFirstMatchWrong : ChangeSpec := { name := "lawS0467CFirstMatch", fn := fun _ => fun
  | [d1, d2, d3] => { results := [.lit (.bool false)], args := [d1, d2, d3] }
  | _ => none }
def LawS0467CFirstMatchWrongFalsely : Prop := lawS0467CFirstMatchRow.holds Yba.pinned (OpenSpec.ofChange lawS0467CFirstMatchWrong)

/-- 'sim.LawS0467CAlias': WHATEVER THE INPUT: true; the input reads as it did. -/
def lawS0467CAliasSpec : ChangeSpec := { name := "lawS0467CAlias", fn := fun _ => fun
  | [d1, d2, d3] => { results := [.lit (.bool true)], args := [d1, d2, d3] }
  | _ => none }
def lawS0467CAliasRow : OpenClaim := { program := "ybulkiqm", sum := "0728a9649994ae16d03dc024bd862ca381651f3163a6945617243d09c98c544f", func := "example.com/primacy/primacy/internal/sim.LawS0467CAlias", spec := "lawS0467CAlias", unfollowed := true, recurses := true, plainKeys := false, apart := false }
def LawS0467CAliasSaid : Prop := lawS0467CAliasRow.holds Yba.pinned (OpenSpec.ofChange lawS0467CAliasSpec)

/-- ITS FALSE NEIGHBOUR: 'it returns false'. Refute it at one input. -/
def lawS0467CAliasWrong : ChangeSpec := { name := "lawS0467CAlias", fn := fun _ => fun
  | [d1, d2, d3] => { results := [.lit (.bool false)], args := [d1, d2, d3] }
  | _ => none }
def LawS0467CAliasWrongFalsely : Prop := lawS0467CAliasRow.holds Yba.pinned (OpenSpec.ofChange lawS0467CAliasWrong)

end Rows
end Go.Proofs.Ybulkiqm
