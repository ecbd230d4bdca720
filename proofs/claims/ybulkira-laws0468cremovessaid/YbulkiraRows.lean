/-
  No cell of these rows narrows 'for every input' (looked for: loops, veiled, ifaces, maps, wideKeys, modest, calm, conditions, laid).
  DERIVED. THE GIVEN ROWS OF THIS SEAT. 2 by the template 'for every input the law returns true; each argument reads behind the call as it read before'; 0 by the template 'total and deterministic' (their statements: YbulkiraTotals.lean).
  GIVEN WITH THE SEED: the statements are not yours to turn. If you find one false, say at which input.
  Laid BY PROGRAM, IN A SANDBOX (cutbox-rows.mjs): the forced cells as the released guide's own fill.sh prints them over the translation f0e850ec079efe9a… (all of the seat's roots in one cut). By AI agents, Wed Nov 11 2026. No macro, syntax, notation, axiom, sorry.
-/
import Derived.Test.YbulkiraChecked
import GoSem.Claim
import GoSem.ClaimJoined
import GoSem.ClaimMapViews
import Derived.JoinedTies
import Derived.KernelRfl
namespace Go.Proofs.Ybulkira
/- THE CELL 'sum', in the pinned program and in every row, IS THE sha256 OF THE DUMP (.gsa) THAT YbulkiraProg.lean LOADS. Nothing in Lean hashes anything: it is a label: what it is worth is what the hold of that sum in a sandbox is worth. -/
noncomputable def Yba.pinned : Pinned := { name := "ybulkira", sum := "f0e850ec079efe9a96a9b9632fbd148d68a3bf37a89393fcf8f157b0cb35294e", checked := Yba.checked }
namespace Rows
def none {H : Type} : Left H := { results := [], args := [] }

/-- 'check.LawS0468BBfs': WHATEVER THE INPUT: true; the input reads as it did. -/
def lawS0468BBfsSpec : ChangeSpec := { name := "lawS0468BBfs", fn := fun _ => fun
  | [d1, d2, d3, d4, d5] => { results := [.lit (.bool true)], args := [d1, d2, d3, d4, d5] }
  | _ => none }
def lawS0468BBfsRow : OpenClaim := { program := "ybulkira", sum := "f0e850ec079efe9a96a9b9632fbd148d68a3bf37a89393fcf8f157b0cb35294e", func := "example.com/pivotguard/pivotguard/internal/check.LawS0468BBfs", spec := "lawS0468BBfs", unfollowed := true, recurses := true, apart := false }
def LawS0468BBfsSaid : Prop := lawS0468BBfsRow.holds Yba.pinned (OpenSpec.ofChange lawS0468BBfsSpec)

/-- ITS FALSE NEIGHBOUR: 'it returns false'. Refute it at one input. -/
def lawS0468BBfsWrong : ChangeSpec := { name := "lawS0468BBfs", fn := fun _ => fun
  | [d1, d2, d3, d4, d5] => { results := [.lit (.bool false)], args := [d1, d2, d3, d4, d5] }
  | _ => none }
def LawS0468BBfsWrongFalsely : Prop := lawS0468BBfsRow.holds Yba.pinned (OpenSpec.ofChange lawS0468BBfsWrong)

/-- 'keytree.LawS0468CRemoves': WHATEVER THE INPUT: true; the input reads as it did. -/
def lawS0468CRemovesSpec : ChangeSpec := { name := "lawS0468CRemoves", fn := fun _ => fun
  | [d1, d2, d3, d4] => { results := [.lit (.bool true)], args := [d1, d2, d3, d4] }
  | _ => none }
def lawS0468CRemovesRow : OpenClaim := { program := "ybulkira", sum := "f0e850ec079efe9a96a9b9632fbd148d68a3bf37a89393fcf8f157b0cb35294e", func := "example.com/pivotguard/pivotguard/internal/keytree.LawS0468CRemoves", spec := "lawS0468CRemoves", unfollowed := true, recurses := true, apart := false }
def LawS0468CRemovesSaid : Prop := lawS0468CRemovesRow.holds Yba.pinned (OpenSpec.ofChange lawS0468CRemovesSpec)

/-- ITS FALSE NEIGHBOUR: 'it returns false'. Refute it at one input. -/
def lawS0468CRemovesWrong : ChangeSpec := { name := "lawS0468CRemoves", fn := fun _ => fun
  | [d1, d2, d3, d4] => { results := [.lit (.bool false)], args := [d1, d2, d3, d4] }
  | _ => none }
def LawS0468CRemovesWrongFalsely : Prop := lawS0468CRemovesRow.holds Yba.pinned (OpenSpec.ofChange lawS0468CRemovesWrong)

end Rows
end Go.Proofs.Ybulkira
